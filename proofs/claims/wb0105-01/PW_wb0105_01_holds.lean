import PyProof.Rows.All
import Wide.All
import OpenK.AllK
import Wide.FinOn
import PyProof.StrCalls3
import KE.BitLaws
import KE.KSortKey
import PyProof.Draws
import PyProof.ZipIter
import PySem.Challenge.RW_wb0105_01
set_option Elab.async false
set_option maxRecDepth 100000
set_option maxHeartbeats 0
set_option linter.all false
set_option tactic.hygienic false
set_option genInjectivity false
set_option genSizeOf false
set_option bootstrap.genMatcherCode false
namespace LW
open PySem PySem.W PySem.W.X PySem.Spec PySem.Calls PyProof.Rows
open _root_.PySem renaming wpAny_bind→aA,wpAny_pure→aH,wpAny→aU,wpAny_mono→bC,codeAny→bR,sizeLine_eq→bV,wpAny_standAt→bW,codeAny_mono→cC,wpAny_onRaise→cH,model→cP,theTreesLotGoes→dI,rawInt→dP,wpAny_holding→eC,codeAny_call_builtin→eH,wpAny_field→eJ,noteFrame→fI,wpAny_callSpecial?_slot→fW,wpAny_seqItems→fX,letOwnedTupleGo→gH,IsPair→gM,keywordEach→gQ,strsFrom→gS,Builtin→gT,wpAny_setField_rec→iK,fromIndex→iM,wpAny_newObj_type→iP,compareOp→iW,wpAny_call_entry→iY,wpAny_isInstance→jA,intItems→jF,starEach→jT,wpAny_rule→jU,backToKw→jV,argsOk→jW,standAt→kC,wpAny_letGo→kF,pyNext→kH,wpAny_attempt→kJ,wpAny_newList→kM,checkBuiltinCall→kO,codeAny_builtin→lI,IsZip→lK,eval→lP,entryFor→lQ,wpAny_newTuple→lR,forTurn→lT,field→mA,callMarked→mP,wpAny_pyIter_tuple→mT,execs→nA,raiseStmt→nI,wpAny_execs_cons→nL,wpAny_of_eq→nN,wpAny_execs_nil→nO,backTo→nT,wpAny_call→nU,methodCallForm→nW,wpAny_listPart→nZ,table→oO,wpAny_listSubscript_int→oQ,holding→oS,wpAny_runOwn→oV,cStatics→pV,compTurn→pZ,cLine→qA,sizeLine→qB,wpAny_mkInt→qC,wpAny_updateSeq_pair→qH,typeIs_int→qQ,slot_listiter_next→qS,callAny→qZ,wpAny_truthy_bool→rA,wpAny_enterFrame→rK,wpAny_eqBool_int→rO,slicePick→rV,seqIndex?→rW,codeAny_of_tree→sD,setField→sM,binaryOp→sN,callWith→sO,keeperOf→sP,firstArgMember→sT,isSubtype_stop→sU,Gives→sV
open _root_.PySem.Str renaming ofString→aB
open _root_.List renaming mem_cons→aC,not_mem_nil→aD,length_map→aE,map→aF,mem_append→aG,getD_eq_getElem?_getD→aI,range→aJ,mem_map_of_mem→aL,mem_singleton→aM,mem_map→aN,map_cons→aP,getElem?_eq_getElem→aS,length_append→aV,replicate→aY,mem_of_getElem?→aZ,length_singleton→bA,map_append→bB,filter_cons_of_pos→bD,getElem?_map→bE,filter_cons_of_neg→bH,getElem?_eq_some_iff→bJ,nodup_cons→bM,length_cons→bQ,map_map→bS,length_filter_le→bY,mem_filter→cI,mem_of_find?_eq_some→cN,take_append_drop→cT,filter_append→cY,filter_map→dA,filter_nil→dB,getElem_mem→dD,filter_eq_self→dJ,length_range→dK,size_toArray→dL,sum_cons→dM,pairwise_cons→dO,filter_sublist→dR,replicate_succ→dT,range'→dU,append_assoc→eD,getElem?_range→eM,map_congr_left→eN,mem_filterMap→eU,mem_range→eV,pairwise_iff_getElem→fA,mem_of_mem_drop→fD,map_nil→fE,filter_congr→fF,getElem?_cons_succ→fK,eq_nil_of_length_eq_zero→fO,find?_cons_of_neg→fP,find?_eq_none→fQ,nodup_nil→gJ,forIn_cons→gU,append_nil→gX,filter_filter→gZ,length→hN,nodup_append→hV,find?_cons_of_pos→iA,take_of_length_le→iC,mem_range'_1→iD,drop→iO,mem_of_mem_take→iS,find?_some→iV,toArray→jD,forIn_nil→jG,drop_eq_getElem_cons→jN,pairwise_map→jQ,getElem?_cons_zero→jY,pairwise_singleton→jZ,range_eq_range'→kU,drop_zero→kW,getElem?_range'→kX,mem_iff_getElem→lB,pairwise_append→lC,getElem_of_mem→lH,getElem_range→lN,flatten_cons→lV,all_eq_true→mB,any_eq_true→mC,ext_getElem→mD,getElem_map→mE,filter_cons→mF,length_take→mI,mem_reverse→mJ,map_reverse→mK,append→mO,length_nil→mV,find?_cons→mW,lt_irrefl→nF,mem_or_eq_of_mem_set→nH,range_succ_eq_map→nQ,length_replicate→oB,mem_append_right→oE,mem_replicate→oR,getElem?_set→oW,getElem_take→oZ,getElem_drop→pA,drop_sublist→pB,find?_append→pE,take_add_one→pF,cons_append→pK,mem_flatMap→pP,perm_middle→pQ,length_drop→pR,zipIdx_cons→pU,mem_range'→qF,zipIdx_nil→qG,map_take→qT,map_drop→qU,map_set→qX,mem_set→qY,sum_nil→rG,not_lt→rS,foldl→sI
open _root_.Nat renaming le_trans→aK,add→aO,le_of_eq→aT,le_of_ble_eq_true→aW,zero_lt_one→aX,sub_add_cancel→bG,le_add_left→bO,zero_le→bP,le_refl→cB,beq→cK,pow→cO,not_lt_of_le→cQ,eq_of_beq_eq_true→cU,le_succ_of_le→cX,ble→dE,succ_le_succ→dG,zero_add→dH,le_of_not_lt→dX,lt_succ_of_lt→eF,succ_pos→eO,lt_succ_of_le→fG,ne_of_lt→fH,blt→fJ,lt_trans→fV,not_lt_zero→fY,div→gG,le_succ→gL,lt_succ_iff_lt_or_eq→gV,add_assoc→gW,le_antisymm→gY,lt_of_lt_of_le→hI,lt_or_eq_of_le→hJ,le_of_succ_le_succ→iH,ne_of_beq_eq_false→iI,zero_lt_two→iX,add_comm→jE,lt_irrefl→jS,succ_lt_succ→kB,mul→kK,ble_eq_true_of_le→kQ,one_lt_two→lF,le_of_lt→lY,le_of_succ_le→lZ,le_add_right→mR,div_le_self→nD,sub→nE,mul_le_mul→nM,add_sub_cancel_left→nP,add_zero→nX,lt_of_succ_lt_succ→nY,ne_of_gt→oD,one_mul→oK,sub_lt_sub_right→oM,not_lt→oX,eq_or_lt_of_le→pJ,lt_trichotomy→pM,mul_left_comm→pN,lt_succ_self→pW,not_le_of_gt→qE,add_le_add→qM,lt_one_iff→qP,mul_assoc→rC,beq_refl→rM,mod→rN,lt_or_ge→rP,mul_comm→rX,sub_le→sX
open _root_.PySem.Heap renaming get?_push_of_some→aQ,get?_push_size→bT,lt_size→cV,get?_update_ne→dQ,get?_update_self→gB,SameBut→jC,get?_push_ne→jP,size_push→kT,size_update→mH,get?_none_of_le→oH,SlotsOnly→qI,ExtBut→rQ
open _root_.Int renaming natCast_nonneg→aR,eq_ofNat_of_zero_le→bU,le_refl→bX,ofNat_eq_natCast→bZ,le_of_not_gt→cE,le_of_eq→cG,le_trans→cJ,fmod_eq_emod_of_nonneg→cM,not_lt_of_ge→cR,fdiv→cZ,le_antisymm→dC,add→dF,fmod→dN,fdiv_eq_ediv_of_nonneg→dS,mul→eE,le_of_lt→eQ,neg→fU,natCast_pow→hH,emod_lt_of_pos→hU,zero_add→iF,ofNat_lt→iJ,mul_le_mul_of_nonneg_left→iU,emod_nonneg→jB,add_nonneg→jL,toNat_natCast→jR,lt_irrefl→jX,pow_pos→lG,add_zero→lX,max_eq_right→mQ,lt_of_not_ge→mS,mul_add→mU,sub_eq_zero→mZ,mul_nonneg→nG,mul_zero→nS,le_ediv_iff_mul_le→oA,ediv_lt_of_lt_mul→oI,add_sub_cancel→pD,lt_of_le_of_lt→pH,toNat→pY,sub_nonneg→qL,add_le_add→qV,mul_assoc→qW,ofNat_le→rI,zero_mul→rJ,lt_trans→rR,add_mul→rY,neg_neg→sH,pow_add→sJ
open _root_.Exists renaming choose_spec→bF,choose→fC
open _root_.PySem.Obj renaming mapSeq→bK
open _root_.PyProof.Rows renaming seqObj→bL,get?_update_seq→gI,listUpdate_at→gK,seqEpoch_at→kG,ne_dataH_same→mG,lt_str→nB,listItems_at→nC,truthy_int→nV,eq_dataH_same→oL,SortKind→qD,size_push'→qR,xor_int→rZ,floordiv_int→sA,rshift_int→sB,invert_int→sC,list_sort_plain→sF,entry_list_sort→sG,IsTup→sQ,failedOf→sR,slot_list_sort→sS,cnt_cons→sW
open _root_.Bool renaming false_eq_true→cA,not→eK,and_eq_true→fM,not_false→iB,not_true→iQ,false_ne_true→jH,true_and→lM,and_eq_true_iff→oJ,eq_false_iff→pC,false_or→qN
open _root_.PySem.W renaming kas_sort→cD,openEnds→pX,kas_ask→rD
open _root_.PySem.PyData renaming strOk→cF,canLay0→dZ,canLayAll0→eB,depthAll→eY,depth→fB
open _root_.Option.some renaming inj→cW
open _root_.PySem.Builtin.SmallTypes renaming ownedTupleIsFree→dW,nextOf→iE,ownedTupleHandOut→jK
open _root_.PySem.Heap.SameBut renaming update→dY
open _root_.Array renaming length_toList→eI,getElem?_toList→fZ,forIn_toList→oN,toList_inj→pG,ext'→rL
open _root_.PySem.Bind renaming checkArgs→fN
open _root_.PySem.Builtin.List renaming listFitsIndex→fR,listTooLong→gF,listSubscript?→iL,listItems→jI,listSameRef→lU
open _root_.PySem.Builtin renaming bitNot→gD,sorted→jO,bitXor→mN,bitAnd→pI,sum→pO,len→pT
open _root_.PySem.Builtin.Int renaming intBits→gE
open _root_.PySem.W.SZ renaming s3492446563574874994x13→gO
open _root_.PySem.AutoSeq1 renaming wpAny_loadPart'→gP
open _root_.PySem.Sem renaming wp_bind'→iG,wp_mono→lE,wp_holding→qO
open _root_.PySem.Manifest renaming signature?→iR
open _root_.PySem.W.ZFast renaming zw12367529300394763782→iT
open _root_.PySem.W.X renaming x_code→jM,AllIn→rH,x_load→sL
open _root_.PySem.EntryCells renaming newEntry→kD
open _root_.Prod renaming fst→kY,snd→lA
open _root_.PySem.AutoListH renaming list___mul___list_int_3→lD
open _root_.PySem.Builtin.Range renaming rangeFitsLong→lJ,rangeSize→lW,small→mX
open _root_.Int.ofNat renaming inj→mM
open _root_.False renaming elim→mY
open _root_.PySem.World renaming withFollow_self→nR
open _root_.Option renaming map→oG,map_none→oY
open _root_.PySem.StrLaws renaming occBody→oP
open _root_.PySem.Calls renaming wpAny_keep→oU
open _root_.PySem.W.BT renaming beq_eq→qJ
open _root_.PySem.Builtin.Builtins renaming bindParams→qK
open _root_.PySem.W.RowW renaming records→rB
open _root_.PyProof.Rows.SortSt renaming mk'→rE
open _root_.List.Pairwise renaming of_map→rT,imp→rU
open _root_.HAdd renaming hAdd→sK
noncomputable section
inductive Le where
 |n (k:Nat)
 |v (i:Nat)
 |w (i:Nat)
 |a (x y:Le)
 |s (x y:Le)
 |m (k:Nat) (x:Le)
noncomputable def Zr:Le:= .w 0
noncomputable def Q4:Le:= .n 1
noncomputable def Jb:Le:= .v 0
noncomputable def Yi:Le:= .w 1
noncomputable def Y3:Le:= .v 1
noncomputable def Qs:Le:= .n 0
noncomputable def Q5:Le:= .v 2
noncomputable def lQ7:Le:= .w 2
noncomputable def lQ8:Le:= .n 10
noncomputable def lQ9:Le:= .v 3
noncomputable def Z1o:Le:= .n 11
noncomputable def Z4g:Le:= .n 4
noncomputable def Z2b:Le:= .n 3
noncomputable def Z2c:Le:= .v 4
noncomputable def Z2y:Le:= .w 3
noncomputable def Zfx:Le:= .n 64
noncomputable def Zth:Le:= .n 16777216
noncomputable def Za5:Le:= .n 1000
noncomputable def Zfy:Le:= .n 2
noncomputable def Z7q:Le:= .v 5
noncomputable def Zti:Le:= .n 9900
noncomputable def Jeq:Le:= .n 9000
def Y8:Le:= .a Zr Q4
def Z10:Le:= .a Jb Q4
def Z6l:Le:= .a Jb Y3
def Z4h:Le:= .a Yi Q4
def Zcr:Le:= .a Qs Q4
def Za6:Le:= .s Jb Y3
def Zcs:Le:= .a Y3 Q4
def Zfz:Le:= .a lQ7 Q4
def Jer:Le:= .a Zr Zfx
def Zlp:Le:= .a Zr Yi
def Zlq:Le:= .a Zth Q4
def Zlr:Le:= .a Y3 Q5
def Zls:Le:= .a Yi Zfy
def Za7:Le:= .a Z6l Q4
def Za8:Le:= .a Zr Z4h
def Zct:Le:= .a Y8 Yi
def Jes:Le:= .a Jer Q4
noncomputable def atI(c:List Int):Nat->Int:=List.rec (fun y=>0) (fun x y a i=>Nat.rec x (fun i y=>a i) i) c
noncomputable def atN(c:List Nat):Nat->Nat:=List.rec (fun y=>0) (fun x y a i=>Nat.rec x (fun i y=>a i) i) c
def Le.I(c:List Int)(d:List Nat)(e:Le):Int:=Le.rec (fun k=>Int.ofNat k) (fun i=>atI c i) (fun i=>((atN d i:Nat):Int)) (fun y y p q=>p+q) (fun y y p q=>p-q) (fun k y p=>(k:Int)*p) e
def Le.N(d:List Nat)(e:Le):Nat:=Le.rec (fun k=>k) (fun y=>0) (fun i=>atN d i) (fun y y p q=>p+q) (fun y y y y=>0) (fun k y p=>k*p) e
noncomputable def Le.nat(e:Le):Bool:=Le.rec (fun y=>true) (fun y=>false) (fun y=>true) (fun y y p q=>p&&q) (fun y y y y=>false) (fun y y p=>p) e
inductive Lc where
 |z (x y:Le)
 |n (x y:Le)
 |no
def Zg0:Lc:= .n Zr Yi
def Zlt:Lc:= .n Y8 Zfx
def Zlu:Lc:= .n Jes Zti
def Zlv:Lc:= .z Q4 Z10
def Zlw:Lc:= .z Jb Z1o
def Ztj:Lc:= .n Y8 Za5
def Yl:Lc:= .n Zr Yi
def Z5h:Lc:= .z Jb Y3
def Z6m:Lc:= .z Qs Jb
def Z6n:Lc:= .z Z10 Y3
def Za9:Lc:= .z Jb Z4g
def Zcu:Lc:= .z Qs Y3
def Zg1:Lc:= .n Yi Jeq
def Zg2:Lc:= .n Z4h lQ7
def Zg3:Lc:= .z Z6l Q5
def Zg4:Lc:= .z Q4 Jb
def Zg5:Lc:= .z Zr lQ8
def Zg6:Lc:= .n Zth Yi
def Zlx:Lc:= .z Zcr Jb
def Zly:Lc:= .z Za7 Zr
def Lc.P(c:List Int)(d:List Nat)(e:Lc):Prop:=Lc.rec (fun x y=>x.I c d<=y.I c d) (fun x y=>x.N d<=y.N d) False e
noncomputable def Lc.E(e:Lc):Le:=Lc.rec (fun x y=> .s y x) (fun x y=> .s y x) (.s (.n 0) (.n 1)) e
def Lc.ok(e:Lc):Bool:=Lc.rec (fun z z=>true) (fun x y=>x.nat&&y.nat) true e
theorem Jg {a b:Bool}(h:(a&&b)=true):a=true/\b=true:=by cases a<;>cases b<;>first|exact⟨rfl,rfl⟩|cases h
theorem Zf5 {c:List Int}{d:List Nat}(e:Le)(h:e.nat=true):e.I c d=((e.N d:Nat):Int):=by
 induction e with
 |n k=>rfl
 |v=>cases h
 |w=>rfl
 |a x y p q=>exact(congr (congrArg sK (p (Jg h).1)) (q (Jg h).2))
 |s=>cases h
 |m k x p=>exact congrArg (fun z:Int=>(k:Int)*z) (p h)
theorem Lc.ge {c:List Int}{d:List Nat}(e:Lc)(o:e.ok=true):e.P c d↔0<=e.E.I c d:=by
 cases e with
 |z x y=>exact qL.symm
 |n x y=>
  show x.N d<=y.N d↔0<=y.I c d-x.I c d;rw[Zf5 x (Jg o).1,Zf5 y (Jg o).2];exact rI.symm.trans qL.symm
 |no=>exact⟨mY,fun h=>nomatch h⟩
structure Lf where
 k:Int
 p:List Int
 q:List Int
noncomputable def Zcv(p:List Int):List Int->List Int:=List.rec (fun q=>q) (fun a p j q=>List.rec (a::p) (fun b q y=>(a+b)::j q) q) p
noncomputable def Zcw(k:Int)(p:List Int):List Int:=List.rec [] (fun a y j=>k*a::j) p
noncomputable def unL(i:Nat):List Int:=Nat.rec [1] (fun y a=>0::a) i
noncomputable def Yp(p:List Int):List Int->Int:=List.rec (fun y=>0) (fun a y j c=>List.rec 0 (fun x c y=>a*x+j c) c) p
noncomputable def Zcx(t:Int->Bool)(p:List Int):Bool:=List.rec true (fun a y j=>t a&&j) p
def Lf.add(f g:Lf):Lf:=⟨f.k+g.k,Zcv f.p g.p,Zcv f.q g.q⟩
def Lf.mul(k:Int)(f:Lf):Lf:=⟨k*f.k,Zcw k f.p,Zcw k f.q⟩
def Le.F(e:Le):Lf:=Le.rec (fun k=>⟨Int.ofNat k,[],[]⟩) (fun i=>⟨0,unL i,[]⟩) (fun i=>⟨0,[],unL i⟩) (fun y y p q=>p.add q) (fun y y p q=>p.add (q.mul (-1))) (fun k y p=>p.mul (k:Int)) e
def Lf.I(c d:List Int)(f:Lf):Int:=f.k+(Yp f.p c+Yp f.q d)
noncomputable def ci(d:List Nat):List Int:=d.map fun n:Nat=>(n:Int)
theorem Ztk {a b c d:Int}:a+b+(c+d)=a+c+(b+d):=by ac_rfl
theorem Zk9(p:List Int):∀q c:List Int,Yp (Zcv p q) c=Yp p c+Yp q c:=by
 induction p with
 |nil=>exact fun q c=>(iF _).symm
 |cons a p ih=>
  intro q c;cases q with
  |nil=>exact(lX _).symm
  |cons b q=>
   cases c with
   |nil=>rfl
   |cons x c=>
    show(a+b)*x+Yp (Zcv p q) c=a*x+Yp p c+(b*x+Yp q c);rw[ih q c,rY,Ztk]
theorem Zka(k:Int)(p:List Int):∀c:List Int,Yp (Zcw k p) c=k*Yp p c:=by
 induction p with
 |nil=>exact fun c=>(nS k).symm
 |cons a p ih=>
  intro c;cases c with
  |nil=>exact(nS k).symm
  |cons x c=>
   show k*a*x+Yp (Zcw k p) c=k*(a*x+Yp p c);rw[ih c,mU,qW]
theorem Zqo(i:Nat):∀c:List Int,Yp (unL i) c=atI c i:=by
 induction i with
 |zero=>exact fun c=>by cases c with
  |nil=>rfl
  |cons x c=>exact(lX _).trans (Int.one_mul x)
 |succ i ih=>exact fun c=>by cases c with
  |nil=>rfl
  |cons x c=>exact(congrArg (fun z=>z+Yp (unL i) c) (rJ x)).trans ((iF _).trans (ih c))
theorem J03(d:List Nat):∀i:Nat,atI (ci d) i=((atN d i:Nat):Int):=by
 induction d with
 |nil=>exact fun y=>rfl
 |cons x d ih=>exact fun i=>by cases i with
  |zero=>rfl
  |succ i=>exact ih i
theorem Zlz {f g:Lf}{c d:List Int}:(f.add g).I c d=f.I c d+g.I c d:=by
 show f.k+g.k+(Yp (Zcv f.p g.p) c+Yp (Zcv f.q g.q) d)=f.k+(Yp f.p c+Yp f.q d)+(g.k+(Yp g.p c+Yp g.q d));rw[Zk9,Zk9,Ztk (a:=Yp f.p c),Ztk]
theorem Zm0 {k:Int}{f:Lf}{c d:List Int}:(f.mul k).I c d=k*f.I c d:=by
 show k*f.k+(Yp (Zcw k f.p) c+Yp (Zcw k f.q) d)=k*(f.k+(Yp f.p c+Yp f.q d));rw[Zka,Zka,<-mU,<-mU]
theorem Zyb {f g:Lf}{c d:List Int}:(f.add (g.mul (-1))).I c d=f.I c d-g.I c d:=by
 rw[Zlz,Zm0,Int.neg_one_mul];rfl
theorem I_F {c:List Int}{d:List Nat}(e:Le):e.I c d=e.F.I c (ci d):=by
 induction e with
 |n k=>rfl
 |v i=>exact((iF _).trans ((lX _).trans (Zqo i c))).symm
 |w i=>exact((iF _).trans ((iF _).trans ((Zqo i _).trans (J03 d i)))).symm
 |a x y p q=>exact((congr (congrArg sK p) q)).trans Zlz.symm
 |s x y p q=>exact((congr (congrArg HSub.hSub p) q)).trans Zyb.symm
 |m k x p=>exact(congrArg (fun z:Int=>(k:Int)*z) p).trans Zm0.symm
theorem Zm1(p:List Int):∀c:List Int,Zcx (fun a=>decide (a=0)) p=true->Yp p c=0:=by
 induction p with
 |nil=>exact fun y y=>rfl
 |cons a p ih=>
  intro c h;cases c with
  |nil=>rfl
  |cons x c=>
   have e:a=0:=of_decide_eq_true (Jg h).1;exact(congrArg (fun z=>z*x+Yp p c) e).trans ((congrArg (fun z=>z+Yp p c) (rJ x)).trans ((iF _).trans (ih c (Jg h).2)))
theorem Jbk(p:List Int):∀d:List Nat,Zcx (fun a=>decide (0<=a)) p=true->0<=Yp p (ci d):=by
 induction p with
 |nil=>exact fun y y=>bX 0
 |cons a p ih=>
  intro d h;cases d with
  |nil=>exact bX 0
  |cons x d=>exact jL (nG (of_decide_eq_true (Jg h).1) (aR x)) (ih d (Jg h).2)
def Ztl(g:Lf)(hs:List Lc):Lf:=List.rec g (fun h y a=>a.add (h.E.F.mul (-1))) hs
def oks(hs:List Lc):Bool:=List.rec true (fun h y a=>h.ok&&a) hs
def imp(c:List Int)(d:List Nat)(g:Prop)(hs:List Lc):Prop:=List.rec g (fun h y a=>h.P c d->a) hs
def okF(f:Lf):Bool:=decide (0<=f.k)&&(Zcx (fun a=>decide (a=0)) f.p&&Zcx (fun a=>decide (0<=a)) f.q)
def chk(hs:List Lc)(g:Lc):Bool:=(g.ok&&oks hs)&&okF (Ztl g.E.F hs)
theorem J37 {c:List Int}{d:List Nat}{g:Lf}{G:Prop}(hs:List Lc):oks hs=true->((Ztl g hs).I c (ci d)<=g.I c (ci d)->G)->imp c d G hs:=by
 induction hs with
 |nil=>exact fun y k=>k (bX _)
 |cons h hs ih=>
  intro o k a;have e:=((h.ge (Jg o).1).1 a);refine ih (Jg o).2 fun q=>k (cJ ?_ q);rw[I_F] at e;exact Zyb (f:=Ztl g hs)▸Int.sub_le_self _ e
theorem Zm(c:List Int)(d:List Nat)(hs:List Lc)(g:Lc)(o:chk hs g=true):imp c d (g.P c d) hs:=
 J37 hs (Jg (Jg o).1).2 fun q=>(g.ge (Jg (Jg o).1).1).2 ((I_F g.E).symm▸cJ (jL (of_decide_eq_true (Jg (Jg o).2).1) (jL (cG (Zm1 _ _ (Jg (Jg (Jg o).2).2).1).symm) (Jbk _ d (Jg (Jg (Jg o).2).2).2))) q)
def Lc.Q(c:List Int)(d:List Nat)(e:Lc):Prop:=Lc.rec (fun x y=>x.I c d=y.I c d) (fun x y=>x.N d=y.N d) False e
theorem Lc.eq {c:List Int}{d:List Nat}(e:Lc)(o:e.ok=true):e.Q c d↔e.E.F.I c (ci d)=0:=by
 rw[<-I_F];cases e with
 |z x y=>exact⟨fun h=>mZ.2 (Eq.symm h),fun h=>(mZ.1 h).symm⟩
 |n x y=>
  show x.N d=y.N d↔y.I c d-x.I c d=0;rw[Zf5 x (Jg o).1,Zf5 y (Jg o).2];exact⟨fun h=>h▸Int.sub_self _,fun h=>(mM (mZ.1 h)).symm⟩
 |no=>exact⟨mY,fun h=>nomatch h⟩
def Ztm(c:List Int)(d:List Nat)(g:Prop)(hs:List Lc):Prop:=List.rec g (fun h y a=>h.Q c d->a) hs
def okE(f:Lf):Bool:=decide (f.k=0)&&(Zcx (fun a=>decide (a=0)) f.p&&Zcx (fun a=>decide (a=0)) f.q)
def Ztn(k:Int)(g:Lf)(hs:List Lc):Lf:=List.rec g (fun h y a=>a.add (h.E.F.mul k)) hs
def Jet(hs a:List Lc)(g:Lc):Bool:=(g.ok&&(oks hs&&oks a))&&okE (Ztn 1 (Ztn (-1) g.E.F hs) a)
theorem Zyc {c:List Int}{d:List Nat}{g:Lf}{k:Int}{G:Prop}(hs:List Lc):oks hs=true->((Ztn k g hs).I c (ci d)=g.I c (ci d)->G)->Ztm c d G hs:=by
 induction hs with
 |nil=>exact fun y k=>k rfl
 |cons h hs ih=>
  intro o f a;refine ih (Jg o).2 fun q=>f (Eq.trans ?_ q);refine Zlz.trans ?_;rw[Zm0,(h.eq (Jg o).1).1 a,nS];exact lX _
theorem Yy(c:List Int)(d:List Nat)(hs a:List Lc)(g:Lc)(o:Jet hs a g=true):Ztm c d (Ztm c d (g.Q c d) a) hs:=
 Zyc hs (Jg (Jg (Jg o).1).2).1 fun p=>Zyc a (Jg (Jg (Jg o).1).2).2 fun q=>(g.eq (Jg (Jg o).1).1).2<|by
  rw[<-p,<-q];show _+(Yp _ c+Yp _ _)=(0:Int);rw[Zm1 _ _ (Jg (Jg (Jg o).2).2).1,Zm1 _ _ (Jg (Jg (Jg o).2).2).2,of_decide_eq_true (Jg (Jg o).2).1];rfl
structure I2(α β:Type) where
 a:α
 b:β
structure I3(α β γ:Type) where
 a:α
 b:β
 c:γ
structure I4(α β γ δ:Type) where
 a:α
 b:β
 c:γ
 d:δ
structure I5(α β γ δ ε:Type) where
 a:α
 b:β
 c:γ
 d:δ
 e:ε
structure I6(α β γ δ ε ζ:Type) where
 a:α
 b:β
 c:γ
 d:δ
 e:ε
 f:ζ
structure I7(α β γ δ ε ζ η:Type) where
 a:α
 b:β
 c:γ
 d:δ
 e:ε
 f:ζ
 g:η
theorem Z7 {p:Prop}(h:¬p->False):p:=Classical.byContradiction h
structure He where
 a:Nat
 k:Str
 kt:Nat
 v:Str
 vt:Nat
structure Si where
 a:Nat
 k:Str
 kt:Nat
 c:Int
 ct:Nat
structure Is where
 a:Nat
 c:Int
 ct:Nat
 k:Str
 kt:Nat
inductive Gd where
 |no
 |hs (l:List He)
 |si (l:List Si)
 |is (l:List Is)
 |exc (cls:String) (msg:Str)
 |tab (l:List (Nat×Obj))
structure Sl where
 a:Nat
 o:Obj
 g:Gd
inductive Ob where
 |nat (a:Nat)
 |code (c:Code)
 |obj (o:Obj)
 |val (v:Value)
 |res (r:Result)
 |sl (s:Sl)
 |pr (p:Prop)
structure Lg where
 b:Nat
 m:Nat
 t:Nat
 i:Nat
 sl:List Sl
structure Ph where
 n:Nat
 t:Nat
 rv:Value
 w:Nat->Sl
inductive D where
 |nil
 |ob (x:Ob) (d:D)
 |all (f:Ph->D)
 |two (x y:D)
inductive T where
 |fin (p:Prop)
 |cond (c:Prop) (t:T)
 |all (f:Ph->T)
 |allC (C:Ph->Prop) (f:Ph->T)
 |two (c:Prop) (x y:T)
 |alt (c:Prop) (x y:T)
 |both (x y:T)
noncomputable def T.p(t:T):Prop:=T.rec (motive:=fun y=>Prop) (fun p=>p) (fun c y i=>c/\i) (fun y i=>∀U,i U) (fun C y i=>∀U,C U->i U) (fun c y y i j=>(c->i)/\(¬c->j)) (fun c y y i j=>(c->i)/\j) (fun y y i j=>i/\j) t
structure Z8 where
 l:D
 r:D
 t:T
def Z8.p(r:Z8):Prop:=r.t.p
inductive Hs where
 |nil
 |d (n:Nat) (r:Hs)
 |two (x y:Hs)
inductive Req where
 |load (a:Nat) (lg:Lg)
 |call (c:Code) (lg:Lg)
 |prim (k:Nat) (chk:Option Bool) (a b:Value) (lg:Lg)
 |split (p:Prop)
 |elem (a:Nat) (s:Sl)
 |meth (ov:Value) (name:Str)
inductive Bad:String->Prop
inductive Jeu:Req->Prop
noncomputable def Zd(s:String):Z8:=⟨.nil, .nil, .fin (Bad s)⟩
noncomputable def Zg7(q:Req):Z8:=⟨.nil, .nil, .fin (Jeu q)⟩
def pop(q:Req)(hs:Hs)(f:Nat->Hs->Z8):Z8:=
 Hs.rec (Zg7 q) (fun n r y=>f n r) (fun y y y y=>Zg7 q) hs
def fork(q:Req)(hs:Hs)(f:Hs->Hs->Z8):Z8:=
 Hs.rec (Zg7 q) (fun z z z=>Zg7 q) (fun x y z z=>f x y) hs
noncomputable def Z8.cond(c:Prop)(r:Z8):Z8:=⟨r.l,r.r, .cond c r.t⟩
noncomputable def Z8.ob(x y:Ob)(r:Z8):Z8:=⟨.ob x r.l, .ob y r.r,r.t⟩
noncomputable def Z8.all(f:Ph->Z8):Z8:=⟨.all fun U=>(f U).l, .all fun U=>(f U).r, .all fun U=>(f U).t⟩
noncomputable def Z8.allC(C:Ph->Prop)(f:Ph->Z8):Z8:=⟨.all fun U=>(f U).l, .all fun U=>(f U).r, .allC C fun U=>(f U).t⟩
noncomputable def Z8.two(c:Prop)(x y:Z8):Z8:=⟨.two x.l y.l, .two x.r y.r, .two c x.t y.t⟩
noncomputable def Z8.alt(c:Prop)(x y:Z8):Z8:=⟨.two x.l y.l, .two x.r y.r, .alt c x.t y.t⟩
noncomputable def Z8.fin(p:Prop):Z8:=⟨.nil, .nil, .fin p⟩
noncomputable def Lg.at(lg:Lg)(j:Nat):Option Sl:=List.rec (fun y=>none) (fun s y a j=>Nat.rec (some s) (fun k y=>a k) j) lg.sl j
noncomputable def Zb7(l:List Sl):Nat->(Obj->Obj)->List Sl:=
 List.rec (fun y y=>[]) (fun s l a j f=>Nat.rec ({s with o:=f s.o}::l) (fun k y=>s::a k f) j) l
abbrev K(α:Type):=α->Lg->Hs->Z8
structure Cx where
 d:Nat
 u:Nat
 hh:Option Value
 fr:Option (List Env×List Env)
noncomputable def Cx.call(x:Cx)(a:Option Value):Cx:={x with hh:=a.or x.hh}
noncomputable def dnZ:Code->Sem PySem.Fin:=ZFast.zw11892475500146522536 ZFast.tableZ
noncomputable def Z6o:=@ZFast.zw14044960220447912780
noncomputable def Z7r:=@ZFast.zw12563942051412417395
noncomputable def Ze5:=@ZFast.zw2036766266224100846
noncomputable def Zb8:=@ZFast.zw12886488535604756494
noncomputable def Zaa:=@ZFast.zw3993959178420608569
noncomputable def Zcy:=@ZFast.zw15245631507167962100
noncomputable def Zg8:=@ZFast.zw4926136581373384958
noncomputable def Zab:=@ZFast.zw4759339933501494510
noncomputable def Z7s:=@ZFast.zw14719866407330433166
noncomputable def Z4i:=@ZFast.zw6419732855643282528
noncomputable def Ze6:=@ZFast.zw11328156115524847652
noncomputable def Z2z:=@ZFast.zw6137100228056946695
noncomputable def Ze7:=@ZFast.zw6818842538254311539
noncomputable def Zg9:=@ZFast.zw2244487426110161322
noncomputable def Ze8:=@ZFast.zw6357449854754888395
noncomputable def Z11:=@ZFast.zw7768414822394308030
noncomputable def Zcz:=@ZFast.zw8711993805878244202
noncomputable def Z94:=@ZFast.zw9404975358583537561
noncomputable def Z7t:=@ZFast.zw1578499551869305889
noncomputable def Z30:=@ZFast.zw17772580674575903948
noncomputable def Z7n:=@ZFast.zw2470068587113613483
noncomputable def Z63:=@ZFast.zw4016559146275205325
noncomputable def Z9w:=@ZFast.zw15628205474173192105
noncomputable def Zb9:=@ZFast.zw12372662630863984472
noncomputable def Ze9:=@ZFast.zw9782568553167038054
noncomputable def Z50:=@ZFast.zw11113344188204177931
noncomputable def Z7u:=@ZFast.zw6609576154772507232
noncomputable def Z7v:=@ZFast.zw15112477048112897374
noncomputable def Q7:=@ZFast.zw12007256195399038943
noncomputable def Zga:=@ZFast.zw17772548960776305114
noncomputable def Z0y:=@ZFast.zw17856382988213008342
noncomputable def Z7w:=@ZFast.zw7536695828754713326
noncomputable def Z95:=@ZFast.zw15418851999007992765
noncomputable def Z7x:=@ZFast.zw17858455048448223758
noncomputable def Z2d:=@ZFast.zw5670386056902412789
noncomputable def Z9x:=@ZFast.zw17346088374725804007
noncomputable def Zba:=@ZFast.zw229721614431981477
noncomputable def Z7o:=@ZFast.zw14851354246082423155
structure V where
 prog:Program
 w:World
 kt:KT
abbrev Ctr:=Cx->Code->Lg->Hs->K Result->Z8
abbrev Cmp:=Cx->CmpOp->Value->Value->Lg->Hs->K Bool->Z8
structure G where
 ctr:List Ctr
 cmp:List Cmp
structure Jr where
 tr:(α:Type)->Sem α->Cx->Lg->Hs->K α->K Value->Z8
 cd:Code->Cx->Lg->Hs->K Result->Z8
 ev:Expr->Env->Cx->Lg->Hs->K Value->K Value->Z8
 evs:List Expr->Env->Cx->Lg->Hs->K (List Value)->K Value->Z8
 tst:Expr->Env->Cx->Lg->Hs->K Bool->K Value->Z8
 sx:List Stmt->Env->Cx->Lg->Hs->K Flow->K Value->Z8
noncomputable def Zac(o:Obj):Bool:=match o.cls with
 | .type n=>(match S.eqLit (PySem.code "tuple") n with|true=>false|false=>eK (S.eqLit (PySem.code "code") n))
 |_=>true
noncomputable def Z96(g:Gd):Bool:=match g with| .no=>true|_=>false
noncomputable def Zy(g:Gd):Bool:=match g with| .exc .. =>false|_=>true
def Zf6(s:Sl)(o':Obj):Bool:=match Zy s.g with
 |true=>(match Zac s.o with|true=>eK o'.isFreed|false=>false)
 |false=>false
noncomputable def Yf(a b:Value):Obj:=⟨.type "tuple",none, .seq ⟨[a,b]⟩ 0,⟨[]⟩⟩
noncomputable def Z5i {α:Type}(l:List α):Nat->Option α:=List.rec (fun y=>none) (fun s y a j=>Nat.rec (some s) (fun k y=>a k) j) l
def Zgb(g:Gd)(i:Nat):Option (Nat×Obj):=match g with
 | .hs l=>(match Z5i l i with|some e=>some (e.a,Yf (.str e.k e.kt) (.str e.v e.vt))|none=>none)
 | .si l=>(match Z5i l i with|some e=>some (e.a,Yf (.str e.k e.kt) (.int e.c e.ct))|none=>none)
 | .is l=>(match Z5i l i with|some e=>some (e.a,Yf (.int e.c e.ct) (.str e.k e.kt))|none=>none)
 | .tab l=>Z5i l i
 |_=>none
def trS(v:V)(o:Jr)(α:Type)(t:Sem α)(x:Cx)(lg:Lg)(hs:Hs)(Q:K α)(E:K Value):Z8:=match t with
 | .pure a=>Q a lg hs
 | .raise e=>E e lg hs
 | .rule _ k=>o.tr α (k ()) x lg hs Q E
 | .at _ k=>o.tr α (k ()) x lg hs Q E
 | .point _ k=>o.tr α (k ()) x lg hs Q E
 | .ask k=>o.tr α (k ⟨v.prog,v.w.params⟩) x lg hs Q E
 | .load a _ k=>pop (.load a lg) hs fun d hs=>match d with
  |0=>match v.kt.get a with
   |some ob=>o.tr α (k ob) x lg hs Q E
   |none=>Zd "kt"
  |j+1=>match lg.at j with
   |some s=>match s.g with
    | .exc .. =>Zd "load of an exception"
    | .no=>Z8.ob (.nat a) (.nat s.a) (o.tr α (k s.o) x lg hs Q E)
    |g=>pop (.elem a s) hs fun d hs=>match d with
     |0=>Z8.ob (.nat a) (.nat s.a) (o.tr α (k s.o) x lg hs Q E)
     |i+1=>match Zgb g i with
      |some p=>Z8.ob (.nat a) (.nat p.1) (o.tr α (k p.2) x lg hs Q E)
      |none=>Zd "element"
   |none=>Zd "slot"
 | .update a _ f k=>pop (.load a lg) hs fun d hs=>match d with
  |0=>Zd "update of the top's"
  |j+1=>match lg.at j with
   |some s=>match Zf6 s (f s.o) with
    |true=>Z8.ob (.nat a) (.nat s.a) (o.tr α (k ()) x {lg with sl:=Zb7 lg.sl j f} hs Q E)
    |false=>Zd "update"
   |none=>Zd "slot"
 | .alloc ob k=>match ob.isFreed with
  |false=>o.tr α (k (aO lg.b lg.m)) x {lg with m:=aO lg.m 1,sl:=⟨aO lg.b lg.m,ob, .no⟩::lg.sl} hs Q E
  |true=>Zd "freed"
 | .fresh k=>o.tr α (k (aO lg.t lg.i)) x {lg with i:=aO lg.i 1} hs Q E
 | .handled own k=>match own with
  |false=>o.tr α (k x.hh) x lg hs Q E
  |true=>Zd "handled"
 | .call c hd _ _ k=>match okMark hd with
  |true=>o.cd c (x.call hd) lg hs fun r lg hs=>o.tr α (k r) x lg hs Q E
  |false=>Zd "mark"
 | .unsupported w=>Zd w
 |_=>Zd "node"
def Z97(self:Addr)(a:FuncData)(args:Args):Sem Code:=do
 let j<-match a.code with
  | .none=>pure a.qualname
  |c=>do match<-Z7u c 1 with
   | .str q _=>pure q
   |_=>pure a.qualname
 let env<-Z50 a.scope a.globals a.closure (<-Ze9 a args) (j++".<locals>.") (some self) a.code none a.builtins
 match a.body with
  | .stmts b=>pure (.func b env)
  | .expr e=>pure (.expr e env)
noncomputable def J38(k:ScopeKind):Bool:=match k with| .module=>true|_=>false
def Zm2(env:Env)(fr:Option (List Env×List Env)):Option (List Env×List Env):=match fr with
 |none=>none
 |some p=>match J38 env.scope.kind with|true=>none|false=>some (env::p.1,p.2)
def Cx.under(x:Cx)(c:Code):Cx:=match c with
 | .call .. =>{x with u:=aO x.u 1}
 | .builtin .. =>{x with d:=aO x.d 5,u:=aO x.u 10}
 | .func _ env=>{x with d:=aO x.d 1,u:=aO x.u 3,fr:=Zm2 env x.fr}
 |_=>{x with d:=aO x.d 1,u:=aO x.u 3,fr:=none}
noncomputable def Z3i(c:Code):Bool:=match c with
 | .builtin id _=>eK (S.eqLit (PySem.code "claim.caller") id)
 |_=>true
noncomputable def room(x:Cx):Bool:=match dE x.d 950 with|true=>dE x.u 9000|false=>false
noncomputable def Yz(a b:Bool):Bool:=match a with|true=>b|false=>false
noncomputable def Z0s(o:Obj):Bool:=match o.cls with
 | .type n=>S.eqLit (PySem.code "frame") n
 |_=>false
noncomputable def Z51(o:Obj):Bool:=match o.data with| .fields .. =>false|_=>true
def Z42(U:Ph)(l:List Sl):Nat->List Sl:=
 List.rec (fun y=>[]) (fun s y a j=>(match Z0s s.o with|true=>{s with o:={s.o with slots:=(U.w j).o.slots}}|false=>s)::a (Nat.succ j)) l
def Zbb(I:List Env)(lg:Lg):Hs->(List Nat->Hs->Z8)->Z8:=
 List.rec (motive:=fun y=>Hs->(List Nat->Hs->Z8)->Z8) (fun hs k=>k [] hs) (fun env y q hs k=>match env.frame with
  |some L=>pop (.load L lg) hs fun j hs=>(match lg.at j with
   |some s=>(match Yz (Z0s s.o) (Yz (Zy s.g) (Z51 s.o)) with
    |true=>Z8.ob (.nat L) (.nat s.a) (q hs fun m hs=>k (j::m) hs)
    |false=>Zd "frames: what")
   |none=>Zd "frames: slot")
  |none=>Zd "frames: none") I
def Zkb(a:List Env)(lg:Lg)(hs:Hs)(Q:Ph->Lg->Hs->Z8):Z8:=
 Zbb a lg hs fun y hs=>Z8.all fun U=>Q U {lg with sl:=Z42 U lg.sl 0} hs
noncomputable def J04(o:Obj):List Value:=match o.data with| .seq l _=>l.toList|_=>[]
noncomputable def tbO(a:Value)(f:Nat)(r:List Value):Obj:=⟨.type "traceback",none, .fields ⟨a:: .ref f:: .none:: .int (Int.ofNat f) 0:: .none::r⟩,⟨[]⟩⟩
def Zf7(o:Jr)(e:Value)(env:Env)(f:Nat)(a:Value)(x:Cx)(lg:Lg)(hs:Hs)(Q:K Unit)(E:K Value):Z8:=
 match x.fr with
 |some p=>(match p.1 with
  |env'::_=>Z8.ob (.code (.block [] env)) (.code (.block [] env')) (Zkb p.1 lg hs fun U lg hs=>
    o.tr Unit (Z7x e 1 (.ref (aO lg.b lg.m))) x {lg with m:=aO lg.m 1,sl:=⟨aO lg.b lg.m,tbO a f (J04 (U.w 0).o), .no⟩::lg.sl} hs Q E)
  |[]=>Zd "frames")
 |none=>Zd "frames"
def Zf8(o:Jr)(e:Value)(env:Env)(x:Cx)(lg:Lg)(hs:Hs)(Q:K Unit)(E:K Value):Z8:=match e with
 | .ref ea=>(match env.frame with
  |some f=>o.tr Value (Z7u (.ref ea) 1) x lg hs (fun a lg hs=>match a with
    | .none=>Zf7 o (.ref ea) env f .none x lg hs Q E
    | .ref h=>o.tr Value (Z7u (.ref h) 3) x lg hs (fun fl lg hs=>match fl with
      | .none=>o.tr Unit (Z7x (.ref h) 3 .none) x lg hs (fun y lg hs=>Zf7 o (.ref ea) env f (.ref h) x lg hs Q E) E
      |fl=>Z8.ob (.val fl) (.val (.int (Int.ofNat f) 0)) (Q () lg hs)) E
    |_=>Zd "traceback") E
  |none=>Zd "frame")
 |_=>Zd "exception"
def Zgc(o:Jr)(e:Value)(env:Env)(x:Cx)(lg:Lg)(hs:Hs)(Q:K Unit)(E:K Value):Z8:=
 Zf8 o e env x lg hs (fun y lg hs=>o.tr Unit (Z2d e Option.none) x lg hs Q E) E
def Zm3(o:Jr)(e:Value)(env:Env)(x:Cx)(lg:Lg)(hs:Hs)(E:K Value):Z8:=
 o.tr Value (Z7u e 1) x lg hs (fun a lg hs=>match a with
  | .ref _=>o.tr Unit (Z2d e env.frame) x lg hs (fun y lg hs=>E e lg hs) E
  |_=>Zd "came back without a traceback") E
def Z2e {α:Type}:K α:=fun y y y=>Zd "an exception while one leaves"
def Z64(o:Jr)(c:Code)(x:Cx)(lg:Lg)(hs:Hs)(R:K Result):Z8:=match Z3i c with
 |true=>o.tr PySem.Fin (dnZ c) (x.under c) lg hs (fun a lg hs=>match a with
   | .done f=>R (.ok f) lg hs
   | .again c'=>match Zga c' with
    |true=>o.cd c' x lg hs R
    |false=>Zd "quiet") (fun e lg hs=>R (.error e) lg hs)
 |false=>Zd "caller"
def fnS(o:Jr)(a:Addr)(args:Args)(c:Code)(x:Cx)(m:Obj)(lg:Lg)(hs:Hs)(R:K Result):Z8:=match m.data with
 | .func fd=>match fd.scope.isGenerator with
  |true=>Zd "generator"
  |false=>match fd.scope.isCoroutine with
   |true=>Zd "coroutine"
   |false=>match room x with
    |true=>o.tr Code (Z97 a fd args) (x.under c) lg hs (fun j lg hs=>match Zga j with|true=>o.cd j x lg hs R|false=>Zd "quiet") (fun e lg hs=>R (.error e) lg hs)
    |false=>Zd "room"
 |_=>Z64 o c x lg hs R
noncomputable def Z52(f:Flow):Value:=match f with| .ret v=>v|_=> .none
def Z98(o:Jr)(cs:List Expr)(env:Env)(x:Cx)(lg:Lg)(hs:Hs)(Q:K Bool):Z8:=match cs with
 |[]=>Q true lg hs
 |[c]=>o.tst c env x lg hs Q fun y y y=>Zd "an exception in a comprehension"
 |_=>Zd "two tests of a comprehension"
noncomputable def Zgd(n:String):Bool:=@ZFast.zw3471404346716756564 String (@instBEqOfDecidableEq String S.strDecS) [SZ.s14340494229221121180x9,SZ.s14339709457334898076x3,SZ.s2783514499706994809x17,
         SZ.s2223374115958298951x24,SZ.s4428606184754087035x14,SZ.s14092991718984965784x21,
         SZ.s5947345187589116515x18] n
def Z65(a:Obj):Bool:=match a.cls with
 | .type n=>match a.data with
  | .fields vs=>match vs.toList with
   |[]=>false
   |_::_=>Zgd n
  |_=>false
 |_=>false
noncomputable def Zm4(a:Obj):Value:=match a.data with
 | .fields vs=>match vs.toList with
  |[]=> .none
  |v::_=>v
 |_=> .none
noncomputable def Zm5(t:Expr):Bool:=match t with
 | .Tuple .. =>true
 | .List .. =>true
 |_=>false
def Zd0(o:Jr)(target:Expr)(it val:Value)(x:Cx)(lg:Lg)(hs:Hs)(Q:K Unit)(E:K Value):Z8:=match Zm5 target with
 |false=>Q () lg hs
 |true=>match it with
  | .ref r=>match val with
   | .ref a=>o.tr Obj (.load r none .pure) x lg hs (fun j lg hs=>match Z65 j with
    |true=>Z8.ob (.val (Zm4 j)) (.val (dP (Int.ofNat a))) (o.tr Unit (iT r 0 .none) x lg hs Q E)
    |false=>Q () lg hs) E
   |_=>Q () lg hs
  |_=>Q () lg hs
noncomputable def Zm6(o:Jr)(c:Code)(x:Cx)(R:K Result):K Flow:=fun f lg hs=>match f with
 | .brk=>R (.ok .next) lg hs
 | .ret r=>R (.ok (.ret r)) lg hs
 |_=>o.cd c x lg hs R
def Zm7(o:Jr)(env:Env)(x:Cx)(R:K Result):K Value:=fun e lg hs=>Zf8 o e env x lg hs (fun y lg hs=>R (.error e) lg hs) Z2e
def Jev(o:Jr)(c:Code)(x:Cx)(R:K Result):K Result:=fun r lg hs=>match r with
 | .ok (.ret _)=>o.cd c x lg hs R
 |_=>Zd "append"
def Zf9(o:Jr)(elt:Expr)(acc:Value)(c:Code)(env:Env)(x:Cx)(R:K Result):K Bool:=fun b lg hs=>match b with
 |true=>o.ev elt env x lg hs (fun r lg hs=>o.cd (.call (.builtin "list.append") ⟨[acc,r],[]⟩) (x.call none) lg hs (Jev o c x R)) fun y y y=>Zd "an exception in a comprehension"
 |false=>o.cd c x lg hs R
def inS(v:V)(o:Jr)(c:Code)(x:Cx)(lg:Lg)(hs:Hs)(R:K Result):Z8:=match c with
 | .call f args=>match f with
  | .ref a=>pop (.load a lg) hs fun d hs=>match d with
   |0=>match v.kt.get a with
    |some ob=>fnS o a args c x ob lg hs R
    |none=>Zd "kt"
   |j+1=>match lg.at j with
    |some s=>match s.g with
     | .exc .. =>Zd "load of an exception"
     |_=>Z8.ob (.nat a) (.nat s.a) (fnS o a args c x s.o lg hs R)
    |none=>Zd "slot"
  |_=>Z64 o c x lg hs R
 | .func body env=>o.sx body env (x.under c) lg hs (fun f lg hs=>R (.ok (.ret (Z52 f))) lg hs) fun e lg hs=>Zgc o e env (x.under c) lg hs (fun y lg hs=>R (.error e) lg hs) Z2e
 | .expr e env=>o.ev e env (x.under c) lg hs (fun r lg hs=>R (.ok (.ret r)) lg hs) fun y y y=>Zd "an exception leaves a frame"
 | .block stmts env=>o.sx stmts env x lg hs (fun f lg hs=>R (.ok f) lg hs) fun y y y=>Zd "an exception leaves a block"
 | .forLoop target it body orelse env=>o.tr (Option Value) (Z94 it) x lg hs (fun r lg hs=>match r with
   |none=>o.cd (.block orelse env) x lg hs R
   |some val=>Zd0 o target it val x lg hs (fun y lg hs=>o.tr Unit (Z30 target env val) x lg hs (fun y lg hs=>o.sx body env x lg hs (Zm6 o c x R) (Zm7 o env x R)) fun y y y=>Zd "an exception at a loop's target") fun y y y=>Zd "an exception at a loop's target") fun y y y=>Zd "an exception at a loop's next"
 | .whileLoop test body orelse env=>o.tst test env x lg hs (fun b lg hs=>match b with
   |true=>o.sx body env x lg hs (Zm6 o c x R) fun y y y=>Zd "an exception leaves a loop"
   |false=>o.sx orelse env x lg hs (fun f lg hs=>R (.ok f) lg hs) fun y y y=>Zd "an exception leaves a loop") fun y y y=>Zd "an exception at a loop's test"
 | .compLoop (.ListComp elt [g] _ _) 0 it acc env=>match g.is_async with
  |0=>o.tr (Option Value) (Z94 it) x lg hs (fun r lg hs=>match r with
   |none=>R (.ok .next) lg hs
   |some val=>Zd0 o g.target it val x lg hs (fun y lg hs=>o.tr Unit (Z30 g.target env val) x lg hs (fun y lg hs=>Z98 o g.ifs env x lg hs (Zf9 o elt acc c env x R)) fun y y y=>Zd "an exception at a loop's target") fun y y y=>Zd "an exception at a loop's target") fun y y y=>Zd "an exception at a loop's next"
  |_=>Zd "async"
 |_=>Z64 o c x lg hs R
def cdS(v:V)(g:G)(o:Jr)(c:Code)(x:Cx)(lg:Lg)(hs:Hs)(R:K Result):Z8:=pop (.call c lg) hs fun d hs=>match d with
 |0=>inS v o c x lg hs R
 |j+1=>match g.ctr[j]? with
  |some f=>f x c lg hs R
  |none=>Zd "contract"
noncomputable def Z0t:List Nat->List Nat->Bool
 |[],[]=>true
 |a::l,b::m=>match cK a b with|true=>Z0t l m|false=>false
 |_,_=>false
noncomputable def Qe:Nat:=18446744073709551616
inductive VP where
 |ii (x y:Int)
 |ss (x y:Str)
 |no
noncomputable def vp(a b:Value):VP:=match a with
 | .int x _=>(match b with| .int y _=> .ii x y|_=> .no)
 | .str x _=>(match b with| .str y _=> .ss x y|_=> .no)
 |_=> .no
structure J39(α:Type) where
 ok:Prop
 b:Bool
 v:α
def Zto(a:Operator)(x y:Int):Option (J39 Int):=match a with
 | .Add=>some ⟨True,true,dF x y⟩
 | .Sub=>some ⟨True,true,Int.sub x y⟩
 | .BitXor=>some ⟨True,true,mN x y⟩
 | .Mult=>some ⟨x.natAbs<Qe/\y.natAbs<Qe,Yz (fJ x.natAbs Qe) (fJ y.natAbs Qe),eE x y⟩
 | .Mod=>some ⟨y≠0,eK (Z.eqB y 0),dN x y⟩
 | .FloorDiv=>some ⟨y≠0/\y.natAbs<1073741824,Yz (eK (Z.eqB y 0)) (fJ y.natAbs 1073741824),cZ x y⟩
 | .LShift=>some ⟨0<=y/\y<=1000000/\x.natAbs<Qe,Yz (Z.leB 0 y) (Yz (Z.leB y 1000000) (fJ x.natAbs Qe)),eE x (Int.ofNat (cO 2 y.toNat))⟩
 | .RShift=>some ⟨0<=y,Z.leB 0 y,cZ x (Int.ofNat (cO 2 y.toNat))⟩
 |_=>none
def Ztp(a:Operator)(x y:Str):Option (J39 Str):=match a with
 | .Add=>some ⟨x.length≠0/\y.length≠0/\x.length+y.length<=1000000,Yz (eK (cK x.length 0)) (Yz (eK (cK y.length 0)) (dE (aO x.length y.length) 1000000)),⟨⟨mO x.cps.toList y.cps.toList⟩⟩⟩
 |_=>none
def okP(a:Operator)(p:VP):Prop:=match p with
 | .ii x y=>(match Zto a x y with|some r=>r.ok|none=>False)
 | .ss x y=>(match Ztp a x y with|some r=>r.ok|none=>False)
 | .no=>False
def Jbl(a:Operator)(p:VP):Bool:=match p with
 | .ii x y=>(match Zto a x y with|some r=>r.b|none=>false)
 | .ss x y=>(match Ztp a x y with|some r=>r.b|none=>false)
 | .no=>false
def J3a(a:Operator)(p:VP)(t:Nat):Value:=match p with
 | .ii x y=>(match Zto a x y with|some r=> .int r.v t|none=> .none)
 | .ss x y=>(match Ztp a x y with|some r=> .str r.v t|none=> .none)
 | .no=> .none
def Z99(j:Operator)(a b:Value):Prop:=okP j (vp a b)
def Zm8(j:Operator)(a b:Value):Bool:=Jbl j (vp a b)
def Ztq(j:Operator)(a b:Value)(t:Nat):Value:=J3a j (vp a b) t
structure Zm9 where
 b:Bool
 p:Prop
noncomputable def J3b(a:CmpOp)(x y:Int):Option Zm9:=match a with
 | .Eq=>some ⟨Z.eqB x y,x=y⟩
 | .NotEq=>some ⟨eK (Z.eqB x y),x≠y⟩
 | .Lt=>some ⟨Z.ltB x y,x<y⟩
 | .LtE=>some ⟨Z.leB x y,x<=y⟩
 | .Gt=>some ⟨Z.ltB y x,y<x⟩
 | .GtE=>some ⟨Z.leB y x,y<=x⟩
 |_=>none
def J3c(a:CmpOp)(x y:Str):Option Zm9:=match a with
 | .Eq=>some ⟨Z0t x.cps.toList y.cps.toList,x=y⟩
 | .NotEq=>some ⟨eK (Z0t x.cps.toList y.cps.toList),x≠y⟩
 |_=>none
def Zma(a:CmpOp)(p:VP):Option Zm9:=match p with
 | .ii x y=>J3b a x y
 | .ss x y=>J3c a x y
 | .no=>none
noncomputable def Ztr(v:Value):Bool:=match v with| .none=>true|_=>false
def Jbm(j:CmpOp)(a b:Value):Option Bool:=match Ztr b with
 |false=>none
 |true=>(match j with
  | .Is=>some (Ztr a)
  | .IsNot=>some (eK (Ztr a))
  |_=>none)
def Zmb(j:CmpOp)(a b:Value):Option Bool:=match Zma j (vp a b) with
 |some r=>some r.b
 |none=>Jbm j a b
def Zge(j:CmpOp)(a b:Value):Option Prop:=match Zma j (vp a b) with
 |some r=>some r.p
 |none=>none
noncomputable def split(c:Prop)(lg:Lg)(hs:Hs)(Q:Bool->Lg->Hs->Z8):Z8:=fork (.split c) hs fun a j=>Z8.two c (Q true lg a) (Q false lg j)
noncomputable def Zts:List (Str×String):=[("lower","str.lower"),("upper","str.upper"),("find","str.find"),("rfind","str.rfind"),("startswith","str.startswith"),("endswith","str.endswith"),("count","str.count"),("join","str.join"),("split","str.split")]
def Zmc(g:G)(o:Jr)(m:CmpOp)(a b:Value)(x:Cx)(lg:Lg)(hs:Hs)(Q E:K Value):Z8:=
 pop (.prim 1 (Zmb m a b) a b lg) hs fun d hs=>match d with
  |0=>o.tr Value (Zb8 m a b) x lg hs Q E
  |1=>match Zmb m a b with
   |some r=>Q (.bool r) lg hs
   |none=>Zd "cmp"
  |2=>match Zge m a b with
   |some c=>split c lg hs fun r lg hs=>Q (.bool r) lg hs
   |none=>Zd "cmp split"
  |3=>match Zge m a b with
   |some c=>Z8.cond c (Q (.bool true) lg hs)
   |none=>Zd "cmp split"
  |4=>match Zge m a b with
   |some c=>Z8.cond (¬c) (Q (.bool false) lg hs)
   |none=>Zd "cmp split"
  |j+5=>match g.cmp[j]? with
   |some f=>f x m a b lg hs fun r lg hs=>Q (.bool r) lg hs
   |none=>Zd "cmp contract"
def Ztt(o:Jr)(j:Operator)(a b:Value)(x:Cx)(lg:Lg)(hs:Hs)(Q E:K Value):Z8:=
 pop (.prim 2 (some (Zm8 j a b)) a b lg) hs fun d hs=>match d with
  |0=>o.tr Value (Ze5 j a b) x lg hs Q E
  |1=>match Zm8 j a b with
   |true=>Q (Ztq j a b (aO lg.t lg.i)) {lg with i:=aO lg.i 1} hs
   |false=>Zd "bin"
  |_=>Z8.cond (Z99 j a b) (Q (Ztq j a b (aO lg.t lg.i)) {lg with i:=aO lg.i 1} hs)
def unS(o:Jr)(j:UnaryOp)(a:Value)(x:Cx)(lg:Lg)(hs:Hs)(Q E:K Value):Z8:=
 pop (.prim 3 none a a lg) hs fun d hs=>match d with
  |0=>o.tr Value (Zaa j a) x lg hs Q E
  |_=>match j,a with
   | .USub, .int y _=>Q (.int (fU y) (aO lg.t lg.i)) {lg with i:=aO lg.i 1} hs
   | .Invert, .int y _=>Q (.int (gD y) (aO lg.t lg.i)) {lg with i:=aO lg.i 1} hs
   | .Not, .bool y=>Q (.bool (eK y)) lg hs
   |_,_=>Zd "un"
def Zmd(o:Jr)(a:Value)(x:Cx)(lg:Lg)(hs:Hs)(Q:K Bool)(E:K Value):Z8:=match a with
 | .bool b=>Q b lg hs
 |a=>pop (.prim 4 (match a with| .int y _=>some (Z.eqB y 0)|_=>none) a a lg) hs fun d hs=>match d with
  |0=>o.tr Bool (Zcy a) x lg hs Q E
  |1=>match a with
   | .int y _=>Q (eK (Z.eqB y 0)) lg hs
   |_=>Zd "truth"
  |2=>match a with
   | .int y _=>split (y≠0) lg hs Q
   |_=>Zd "truth"
  |3=>match a with
   | .int y _=>Z8.cond (y≠0) (Q true lg hs)
   |_=>Zd "truth"
  |_=>match a with
   | .int y _=>Z8.cond (y=0) (Q false lg hs)
   |_=>Zd "truth"
noncomputable def Zgf(e:Expr):Bool:=match e with| .Starred .. =>true|_=>false
noncomputable def Z0u:List Expr->Bool
 |[]=>true
 |e::r=>match Zgf e with|true=>false|false=>Z0u r
noncomputable def Z7y(e:Expr):Bool:=match e with
 | .Call (.Name ..) [] [] _=>false
 |_=>true
noncomputable def Z1d:List Keyword->Option (List Str)
 |[]=>some []
 |⟨some n,_,_⟩::r=>match Z1d r with|some l=>some (n::l)|none=>none
 |_=>none
noncomputable def Z7z:List Keyword->List Expr
 |[]=>[]
 |⟨_,v,_⟩::r=>v::Z7z r
def Zfa(o:Jr)(f:Value)(first:List Value)(a:List Keyword)(ns:List Str)(env:Env)(x:Cx)(Q E:K Value)(j:List Value)(lg:Lg)(hs:Hs):Z8:=
 o.evs (Z7z a) env x lg hs (fun m lg hs=>o.tr Keeper (Ze7 f) x lg hs (fun y lg hs=>
    o.cd (.call f ⟨first++j,ns.zip m⟩) (x.call none) lg hs fun r lg hs=>match r with
     | .ok fl=>(match fl with
      | .ret v=>Q v lg hs
      |_=>Zd "a call without a value")
     | .error e=>E e lg hs) E) E
def Z9a(o:Jr)(f:Value)(first:List Value)(args:List Expr)(a:List Keyword)(env:Env)(x:Cx)(lg:Lg)(hs:Hs)(Q E:K Value):Z8:=
 match Z0u args with
 |true=>match Z1d a with
  |some ns=>(match args with
   |[]=>Zfa o f first a ns env x Q E [] lg hs
   |_::_=>o.evs args env x lg hs (Zfa o f first a ns env x Q E) E)
  |none=>Zd "keywords"
 |false=>Zd "a star"
def Zyd(o:Jr)(a:BoolOp)(vs:List Expr)(env:Env)(x:Cx)(lg:Lg)(hs:Hs)(Q E:K Value):Z8:=
 List.rec (motive:=fun y=>Lg->Hs->Z8) (fun y y=>Zd "boolop") (fun e r j lg hs=>o.ev e env x lg hs (fun v lg hs=>match r with
  |[]=>Q v lg hs
  |_::_=>Zmd o v x lg hs (fun b lg hs=>match a,b with
   | .And,false=>Q v lg hs
   | .Or,true=>Q v lg hs
   |_,_=>j lg hs) E) E) vs lg hs
def J3d(o:Jr)(a:BoolOp)(vs:List Expr)(env:Env)(x:Cx)(lg:Lg)(hs:Hs)(Q:K Bool)(E:K Value):Z8:=
 List.rec (motive:=fun y=>Lg->Hs->Z8) (fun lg hs=>Q (match a with| .And=>true| .Or=>false) lg hs) (fun e y j lg hs=>o.tst e env x lg hs (fun b lg hs=>match a,b with
   | .And,false=>Q false lg hs
   | .Or,true=>Q true lg hs
   |_,_=>j lg hs) E) vs lg hs
noncomputable def Zd1(args:List Expr):List (Bool×Sem Value):=args.map fun y=>(false, .pure .none)
noncomputable def Zd2(a:List Keyword):List (Option Str×Sem Value):=a.map fun k=>(k.arg, .pure .none)
def Zme(o:Jr)(I:Expr)(name:Str)(m q:Pos)(J:Value)(args:List Expr)(a:List Keyword)(env:Env)(x:Cx)(lg:Lg)(hs:Hs)(Q:K (Value×List Value))(E:K Value):Z8:=
 pop (.meth J name) hs fun d hs=>match d with
  |0=>o.tr (Value×List Value) (do
    let r<-Ze6 (Z0y (args.length+a.length) (Zd1 args) (Zd2 a)) I env J name
    let _<-Z2z (Z0y (args.length+a.length) (Zd1 args) (Zd2 a)) I env m q
    pure r) x lg hs Q E
  |j+1=>match Z0y (args.length+a.length) (Zd1 args) (Zd2 a) with
   |false=>Zd "a form of method call"
   |true=>match J with
    | .str y t=>(match Zts[j]? with
     |some nm=>match Z0t name.cps.toList nm.1.cps.toList with
      |true=>o.tr Pos (Z2z true I env m q) x lg hs (fun z lg hs=>Q (.builtin nm.2,[.str y t]) lg hs) E
      |false=>Zd "a method's name"
     |none=>Zd "a method")
    |_=>Zd "a method of no str"
def evS(g:G)(o:Jr)(e:Expr)(env:Env)(x:Cx)(lg:Lg)(hs:Hs)(Q E:K Value):Z8:=match e with
 | .BinOp l op r _=>o.ev l env x lg hs (fun a lg hs=>o.ev r env x lg hs (fun b lg hs=>Ztt o op a b x lg hs Q E) E) E
 | .UnaryOp op y _=>o.ev y env x lg hs (fun a lg hs=>unS o op a x lg hs Q E) E
 | .IfExp t b f _=>o.tst t env x lg hs (fun c lg hs=>match c with|true=>o.ev b env x lg hs Q E|false=>o.ev f env x lg hs Q E) E
 | .BoolOp op vs _=>Zyd o op vs env x lg hs Q E
 | .List es _=>match Z0u es with
  |true=>o.evs es env x lg hs (fun vs lg hs=>o.tr Value (Zg9 vs) x lg hs Q E) E
  |false=>Zd "a star"
 | .Tuple es _ _=>match Z0u es with
  |true=>o.evs es env x lg hs (fun vs lg hs=>o.tr Value (Ze8 vs) x lg hs Q E) E
  |false=>Zd "a star"
 | .Compare l [op] [r] _=>match Q7 op r with
  |false=>o.ev l env x lg hs (fun a lg hs=>o.ev r env x lg hs (fun b lg hs=>Zmc g o op a b x lg hs Q E) E) E
  |true=>o.tr Value (Z6o e env) x lg hs Q E
 | .Call (.Attribute ob name apos) args kws pos=>match Z7y ob with
  |true=>match Z0u args with
   |true=>(match Z1d kws with
    |some _=>o.ev ob env x lg hs (fun I lg hs=>Zme o ob name apos pos I args kws env x lg hs (fun m lg hs=>Z9a o m.1 m.2 args kws env x lg hs Q E) E) E
    |none=>Zd "keywords")
   |false=>Zd "a star"
  |false=>Zd "super"
 | .Call f args kws _=>o.ev f env x lg hs (fun q lg hs=>Z9a o q [] args kws env x lg hs Q E) E
 | .Attribute b attr _=>match Z7y b with
  |true=>o.ev b env x lg hs (fun j lg hs=>o.tr Value (do let r<-Zg8 j attr true;Zab b j r;pure r) x lg hs Q E) E
  |false=>Zd "super"
 | .Subscript b s _=>o.ev b env x lg hs (fun j lg hs=>o.ev s env x lg hs (fun J lg hs=>o.tr Value (do let r<-Z7s s (<-Z4i j) j J;Zab b j r;pure r) x lg hs Q E) E) E
 |e=>o.tr Value (Z6o e env) x lg hs Q E
noncomputable def J3e(o:Jr)(a:List Expr)(env:Env)(x:Cx)(lg:Lg)(hs:Hs)(Q:K (List Value))(E:K Value):Z8:=match a with
 |[]=>Q [] lg hs
 |e::r=>o.ev e env x lg hs (fun v lg hs=>o.evs r env x lg hs (fun vs lg hs=>Q (v::vs) lg hs) E) E
noncomputable def Ztu(e:Expr):Bool:=match e with
 | .UnaryOp .. =>false
 | .BoolOp .. =>false
 | .Compare .. =>false
 | .IfExp .. =>false
 |_=>true
def J3f(g:G)(o:Jr)(e:Expr)(env:Env)(x:Cx)(lg:Lg)(hs:Hs)(Q:K Bool)(E:K Value):Z8:=match e with
 | .UnaryOp .Not y _=>o.tst y env x lg hs (fun b lg hs=>Q (eK b) lg hs) E
 | .BoolOp op vs _=>J3d o op vs env x lg hs Q E
 | .Compare l [op] [r] _=>match Q7 op r with
  |false=>o.ev l env x lg hs (fun a lg hs=>o.ev r env x lg hs (fun b lg hs=>Zmc g o op a b x lg hs (fun v lg hs=>Zmd o v x lg hs Q E) E) E) E
  |true=>o.tr Bool (Z95 e env (Z6o e env)) x lg hs Q E
 | .Compare .. =>o.tr Bool (Z95 e env (Z6o e env)) x lg hs Q E
 |e=>match Ztu e with
  |true=>o.ev e env x lg hs (fun v lg hs=>Zmd o v x lg hs Q E) E
  |false=>Zd "a test of two ways"
noncomputable def Z66(e:Expr):Bool:=match e with
 | .ListComp .. =>true
 | .SetComp .. =>true
 | .DictComp .. =>true
 |_=>false
def exS(o:Jr)(s:Stmt)(env:Env)(x:Cx)(lg:Lg)(hs:Hs)(Q:K Flow)(E:K Value):Z8:=match s with
 | .Return (some e) _=>o.ev e env x lg hs (fun v lg hs=>Q (.ret v) lg hs) E
 | .If t b f _=>o.tst t env x lg hs (fun c lg hs=>match c with|true=>o.sx b env x lg hs Q E|false=>o.sx f env x lg hs Q E) E
 | .For target iter body orelse _=>o.ev iter env x lg hs (fun v lg hs=>o.tr Value (do let y<-Z11 iter env v;kC iter.pos;Zcz y) x lg hs (fun it lg hs=>
   o.cd (.forLoop target it body orelse env) (x.call none) lg hs fun r lg hs=>match r with
    | .ok f=>Q f lg hs
    | .error e=>Zm3 o e env x lg hs E) E) E
 | .While test body orelse _=>o.cd (.whileLoop test body orelse env) (x.call none) lg hs fun r lg hs=>match r with
    | .ok f=>Q f lg hs
    | .error _=>Zd "an exception leaves a loop"
 | .Expr value pos=>match Z66 value with
   |true=>Zd "a comprehension dropped"
   |false=>match Z7v env with
    |true=>Zd "interactive"
    |false=>o.ev value env x lg hs (fun v lg hs=>o.tr Flow (Zb9 value pos v) x lg hs Q E) E
 | .Assign targets value pos=>match Z66 value with
   |true=>o.tr Flow (Z7r [.Assign targets value pos] env) x lg hs Q E
   |false=>o.ev value env x lg hs (fun v lg hs=>o.tr Flow (do let j<-Z63 targets value env;Z7n env v j ((Z9w targets env).map (·.2))) x lg hs Q E) E
 | .Assert t _ _=>o.tst t env x lg hs (fun c lg hs=>match c with|true=>Q .next lg hs|false=>Zd "an assert falls") E
 | .Raise (some e) none _=>o.ev e env x lg hs (fun v lg hs=>o.tr Flow (Zba env (some (.pure v)) none) x lg hs Q E) E
 | .Try body hds orelse final pos=>match hds,orelse,final with
  |[.ExceptHandler (some t) (some n) (b::suite) hp],[],[]=>o.sx body env x lg hs Q fun e lg hs=>Zf8 o e env x lg hs (fun _ lg hs=>o.tr Unit (Z2d e Option.none) x lg hs (fun _ lg hs=>
    o.ev t env (x.call (some e)) lg hs (fun c lg hs=>o.tr Bool (Z9x e c) (x.call (some e)) lg hs (fun a lg hs=>match a with
     |true=>o.tr Unit (Z2d e Option.none) (x.call (some e)) lg hs (fun _ lg hs=>o.tr Unit (Z7w env n e) (x.call (some e)) lg hs (fun _ lg hs=>o.sx (b::suite) env (x.call (some e)) lg hs (fun f lg hs=>
       o.tr Unit (do Z7w env n .none;Z7o env n hp) x lg hs (fun _ lg hs=>Q f lg hs) Z2e) Z2e) Z2e) Z2e
     |false=>Zd "another exception") Z2e) Z2e) Z2e) Z2e
  |_,_,_=>o.tr Flow (Z7r [.Try body hds orelse final pos] env) x lg hs Q E
 |s=>o.tr Flow (Z7r [s] env) x lg hs Q E
def sxS(o:Jr)(ss:List Stmt)(env:Env)(x:Cx)(lg:Lg)(hs:Hs)(Q:K Flow)(E:K Value):Z8:=match ss with
 |[]=>Q .next lg hs
 |s::r=>exS o s env x lg hs (fun f lg hs=>match f with
  | .next=>o.sx r env x lg hs Q E
  |f=>Q f lg hs) E
def Z6p(v:V)(g:G)(o:Jr):Jr where
 tr:=trS v o
 cd:=cdS v g o
 ev:=evS g o
 evs:=J3e o
 tst:=J3f g o
 sx:=sxS o
def J3g:Jr where
 tr:=fun y y y y y y y=>Zd "fuel"
 cd:=fun y y y y y=>Zd "fuel"
 ev:=fun y y y y y y y=>Zd "fuel"
 evs:=fun y y y y y y y=>Zd "fuel"
 tst:=fun y y y y y y y=>Zd "fuel"
 sx:=fun y y y y y y y=>Zd "fuel"
def Ql(v:V)(g:G)(n:Nat):Jr:=Nat.rec J3g (fun y o=>Z6p v g o) n
theorem J3h:denote oO=dnZ:=by
 unfold dnZ;simp only[<-ZFast.tableZ_eq,<-ZFast.ze11892475500146522536]
theorem Zgg:@Z6o=@PySem.eval:=(ZFast.ze14044960220447912780).symm
theorem Zqp:@Z7r=@PySem.execs:=(ZFast.ze12563942051412417395).symm
theorem Zgh:@Ze5=@PySem.binaryOp:=(ZFast.ze2036766266224100846).symm
theorem Zew:@Zb8=@PySem.compareOp:=(ZFast.ze12886488535604756494).symm
theorem Zjo:@Zaa=@PySem.unaryOp:=(ZFast.ze3993959178420608569).symm
theorem Zmf:@Zcy=@PySem.truthy:=(ZFast.ze15245631507167962100).symm
theorem Zjp:@Zg8=@PySem.getAttr:=(ZFast.ze4926136581373384958).symm
theorem Z9y:@Zab=@PySem.letTemporaryGo:=(ZFast.ze4759339933501494510).symm
theorem Zbc:@Z7s=@PySem.subscripted:=(ZFast.ze14719866407330433166).symm
theorem Z7p:@Z4i=@PySem.getitemInPython:=(ZFast.ze6419732855643282528).symm
theorem Zgi:@Ze6=@PySem.calleeOf:=(ZFast.ze11328156115524847652).symm
theorem Z40:@Z2z=@PySem.methodCallPos:=(ZFast.ze6137100228056946695).symm
theorem Zgj:@Ze7=@PySem.keeperOf:=(ZFast.ze6818842538254311539).symm
theorem Zjq:@Zg9=@PySem.newList:=(ZFast.ze2244487426110161322).symm
theorem Zgk:@Ze8=@PySem.newTuple:=(ZFast.ze6357449854754888395).symm
theorem Z24:@Z11=@PySem.foldedSetIterable:=(ZFast.ze7768414822394308030).symm
theorem Zbd:@Zcz=@PySem.pyIter:=(ZFast.ze8711993805878244202).symm
theorem Zbe:@Z94=@PySem.pyNext:=(ZFast.ze9404975358583537561).symm
theorem Z80:@Z7t=@PySem.letOwnedTupleGo:=(ZFast.ze1578499551869305889).symm
theorem Z2f:@Z30=@PySem.assign:=(ZFast.ze17772580674575903948).symm
theorem Zad:@Z7n=@PySem.assignStores:=(ZFast.ze2470068587113613483).symm
theorem Z9v:@Z63=@PySem.swappedStores:=(ZFast.ze4016559146275205325).symm
theorem Zd3:@Z9w=@PySem.assignEach:=(ZFast.ze15628205474173192105).symm
theorem Zex:@Zb9=@PySem.dropValue:=(ZFast.ze12372662630863984472).symm
theorem Zgl:@Ze9=@PySem.bindArgs:=(ZFast.ze9782568553167038054).symm
theorem Z81:@Z50=@PySem.newFunctionEnv:=(ZFast.ze11113344188204177931).symm
theorem Z82:@Z7u=@PySem.field:=(ZFast.ze6609576154772507232).symm
theorem Zbf:@Z7v=@PySem.interactive:=(ZFast.ze15112477048112897374).symm
theorem Z41:@Q7=@PySem.behindInMarks:=(ZFast.ze12007256195399038943).symm
theorem Zea:@Zga=@PySem.Code.quiet:=(ZFast.ze17772548960776305114).symm
theorem Z3j:@Z0y=@PySem.methodCallForm:=(ZFast.ze17856382988213008342).symm
theorem Zmg:@Z95=@PySem.isTrue:=(ZFast.ze15418851999007992765).symm
def Z5(r:Z8):Prop:=r.l=r.r/\r.p
theorem Z2 {s:String}(h:Z5 (Zd s)):False:=nomatch h.2
theorem Z6q {q:Req}(h:Z5 (Zg7 q)):False:=nomatch h.2
theorem J0 {x y:Ob}{r:Z8}(h:Z5 (.ob x y r)):x=y/\Z5 r:=by
 haveI j:=h.1;haveI m:=h.2;injection j with a b
 exact⟨a,b,m⟩
theorem Z31 {a b:Nat}{r:Z8}(h:Z5 (.ob (.nat a) (.nat b) r)):a=b/\Z5 r:=by
 haveI j:=J0 h;haveI m:=j.1;haveI q:=j.2;injection m with m
 exact⟨m,q⟩
theorem Zae {f:Ph->Z8}(h:Z5 (.all f))(U:Ph):Z5 (f U):=by
 haveI a:=h.1;haveI j:=h.2;injection a with a
 exact⟨congrFun a U,j U⟩
theorem Zeb {C:Ph->Prop}{f:Ph->Z8}(h:Z5 (.allC C f))(U:Ph)(m:C U):Z5 (f U):=by
 haveI a:=h.1;haveI j:=h.2;injection a with a
 exact⟨congrFun a U,j U m⟩
theorem Ztv {c:Prop}{x y:Z8}(h:Z5 (.two c x y)):(c->Z5 x)/\(¬c->Z5 y):=by
 refine Z7 fun q=> ?_;haveI j:=h.1;haveI m:=h.2.1;haveI I:=h.2.2;injection j with ha hb
 exact q (⟨fun a=>⟨ha,m a⟩,fun a=>⟨hb,I a⟩⟩)
theorem Y4 {c:Prop}{r:Z8}(h:Z5 (.cond c r)):c/\Z5 r:=⟨h.2.1,h.1,h.2.2⟩
theorem Zaf {p:Prop}(h:Z5 (.fin p)):p:=h.2
theorem J4 {q:Req}{hs:Hs}{f:Nat->Hs->Z8}(h:Z5 (pop q hs f)):∃d a,Z5 (f d a):=by
 refine Z7 fun j=> ?_;cases hs with
 |nil=>exact Z6q h
 |d n r=>exact j (⟨n,r,h⟩)
 |two=>exact Z6q h
theorem Zec {q:Req}{hs:Hs}{f:Hs->Hs->Z8}(h:Z5 (fork q hs f)):∃x y,Z5 (f x y):=by
 refine Z7 fun a=> ?_;cases hs with
 |nil=>exact Z6q h
 |d=>exact Z6q h
 |two x y=>exact a (⟨x,y,h⟩)
theorem Z6r {c:Prop}{lg:Lg}{hs:Hs}{Q:Bool->Lg->Hs->Z8}(h:Z5 (split c lg hs Q)):∃x y,(c->Z5 (Q true lg x))/\(¬c->Z5 (Q false lg y)):=by
 refine Z7 fun a=> ?_;obtain⟨x,y,h⟩:=Zec h;refine a ?_;exact⟨x,y,Ztv h⟩
noncomputable def Zag(vs:List Value):Obj:={cls:= .type "tuple",data:= .seq vs.toArray 0}
def Fix(o:Obj):Prop:=o.cls= .type "tuple"\/o.cls= .type "code"
def Y1(h:Heap):Gd->Prop
 | .no=>True
 | .hs l=>∀e∈l,h.get? e.a=some (Zag [.str e.k e.kt, .str e.v e.vt])
 | .si l=>∀e∈l,h.get? e.a=some (Zag [.str e.k e.kt, .int e.c e.ct])
 | .is l=>∀e∈l,h.get? e.a=some (Zag [.int e.c e.ct, .str e.k e.kt])
 | .exc .. =>True
 | .tab l=>∀p∈l,h.get? p.1=some p.2/\p.2.cls= .type "code"
def ExcAt(h:Heap)(a:Addr)(cls:String)(m:Str):Prop:=
 ∃o vs t,h.get? a=some o/\o.cls= .type cls/\o.data= .fields vs/\∃j tk,vs[0]?=some (.ref j)/\h.get? j=some t/\t=Zag [.str m tk]
def Ji(h:Heap)(s:Sl):Prop:=match s.g with
 | .exc cls msg=>ExcAt h s.a cls msg
 |g=>h.get? s.a=some s.o/\Y1 h g
theorem Ji.there {h:Heap}{s:Sl}(x:Ji h s):∃o,h.get? s.a=some o:=by
 unfold Ji at x
 split at x
 ·obtain⟨o,_,_,e,_⟩:=x;exact⟨o,e⟩
 ·exact⟨_,x.1⟩
theorem Y1.mono {h h':Heap}{g:Gd}(x:Y1 h g)(k:∀b o,h.get? b=some o->Fix o->h'.get? b=some o):Y1 h' g:=by
 cases g with
 |no=>trivial
 |exc=>trivial
 |hs l=>exact fun e a=>k _ _ (x e a) (.inl rfl)
 |si l=>exact fun e a=>k _ _ (x e a) (.inl rfl)
 |is l=>exact fun e a=>k _ _ (x e a) (.inl rfl)
 |tab l=>exact fun p j=>⟨k _ _ (x p j).1 (.inr (x p j).2),(x p j).2⟩
theorem Ji.mono {h h':Heap}{s:Sl}(x:Ji h s)(ks:∀o,h.get? s.a=some o->h'.get? s.a=some o)(k:∀b o,h.get? b=some o->Fix o->h'.get? b=some o):Ji h' s:=by
 unfold Ji at x⊢
 split at x
 ·refine Z7 fun q=> ?_;obtain⟨o,vs,t,e,J,y,m,tk,W,I,j⟩:=x;refine q ?_;exact⟨o,vs,t,ks o e,J,y,m,tk,W,k _ _ I (j▸ .inl rfl),j⟩
 ·exact⟨ks _ x.1,x.2.mono k⟩
structure Zt where
 s:Shared
 keep:List Nat
 fr:List Nat
structure Rep(v:V)(B:Zt)(lg:Lg)(h:Heap):Prop where
 size:h.objs.size=aO lg.b lg.m
 slots:∀s∈lg.sl,Ji h s
 nodup:(lg.sl.map Sl.a).Nodup
 low:∀s∈lg.sl,v.kt.get s.a=none
 kt:∀a o,v.kt.get a=some o->h.get? a=some o
 stat:∃o,v.kt.get pV=some o
 own:∀s∈lg.sl,B.s.heap.get? s.a=none\/s.a∈B.keep
 frame:∀b o,B.s.heap.get? b=some o->b∉B.keep->b∉B.fr->h.get? b=some o
 tup:∀b o,B.s.heap.get? b=some o->Fix o->h.get? b=some o
 nolim:h.NoLimit
 big:8<=h.objs.size
 frs:∀b∈B.fr,v.kt.get b=none/\(∀s∈lg.sl,s.a≠b)/\∃o,h.get? b=some o/\o.cls= .type "frame"/\(∀vs,o.data≠ .fields vs)/\∀o0,B.s.heap.get? b=some o0->∃sl,o={o0 with slots:=sl}
structure St(v:V)(B:Zt)(lg:Lg)(s:Shared):Prop where
 rep:Rep v B lg s.heap
 toks:s.toks=aO lg.t lg.i
 gens:s.gens=B.s.gens
 drawn:s.drawn=B.s.drawn
 os:s.os=B.s.os
theorem Qq {l:List Sl}:∀{j:Nat}{s:Sl},Lg.at ⟨b,m,t,i,l⟩ j=some s->l[j]?=some s:=by
 induction l with
 |nil=>intro j s h;contradiction
 |cons x l ih=>
  intro j s h;cases j with
  |zero=>exact h
  |succ j=>exact ih (j:=j) h
theorem Zgm(f:Obj->Obj):∀(l:List Sl)(j:Nat),Zb7 l j f=match l[j]? with|some s=>l.set j {s with o:=f s.o}|none=>l:=by
 intro l
 induction l with
 |nil=>intro j;rfl
 |cons x l ih=>
  intro j;cases j with
  |zero=>rfl
  |succ j=>
   show x::Zb7 l j f=_;rw[ih j];simp only[fK];cases l[j]?<;>rfl
theorem Z83 {l:List Sl}{j:Nat}{s:Sl}(h:l[j]?=some s)(o:Obj):(l.set j {s with o:=o}).map Sl.a=l.map Sl.a:=by
 simp only[qX];exact set_same (by simp only[bE,h];rfl)
theorem Rep.fresh {v:V}{B:Zt}{h:Heap}{lg:Lg}(R:Rep v B lg h){a:Nat}(j:h.get? a=none):B.s.heap.get? a=none\/a∈B.keep:=by
 cases q:B.s.heap.get? a with
 |none=>exact .inl rfl
 |some o=>
  right
  by_cases hk:a∈B.keep
  ·exact hk
  ·exfalso
   by_cases hf:a∈B.fr
   ·obtain⟨_,_,o',e,_⟩:=R.frs a hf;rw[j] at e;contradiction
   ·haveI e:=R.frame a o q hk hf;rw[j] at e;contradiction
theorem Rep.alloc {v:V}{B:Zt}{h:Heap}{lg:Lg}(R:Rep v B lg h){o:Obj}(hf:o.isFreed=false):
  Rep v B {lg with m:=aO lg.m 1,sl:=⟨aO lg.b lg.m,o, .no⟩::lg.sl} (h.push o):=by
 have hs:=R.size;have I:∀b j,h.get? b=some j->(h.push o).get? b=some j:=fun b j e=>aQ _ e;have J:h.get? (aO lg.b lg.m)=none:=by
  cases q:h.get? (aO lg.b lg.m) with
  |none=>rfl
  |some j=>exact absurd (cV q) (by rw[hs];exact jS _)
 refine⟨by rw[kT,hs];rfl, ?_, ?_, ?_,fun a j e=>I _ _ (R.kt a j e),R.stat, ?_,fun b j e X Z=>I _ _ (R.frame b j e X Z),fun b j e q=>I _ _ (R.tup b j e q),R.nolim.push o,aK R.big (by simp only[kT];exact gL _), ?_⟩
 ·intro s hm;rcases aC.mp hm with rfl|hm
  ·refine⟨?_,trivial⟩;show(h.push o).get? (aO lg.b lg.m)=some o;rw[<-hs];exact bT _ hf
  ·exact(R.slots s hm).mono (fun y e=>I _ _ e) (fun y y e y=>I _ _ e)
 ·rw[aP,bM];refine⟨fun hm=> ?_,R.nodup⟩;obtain⟨s,hs',e⟩:=aN.mp hm;obtain⟨j,Y⟩:=(R.slots s hs').there;simp only[e,J] at Y;exact nomatch Y
 ·intro s hm;rcases aC.mp hm with rfl|hm
  ·cases q:v.kt.get (aO lg.b lg.m) with
   |none=>rfl
   |some j=>have:=R.kt _ _ q;rw[J] at this;exact nomatch this
  ·exact R.low s hm
 ·intro s hm;rcases aC.mp hm with rfl|hm
  ·exact R.fresh J
  ·exact R.own s hm
 ·intro b X;refine Z7 fun k'=> ?_;obtain⟨h1,h2,o,W,h4⟩:=R.frs b X;refine k' ?_;refine⟨h1,fun s' hs'=> ?_,o,I _ _ W,h4⟩;rcases aC.mp hs' with rfl|hs'
  ·intro q;rw[<-q] at W;exact absurd W (by rw[J];exact nofun)
  ·exact h2 s' hs'
set_option tactic.hygienic true in theorem Zed {s:Sl}{o':Obj}(h:Zf6 s o'=true):(∀c m,s.g≠ .exc c m)/\¬Fix s.o/\o'.isFreed=false:=by
 unfold Zf6 at h;refine Z7 fun k'=> ?_
 split at h
 ·rename_i hg
  split at h
  ·rename_i hn;refine k' ?_;refine⟨?_, ?_,by simpa using h⟩
   ·intro c m q;rw[q] at hg;contradiction
   ·rintro (e|e)
    ·unfold Zac at hn;rw[e] at hn;simp only at hn;have q:(("tuple":String)=="tuple")=S.eqLit (PySem.code "tuple") "tuple":=congrFun (S.eqLit_eq "tuple" (PySem.code "tuple") rfl) "tuple";rw[<-q] at hn;simp at hn
    ·unfold Zac at hn;rw[e] at hn;simp only at hn;have q:(("code":String)=="code")=S.eqLit (PySem.code "code") "code":=congrFun (S.eqLit_eq "code" (PySem.code "code") rfl) "code";rw[<-q] at hn;simp at hn
     split at hn<;>injection hn
  ·contradiction
 ·contradiction
theorem Z4j {α:Type}:∀{l:List α}{i:Nat}{x:α},Z5i l i=some x->x∈l:=by
 intro a
 induction a with
 |nil=>
  intro _ _ h;exact nomatch h
 |cons y l ih=>
  intro j;cases j with
  |zero=>
   intro x h;have:some y=some x:=h;injection this with this
   exact this▸ .head _
  |succ i=>
   intro x h;exact .tail _ (ih (i:=i) h)
set_option tactic.hygienic true in theorem Zkc {h:Heap}{g:Gd}{i:Nat}{p:Nat×Obj}(e:Zgb g i=some p)(x:Y1 h g):h.get? p.1=some p.2:=by
 unfold Zgb at e
 split at e
 all_goals first
  |(split at e
    ·rename_i q;injection e with e
     subst e;exact x _ (Z4j q)
    ·contradiction)
  |exact(x _ (Z4j e)).1
  |contradiction
set_option tactic.hygienic true in theorem Rep.update {v:V}{B:Zt}{h:Heap}{lg:Lg}(R:Rep v B lg h){j:Nat}{s:Sl}(hj:lg.at j=some s){f:Obj->Obj}(hm:Zf6 s (f s.o)=true):
  Rep v B {lg with sl:=Zb7 lg.sl j f} (h.update s.a f):=by
 refine Z7 fun k'=> ?_;obtain⟨hg,hc,hf⟩:=Zed hm;have hj':lg.sl[j]?=some s:=Qq (b:=lg.b) (m:=lg.m) (t:=lg.t) (i:=lg.i) hj;have hmem:=aZ hj';have ho:h.get? s.a=some s.o:=by
  have:=R.slots s hmem;unfold Ji at this
  split at this
  ·rename_i q;exact absurd q (hg _ _)
  ·exact this.1
 have hs:jC s.a h (h.update s.a f):=dY ..;haveI ge:(h.update s.a f).get? s.a=some (f s.o):=by first|exact gB f ho hf|exact gB _ ho hf
 have ht:∀b o,h.get? b=some o->Fix o->(h.update s.a f).get? b=some o:=fun b o e q=>by
  refine(hs.2 b ?_).trans e;rintro rfl;rw[ho] at e;cases e;exact hc q
 have em:(Zb7 lg.sl j f).map Sl.a=lg.sl.map Sl.a:=by
  rw[Zgm,hj'];exact Z83 hj' _
 refine k' ?_;refine⟨by rw[hs.1];exact R.size, ?_,by rw[em];exact R.nodup, ?_,fun a o e=> ?_,R.stat, ?_, ?_,fun b o e q=>ht _ _ (R.tup b o e q) q, ?_,by rw[hs.1];exact R.big, ?_⟩
 ·intro s' hs';simp only[Zgm,hj'] at hs'
  by_cases e:s'.a=s.a
  ·haveI hx:({s with o:=f s.o}:Sl)∈lg.sl.set j {s with o:=f s.o}:=qY (bJ.mp hj').1 _;haveI nd:((lg.sl.set j {s with o:=f s.o}).map Sl.a).Nodup:=by rw[Z83 hj'];exact R.nodup
   have:s'={s with o:=f s.o}:=by
    have inj:∀{l:List Sl},(l.map Sl.a).Nodup->∀{p q:Sl},p∈l->q∈l->p.a=q.a->p=q:=by
     intro l
     induction l with
     |nil=>intro _ p q hp;contradiction
     |cons x l ih=>
      intro hn p q hp hq e;rw[aP,bM] at hn;cases aC.mp hp with
      |inl h1=>
       cases aC.mp hq with
       |inl h2=>simp only[h1,h2]
       |inr h2=>exact absurd (by simp only[<-h1,e];exact aL h2) hn.1
      |inr h1=>
       cases aC.mp hq with
       |inl h2=>exact absurd (by simp only[<-h2,<-e];exact aL h1) hn.1
       |inr h2=>exact ih hn.2 h1 h2 e
    exact inj nd hs' hx e
   subst this;haveI old:=R.slots s hmem;unfold Ji at old⊢
   split at old
   ·rename_i q;exact absurd q (hg _ _)
   ·exact⟨ge,old.2.mono ht⟩
  ·haveI hs2:s'∈lg.sl:=by
    refine Z7 fun k'=> ?_;rcases nH hs' with q|q
    ·exact k' (q)
    ·exact absurd (by rw[q]) e
   exact(R.slots s' hs2).mono (fun o e'=>(hs.2 _ e).trans e') ht
 ·intro s' hs';have:s'.a∈lg.sl.map Sl.a:=by rw[<-em];exact aL hs'
  obtain⟨s2,h2,e2⟩:=aN.mp this;rw[<-e2];exact R.low s2 h2
 ·refine(hs.2 a ?_).trans (R.kt a o e);rintro rfl;rw[R.low s hmem] at e;contradiction
 ·intro s' hs';have:s'.a∈lg.sl.map Sl.a:=by rw[<-em];exact aL hs'
  obtain⟨s2,h2,e2⟩:=aN.mp this;rw[<-e2];exact R.own s2 h2
 ·intro b o e hb hb2;refine(hs.2 b fun q=> ?_).trans (R.frame b o e hb hb2);rcases R.own s hmem with h1|h1
  ·rw[<-q,e] at h1;contradiction
  ·exact hb (q▸h1)
 ·refine R.nolim.sameBut hs ?_;intro q;obtain⟨o,ho'⟩:=R.stat;rw[q,R.low s hmem] at ho';contradiction
 ·intro b hb;refine Z7 fun k'=> ?_;obtain⟨h1,h2,o,h3,h4⟩:=R.frs b hb;refine k' ?_;refine⟨h1,fun s' hs'=> ?_,o,(hs.2 b fun q=>h2 s hmem q.symm).trans h3,h4⟩;have:s'.a∈lg.sl.map Sl.a:=by rw[<-em];exact aL hs'
  obtain⟨s2,hs2,e2⟩:=aN.mp this;rw[<-e2];exact h2 s2 hs2
structure Jn(s0:Zt)(x:Cx)(A:Around):Prop where
 depth:A.depth<=x.d
 units:A.units<=x.u
 hh:A.handled=x.hh
 fr:∀p,x.fr=some p->A.frames=some (p.1++p.2)/\(∀env∈p.1,env.scope.kind≠ .module)/\∀env∈p.2,env.scope.kind≠ .module/\∃L∈s0.fr,env.frame=some L
def Zn {α:Type}(v:V)(s0:Zt)(Q:K α)(a:α)(s:Shared):Prop:=∃lg hs,Z5 (Q a lg hs)/\St v s0 lg s
abbrev M(v:V):Model:=cP v.prog v.w
def J3i(v:V)(o:Jr):Prop:=∀(s0:Zt) (α:Type) (t:Sem α) (x:Cx) (lg:Lg) (hs:Hs) (Q:K α) (E:K Value) (A:Around) (s:Shared),
 Z5 (o.tr α t x lg hs Q E)->St v s0 lg s->Jn s0 x A->aU (M v) A t (Zn v s0 Q) (Zn v s0 E) s
def J3j(v:V)(o:Jr):Prop:=∀(s0:Zt) (c:Code) (x:Cx) (lg:Lg) (hs:Hs) (R:K Result) (A:Around) (s:Shared),
 Z5 (o.cd c x lg hs R)->St v s0 lg s->Jn s0 x A->bR (M v) A c (Zn v s0 R) s
def J3k(v:V)(o:Jr):Prop:=∀(s0:Zt) (e:Expr) (env:Env) (x:Cx) (lg:Lg) (hs:Hs) (Q:K Value) (E:K Value) (A:Around) (s:Shared),
 Z5 (o.ev e env x lg hs Q E)->St v s0 lg s->Jn s0 x A->aU (M v) A (lP e env) (Zn v s0 Q) (Zn v s0 E) s
def Zye(v:V)(o:Jr):Prop:=∀(s0:Zt) (j:List Expr) (env:Env) (x:Cx) (lg:Lg) (hs:Hs) (Q:K (List Value)) (E:K Value) (A:Around) (s:Shared),
 Z5 (o.evs j env x lg hs Q E)->St v s0 lg s->Jn s0 x A->(∀a,Z0u j=true->aU (M v) A (spliced (nT a (jT j env))) (Zn v s0 Q) (Zn v s0 E) s)/\
  ∀a:Pos,aU (M v) A (evalAll (j.map fun e=>do let v<-lP e env;kC a;pure v)) (Zn v s0 Q) (Zn v s0 E) s
def Zyf(v:V)(o:Jr):Prop:=∀(s0:Zt) (e:Expr) (env:Env) (x:Cx) (lg:Lg) (hs:Hs) (Q:K Bool) (E:K Value) (A:Around) (s:Shared),
 Z5 (o.tst e env x lg hs Q E)->St v s0 lg s->Jn s0 x A->aU (M v) A (PySem.isTrue e env (lP e env)) (Zn v s0 Q) (Zn v s0 E) s
def J3l(v:V)(o:Jr):Prop:=∀(s0:Zt) (ss:List Stmt) (env:Env) (x:Cx) (lg:Lg) (hs:Hs) (Q:K Flow) (E:K Value) (A:Around) (s:Shared),
 Z5 (o.sx ss env x lg hs Q E)->St v s0 lg s->Jn s0 x A->aU (M v) A (nA ss env) (Zn v s0 Q) (Zn v s0 E) s
structure Jm(v:V)(o:Jr):Prop where
 tr:J3i v o
 cd:J3j v o
 ev:J3k v o
 evs:Zye v o
 tst:Zyf v o
 sx:J3l v o
def Za(v:V)(f:Ctr):Prop:=∀(s0:Zt) (c:Code) (x:Cx) (lg:Lg) (hs:Hs) (R:K Result) (A:Around) (s:Shared),
 Z5 (f x c lg hs R)->St v s0 lg s->Jn s0 x A->bR (M v) A c (Zn v s0 R) s
def Z1t(v:V)(f:Cmp):Prop:=∀(s0:Zt) (j:CmpOp) (a b:Value) (x:Cx) (lg:Lg) (hs:Hs) (R:K Bool) (E:Value->Shared->Prop) (A:Around) (s:Shared),
 Z5 (f x j a b lg hs R)->St v s0 lg s->Jn s0 x A->aU (M v) A (iW j a b) (fun r s'=>∃β,r= .bool β/\Zn v s0 R β s') E s
structure J5(v:V)(g:G):Prop where
 ctr:∀f∈g.ctr,Za v f
 cmp:∀f∈g.cmp,Z1t v f
theorem Jn.mark {s0:Zt}{x:Cx}{A:Around}(h:Jn s0 x A)(a:Option Value):Jn s0 (x.call a) (A.mark a):=
 ⟨h.depth,h.units,by show a.or A.handled=a.or x.hh;rw[h.hh],h.fr⟩
theorem St.next {v:V}{s0:Zt}{s:Shared}{lg:Lg}(h:St v s0 lg s):St v s0 {lg with i:=aO lg.i 1} {s with toks:=s.toks+1}:=
 ⟨⟨h.rep.size,h.rep.slots,h.rep.nodup,h.rep.low,h.rep.kt,h.rep.stat,h.rep.own,h.rep.frame,h.rep.tup,h.rep.nolim,h.rep.big,h.rep.frs⟩,by show s.toks+1=_;rw[h.toks];rfl,h.gens,h.drawn,h.os⟩
section
variable {v:V}{o:Jr}
set_option tactic.hygienic true in theorem J05(g:G)(O:Jm v o):J3i v (Z6p v g o):=by
 intro s0 α t x lg hs Q E A s hg hst ha;change Z5 (trS v o α t x lg hs Q E) at hg;unfold trS at hg;cases t with
 |pure a=>exact aH ⟨lg,hs,hg,hst⟩
 |raise e=>exact wpAny_throw (α:=α) ⟨lg,hs,hg,hst⟩
 |rule _ k=>exact x_rule (O.tr s0 α _ x lg hs Q E A s hg hst ha)
 |«at» _ k=>exact x_at (O.tr s0 α _ x lg hs Q E A s hg hst ha)
 |point _ k=>exact x_point (O.tr s0 α _ x lg hs Q E A s hg hst ha)
 |ask k=>exact x_ask (O.tr s0 α _ x lg hs Q E A s hg hst ha)
 |load a q k=>
  simp only at hg;refine Z7 fun k'=> ?_;obtain⟨d,hs',hg⟩:=J4 hg;cases d with
  |zero=>
   simp only at hg
   split at hg
   ·rename_i ob e;exact k' (sL (hst.rep.kt a ob e) (O.tr s0 α _ x lg hs' Q E A s hg hst ha))
   ·exact Z2 hg
  |succ j=>
   simp only at hg
   split at hg
   ·rename_i sl e;haveI hm:=aZ (Qq (b:=lg.b) (m:=lg.m) (t:=lg.t) (i:=lg.i) e)
    split at hg
    ·exact Z2 hg
    ·rename_i hng;obtain⟨ea,hg⟩:=Z31 hg;have hs2:=hst.rep.slots sl hm;unfold Ji at hs2
     split at hs2
     ·rename_i cls msg q;rw[hng] at q;contradiction
     ·exact k' (sL (ea▸hs2.1) (O.tr s0 α _ x lg hs' Q E A s hg hst ha))
    ·rename_i hng _;haveI hs2:=hst.rep.slots sl hm;unfold Ji at hs2
     split at hs2
     ·rename_i cls msg q;exact absurd q (hng cls msg)
     ·obtain⟨d2,hs2',hg⟩:=J4 hg;cases d2 with
      |zero=>
       obtain⟨ea,hg⟩:=Z31 hg;exact k' (sL (ea▸hs2.1) (O.tr s0 α _ x lg hs2' Q E A s hg hst ha))
      |succ i=>
       simp only at hg
       split at hg
       ·rename_i p ep;haveI hO55:=Z31 hg;haveI ea:=hO55.1;haveI hg:=hO55.2;exact k' (sL (ea▸Zkc ep hs2.2) (O.tr s0 α _ x lg hs2' Q E A s hg hst ha))
       ·exact Z2 hg
   ·exact Z2 hg
 |update a q f k=>
  simp only at hg;refine Z7 fun k'=> ?_;obtain⟨d,hs',hg⟩:=J4 hg;cases d with
  |zero=>exact Z2 hg
  |succ j=>
   simp only at hg
   split at hg
   ·rename_i sl e
    split at hg
    ·rename_i hmu;obtain⟨ea,hg2⟩:=Z31 hg;clear hg;subst ea;have hm:=aZ (Qq (b:=lg.b) (m:=lg.m) (t:=lg.t) (i:=lg.i) e);have ho:s.heap.get? sl.a=some sl.o:=by
      have:=hst.rep.slots sl hm;unfold Ji at this
      split at this
      ·rename_i q;exact absurd q ((Zed hmu).1 _ _)
      ·exact this.1
     refine k' ?_;refine aA (m:=updatePart sl.a q f) (f:=k) (wpAny_updatePart ho ?_);exact O.tr s0 α _ x _ hs' Q E A _ hg2 ⟨hst.rep.update e hmu,hst.toks,hst.gens,hst.drawn,hst.os⟩ ha
    ·exact Z2 hg
   ·exact Z2 hg
 |alloc ob k=>
  simp only at hg;refine Z7 fun k'=> ?_
  split at hg
  ·rename_i hf;refine k' ?_;refine aA (m:=alloc ob) (f:=k) (wpAny_alloc ?_);rw[show s.heap.objs.size=aO lg.b lg.m from hst.rep.size];exact O.tr s0 α _ x _ hs Q E A _ hg ⟨hst.rep.alloc hf,hst.toks,hst.gens,hst.drawn,hst.os⟩ ha
  ·exact Z2 hg
 |fresh k=>
  refine x_fresh ?_;rw[hst.toks];have:=O.tr s0 α _ x _ hs Q E A _ hg hst.next ha
  rw[hst.toks] at this;exact this
 |handled own k=>
  simp only at hg;cases own with
  |true=>exact(Z2 hg).elim
  |false=>exact x_handled (by rw[ha.hh];exact O.tr s0 α _ x lg hs Q E A s hg hst ha)
 |call c hd gd l k=>
  simp only at hg
  split at hg
  ·rename_i hm;haveI hnb:hd≠some byPass:=by
    intro e;subst e;simp[okMark] at hm
   refine x_call ?_ hnb;refine cC (O.cd s0 c _ lg hs _ _ s hg hst (ha.mark hd)) ?_;rintro r s' ⟨lg',hs',hg',hst'⟩;exact O.tr s0 α _ x lg' hs' Q E A s' hg' hst' ha
  ·exact(Z2 hg).elim
 |unsupported w=>exact(Z2 hg).elim
 |finish=>exact(Z2 hg).elim
 |loadIfAlive=>exact(Z2 hg).elim
 |register=>exact(Z2 hg).elim
 |choose=>exact(Z2 hg).elim
 |os=>exact(Z2 hg).elim
 |newGen=>exact(Z2 hg).elim
 |genState=>exact(Z2 hg).elim
 |resume=>exact(Z2 hg).elim
 |yield=>exact(Z2 hg).elim
 |stack=>exact(Z2 hg).elim
 |fork=>exact(Z2 hg).elim
 |thread=>exact(Z2 hg).elim
 |await=>exact(Z2 hg).elim
end
theorem Yg {α:Type}{v:V}{s0:Zt}{m:String}{a:α}{s:Shared}(h:Zn v s0 (fun y y y=>Zd m) a s):False:=by
 haveI g:=(bF (bF (h))).1;exact Z2 g
theorem Zgn {id:String}{args:Args}(h:Z3i (.builtin id args)=true):id≠"claim.caller":=by
 rintro rfl;unfold Z3i at h;haveI q:(("claim.caller":String)=="claim.caller")=S.eqLit (PySem.code "claim.caller") "claim.caller":=congrFun (S.eqLit_eq "claim.caller" (PySem.code "claim.caller") rfl) "claim.caller";simp only at h;rw[<-q] at h;simp at h
theorem J06 {c:Prop} [Decidable c]{a:c->Nat}{b:¬c->Nat}{n:Nat}(j:∀h,a h<=n)(m:∀h,b h<=n):dite c a b<=n:=by
 by_cases h:c
 ·rw[dif_pos h];exact j h
 ·rw[dif_neg h];exact m h
theorem Zqq {id:String}{args:Args}:(Code.builtin id args).frames<=3:=by
 delta Code.frames Code.frames.match_1;dsimp only
 repeat' refine J06 (fun h=>by cases h;exact aW rfl) (fun h=> ?_)
 exact aW rfl
set_option tactic.hygienic true in theorem Z3p {id:String}{args:Args}(hn:Z3i (.builtin id args)=true):(Code.builtin id args).weight<=5/\(Code.builtin id args).cUnits<=10:=by
 haveI hc:=Zgn hn;haveI hf:(Code.builtin id args).frames<=3:=Zqq;refine⟨?_,by show 1+3*(Code.builtin id args).frames<=10;exact Zm [] [_] [.n Zr Z2b, .n Zr Z2b, .n Zr Z2b] (.n (.a Q4 (.m 3 Zr)) lQ8) rfl hf hf hf⟩;unfold Code.weight;have:(Code.builtin id args).isCaller=false:=by
  unfold Code.isCaller
  split
  ·rename_i e;cases e;exact absurd rfl hc
  ·rfl
 rw[this];simp only[cA,if_false]
 split<;>split<;>lia
set_option tactic.hygienic true in theorem Jn.push {s0:Zt}{x:Cx}{A:Around}(h:Jn s0 x A)(env:Env)(p:List Env×List Env)(hp:Zm2 env x.fr=some p):A.frames.map (env::·)=some (p.1++p.2)/\(∀env∈p.1,env.scope.kind≠ .module)/\∀env∈p.2,env.scope.kind≠ .module/\∃L∈s0.fr,env.frame=some L:=by
 unfold Zm2 at hp;refine Z7 fun k'=> ?_
 split at hp
 ·cases hp
 ·rename_i q e
  split at hp
  ·cases hp
  ·rename_i hk;cases hp;obtain⟨h1,h2,h3⟩:=h.fr q e;refine k' ?_;refine⟨by rw[h1];rfl,fun env' he=> ?_,h3⟩;rcases aC.mp he with rfl|he
   ·intro z;rw[z] at hk;cases hk
   ·exact h2 _ he
theorem Jn.under {s0:Zt}{x:Cx}{A:Around}(h:Jn s0 x A){c:Code}(J:Z3i c=true):Jn s0 (x.under c) (A.under c):=by
 have j:∀(d u:Nat) (fr:Option (List Env×List Env)),c.weight<=d->c.cUnits<=u->(∀p,fr=some p->pushEnvs c.envs A.frames=some (p.1++p.2)/\(∀env∈p.1,env.scope.kind≠ .module)/\∀env∈p.2,env.scope.kind≠ .module/\∃L∈s0.fr,env.frame=some L)->Jn s0 ⟨aO x.d d,aO x.u u,x.hh,fr⟩ (A.under c):=fun d u fr I q W=>
  ⟨qM h.depth I,qM h.units q,h.hh,W⟩
 have m:c.weight<=1->c.cUnits<=3->Jn s0 ⟨aO x.d 1,aO x.u 3,x.hh,none⟩ (A.under c):=fun I q=>j 1 3 none I q fun y e=>nomatch e;have it:∀b:Bool,(if b=true then 1 else 0)+0+0+0<=1/\3*(if b=true then 1 else 0)<=3:=by decide
 cases c with
 |builtin id args=>exact j 5 10 _ (Z3p J).1 (Z3p J).2 h.fr
 |call f a=>exact j 0 1 _ (aW rfl) (aW rfl) h.fr
 |func b env=>exact j 1 3 _ (aW rfl) (aW rfl) fun p e=>h.push env p e
 |compStart e d it' acc env=>exact m (it _).1 (it _).2
 |compLoop e d it' acc env=>exact m (it _).1 (it _).2
 |_=>exact m (aW rfl) (aW rfl)
theorem J07 {β γ:Type}(c:Value)(q:Str)(j:Str->Sem γ)(a:Str->Sem β)(k:β->Sem γ)(h:∀x,j x=a x>>=k):
  (match c with| .none=>(do let x<-pure q;j x)|c=>(do match<-mA c 1 with| .str q _=>(do let x<-pure q;j x)|_=>(do let x<-pure q;j x)))=
  (match c with| .none=>(do let x<-pure q;a x)|c=>(do match<-mA c 1 with| .str q _=>(do let x<-pure q;a x)|_=>(do let x<-pure q;a x)))>>=k:=by
 obtain rfl:j=fun x=>a x>>=k:=funext h;dsimp only[pure_bind];haveI i:∀l:Value,(match l with| .str q _=>a q>>=k|_=>a q>>=k)=(match l with| .str q _=>a q|_=>a q)>>=k:=fun l=>by cases l<;>rfl
 haveI e:∀c:Value,(mA c 1>>=fun l=>(match l with| .str q _=>a q>>=k|_=>a q>>=k))=(mA c 1>>=fun l=>(match l with| .str q _=>a q|_=>a q))>>=k:=fun c=>by simp only[bind_assoc];exact congrArg _ (funext i)
 cases c<;>first|rfl|exact e _
theorem Zee(a:Addr)(j:FuncData)(args:Args)(m:j.scope.isGenerator=false)(q:j.scope.isCoroutine=false):
  callFunction a j args=Z97 a j args>>=fun code=>enterFrame>>=fun y=>again code:=by
 delta callFunction Z97;rw[Z82,Z81,Zgl,m,q];refine J07 j.code j.qualname _ _ _ fun x=> ?_;simp only[bind_assoc];refine congrArg _ (funext fun y=>congrArg _ (funext fun env=> ?_));cases j.body<;>rfl
section
variable {v:V}{o:Jr}
set_option tactic.hygienic true in theorem Zgo(O:Jm v o){s0:Zt}{c:Code}{x:Cx}{lg:Lg}{hs:Hs}{R:K Result}{A:Around}{s:Shared}(hg:Z5 (Z64 o c x lg hs R))(hst:St v s0 lg s)(ha:Jn s0 x A):
  bR (M v) A c (Zn v s0 R) s:=by
 unfold Z64 at hg;refine Z7 fun k'=> ?_
 split at hg
 ·rename_i hn;refine k' ?_;refine jM ?_;rw[J3h];refine bC (O.tr s0 PySem.Fin _ _ lg hs _ _ _ s hg hst (ha.under hn)) ?_ (fun e s' h=>h);rintro fin s' ⟨lg',hs',hg',hst'⟩;cases fin with
  |done f=>exact⟨lg',hs',hg',hst'⟩
  |again c'=>
   simp only at hg'
   split at hg'
   ·rename_i hq;rw[Zea] at hq;exact⟨hq,O.cd s0 c' x lg' hs' R A s' hg' hst' ha⟩
   ·exact(Z2 hg').elim
 ·exact Z2 hg
set_option tactic.hygienic true in theorem Zyg(O:Jm v o){s0:Zt}{a:Addr}{args:Args}{x:Cx}{ob:Obj}{lg:Lg}{hs:Hs}{R:K Result}{A:Around}{s:Shared}(hg:Z5 (fnS o a args (.call (.ref a) args) x ob lg hs R))(ho:s.heap.get? a=some ob)
  (hst:St v s0 lg s) (ha:Jn s0 x A):bR (M v) A (.call (.ref a) args) (Zn v s0 R) s:=by
 unfold fnS at hg
 split at hg
 ·rename_i fd hd
  split at hg
  ·exact(Z2 hg).elim
  ·rename_i hgen
   split at hg
   ·exact(Z2 hg).elim
   ·rename_i hco
    split at hg
    ·rename_i hr;refine jM ?_;show aU _ _ (qZ (.ref a) args) _ _ s;dsimp only[qZ];refine aA (wpAny_load ho ?_);simp only[hd];simp only[Zee a fd args hgen hco];refine aA (bC (O.tr s0 Code _ _ lg hs _ _ _ s hg hst (ha.under rfl)) ?_ (fun e s' h=>h));rintro code s' ⟨lg',hs',hg',hst'⟩;simp only at hg'
     split at hg'
     ·rename_i hq;rw[Zea] at hq;refine aA (rK hst'.rep.nolim ?_ (aH ⟨hq,O.cd s0 code x lg' hs' R A s' hg' hst' ha⟩));unfold room at hr
      split at hr
      ·rename_i h1;have:=aW h1;haveI h2:=(ha.under (c:= .call (.ref a) args) rfl).depth;simp only[Cx.under] at h2;show _<1000;exact Zm [] [_,_] [Yl, .n Yi (.n 950)] Ztj rfl h2 this
      ·contradiction
     ·exact(Z2 hg').elim
    ·exact(Z2 hg).elim
 ·exact Zgo O hg hst ha
theorem Jn.deeper {s0:Zt}{x:Cx}{A:Around}(h:Jn s0 x A)(env:Env)(body:List Stmt):Jn s0 (x.under (.func body env)) (A.deeper env):=
 ⟨by show A.depth+1<=x.d+1;have:=h.depth;exact dG this,by show A.units+3<=x.u+3;have:=h.units;exact Zm [] [_,_] [Yl] (.n (.a Zr Z2b) (.a Yi Z2b)) rfl this,h.hh,h.push env⟩
theorem Qf {A:Around}{c:Code}(h:c.weight=0:=by rfl) (a:c.cUnits=0:=by rfl):A.under c=A:=
 Around.under_of_weight h a
end
section
variable {v:V}{s0:Zt}{A:Around}{s:Shared}{α:Type}
theorem pm {m:Sem α}{j:K α}{E:Value->Shared->Prop}{Q:α->Shared->Prop}(H:aU (M v) A m (Zn v s0 j) E s)(h:∀a s' lg hs,Z5 (j a lg hs)->St v s0 lg s'->Q a s'):aU (M v) A m Q E s:=
 bC H (fun a s' ⟨lg,hs,g,st⟩=>h a s' lg hs g st) fun y y h=>h
theorem pmb {m:Sem α}{j:K α}{q:String}{E:Value->Shared->Prop}{Q:α->Shared->Prop}(H:aU (M v) A m (Zn v s0 j) (Zn v s0 fun y y y=>Zd q) s)(h:∀a s' lg hs,Z5 (j a lg hs)->St v s0 lg s'->Q a s'):aU (M v) A m Q E s:=
 bC H (fun a s' ⟨lg,hs,g,st⟩=>h a s' lg hs g st) fun y y h=>(Yg h).elim
theorem cm {c:Code}{R:K Result}{Q:Result->Shared->Prop}(H:bR (M v) A c (Zn v s0 R) s)(h:∀r s' lg hs,Z5 (R r lg hs)->St v s0 lg s'->Q r s'):bR (M v) A c Q s:=
 cC H fun r s' ⟨lg,hs,g,st⟩=>h r s' lg hs g st
theorem tt {b:Bool}{r:Z8}{q:String}(h:Z5 (match b with|true=>r|false=>Zd q)):b=true/\Z5 r:=by
 cases b with
 |true=>exact⟨rfl,h⟩
 |false=>exact(Z2 h).elim
theorem tf {b:Bool}{r:Z8}{q:String}(h:Z5 (match b with|true=>Zd q|false=>r)):b=false/\Z5 r:=by
 cases b with
 |true=>exact(Z2 h).elim
 |false=>exact⟨rfl,h⟩
theorem sm {β:Type}{a:Option β}{f:β->Z8}{q:String}(h:Z5 (match a with|some x=>f x|none=>Zd q)):∃x,a=some x/\Z5 (f x):=by
 cases a with
 |some x=>exact⟨x,rfl,h⟩
 |none=>exact(Z2 h).elim
end
set_option tactic.hygienic true in theorem Z6s {o:Obj}:Z0s o=true↔o.cls= .type "frame":=by
 unfold Z0s;constructor
 ·intro h
  split at h
  ·rename_i n e;haveI q:(n=="frame")=S.eqLit (PySem.code "frame") n:=congrFun (S.eqLit_eq "frame" (PySem.code "frame") rfl) n;rw[<-q] at h;simp only[e,eq_of_beq h]
  ·contradiction
 ·intro h;rw[h];have q:(("frame":String)=="frame")=S.eqLit (PySem.code "frame") "frame":=congrFun (S.eqLit_eq "frame" (PySem.code "frame") rfl) "frame";simp only;rw[<-q];simp
theorem Zgp {o:Obj}(h:Z51 o=true):∀vs,o.data≠ .fields vs:=by
 intro vs e;unfold Z51 at h;rw[e] at h;contradiction
theorem Zef {U:Ph}:∀{l:List Sl}{k:Nat}{s':Sl},s'∈Z42 U l k->∃j s,l[j]?=some s/\s'=(match Z0s s.o with|true=>{s with o:={s.o with slots:=(U.w (k+j)).o.slots}}|false=>s):=by
 intro a
 induction a with
 |nil=>
  intro k s' h;exact nomatch h
 |cons s l ih=>
  intro k s' h;haveI h':s'∈(match Z0s s.o with|true=>{s with o:={s.o with slots:=(U.w k).o.slots}}|false=>s)::Z42 U l (Nat.succ k):=h;rcases aC.mp h' with q|q
  ·exact⟨0,s,rfl,q⟩
  ·refine Z7 fun y=> ?_;obtain⟨j,m,e,q⟩:=ih q;refine y ?_;refine⟨j+1,m,e, ?_⟩;rw[q,show k+(j+1)=Nat.succ k+j by lia]
theorem Zd4(U:Ph):∀(l:List Sl)(k:Nat),(Z42 U l k).map Sl.a=l.map Sl.a:=by
 intro j
 induction j with
 |nil=>
  intro _;exact rfl
 |cons s l ih=>
  intro k;show(match Z0s s.o with|true=>({s with o:={s.o with slots:=(U.w k).o.slots}}:Sl)|false=>s).a::(Z42 U l (Nat.succ k)).map Sl.a=_;rw[ih]
  split<;>rfl
theorem Zd5:∀{l:List Sl},(l.map Sl.a).Nodup->∀{p q:Sl},p∈l->q∈l->p.a=q.a->p=q:=by
 intro I
 induction I with
 |nil=>
  intro _ p q m _ _;exact nomatch m
 |cons x l ih=>
  intro j p q m y e;rw[aP,bM] at j;rcases aC.mp m with h1|h1
  ·rcases aC.mp y with h2|h2
   ·simp only[h1,h2]
   ·exact absurd (by rw[<-h1,e];exact aL h2) j.1
  ·rcases aC.mp y with h2|h2
   ·exact absurd (by rw[<-h2,<-e];exact aL h1) j.1
   ·exact ih j.2 h1 h2 e
def Zmh(h:Heap)(lg:Lg)(env:Env):Prop:=∃s,s∈lg.sl/\env.frame=some s.a/\h.get? s.a=some s.o/\s.o.cls= .type "frame"/\∀vs,s.o.data≠ .fields vs
set_option tactic.hygienic true in theorem Ji.plain {h:Heap}{s:Sl}(x:Ji h s)(e:Zy s.g=true):h.get? s.a=some s.o:=by
 unfold Ji at x
 split at x
 ·rename_i q;rw[q] at e;contradiction
 ·exact x.1
theorem Zeg {a b:Bool}:Yz a b=true↔a=true/\b=true:=by cases a<;>simp[Yz]
set_option tactic.hygienic true in theorem Z9z {lg:Lg}{h:Heap}(o:∀s∈lg.sl,Ji h s):∀{fs:List Env}{hs:Hs}{k:List Nat->Hs->Z8},Z5 (Zbb fs lg hs k)->
  ∃js hs',(∀env∈fs,Zmh h lg env)/\(∀env∈fs,∃j∈js,∃s,lg.sl[j]?=some s/\env.frame=some s.a)/\Z5 (k js hs'):=by
 intro z0_
 induction z0_ with
 |nil=>
  intro hs k g;exact⟨[],hs,fun _ h=>(nomatch h),fun _ h=>(nomatch h),g⟩
 |cons env fs ih=>
  intro hs k g;haveI g':Z5 (match env.frame with
   |some L=>pop (.load L lg) hs fun j hs=>(match lg.at j with
    |some s=>(match Yz (Z0s s.o) (Yz (Zy s.g) (Z51 s.o)) with
     |true=>Z8.ob (.nat L) (.nat s.a) (Zbb fs lg hs fun js hs=>k (j::js) hs)
     |false=>Zd "frames: what")
    |none=>Zd "frames: slot")
   |none=>Zd "frames: none"):=g
  clear g;refine Z7 fun k'=> ?_
  split at g'
  ·rename_i L eL;obtain⟨j,hs1,g⟩:=J4 g'
   split at g
   ·rename_i s e;have hm:=Qq (b:=lg.b) (m:=lg.m) (t:=lg.t) (i:=lg.i) e
    split at g
    ·rename_i q;rw[Zeg,Zeg] at q;obtain⟨ea,g⟩:=Z31 g;obtain⟨js,hs',h1,h2,h3⟩:=ih g;have f:Zmh h lg env:=⟨s,aZ hm,by rw[eL,ea],(o s (aZ hm)).plain q.2.1,Z6s.mp q.1,Zgp q.2.2⟩;refine k' ?_;refine⟨j::js,hs',fun env' he=> ?_,fun env' he=> ?_,h3⟩
     ·rcases aC.mp he with rfl|he
      ·exact f
      ·exact h1 _ he
     ·rcases aC.mp he with rfl|he
      ·exact⟨j, .head _,s,hm,by rw[eL,ea]⟩
      ·obtain⟨j',a,b⟩:=h2 _ he;exact⟨j', .tail _ a,b⟩
    ·exact Z2 g
   ·exact Z2 g
  ·exact k' ((Z2 g').elim)
noncomputable def Z67(h:Heap)(lg:Lg)(j:Nat):Array (Option Value):=match lg.sl[j]? with
 |some s=>(match h.get? s.a with|some o=>o.slots|none=>#[])
 |none=>#[]
def Ztw(h:Heap)(lg:Lg)(a:List Value):Ph:=⟨0,0, .none,fun j=>⟨0,⟨.none,none, .seq ⟨a⟩ 0,Z67 h lg j⟩, .no⟩⟩
theorem J3m {h h':Heap}{S:List Addr}(m:qI S h h')(j:∀b∈S,∃o,h.get? b=some o/\o.cls= .type "frame")(b:Addr)(o:Obj)(e:h.get? b=some o)(q:Fix o):h'.get? b=some o:=by
 rw[m.2.1 b fun y=> ?_];exact e;obtain⟨o',a,c⟩:=j b y;rw[e] at a;cases a;rcases q with q|q<;>(rw[q] at c;injection c with c;exact absurd c (by decide))
theorem Ji.marked {h h':Heap}{s:Sl}{sl:Array (Option Value)}(x:Ji h s)(k:∀o,h.get? s.a=some o->∃sl,h'.get? s.a=some {o with slots:=sl}) (e:∀o,h'.get? s.a=some o->sl=o.slots) (m:∀b o,h.get? b=some o->Fix o->h'.get? b=some o):Ji h' {s with o:={s.o with slots:=sl}}:=by
 obtain⟨a,W,g⟩:=s;cases g with
 |exc cls msg=>
  refine Z7 fun k'=> ?_;obtain⟨o,vs,t,I,hc,X,J,tk,Y,Z,q⟩:=x;obtain⟨y,j⟩:=k o I;refine k' ?_;exact⟨_,vs,t,j,hc,X,J,tk,Y,m _ _ Z (q▸ .inl rfl),q⟩
 |_=>
  obtain⟨y,j⟩:=k W x.1;cases e _ j;exact⟨j,x.2.mono m⟩
theorem Rep.slotsOnly {v:V}{B:Zt}{lg:Lg}{h h':Heap}(R:Rep v B lg h){S:List Addr}(I:qI S h h')
  (hS:∀b∈S,b∈B.fr\/∃s∈lg.sl,s.a=b/\h.get? b=some s.o/\s.o.cls= .type "frame") {U:Ph} (hφ:∀j,(U.w j).o.slots=Z67 h' lg j):Rep v B {lg with sl:=Z42 U lg.sl 0} h':=by
 haveI hF:∀b∈S,∃o,h.get? b=some o/\o.cls= .type "frame":=fun b y=>by
  rcases hS b y with q|⟨s,hs,Y,eo,ec⟩
  ·obtain⟨_,_,o,e,c,_⟩:=R.frs b q;exact⟨o,e,c⟩
  ·exact⟨s.o,eo,ec⟩
 have tup:=fun b o (e:h.get? b=some o) (q:Fix o)=>J3m I hF b o e q;have kt0:∀b∈S,v.kt.get b=none:=fun b y=>by
  rcases hS b y with q|⟨s,hs,Y,_,_⟩
  ·exact(R.frs b q).1
  ·rw[<-Y];exact R.low s hs
 haveI Y:({lg with sl:=Z42 U lg.sl 0}:Lg).sl.map Sl.a=lg.sl.map Sl.a:=Zd4 U lg.sl 0;have W:∀s'∈Z42 U lg.sl 0,∃s∈lg.sl,s.a=s'.a:=fun s' m=>by
  have:s'.a∈lg.sl.map Sl.a:=by rw[<-Zd4 U lg.sl 0];exact aL m
  obtain⟨s,J,X⟩:=aN.mp this;exact⟨s,J,X⟩
 refine⟨by rw[I.1];exact R.size, ?_,by rw[Y];exact R.nodup, ?_,fun a o e=> ?_,R.stat, ?_, ?_, ?_, ?_,by rw[I.1];exact R.big, ?_⟩
 ·intro s' m;obtain⟨j,s,ej,rfl⟩:=Zef m;have hs:=aZ ej;rw[dH];cases y:Z0s s.o with
  |true=>exact(R.slots s hs).marked (fun o e=>I.2.2 _ _ e) (fun o e=>by rw[hφ];unfold Z67;rw[ej];simp only[e]) tup
  |false=>
   refine(R.slots s hs).mono (fun o e=>(I.2.1 s.a fun Z=> ?_).trans e) tup;rcases hS _ Z with q|⟨s2,hs2,ea2,eo2,ec2⟩
   ·exact(R.frs _ q).2.1 s hs rfl
   ·cases Zd5 R.nodup hs2 hs ea2;rw[Z6s.mpr ec2] at y;contradiction
 ·intro s' m;obtain⟨s,J,X⟩:=W s' m;rw[<-X];exact R.low s J
 ·rw[I.2.1 a fun Z=> ?_];exact R.kt a o e;rw[kt0 a Z] at e;contradiction
 ·intro s' m;obtain⟨s,J,X⟩:=W s' m;rw[<-X];exact R.own s J
 ·intro b o e y hb2;rw[I.2.1 b fun Z=> ?_];exact R.frame b o e y hb2;rcases hS b Z with q|⟨s,hs,Y,_,_⟩
  ·exact hb2 q
  ·rcases R.own s hs with q|q
   ·rw[Y,e] at q;contradiction
   ·exact y (Y▸q)
 ·intro b o e q;exact tup b o (R.tup b o e q) q
 ·refine R.nolim.at fun o0 e0=>(I.2.1 pV fun Z=> ?_).trans e0;obtain⟨o,ho⟩:=R.stat;rw[kt0 _ Z] at ho;contradiction
 ·intro b y;refine Z7 fun k'=> ?_;obtain⟨J,X,o,h3,h4,h5,h6⟩:=R.frs b y;obtain⟨sl,e⟩:=I.2.2 b o h3;refine k' ?_;refine⟨J,fun s' m=> ?_,_,e,h4,h5,fun o0 e0=> ?_⟩
  ·obtain⟨s,q1,q2⟩:=W s' m;rw[<-q2];exact X s q1
  ·haveI hO308:=h6 o0 e0;haveI sl0:=fC (hO308);haveI q:=bF (hO308);exact⟨sl,by rw[q]⟩
section
variable {v:V}{o:Jr}
theorem Za0:@Z7x=@PySem.setField:=(ZFast.ze17858455048448223758).symm
theorem Z12:@Z2d=@PySem.setFlight:=(ZFast.ze5670386056902412789).symm
theorem Zey:@Z9x=@PySem.excMatches:=(ZFast.ze17346088374725804007).symm
theorem Zgq:@Zba=@PySem.raiseStmt:=(ZFast.ze229721614431981477).symm
theorem Zbg:@Z7o=@PySem.unbindBehindTheSuite:=(ZFast.ze14851354246082423155).symm
theorem Zjr:@Z7w=@PySem.bindName:=(ZFast.ze7536695828754713326).symm
theorem Zah {α:Type}{s0:Zt}{a:α}{s:Shared}(h:Zn v s0 (Z2e:K α) a s):False:=by
 haveI g:=(bF (bF (h))).1;exact Z2 g
theorem Zgr(L:Addr):({}:Heap).get? L=none:=by
 cases q:({}:Heap).get? L with
 |none=>rfl
 |some o=>exact absurd (cV q) (fY _)
theorem Zez {h:Heap}:∀{out:List Env},(∀env∈out,env.scope.kind≠ .module/\∃L,env.frame=some L/\∃o,h.get? L=some o/\∀vs,o.data≠ .fields vs)->h.FunFrames {} out:=by
 intro j
 induction j with
 |nil=>
  intro _;exact trivial
 |cons env out ih=>
  intro k3;exact(k3 env (.head _)).elim fun a ⟨L,b,o,c,d⟩=>⟨a,⟨L,o,b,Zgr L,c,d⟩,ih fun e m=>k3 e (.tail _ m)⟩
theorem Zgs {h:Heap}{lg:Lg}{out:List Env}(k3:∀env∈out,env.scope.kind≠ .module/\∃L,env.frame=some L/\∃o,h.get? L=some o/\∀vs,o.data≠ .fields vs):∀{j:List Env},(∀env∈j,env.scope.kind≠ .module)->(∀env∈j,Zmh h lg env)->h.FunFrames {} (j++out):=by
 intro q
 induction q with
 |nil=>
  intro _ _;exact Zez k3
 |cons env j ih=>
  intro k1 k2;exact(k2 env (.head _)).elim fun s ⟨_,b,c,_,d⟩=>⟨k1 env (.head _),⟨s.a,s.o,b,Zgr _,c,d⟩,ih (fun e m=>k1 e (.tail _ m)) fun e m=>k2 e (.tail _ m)⟩
theorem Zmi {s0:Zt}{x:Cx}{A:Around}{lg:Lg}{s:Shared}{p:List Env×List Env}(W:Jn s0 x A)(y:St v s0 lg s)(Y:x.fr=some p)(J:∀env∈p.1,Zmh s.heap lg env):
  s.heap.FunFrames {} (p.1++p.2)/\∀b∈(p.1++p.2).filterMap (·.frame),b∈s0.fr\/∃sl∈lg.sl,sl.a=b/\s.heap.get? b=some sl.o/\sl.o.cls= .type "frame":=by
 haveI j:=W.fr p Y;haveI X:=j.2.1;haveI I:=j.2.2;refine⟨Zgs (fun env he=> ?_) X J,fun b Z=> ?_⟩
 ·refine Z7 fun m=> ?_;obtain⟨a,L,q,e⟩:=I env he;obtain⟨_,_,o,q1,q2,q3,_⟩:=y.rep.frs L q;refine m ?_;exact⟨a,L,e,o,q1,q3⟩
 ·refine Z7 fun m=> ?_;obtain⟨env,he,e⟩:=eU.mp Z;rcases aG.mp he with he|he
  ·obtain⟨sl,a1,a2,a3,a4,_⟩:=J env he;rw[a2] at e;cases e;exact m (.inr ⟨sl,a1,rfl,a3,a4⟩)
  ·obtain⟨_,L,q,e'⟩:=I env he;rw[e'] at e;cases e;exact m (.inl q)
set_option tactic.hygienic true in theorem Zgt(O:Jm v o){s0:Zt}{e:Value}{ea:Addr}{env:Env}{f:Nat}{head:Value}{hadNext:Bool}{x:Cx}{lg:Lg}{hs:Hs}{Q:K Unit}{E:K Value}{A:Around}{s:Shared}(he:e= .ref ea)(hf:env.frame=some f)
  (hg:Z5 (Zf7 o e env f head x lg hs Q E)) (hst:St v s0 lg s) (ha:Jn s0 x A):
  aU (M v) A (do let a<-frameOf env;let pl<-entryPlaceOf f hadNext;let b<-kD head a .none (dP f) .none pl;sM e 1 b) (Zn v s0 Q) (Zn v s0 E) s:=by
 subst he;unfold Zf7 at hg;refine Z7 fun k'=> ?_
 split at hg
 ·rename_i p hp
  split at hg
  ·rename_i env' r ep;obtain⟨q,hg1⟩:=J0 hg;clear hg;injection q with q
   injection q with _ q
   subst q;unfold Zkb at hg1;obtain⟨js,hs',h1,_,hg⟩:=Z9z hst.rep.slots hg1;obtain⟨hff,hS⟩:=Zmi ha hst hp h1;obtain⟨hfr,_,_⟩:=ha.fr p hp;rw[ep,pK] at hfr hff hS;refine k' ?_;refine aA (wpAny_frameOf_fun hfr hff hf fun h₁ hs₁=> ?_);refine aA (wpAny_entryPlaceOf fun pl hpl=> ?_);unfold kD newFields;refine aA (iP ?_ (hpl.sizeOk5 _ _ _ _ _));have hg2:=Zae hg (Ztw h₁ lg (if pl.isEmpty then aY 6 Value.none else pl));have R:=hst.rep.slotsOnly hs₁ hS (U:=Ztw h₁ lg (if pl.isEmpty then aY 6 Value.none else pl)) fun j=>rfl;have R2:=R.alloc (o:=tbO head f (if pl.isEmpty then aY 6 Value.none else pl)) rfl;have hg3:=O.tr s0 Unit _ x _ hs' Q E A {s with heap:=h₁.push (tbO head f (if pl.isEmpty then aY 6 Value.none else pl))} hg2 ⟨R2,hst.toks,hst.gens,hst.drawn,hst.os⟩ ha;rw[Za0] at hg3;have es:h₁.objs.size=aO lg.b lg.m:=R.size;rw[es];exact hg3
  ·exact Z2 hg
 ·exact Z2 hg
theorem Zd6(O:Jm v o){s0:Zt}{e:Value}{env:Env}{x:Cx}{lg:Lg}{hs:Hs}{Q:K Unit}{E:K Value}{A:Around}{s:Shared}
  (a:Z5 (Zf8 o e env x lg hs Q E)) (hst:St v s0 lg s) (I:Jn s0 x A):aU (M v) A (fI e env) (Zn v s0 Q) (Zn v s0 E) s:=by
 cases e with
 |ref ea=>
  change Z5 (match env.frame with|some f=>_|none=>_) at a;unfold fI;cases hf:env.frame with
  |none=>rw[hf] at a;exact(Z2 a).elim
  |some f=>
   rw[hf] at a;refine(show aU (M v) A (mA (.ref ea) 1>>=_) _ _ s from aA (pm (Z82▸O.tr s0 _ _ _ lg hs _ _ A s a hst I) fun head s1 lg1 hs1 J m=> ?_));cases head with
   |none=>exact Zgt O rfl hf J m I
   |ref h=>
    refine(show aU (M v) A (mA (.ref h) 3>>=_) _ _ s1 from aA (pm (O.tr s0 _ _ _ lg1 hs1 _ _ A s1 J m I) fun fl s2 X Y hg2 j=> ?_));have Z:Z5 (Z8.ob (.val fl) (.val (.int (Int.ofNat f) 0)) (Q () X Y))->aU (M v) A (if(fl==dP f)=true then pure () else(sM (.ref h) 3 .none>>=fun y=>(do sM (.ref ea) 1 (<-kD (.ref h) (<-frameOf env) .none (dP f) .none (<-entryPlaceOf f (Value.ref h != .none)))))) (Zn v s0 Q) (Zn v s0 E) s2:=fun a=>by
     refine Z7 fun k'=> ?_;obtain⟨q,W⟩:=J0 a;injection q with q
     refine k' ?_;rw[if_pos (by rw[q];exact beq_self_eq_true (dP f))];exact aH ⟨X,Y,W,j⟩
    cases fl with
    |none=>exact aA (pm (Za0▸O.tr s0 _ _ _ X Y _ _ A s2 hg2 j I) fun y s3 lg3 hs3 W hst3=>Zgt O rfl hf W hst3 I)
    |_=>exact Z hg2
   |_=>exact(Z2 J).elim
 |_=>exact(Z2 a).elim
theorem Ztx(O:Jm v o){s0:Zt}{e:Value}{env:Env}{x:Cx}{lg:Lg}{hs:Hs}{Q:K Unit}{E:K Value}{A:Around}{s:Shared}
  (I:Z5 (Zgc o e env x lg hs Q E)) (J:St v s0 lg s) (j:Jn s0 x A):aU (M v) A (leaving env e) (Zn v s0 Q) (Zn v s0 E) s:=by
 unfold Zgc at I;unfold leaving;exact aA (pm (Zd6 O I J j) fun y X q W m a=>Z12▸O.tr s0 _ _ _ q W _ _ A X m a j)
set_option tactic.hygienic true in theorem J08(O:Jm v o){s0:Zt}{e:Value}{env:Env}{x:Cx}{lg:Lg}{hs:Hs}{E:K Value}{E':Value->Shared->Prop}{A:Around}{s:Shared}
  (hg:Z5 (Zm3 o e env x lg hs E)) (hst:St v s0 lg s) (ha:Jn s0 x A) (hE:∀e s,Zn v s0 E e s->E' e s):cameBackBy (M v) A env E' e s:=by
 unfold Zm3 at hg;unfold cameBackBy;rw[Z82] at hg;refine aA (bC (O.tr s0 _ _ _ lg hs _ _ A s hg hst ha) ?_ (fun e s h=>hE e s h));rintro tb s1 ⟨lg1,hs1,hg1,hst1⟩;simp only at hg1
 split at hg1
 ·rename_i h;have:(Value.ref h==Value.none)=false:=by simp
  dsimp only[this,cA,if_false];rw[Z12] at hg1
  first
   |(refine bC (O.tr s0 _ _ _ lg1 hs1 _ _ A s1 hg1 hst1 ha) ?_ (fun e s h=>hE e s h);rintro _ s2 h2;exact hE _ _ h2)
   |(refine aA (aH (bC (O.tr s0 _ _ _ lg1 hs1 _ _ A s1 hg1 hst1 ha) ?_ (fun e s h=>hE e s h)));rintro _ s2 h2;exact hE _ _ h2)
 ·exact(Z2 hg1).elim
end
section
variable {v:V}{o:Jr}
noncomputable def Z6t(r a:Nat)(j:Obj):Sem Unit:=match j.cls,j.data with
 | .type n, .fields vs=>
   if["enumerate","zip","dict_itemiterator","dict_reverseitemiterator","odict_iterator","itertools.zip_longest","itertools.pairwise"].contains n&&vs[0]?==some (dP a) then(do rule "for.unpacks-the-owned-tuple";updateField r 0 .none) else pure ()
 |_,_=>pure ()
theorem J09(j:List Expr)(p:Pos)(r a:Nat):gH (.List j p) (.ref r) (.ref a)=(load r>>=Z6t r a):=by
 dsimp only[gH,Z6t];rfl
theorem Zeh(n:String):Zgd n=["enumerate","zip","dict_itemiterator","dict_reverseitemiterator","odict_iterator","itertools.zip_longest","itertools.pairwise"].contains n:=by
 unfold Zgd;rw[<-ZFast.ze3471404346716756564,<-S.strDecS_eq,<-SZ.e14340494229221121180x9,<-SZ.e14339709457334898076x3,<-SZ.e2783514499706994809x17,<-SZ.e2223374115958298951x24,<-SZ.e4428606184754087035x14,<-SZ.e14092991718984965784x21,<-SZ.e5947345187589116515x18]
theorem J0a:@iT=@PySem.updateField:=ZFast.ze12367529300394763782.symm
set_option tactic.hygienic true in theorem J0b {r a:Nat}{ob:Obj}(h:Z65 ob=false):Z6t r a ob=pure ():=by
 unfold Z65 at h;unfold Z6t
 split
 ·rename_i n vs e1 e2;rw[e1,e2] at h;simp only at h;refine Z7 fun k'=> ?_
  split at h
  ·rename_i e3;have:vs[0]?=none:=by
    rw[<-fZ,e3];rfl
   refine k' ?_;rw[this];simp
  ·rw[Zeh] at h;refine k' ?_;rw[h];simp
 ·rfl
set_option tactic.hygienic true in theorem Zty {r a:Nat}{ob:Obj}(h:Z65 ob=true)(h2:Zm4 ob=dP (Int.ofNat a)):Z6t r a ob=(do rule "for.unpacks-the-owned-tuple";updateField r 0 .none):=by
 unfold Z65 at h;unfold Zm4 at h2;unfold Z6t
 split
 ·rename_i n vs e1 e2;rw[e1,e2] at h;rw[e2] at h2;simp only at h h2;refine Z7 fun k'=> ?_
  split at h
  ·exact absurd h (by simp)
  ·rename_i v0 l e3;rw[e3] at h2;simp only at h2;have:vs[0]?=some (dP (Int.ofNat a)):=by
    rw[<-fZ,e3,<-h2];rfl
   rw[Zeh] at h;refine k' ?_;rw[h,this];haveI e:(some (dP (Int.ofNat a))==some (dP (Nat.cast a)))=true:=by
    rw[beq_iff_eq];rfl
   rw[e];rfl
 ·rename_i hno
  split at h
  ·rename_i n e1
   split at h
   ·rename_i vs e2;exact absurd e2 (hno n vs e1)
   ·exact absurd h (by simp)
  ·exact absurd h (by simp)
theorem J3n {target:Expr}{it val:Value}(a:Zm5 target=false):gH target it val=pure ():=by
 cases target with
 |Tuple=>exact nomatch a
 |List=>exact nomatch a
 |_=>rfl
theorem J0c {target:Expr}(j:Zm5 target=true)(it val:Value):gH target it val=(match it with| .ref r=>(match val with| .ref a=>load r>>=Z6t r a|_=>pure ())|_=>pure ()):=by
 have t:gH (.List [] ⟨0,0,0,0⟩) it val=(match it with| .ref r=>(match val with| .ref a=>load r>>=Z6t r a|_=>pure ())|_=>pure ()):=by
  cases it with
  |ref r=>cases val with
   |ref a=>exact J09 [] _ r a
   |_=>rfl
  |_=>rfl
 cases target with
 |Tuple e k p=>exact t
 |List e p=>exact t
 |_=>exact nomatch j
set_option tactic.hygienic true in theorem Zd7(O:Jm v o){s0:Zt}{target:Expr}{it val:Value}{x:Cx}{lg:Lg}{hs:Hs}{Q:K Unit}{q:String}{A:Around}{s:Shared}
  (hg:Z5 (Zd0 o target it val x lg hs Q (fun _ _ _=>Zd q))) (hst:St v s0 lg s) (ha:Jn s0 x A) {Q':Unit->Shared->Prop} {E:Value->Shared->Prop}
  (hQ:∀s',Zn v s0 Q () s'->Q' () s'):aU (M v) A (gH target it val) Q' E s:=by
 have key:∀r a:Nat,Z5 (o.tr Obj (.load r none .pure) x lg hs (fun ob lg hs=>match Z65 ob with
    |true=>Z8.ob (.val (Zm4 ob)) (.val (dP (Int.ofNat a))) (o.tr Unit (iT r 0 .none) x lg hs Q (fun _ _ _=>Zd q))
    |false=>Q () lg hs) (fun _ _ _=>Zd q))->aU (M v) A (load r>>=Z6t r a) Q' E s:=by
  intro r a hg;refine aA (bC (O.tr s0 _ _ _ lg hs _ _ _ s hg hst ha) ?_ (fun e s' h=>(Yg h).elim));rintro ob s1 ⟨lg1,hs1,hg1,hst1⟩;simp only at hg1;refine Z7 fun k'=> ?_
  split at hg1
  ·rename_i hb;haveI hO5095:=J0 hg1;haveI e:=hO5095.1;haveI hg2:=hO5095.2;injection e with e
   refine k' ?_;rw[Zty hb e];refine aA (jU ?_);rw[J0a] at hg2;refine bC (O.tr s0 _ _ _ lg1 hs1 _ _ _ s1 hg2 hst1 ha) ?_ (fun e s' h=>(Yg h).elim);rintro _ s2 h2;exact hQ _ h2
  ·rename_i hb;refine k' ?_;rw[J0b hb];exact aH (hQ _ ⟨lg1,hs1,hg1,hst1⟩)
 have fall:∀{m:Sem Unit},m=pure ()->Z5 (Q () lg hs)->aU (M v) A m Q' E s:=fun e hg=>by
  rw[e];exact aH (hQ _ ⟨lg,hs,hg,hst⟩)
 unfold Zd0 at hg;cases ht:Zm5 target with
 |false=>rw[ht] at hg;exact fall (J3n ht) hg
 |true=>
  simp only[ht] at hg;rw[J0c ht];cases it with
  |ref r=>cases val with
   |ref a=>exact key r a hg
   |_=>exact fall rfl hg
  |_=>exact fall rfl hg
end
section
variable {v:V}{o:Jr}
theorem Jn.callN {s0:Zt}{x:Cx}{A:Around}(h:Jn s0 x A):Jn s0 (x.call none) A:=⟨h.depth,h.units,h.hh,h.fr⟩
set_option tactic.hygienic true in theorem J0d(O:Jm v o){s0:Zt}{cs:List Expr}{env:Env}{x:Cx}{lg:Lg}{hs:Hs}{Q:K Bool}{A:Around}{s:Shared}{E:Value->Shared->Prop}{Q':Bool->Shared->Prop}
  (hg:Z5 (Z98 o cs env x lg hs Q)) (hst:St v s0 lg s) (ha:Jn s0 x A) (hQ:∀b s',Zn v s0 Q b s'->Q' b s') {f:Expr->Bool->Sem (ForInStep Bool)}
  (hf:∀c r,f c r=if r=true then(do let b<-PySem.isTrue c env (lP c env);pure (.yield b)) else pure (.yield r)):
  aU (M v) A (forIn cs true f) Q' E s:=by
 unfold Z98 at hg;refine Z7 fun k'=> ?_
 split at hg
 ·exact k' (aH (hQ _ _ ⟨lg,hs,hg,hst⟩))
 ·rename_i c;refine k' ?_;simp only[gU,hf];simp only[if_true,bind_assoc,pure_bind,jG];refine aA (bC (O.tst s0 c env x lg hs _ _ A s hg hst ha) ?_ (fun e s' h=>(Yg h).elim));intro b s' h;exact aH (hQ _ _ h)
 ·exact Z2 hg
theorem Zqr {α:Type}{A:Around}{a b:Sem Unit}{rest:Sem α}{Q:α->Shared->Prop}{E:Value->Shared->Prop}{s:Shared}
  (h:aU (M v) A (do a;b) (fun y s'=>aU (M v) A rest Q E s') E s):aU (M v) A (a>>=fun y=>b>>=fun y=>rest) Q E s:=by
 haveI j:=aA (f:=fun y=>rest) h;rw[bind_assoc] at j;exact j
theorem Zgu(O:Jm v o){s0:Zt}{target:Expr}{it:Value}{body orelse:List Stmt}{env:Env}{x:Cx}{lg:Lg}{hs:Hs}{R:K Result}{A:Around}{s:Shared}(X:Z5 (o.sx body env x lg hs (Zm6 o (.forLoop target it body orelse env) x R) (Zm7 o env x R)))(J:St v s0 lg s)(j:Jn s0 x A):
  aU (M v) A (do match<-nA body env with
   | .next| .cont=>again (.forLoop target it body orelse env)
   | .brk=>pure (PySem.Fin.done .next)
   | .ret v=>pure (PySem.Fin.done (.ret v))) (fun I s'=>match I with| .done f=>Zn v s0 R (.ok f) s'| .again c'=>c'.quiet=true/\bR (M v) A c' (Zn v s0 R) s')
   (fun e s=>aU (M v) A (do fI e env;dI e) (fun y q=>Zn v s0 R (.error e) q) (fun Y s'=>Zn v s0 R (.error Y) s') s) s:=by
 refine aA (bC (O.sx s0 body env _ lg hs _ _ _ s X J j) (fun f m ⟨a,hs3,hg3,hst3⟩=> ?_)
  fun e m ⟨a,hs3,hg3,hst3⟩=>aA (bC (Zd6 O hg3 hst3 j) (fun y Z W=>wpAny_theTreesLotGoes W) fun e s' h=>(Zah h).elim))
 cases f with
 |next=>exact aH ⟨rfl,O.cd s0 _ x a hs3 R A m hg3 hst3 j⟩
 |cont=>exact aH ⟨rfl,O.cd s0 _ x a hs3 R A m hg3 hst3 j⟩
 |brk=>exact aH ⟨a,hs3,hg3,hst3⟩
 |ret v=>exact aH ⟨a,hs3,hg3,hst3⟩
theorem Zei(O:Jm v o){s0:Zt}{elt:Expr}{q:List Expr}{c:Code}(X:c.quiet=true){acc:Value}{env:Env}{x:Cx}{lg:Lg}{hs:Hs}{R:K Result}{A:Around}{s:Shared}{E:Value->Shared->Prop}(hg:Z5 (Z98 o q env x lg hs (Zf9 o elt acc c env x R)))(hst:St v s0 lg s)(a:Jn s0 x A):
  aU (M v) A (forIn q true (fun c r=>if r=true then(do let b<-PySem.isTrue c env (lP c env);pure (.yield b)) else pure (.yield r))>>=fun ok=>
   if ok=true then(lP elt env>>=fun r=>call (.builtin "list.append") [acc,r]>>=fun y=>pure ())>>=fun y=>again c else again c) (fun fin s'=>match fin with| .done f=>Zn v s0 R (.ok f) s'| .again c'=>c'.quiet=true/\bR (M v) A c' (Zn v s0 R) s') E s:=by
 refine aA (J0d O hg hst a (fun b Y ⟨m,hs3,hg3,hst3⟩=> ?_) (fun c r=>rfl));cases b with
 |false=>exact aH ⟨X,O.cd s0 _ x m hs3 R A Y hg3 hst3 a⟩
 |true=>
  refine aA (aA (pmb (O.ev s0 elt env x m hs3 _ _ A Y hg3 hst3 a) fun r s4 lg4 hs4 W I=>aA (nU (cm (O.cd s0 _ _ lg4 hs4 _ A s4 W I a.callN) fun r2 s5 lg5 Z j J=> ?_))));cases r2 with
  |error e=>exact(Z2 j).elim
  |ok f=>
   cases f with
   |ret w=>exact aH (aH ⟨X,O.cd s0 _ x lg5 Z R A s5 j J a⟩)
   |_=>exact(Z2 j).elim
theorem J0e(O:Jm v o){s0:Zt}{elt:Expr}{g:Comprehension}{k:Scope}{p:Pos}{it acc:Value}{env:Env}{x:Cx}{lg:Lg}{hs:Hs}{R:K Result}{A:Around}{s:Shared}(W:g.is_async=0)
  (hg:Z5 (o.tr (Option Value) (Z94 it) x lg hs (fun r lg hs=>match r with
   |none=>R (.ok .next) lg hs
   |some val=>Zd0 o g.target it val x lg hs (fun y lg hs=>o.tr Unit (Z30 g.target env val) x lg hs (fun y lg hs=>Z98 o g.ifs env x lg hs (Zf9 o elt acc (.compLoop (.ListComp elt [g] k p) 0 it acc env) env x R)) fun y y y=>Zd "an exception at a loop's target") fun y y y=>Zd "an exception at a loop's target") fun y y y=>Zd "an exception at a loop's next")) (hst:St v s0 lg s) (q:Jn s0 x A):
  bR (M v) A (.compLoop (.ListComp elt [g] k p) 0 it acc env) (Zn v s0 R) s:=by
 obtain⟨target,a,m,as⟩:=g;subst W;refine jM ?_;rw[Qf rfl rfl];refine(show aU _ _ ((kC a.pos>>=fun y=>kH it>>=fun r=>match r with
  |none=>pure (.done .next)
  |some val=>gH target it val>>=fun y=>assign target env val>>=fun y=>forIn m true (fun c r=>if r=true then(do let b<-PySem.isTrue c env (lP c env);pure (.yield b)) else pure (.yield r))>>=fun ok=>
   if ok=true then(lP elt env>>=fun r=>call (.builtin "list.append") [acc,r]>>=fun y=>pure ())>>=fun y=>again (.compLoop (.ListComp elt [⟨target,a,m,0⟩] k p) 0 it acc env)
   else again (.compLoop (.ListComp elt [⟨target,a,m,0⟩] k p) 0 it acc env)).onRaise (fun x=>do fI x env;dI x)) _ _ s from ?_)
 refine cH (aA (bW (aA (pmb (Zbe▸O.tr s0 _ _ _ lg hs _ _ _ s hg hst q) fun r s' Y X I j=> ?_))));cases r with
 |none=>exact aH ⟨Y,X,I,j⟩
 |some val=>
  refine aA (Zd7 O I j q fun s1 ⟨lg1,hs1,hg1,hst1⟩=>aA (pmb (Z2f▸O.tr s0 _ _ _ lg1 hs1 _ _ _ s1 hg1 hst1 q) fun y s2 lg2 hs2 Z J=>
   Zei O rfl Z J q))
set_option tactic.hygienic true in theorem J3o(O:Jm v o){s0:Zt}{a:Nat}{args:Args}{x:Cx}{lg:Lg}{hs:Hs}{R:K Result}{A:Around}{s:Shared}(hg:Z5 (inS v o (.call (.ref a) args) x lg hs R))(hst:St v s0 lg s)(ha:Jn s0 x A):
  bR (M v) A (.call (.ref a) args) (Zn v s0 R) s:=by
 refine Z7 fun k'=> ?_;obtain⟨d,hs',hg⟩:=J4 hg;cases d with
 |zero=>
  dsimp only at hg
  split at hg
  ·rename_i ob e;exact k' (Zyg O hg (hst.rep.kt _ _ e) hst ha)
  ·exact Z2 hg
 |succ j=>
  dsimp only at hg
  split at hg
  ·rename_i sl e;haveI hs2:=hst.rep.slots sl (aZ (Qq (b:=lg.b) (m:=lg.m) (t:=lg.t) (i:=lg.i) e));clear e;obtain⟨b,ob,g⟩:=sl;cases g with
   |exc=>exact Z2 hg
   |_=>
    haveI hO2719:=Z31 hg;haveI ea:=hO2719.1;haveI hg2:=hO2719.2;exact k' (Zyg O hg2 (ea▸hs2.1) hst ha)
  ·exact Z2 hg
theorem Jbn(O:Jm v o){s0:Zt}{c:Code}{x:Cx}{lg:Lg}{hs:Hs}{R:K Result}{A:Around}{s:Shared}(m:Z5 (inS v o c x lg hs R))(q:St v s0 lg s)(j:Jn s0 x A):
  bR (M v) A c (Zn v s0 R) s:=by
 have pl:∀c,Z5 (Z64 o c x lg hs R)->bR (M v) A c (Zn v s0 R) s:=fun y m=>Zgo O m q j;cases c with
 |call f args=>
  cases f with
  |ref a=>exact J3o O m q j
  |_=>exact pl _ m
 |func body env=>
  exact codeAny_func (bC (O.sx s0 body env _ lg hs _ _ _ s m q (j.deeper env body)) (fun f s' h=>by cases f<;>exact h)
   fun e s' ⟨lg',hs',Y,I⟩=>bC (Ztx O Y I (j.deeper env body)) (fun y y h=>h) fun e s' h=>(Zah h).elim)
 |expr e env=>
  refine jM ?_;show aU _ _ (do point;ret (<-(lP e env).onRaise (leaving env))) _ _ s;exact aA (wpAny_point (aA (cH (bC (O.ev s0 e env _ lg hs _ _ _ s m q (j.under rfl)) (fun y y h=>aH h) (fun e s' h=>(Yg h).elim)))))
 |block stmts env=>
  refine jM ?_;rw[Qf rfl rfl];show aU _ _ (do return PySem.Fin.done (<-(nA stmts env).onRaise (fun x=>do fI x env;dI x))) _ _ s;exact aA (cH (bC (O.sx s0 stmts env _ lg hs _ _ _ s m q j) (fun y y h=>aH h) (fun e s' h=>(Yg h).elim)))
 |forLoop target it body orelse env=>
  refine jM ?_;rw[Qf rfl rfl];show aU _ _ ((lT target it body orelse env).onRaise (fun x=>do fI x env;dI x)) _ _ s;unfold lT;refine cH (aA (bW (aA (cH (pmb (Zbe▸O.tr s0 _ _ _ lg hs _ _ _ s m q j) fun r s' lg' hs' Y I=> ?_)))));cases r with
  |none=>exact aH ⟨rfl,O.cd s0 _ x lg' hs' R A s' Y I j⟩
  |some val=>
   refine aA (Zd7 O Y I j fun s1 ⟨lg1,hs1,hg1,hst1⟩=>aA (pmb (Z2f▸O.tr s0 _ _ _ lg1 hs1 _ _ _ s1 hg1 hst1 j) fun y s2 lg2 hs2 hg2 J=>
    Zgu O hg2 J j))
 |whileLoop test body orelse env=>
  refine jM ?_;rw[Qf rfl rfl];show aU _ _ ((whileTurn test body orelse env).onRaise (fun x=>do fI x env;dI x)) _ _ s;unfold whileTurn;refine cH (aA (pmb (O.tst s0 test env _ lg hs _ _ _ s m q j) fun b s2 lg2 hs2 hg2 J=> ?_));cases b with
  |true=>
   refine aA (pmb (O.sx s0 body env _ lg2 hs2 _ _ _ s2 hg2 J j) fun f s3 X Z hg3 W=> ?_);cases f with
   |next=>exact aH ⟨rfl,O.cd s0 _ x X Z R A s3 hg3 W j⟩
   |cont=>exact aH ⟨rfl,O.cd s0 _ x X Z R A s3 hg3 W j⟩
   |brk=>exact aH ⟨X,Z,hg3,W⟩
   |ret v=>exact aH ⟨X,Z,hg3,W⟩
  |false=>exact aA (bC (O.sx s0 orelse env _ lg2 hs2 _ _ _ s2 hg2 J j) (fun y y h=>aH h) fun e s' h=>(Yg h).elim)
 |compLoop e d it acc env=>
  cases e with
  |ListComp elt gs k p=>
   cases gs with
   |nil=>exact pl _ m
   |cons g gs=>
    cases gs with
    |nil=>
     cases d with
     |zero=>
      obtain⟨tg,iter,ifs,as⟩:=g;cases as with
      |ofNat as=>
       cases as with
       |zero=>exact J0e O rfl m q j
       |succ=>exact(Z2 m).elim
      |negSucc=>exact(Z2 m).elim
     |succ=>exact pl _ m
    |cons=>exact pl _ m
  |_=>exact pl _ m
 |_=>exact pl _ m
set_option tactic.hygienic true in theorem J0f {g:G}(GO:J5 v g)(O:Jm v o):J3j v (Z6p v g o):=by
 intro s0 c x lg hs R A s hg hst ha;refine Z7 fun k'=> ?_;obtain⟨d,hs',hg⟩:=J4 (show Z5 (cdS v g o c x lg hs R) from hg);cases d with
 |zero=>exact k' (Jbn O hg hst ha)
 |succ j=>
  dsimp only at hg
  split at hg
  ·rename_i f e;exact k' (GO.ctr f (aZ e) s0 c x lg hs' R A s hg hst ha)
  ·exact Z2 hg
end
theorem Z43:∀(a b:List Nat),Z0t a b=true↔a=b:=by
 intro q
 induction q with
 |nil=>
  intro j;cases j with
  |nil=>
   simp[Z0t]
  |cons _ _=>
   simp[Z0t]
 |cons a l ih=>
  intro j;cases j with
  |nil=>
   simp[Z0t]
  |cons b m=>
   show(match cK a b with|true=>Z0t l m|false=>false)=true↔_;rw[qJ]
   by_cases h:a=b
   ·simp[h,ih m]
   ·simp[h]
theorem Z6u(a b:List Nat):Z0t a b=(a==b):=by
 cases h:Z0t a b with
 |true=>rw[(Z43 a b).mp h];simp
 |false=>
  cases q:a==b with
  |false=>rfl
  |true=>rw[(Z43 a b).mpr (by simpa using q)] at h;contradiction
theorem Z49(a b:Int):Z.eqB a b=(a==b):=by
 cases h:Z.eqB a b with
 |true=>rw[(Z.eqB_iff a b).mp h];simp
 |false=>
  cases q:a==b with
  |false=>rfl
  |true=>rw[(Z.eqB_iff a b).mpr (by simpa using q)] at h;contradiction
theorem Zkd(a b:Int):Z.ltB a b=decide (a<b):=by
 cases h:Z.ltB a b with
 |true=>exact(decide_eq_true ((Z.ltB_iff a b).mp h)).symm
 |false=>exact(decide_eq_false fun q=>by rw[(Z.ltB_iff a b).mpr q] at h;contradiction).symm
theorem Zke(a b:Int):Z.leB a b=decide (a<=b):=by
 cases h:Z.leB a b with
 |true=>exact(decide_eq_true ((Z.leB_iff a b).mp h)).symm
 |false=>exact(decide_eq_false fun q=>by rw[(Z.leB_iff a b).mpr q] at h;contradiction).symm
theorem Z32 {x y:Str}(h:x.cps.toList=y.cps.toList):x=y:=by
 cases x;cases y;congr;exact rL h
section
variable {v:V}{o:Jr}{A:Around}{s:Shared}{E:Value->Shared->Prop}{Q:Value->Shared->Prop}
theorem Zqs {P:Value->Value->VP->Prop}(m:∀x t y u,P (.int x t) (.int y u) (.ii x y))(hs:∀x t y u,P (.str x t) (.str y u) (.ss x y))(j:∀a b,P a b .no)(a b:Value):P a b (vp a b):=by
 cases a with
 |int x t=>cases b with
  |int y u=>exact m ..
  |_=>exact j ..
 |str x t=>cases b with
  |str y u=>exact hs ..
  |_=>exact j ..
 |_=>exact j ..
theorem Zkf {m:CmpOp}{r:Zm9}(a b:Value):Zma m (vp a b)=some r->(r.b=true↔r.p)/\(Q (.bool r.b) s->aU (M v) A (iW m a b) Q E s):=by
 refine Zqs (P:=fun a b p=>Zma m p=some r->(r.b=true↔r.p)/\(Q (.bool r.b) s->aU (M v) A (iW m a b) Q E s)) (fun x t y u h=> ?_) (fun x t y u h=> ?_) (fun z z h=>nomatch h) a b
 ·have h':J3b m x y=some r:=h;cases m<;>first|(contradiction;done)|(injection h' with h';subst h')
  ·exact⟨Z.eqB_iff x y,fun j=>eq_int (by rw[<-Z49];exact j)⟩
  ·exact⟨by rw[Z49];simp,fun j=>ne_int (by rw[show∀x y:Int,(x !=y)= !(x==y) from fun z z=>rfl,<-Z49];exact j)⟩
  ·exact⟨Z.ltB_iff x y,fun j=>lt_int (by rw[<-Zkd];exact j)⟩
  ·exact⟨Z.leB_iff x y,fun j=>le_int (by rw[<-Zke];exact j)⟩
  ·exact⟨Z.ltB_iff y x,fun j=>gt_int (by rw[Zkd] at j;exact j)⟩
  ·exact⟨Z.leB_iff y x,fun j=>ge_int (by rw[Zke] at j;exact j)⟩
 ·have h':J3c m x y=some r:=h;cases m<;>first|(contradiction;done)|(injection h' with h';subst h')
  ·exact⟨(Z43 _ _).trans ⟨Z32,fun e=>e▸rfl⟩,fun j=>PySem.P.eq_str (by rw[<-Z6u];exact j)⟩
  ·refine⟨?_,fun j=>PySem.P.ne_str (by rw[show∀x y:List Nat,(x !=y)= !(x==y) from fun z z=>rfl,<-Z6u];exact j)⟩;rw[Z6u];simp only[Bool.not_eq_true',beq_eq_false_iff_ne,ne_eq];exact⟨fun h e=>h (e▸rfl),fun h e=>h (Z32 e)⟩
set_option tactic.hygienic true in theorem J0g {op:CmpOp}{a b:Value}{r:Bool}(h:Zmb op a b=some r)(hq:Q (.bool r) s):aU (M v) A (iW op a b) Q E s:=by
 unfold Zmb at h
 split at h
 ·rename_i r' e;cases h;exact(Zkf a b e).2 hq
 ·rename_i q;clear q;cases b with
  |none=>
   cases op with
   |Is=>cases h;refine PySem.is_none ?_;cases a<;>exact hq
   |IsNot=>cases h;refine PySem.isNot_none ?_;cases a<;>exact hq
   |_=>contradiction
  |_=>contradiction
set_option tactic.hygienic true in theorem Zd8 {op:CmpOp}{a b:Value}{c:Prop}(h:Zge op a b=some c)(ht:c->Q (.bool true) s)(hf:¬c->Q (.bool false) s):aU (M v) A (iW op a b) Q E s:=by
 unfold Zge at h
 split at h
 ·rename_i r e;cases h;obtain⟨i,k⟩:=Zkf (Q:=Q) (E:=E) (s:=s) (v:=v) (A:=A) a b e;refine k ?_;cases q:r.b with
  |true=>exact ht (i.mp q)
  |false=>exact hf fun hc=>by have:=i.mpr hc;rw[q] at this;contradiction
 ·contradiction
theorem Qn {a b:Bool}:Yz a b=true↔a=true/\b=true:=by cases a<;>simp[Yz]
theorem J0h {j:Operator}{a b:Value}:Zm8 j a b=true->Z99 j a b:=by
 dsimp only[Zm8,Z99]
 generalize vp a b=p
 intro h;cases p with
 |ii x y=>
  cases j with
  |Add=>exact trivial
  |Sub=>exact trivial
  |BitXor=>exact trivial
  |Mult=>have h:Yz _ _=true:=h;rw[Qn,Z.blt_iff,Z.blt_iff] at h;exact h
  |Mod=>have h:eK (Z.eqB y 0)=true:=h;rw[Z49] at h;exact show y≠0 by simpa using h
  |FloorDiv=>have h:Yz (eK (Z.eqB y 0)) _=true:=h;rw[Qn,Z49,Z.blt_iff] at h;exact show y≠0/\y.natAbs<1073741824 from⟨by simpa using h.1,h.2⟩
  |LShift=>haveI h:Yz _ (Yz _ _)=true:=h;rw[Qn,Qn,Z.blt_iff,Z.leB_iff,Z.leB_iff] at h;exact h
  |RShift=>exact(Z.leB_iff 0 y).mp h
  |_=>exact nomatch h
 |ss x y=>
  cases j with
  |Add=>
   haveI h:Yz (eK (cK x.length 0)) (Yz (eK (cK y.length 0)) (dE (aO x.length y.length) 1000000))=true:=h;rw[Qn,Qn,qJ,qJ,Z.ble_iff] at h;exact show x.length≠0/\y.length≠0/\x.length+y.length<=1000000 by simpa using h
  |_=>exact nomatch h
 |no=>contradiction
theorem Zjs {a:Int}(h:a.natAbs<Qe):gE a<=64:=by
 have:a.natAbs<18446744073709551616:=h;exact intBits_le_64 (by omega) (by omega)
theorem Zqt(y:Int):Int.ofNat (cO 2 y.toNat)=2^y.toNat:=by
 show((2^y.toNat:Nat):Int)=_;simp
theorem Zqu {m:Operator}{a b:Value}:Z99 m a b->Q (Ztq m a b s.toks) {s with toks:=s.toks+1}->aU (M v) A (sN m a b) Q E s:=by
 refine Zqs (P:=fun a b p=>okP m p->Q (J3a m p s.toks) {s with toks:=s.toks+1}->aU (M v) A (sN m a b) Q E s) (fun x t y u h j=> ?_) (fun x t y u h j=> ?_) (fun z z h=>h.elim) a b
 ·cases m with
  |Add=>exact add_int j
  |Sub=>exact sub_int j
  |BitXor=>exact rZ j
  |Mult=>exact mul_int j (.of_left (Zjs h.1))
  |Mod=>exact mod_int' h j
  |FloorDiv=>exact sA h.1 j (.inl (PyProof.noPylong_small h.2))
  |LShift=>exact lshift_int_small h.1 h.2.1 h.2.2 (by rw[<-Zqt];exact j)
  |RShift=>exact sB h (by rw[<-Zqt];exact j)
  |_=>exact mY h
 ·cases m with
  |Add=>
   obtain⟨q,I,J⟩:x.length≠0/\y.length≠0/\x.length+y.length<=1000000:=h;refine PySem.P.add_str ?_;rw[show(x.length==0)=false by simpa using q,show(y.length==0)=false by simpa using I];simp only[cA,if_false];haveI e:(⟨⟨mO x.cps.toList y.cps.toList⟩⟩:Str)=x++y:=Z32 (by simp only[Str.cps_append];simp);refine⟨?_,by rw[<-e];exact j⟩;rw[Str.length_append];exact aK J (by decide)
  |_=>exact mY h
theorem Jbo(O:Jm v o){s0:Zt}{I:UnaryOp}{a:Value}{x:Cx}{lg:Lg}{hs:Hs}{Q E:K Value}(j:Z5 (unS o I a x lg hs Q E))(m:St v s0 lg s)(W:Jn s0 x A):
  aU (M v) A (unaryOp I a) (Zn v s0 Q) (Zn v s0 E) s:=by
 unfold unS at j;refine Z7 fun J=> ?_;obtain⟨d,q,j⟩:=J4 j;cases d with
 |zero=>exact J (Zjo▸O.tr s0 _ (Zaa I a) x lg q Q E A s j m W)
 |succ d=>
  cases I with
  |USub=>cases a with
   |int y t=>exact J (neg_int ⟨_,q,by rw[m.toks];exact j,m.next⟩)
   |_=>exact Z2 j
  |Invert=>cases a with
   |int y t=>exact J (sC ⟨_,q,by rw[m.toks];exact j,m.next⟩)
   |_=>exact Z2 j
  |Not=>cases a with
   |bool y=>exact J (not_value (rA ⟨_,q,j,m⟩))
   |_=>exact Z2 j
  |UAdd=>exact Z2 j
theorem J3p {q:Req}{hs:Hs}{a b c d e:Hs->Z8}(m:Z5 (pop q hs fun n hs=>match n with|0=>a hs|1=>b hs|2=>c hs|3=>d hs|_=>e hs)):∃hs,Z5 (a hs)\/Z5 (b hs)\/Z5 (c hs)\/Z5 (d hs)\/Z5 (e hs):=by
 obtain⟨n,j,m⟩:=J4 m
 match n,m with
 |0,h=>exact⟨j, .inl h⟩
 |1,h=>exact⟨j, .inr (.inl h)⟩
 |2,h=>exact⟨j, .inr (.inr (.inl h))⟩
 |3,h=>exact⟨j, .inr (.inr (.inr (.inl h)))⟩
 |_+4,h=>exact⟨j, .inr (.inr (.inr (.inr h)))⟩
theorem J0i {q:Req}{hs:Hs}{a:Hs->Z8}{b c d e:String}(y:Z5 (pop q hs fun n hs=>match n with|0=>a hs|1=>Zd b|2=>Zd c|3=>Zd d|_=>Zd e)):∃hs,Z5 (a hs):=by
 refine Z7 fun m=> ?_;obtain⟨j,h|h|h|h|h⟩:=J3p y
 ·exact m (⟨j,h⟩)
 refine m ?_
 all_goals exact(Z2 h).elim
theorem Zgv(O:Jm v o){s0:Zt}{a:Value}{x:Cx}{lg:Lg}{hs:Hs}{Q:K Bool}{E:K Value}(hg:Z5 (Zmd o a x lg hs Q E))(j:St v s0 lg s)(X:Jn s0 x A):
  aU (M v) A (truthy a) (Zn v s0 Q) (Zn v s0 E) s:=by
 have zero:∀{a:Value} {m:Hs},Z5 (o.tr Bool (Zcy a) x lg m Q E)->aU (M v) A (truthy a) (Zn v s0 Q) (Zn v s0 E) s:=fun {a} {m} hg=>by
  rw[Zmf] at hg;exact O.tr s0 _ _ _ lg m _ _ _ s hg j X
 cases a with
 |bool b=>exact rA ⟨_,hs,hg,j⟩
 |int y t=>
  refine Z7 fun q=> ?_;obtain⟨m,hg|hg|hg|hg|hg⟩:=J3p hg
  ·exact q (zero hg)
  ·refine q ?_;refine nV ⟨_,m, ?_,j⟩;rw[show∀x y:Int,(x !=y)= !(x==y) from fun z z=>rfl,<-Z49];exact hg
  ·obtain⟨J,W,Y,Z⟩:=Z6r hg;refine q ?_;refine nV ?_
   by_cases c:y=0
   ·subst c;exact⟨_,W,Z (by simp),j⟩
   ·rw[show(y !=0)=true from by simpa using c];exact⟨_,J,Y c,j⟩
  ·obtain⟨c,hg⟩:=Y4 hg;refine q ?_;refine nV ?_;rw[show(y !=0)=true from by simpa using c];exact⟨_,m,hg,j⟩
  ·obtain⟨c,I⟩:=Y4 hg;clear hg;subst c;exact q (nV ⟨_,m,I,j⟩)
 |_=>exact zero (J0i hg).choose_spec
theorem Jew {q:Req}{hs:Hs}{a b c d e:Hs->Z8}{f:Nat->Hs->Z8}(y:Z5 (pop q hs fun n hs=>match n with|0=>a hs|1=>b hs|2=>c hs|3=>d hs|4=>e hs|j+5=>f j hs)):∃hs,Z5 (a hs)\/Z5 (b hs)\/Z5 (c hs)\/Z5 (d hs)\/Z5 (e hs)\/∃j,Z5 (f j hs):=by
 obtain⟨n,m,y⟩:=J4 y
 match n,y with
 |0,h=>exact⟨m, .inl h⟩
 |1,h=>exact⟨m, .inr (.inl h)⟩
 |2,h=>exact⟨m, .inr (.inr (.inl h))⟩
 |3,h=>exact⟨m, .inr (.inr (.inr (.inl h)))⟩
 |4,h=>exact⟨m, .inr (.inr (.inr (.inr (.inl h))))⟩
 |j+5,h=>exact⟨m, .inr (.inr (.inr (.inr (.inr ⟨j,h⟩))))⟩
theorem Jex {q:Req}{hs:Hs}{a b c:Hs->Z8}(m:Z5 (pop q hs fun n hs=>match n with|0=>a hs|1=>b hs|_=>c hs)):∃hs,Z5 (a hs)\/Z5 (b hs)\/Z5 (c hs):=by
 obtain⟨n,j,m⟩:=J4 m
 match n,m with
 |0,h=>exact⟨j, .inl h⟩
 |1,h=>exact⟨j, .inr (.inl h)⟩
 |_+2,h=>exact⟨j, .inr (.inr h)⟩
set_option tactic.hygienic true in theorem Zqv {g:G}(GO:J5 v g)(O:Jm v o){s0:Zt}{op:CmpOp}{a b:Value}{x:Cx}{lg:Lg}{hs:Hs}{Q E:K Value}(hg:Z5 (Zmc g o op a b x lg hs Q E))(hst:St v s0 lg s)(ha:Jn s0 x A):
  aU (M v) A (iW op a b) (Zn v s0 Q) (Zn v s0 E) s:=by
 unfold Zmc at hg;refine Z7 fun k'=> ?_;obtain⟨hs',hg|hg|hg|hg|hg|⟨j,hg⟩⟩:=Jew hg
 ·rw[Zew] at hg;exact k' (O.tr s0 _ _ _ lg hs' _ _ _ s hg hst ha)
 ·split at hg
  ·rename_i r e;exact k' (J0g e ⟨_,hs',hg,hst⟩)
  ·exact Z2 hg
 ·split at hg
  ·rename_i c e;obtain⟨h1,h2,ht,hf⟩:=Z6r hg;exact k' (Zd8 e (fun h=>⟨_,h1,ht h,hst⟩) (fun h=>⟨_,h2,hf h,hst⟩))
  ·exact Z2 hg
 ·split at hg
  ·rename_i c e;obtain⟨h1,hg⟩:=Y4 hg;exact k' (Zd8 e (fun _=>⟨_,hs',hg,hst⟩) (fun h=>absurd h1 h))
  ·exact Z2 hg
 ·split at hg
  ·rename_i c e;obtain⟨h1,hg⟩:=Y4 hg;exact k' (Zd8 e (fun h=>absurd h h1) (fun _=>⟨_,hs',hg,hst⟩))
  ·exact Z2 hg
 ·split at hg
  ·rename_i f e;refine k' ?_;refine bC (GO.cmp f (aZ e) s0 op a b x lg hs' _ _ A s hg hst ha) ?_ (fun _ _ h=>h);rintro r s' ⟨β,rfl,lg',hs2,hg2,hst2⟩;exact⟨lg',hs2,hg2,hst2⟩
  ·exact Z2 hg
set_option tactic.hygienic true in theorem Ztz(O:Jm v o){s0:Zt}{op:Operator}{a b:Value}{x:Cx}{lg:Lg}{hs:Hs}{Q E:K Value}(hg:Z5 (Ztt o op a b x lg hs Q E))(hst:St v s0 lg s)(ha:Jn s0 x A):
  aU (M v) A (sN op a b) (Zn v s0 Q) (Zn v s0 E) s:=by
 unfold Ztt at hg;refine Z7 fun k'=> ?_;obtain⟨hs',hg|hg|hg⟩:=Jex hg
 ·rw[Zgh] at hg;exact k' (O.tr s0 _ _ _ lg hs' _ _ _ s hg hst ha)
 ·split at hg
  ·rename_i e;exact k' (Zqu (J0h e) ⟨_,hs',by rw[hst.toks];exact hg,hst.next⟩)
  ·exact Z2 hg
 ·obtain⟨h1,h2⟩:=Y4 hg;exact k' (Zqu h1 ⟨_,hs',by rw[hst.toks];exact h2,hst.next⟩)
end
theorem Z1e {e:Expr}(h:Zgf e=false)(rest:List Expr)(env:Env):jT (e::rest) env=(false,lP e env)::jT rest env:=by
 cases e<;>first|rfl|(contradiction)
theorem Z5j {e:Expr}{r:List Expr}(h:Z0u (e::r)=true):Zgf e=false/\Z0u r=true:=by
 dsimp only[Z0u] at h;refine Z7 fun a=> ?_
 split at h
 ·contradiction
 ·exact a (⟨by assumption,h⟩)
theorem Z68(env:Env)(m:Pos):∀(q:List Expr),Z0u q=true->(nT m (jT q env)).any (·.1)=false/\(nT m (jT q env)).all (!·.1)=true:=by
 intro y
 induction y with
 |nil=>
  intro _;exact⟨rfl,rfl⟩
 |cons e r ih=>
  intro h;haveI j:=Z5j h;haveI J:=j.1;haveI W:=j.2;haveI a:=ih W;haveI I:=a.1;haveI X:=a.2;rw[Z1e J];exact⟨by show(false||_)=false;dsimp only[qN];exact I,by show(true&&_)=true;dsimp only[lM];exact X⟩
set_option tactic.hygienic true in theorem Z3q(env:Env)(pos:Pos):∀(kws:List Keyword)(ns:List Str),Z1d kws=some ns->
  (jV pos (gQ kws env)).all (·.1.isSome)=true/\(jV pos (gQ kws env)).any (·.1.isNone)=false/\(jV pos (gQ kws env)).filterMap (·.1)=ns/\
  (jV pos (gQ kws env)).map (·.2)=(Z7z kws).map fun e=>do let v<-lP e env;kC pos;pure v
 |[],_,h=>by cases h;exact⟨rfl,rfl,rfl,rfl⟩
 |⟨none,v,p⟩::r,ns,h=>by contradiction
 |⟨some n,v,p⟩::r,ns,h=>by
  dsimp only[Z1d] at h;refine Z7 fun k'=> ?_
  split at h
  ·rename_i l hl;cases h;haveI hO2791:=Z3q env pos r l hl;haveI a:=hO2791.1;haveI b:=hO2791.2.1;haveI c:=hO2791.2.2.1;haveI d:=hO2791.2.2.2;refine k' ?_;refine⟨by show(true&&_)=true;dsimp only[lM];exact a,by show(false||_)=false;dsimp only[qN];exact b,by show n::_=n::l;rw[<-c];rfl, ?_⟩;show _::_=_::_;simp only[<-d];rfl
  ·contradiction
section
variable {v:V}{o:Jr}{g:G}{A:Around}{s:Shared}
theorem Zu0(O:Jm v o):Zye v (Z6p v g o):=by
 intro s0 es env x lg hs Q E A s hg hst ha;change Z5 (J3e o es env x lg hs Q E) at hg;cases es with
 |nil=>exact⟨fun j y=>wpAny_items_nil ⟨lg,hs,hg,hst⟩,fun j=>wpAny_evalAll_nil ⟨lg,hs,hg,hst⟩⟩
 |cons e r=>
  haveI h1:=O.ev s0 e env x lg hs _ _ A s hg hst ha;refine⟨fun j hn=> ?_,fun j=> ?_⟩
  ·haveI a:=Z5j hn;haveI n1:=a.1;haveI n2:=a.2;refine wpAny_items_cons (bC h1 ?_ (fun y y h=>h)) (Z1e n1 r env);rintro w s' ⟨W,I,X,m⟩;refine pm ((O.evs s0 r env x W I _ _ A s' X m ha).1 j n2) fun ws s2 J Z Y q=> ?_;exact⟨J,Z,Y,q⟩
  ·refine wpAny_evalAll_cons (aA (bC h1 ?_ (fun y y h=>h)));rintro w s' ⟨W,I,X,m⟩;refine aA (bW (aH ?_));refine pm ((O.evs s0 r env x W I _ _ A s' X m ha).2 j) fun ws s2 J Z Y q=> ?_;exact⟨J,Z,Y,q⟩
set_option tactic.hygienic true in theorem Zd9(O:Jm v o){s0:Zt}{f:Value}{first:List Value}{args:List Expr}{kws:List Keyword}{env:Env}{x:Cx}{lg:Lg}{hs:Hs}{Q E:K Value}{pos pos1 pos2:Pos}
  (hg:Z5 (Z9a o f first args kws env x lg hs Q E)) (hst:St v s0 lg s) (ha:Jn s0 x A):
  aU (M v) A (sO pos f first (nT pos1 (jT args env)) (jV pos2 (gQ kws env))) (Zn v s0 Q) (Zn v s0 E) s:=by
 unfold Z9a at hg
 split at hg
 ·rename_i hn
  split at hg
  ·rename_i ns hk;obtain⟨f1,f2⟩:=Z68 env pos1 args hn;haveI hO2827:=Z3q env pos2 kws ns hk;haveI k1:=hO2827.1;haveI k2:=hO2827.2.1;haveI k3:=hO2827.2.2.1;haveI k4:=hO2827.2.2.2;unfold sO;refine aA (eC ?_);have tail:∀{t:Sem Value} {s₁:Shared},aU (M v) A t (Zn v s0 Q) (Zn v s0 E) s₁->aU (M v) A (t>>=fun r=>oS [r] point>>=fun _=>pure r) (Zn v s0 Q) (Zn v s0 E) s₁:=
    fun ht=>aA (bC ht (fun r s₂ hr=>aA (eC (wpAny_point (aH hr)))) fun _ _ x=>x)
   have fin:∀(ps:List Value) (s₁:Shared),Zn v s0 (Zfa o f first kws ns env x Q E) ps s₁->aU (M v) A (evalAll ((Z7z kws).map fun e=>do let v<-lP e env;kC pos2;pure v))
     (fun kv s₂=>aU (M v) A (sP f) (fun kp s₂=>aU (M v) A (call f (first++ps) (ns.zip kv)) (Zn v s0 Q) (Zn v s0 E) s₂) (Zn v s0 E) s₂) (Zn v s0 E) s₁:=by
    rintro ps s₁ ⟨lg0,hs0,hg0,hst0⟩;unfold Zfa at hg0;refine pm ((O.evs s0 _ env x lg0 hs0 _ _ A s₁ hg0 hst0 ha).2 pos2) fun kv s₁ lg1 hs1 hg1 hst1=> ?_;rw[Zgj] at hg1;refine pm (O.tr s0 _ _ _ lg1 hs1 _ _ _ s₁ hg1 hst1 ha) fun kp s₂ lg2 hs2 hg2 hst2=> ?_;refine nU (cm (O.cd s0 _ _ lg2 hs2 _ A s₂ hg2 hst2 ha.callN) fun r s₃ lg3 hs3 hg3 hst3=> ?_);cases r with
    |error e=>exact⟨lg3,hs3,hg3,hst3⟩
    |ok fl=>
     cases fl with
     |ret w=>exact⟨lg3,hs3,hg3,hst3⟩
     |next=>exact(Z2 hg3).elim
     |brk=>exact(Z2 hg3).elim
     |cont=>exact(Z2 hg3).elim
   have rest:∀(n:Nat) (ps:List Value) (kv:List Value) (s₁:Shared),aU (M v) A (sP f) (fun kp s₂=>aU (M v) A (call f (first++ps) (ns.zip kv)) (Zn v s0 Q) (Zn v s0 E) s₂) (Zn v s0 E) s₁->aU (M v) A (do
     kC pos
     let r<-match<-sP f,false with
      | .frame,true=>mP starredCall f (first++ps) (ns.zip kv)
      | .frame,false=>if n>30 then call f (first++ps) (ns.zip kv) else mP plainCall f (first++ps) (ns.zip kv)
      | .boundFrame,false=>if n>30 then call f (first++ps) (ns.zip kv) else mP callOfAMethodObject f (first++ps) (ns.zip kv)
      | .machine,false=>call f (first++ps) (ns.zip kv)
      |_,_=>operate (f::(if false=true then(first++ps).reverse else(first++ps))++(ns.zip kv).map (·.2)) (call f (first++ps) (ns.zip kv))
     oS [r] point
     pure r) (Zn v s0 Q) (Zn v s0 E) s₁:=by
    intro n ps kv s₁ h;refine aA (bW (aA (bC h (fun kp s₂ h₂=> ?_) (fun _ _ h=>h))));cases kp with
    |frame=>
     simp only
     split
     ·exact tail h₂
     ·exact tail (by unfold mP;exact oU h₂)
    |boundFrame=>
     simp only
     split
     ·exact tail h₂
     ·exact tail (by unfold mP;exact oU h₂)
    |machine=>exact tail h₂
    |caller=>exact tail (wpAny_operateT h₂)
   rw[f1,k2];dsimp only[Bool.or_self]
   split at hg
   ·refine evalArgs_kw_nil k1 ?_;rw[k3,k4];exact bC (fin [] s ⟨lg,hs,hg,hst⟩) (fun kv s₁ h=>rest _ [] kv s₁ h) (fun _ _ h=>h)
   ·rename_i e r;haveI hO2839:=Z5j hn;haveI n1:=hO2839.1;haveI n2:=hO2839.2;haveI h1:=(O.evs s0 (e::r) env x lg hs _ _ A s hg hst ha).1 pos1 hn;rw[Z1e n1] at h1;rw[Z1e n1];refine evalArgs_kw k1 (bC h1 (fun ps s₁ h=> ?_) (fun _ _ h=>h));rw[k3,k4];exact bC (fin ps s₁ h) (fun kv s₁ h=>rest _ ps kv s₁ h) (fun _ _ h=>h)
  ·exact(Z2 hg).elim
 ·exact(Z2 hg).elim
end
section
variable {v:V}{o:Jr}{g:G}{A:Around}{s:Shared}
theorem Zda {α β:Type}{vs:List Value}{m:Sem α}{f:α->Sem β}{Q:β->Shared->Prop}{E:Value->Shared->Prop}(h:aU (M v) A (m>>=f) Q E s):aU (M v) A (oS vs m>>=f) Q E s:=fun Γ p a=>by
 have:=h Γ p a;simp only[iG] at this⊢;simp only[qO];exact this
theorem J3q {α β γ:Type}{a:Sem α}{b:α->Sem β}{f:α->β->Sem γ}{Q:α->Shared->Prop}{I:γ->Shared->Prop}{E:Value->Shared->Prop}
  (h:aU (M v) A (do let r<-a;let _<-b r;pure r) Q E s) (hf:∀r X s',Q r s'->aU (M v) A (f r X) I E s'):aU (M v) A (do let r<-a;let p<-b r;f r p) I E s:=fun Γ p J=>by
 haveI j:=h Γ p J;rw[iG] at j⊢;refine lE _ Γ _ (fun r p1 W m=> ?_) (fun y y y h=>h) p s j;simp only[iG] at m⊢;exact lE _ Γ _ (fun q Z s2 Y=>hf r q s2 Y Γ Z J) (fun y y y h=>h) p1 W m
theorem Zbh {e:Expr}(h:Z7y e=true)(j:Str)(env:Env)(a:Sem Value):attributeBase e j env a=a:=by
 cases e with
 |Call f args kws p=>
  cases f with
  |Name=>
   cases args with
   |cons=>rfl
   |nil=>
    cases kws with
    |cons=>rfl
    |nil=>exact nomatch h
  |_=>rfl
 |_=>rfl
theorem Zkg(O:Jm v o){s0:Zt}{j:BoolOp}{m:Pos}{env:Env}{x:Cx}{Q E:K Value}(q:Jn s0 x A):∀(vs:List Expr){lg:Lg}{hs:Hs}{s:Shared},
  Z5 (Zyd o j vs env x lg hs Q E)->St v s0 lg s->aU (M v) A (boolOp m j (evalEach vs env)) (Zn v s0 Q) (Zn v s0 E) s
 |[],_,_,_,hg,_=>(Z2 hg).elim
 |[e],lg,hs,s,hg,hst=>O.ev s0 e env x lg hs _ _ A s hg hst q
 |e::e2::r,lg,hs,s,hg,hst=>by
  show aU (M v) A (do
   let w<-lP e env
   kC m
   let t<-oS [w] (truthy w)
   match j,t with
   | .And,false| .Or,true=>pure w
   |_,_=>boolOp m j (evalEach (e2::r) env)) _ _ s
  refine aA (pm (O.ev s0 e env x lg hs _ _ A s hg hst q) fun w s1 Y Z J I=> ?_);refine aA (bW (aA (eC (pm (Zgv O J I q) fun t s2 W X y a=> ?_))));cases j<;>cases t<;>first|exact aH ⟨W,X,y,a⟩|exact Zkg O q (e2::r) y a
theorem J3r(O:Jm v o){s0:Zt}{a:BoolOp}{env:Env}{x:Cx}{Q:K Bool}{E:K Value}(X:Jn s0 x A):∀(vs:List Expr){lg:Lg}{hs:Hs}{s:Shared},
  Z5 (J3d o a vs env x lg hs Q E)->St v s0 lg s->aU (M v) A (allTrue a vs env) (Zn v s0 Q) (Zn v s0 E) s:=by
 intro J
 induction J with
 |nil=>
  intro lg hs s y m;show aU (M v) A (pure (a== .And)) _ _ s;cases a<;>exact aH ⟨lg,hs,y,m⟩
 |cons e r ih=>
  intro lg hs s y m;show aU (M v) A (do
   match a,<-PySem.isTrue e env (lP e env) with
   | .And,false=>pure false
   | .Or,true=>pure true
   |_,_=>allTrue a r env) _ _ s
  refine aA (pm (O.tst s0 e env x lg hs _ _ A s y m X) fun t Y I W q j=> ?_);cases a<;>cases t<;>first|exact aH ⟨I,W,q,j⟩|exact ih q j
def J3s(name:Str)(id:String):Prop:=∀(M:Model) (A:Around) (E:Value->Shared->Prop) (s:Shared) (Q:Value×List Value->Shared->Prop) (x:Str) (t:Tok) (a:Sem Bool),Q (.builtin id,[.str x t]) s->aU M A (getMethod (.str x t) name a) Q E s
theorem J0j:∀p∈Zts,J3s p.1 p.2:=by
 intro p a;simp only[Zts,aC,aD,or_false] at a;rcases a with rfl|rfl|rfl|rfl|rfl|rfl|rfl|rfl|rfl
 all_goals intro M A E s Q x t j h
 ·exact PySem.GM.lower h
 ·exact PySem.GM.upper h
 ·exact PySem.GM.find h
 ·exact PySem.GM.rfind h
 ·exact PySem.GM.startswith h
 ·exact PySem.GM.endswith h
 ·exact PySem.GM.count h
 ·exact PySem.GM.join h
 ·exact PySem.GM.split h
set_option tactic.hygienic true in theorem J3t {args:List Expr}{kws:List Keyword}{env:Env}{p1 p2:Pos}{n:Nat}(hn:Z0u args=true){ns:List Str}(hk:Z1d kws=some ns):
  nW n (nT p1 (jT args env)) (jV p2 (gQ kws env))=nW n (Zd1 args) (Zd2 kws):=by
 haveI hO3835:=Z68 env p1 args hn;haveI f2:=hO3835.2;haveI hO3847:=Z3q env p2 kws ns hk;haveI k1:=hO3847.1;haveI a1:(Zd1 args).all (!·.1)=true:=by
  unfold Zd1;rw[List.all_map];exact mB.mpr fun _ _=>rfl
 haveI key:∀(kws:List Keyword) (ns:List Str),Z1d kws=some ns->(Zd2 kws).all (·.1.isSome)=true:=by
  intro kws
  induction kws with
  |nil=>intro _ _;rfl
  |cons k r ih=>
   intro ns h;obtain⟨a,v,p⟩:=k;cases a with
   |none=>contradiction
   |some n=>
    dsimp only[Z1d] at h;refine Z7 fun k'=> ?_
    split at h
    ·rename_i l hl;refine k' ?_;show(true&&_)=true;rw[lM];exact ih l hl
    ·contradiction
 have e1:(Zd2 kws).isEmpty=(jV p2 (gQ kws env)).isEmpty:=by
  cases kws with
  |nil=>rfl
  |cons k r=>obtain⟨a,b,c⟩:=k;rfl
 unfold nW;simp only[f2,k1,a1,key kws ns hk,e1]
set_option tactic.hygienic true in
set_option tactic.hygienic true in theorem J0k(O:Jm v o){s0:Zt}{ob:Expr}{name:Str}{apos pos:Pos}{ov:Value}{args:List Expr}{kws:List Keyword}{env:Env}{x:Cx}{lg:Lg}{hs:Hs}{Q E:K Value}
  (hg:Z5 (Zme o ob name apos pos ov args kws env x lg hs (fun fp lg hs=>Z9a o fp.1 fp.2 args kws env x lg hs Q E) E)) (hst:St v s0 lg s) (ha:Jn s0 x A) (hns:Z0u args=true) {ns:List Str} (hks:Z1d kws=some ns):
  aU (M v) A (methodCall ob name apos pos env ov (args.length+kws.length) (nT pos (jT args env)) (jV pos (gQ kws env))) (Zn v s0 Q) (Zn v s0 E) s:=by
 dsimp only[methodCall];rw[J3t hns hks];dsimp only[Zme] at hg;refine Z7 fun k'=> ?_;obtain⟨d,hs',hg⟩:=J4 hg;cases d with
 |zero=>
  simp only at hg;rw[Zgi,Z40,Z3j] at hg;refine k' ?_;refine Zda ?_;refine J3q (O.tr s0 _ _ _ lg hs' _ _ _ s hg hst ha) ?_;rintro r p' s1 ⟨lg1,hs1,hg1,hst1⟩;exact Zd9 O hg1 hst1 ha
 |succ j=>
  simp only at hg
  split at hg
  ·exact Z2 hg
  ·rename_i hf;rw[Z3j] at hf;refine k' ?_;rw[hf];refine Z7 fun k'=> ?_
   split at hg
   ·split at hg
    ·rename_i nm hnm
     split at hg
     ·rename_i hnames;have hname:name=nm.1:=Z32 ((Z43 _ _).mp hnames);rw[Z40] at hg;refine k' ?_;refine Zda (aA (m:=calleeOf true ob env _ name) ?_);unfold calleeOf;rw[if_pos rfl,hname];refine J0j nm (aZ hnm) _ A _ s _ _ _ _ ?_;refine aA (pm (O.tr s0 _ _ _ lg hs' _ _ _ s hg hst ha) fun p' s1 lg1 hs1 hg1 hst1=> ?_);exact Zd9 O hg1 hst1 ha
     ·exact Z2 hg
    ·exact Z2 hg
   ·exact Z2 hg
end
section
variable {v:V}{o:Jr}{g:G}{A:Around}{s:Shared}
set_option tactic.hygienic true in theorem J0l(GO:J5 v g)(O:Jm v o):J3k v (Z6p v g o):=by
 intro s0 e env x lg hs Q E A s hg hst ha;change Z5 (evS g o e env x lg hs Q E) at hg;have fall:∀e:Expr,Z5 (o.tr Value (Z6o e env) x lg hs Q E)->aU (M v) A (lP e env) (Zn v s0 Q) (Zn v s0 E) s:=fun e hg=>by
  rw[Zgg] at hg;exact O.tr s0 _ _ _ lg hs _ _ _ s hg hst ha
 cases e with
 |BinOp l op r p=>exact wpAny_BinOp (pm (O.ev s0 _ env x lg hs _ _ A s hg hst ha) fun a s1 lg1 hs1 hg1 hst1=>pm (O.ev s0 _ env x lg1 hs1 _ _ A s1 hg1 hst1 ha) fun b s2 lg2 hs2 hg2 hst2=>Ztz O hg2 hst2 ha)
 |UnaryOp op y p=>exact wpAny_UnaryOp (pm (O.ev s0 _ env x lg hs _ _ A s hg hst ha) fun a s1 lg1 hs1 hg1 hst1=>Jbo O hg1 hst1 ha)
 |IfExp t b f p=>
  refine wpAny_IfExp (pm (O.tst s0 _ env x lg hs _ _ A s hg hst ha) fun b s1 lg1 hs1 hg1 hst1=> ?_);cases b with
  |true=>exact O.ev s0 _ env x lg1 hs1 _ _ A s1 hg1 hst1 ha
  |false=>exact O.ev s0 _ env x lg1 hs1 _ _ A s1 hg1 hst1 ha
 |BoolOp op vs p=>exact Zkg O ha _ hg hst
 |List es p=>
  refine Z7 fun k'=> ?_;obtain⟨hn,hg⟩:=tt hg;refine k' ?_;rw[arm_eval_List];exact aA (bW (aA (pm ((O.evs s0 _ env x lg hs _ _ A s hg hst ha).1 _ hn) fun vs s1 lg1 hs1 hg1 hst1=>Zjq▸O.tr s0 _ _ _ lg1 hs1 _ _ _ s1 hg1 hst1 ha)))
 |Tuple es k p=>
  haveI hO4603:=tt hg;haveI hn:=hO4603.1;haveI hg:=hO4603.2;rw[arm_eval_Tuple];exact aA (bW (aA (pm ((O.evs s0 _ env x lg hs _ _ A s hg hst ha).1 _ hn) fun vs s1 lg1 hs1 hg1 hst1=>Zgk▸O.tr s0 _ _ _ lg1 hs1 _ _ _ s1 hg1 hst1 ha)))
 |Compare l Ql cs p=>
  cases Ql with
  |nil=>exact fall _ hg
  |cons op Ql=>
   cases Ql with
   |cons=>exact fall _ hg
   |nil=>
    cases cs with
    |nil=>exact fall _ hg
    |cons r cs=>
     cases cs with
     |cons=>exact fall _ hg
     |nil=>
      change Z5 (match Q7 op r with|false=>_|true=>_) at hg;cases hm:Q7 op r with
      |true=>rw[hm] at hg;exact fall _ hg
      |false=>
       rw[hm] at hg;exact wpAny_Compare1 (pm (O.ev s0 _ env x lg hs _ _ A s hg hst ha) fun a s1 lg1 hs1 hg1 hst1=>pm (O.ev s0 _ env x lg1 hs1 _ _ A s1 hg1 hst1 ha) fun b s2 lg2 hs2 hg2 hst2=>Zqv GO O hg2 hst2 ha) (Z41▸hm)
 |Call f args kws pos=>
  have key:(Z5 (o.ev f env x lg hs (fun fv lg hs=>Z9a o fv [] args kws env x lg hs Q E) E)/\lP (.Call f args kws pos) env=(do sO pos (<-lP f env) [] (nT pos (jT args env)) (jV pos (gQ kws env))))\/∃ob name apos,f= .Attribute ob name apos:=by
   cases f with
   |Attribute ob name apos=>exact .inr ⟨_,_,_,rfl⟩
   |_=>exact .inl ⟨hg,rfl⟩
  rcases key with⟨hg,e⟩|⟨ob,name,apos,rfl⟩
  ·rw[e];exact aA (pm (O.ev s0 _ env x lg hs _ _ A s hg hst ha) fun fv s1 lg1 hs1 hg1 hst1=>Zd9 O hg1 hst1 ha)
  ·haveI hO4615:=tt hg;haveI hb:=hO4615.1;haveI hg:=hO4615.2;rw[arm_eval_Call,Zbh hb];obtain⟨hn,hg⟩:=tt hg
   split at hg
   ·rename_i ns hk;exact aA (pm (O.ev s0 _ env x lg hs _ _ A s hg hst ha) fun ov s1 lg1 hs1 hg1 hst1=>aA (bW (J0k O hg1 hst1 ha hn hk)))
   ·exact(Z2 hg).elim
 |Attribute b attr p=>
  haveI hO4639:=tt hg;haveI hb:=hO4639.1;haveI hg:=hO4639.2;rw[arm_eval_Attribute,Zbh hb];refine aA (pm (O.ev s0 _ env x lg hs _ _ A s hg hst ha) fun bv s1 lg1 hs1 hg1 hst1=> ?_);rw[Zjp,Z9y] at hg1;exact aA (bW (Zda (O.tr s0 _ _ _ lg1 hs1 _ _ _ s1 hg1 hst1 ha)))
 |Subscript b i p=>
  rw[arm_eval_Subscript];refine aA (pm (O.ev s0 _ env x lg hs _ _ A s hg hst ha) fun bv s1 lg1 hs1 hg1 hst1=>aA (eC (pm (O.ev s0 _ env x lg1 hs1 _ _ A s1 hg1 hst1 ha) fun sv s2 lg2 hs2 hg2 hst2=> ?_)));rw[Z7p,Zbc,Z9y] at hg2;exact aA (bW (O.tr s0 _ _ _ lg2 hs2 _ _ _ s2 hg2 hst2 ha))
 |_=>exact fall _ hg
theorem Zu1(GO:J5 v g)(O:Jm v o):Zyf v (Z6p v g o):=by
 intro s0 e env x lg hs Q E A s j W I;change Z5 (J3f g o e env x lg hs Q E) at j;have q:∀e:Expr,Z5 (o.tr Bool (Z95 e env (Z6o e env)) x lg hs Q E)->aU (M v) A (PySem.isTrue e env (lP e env)) (Zn v s0 Q) (Zn v s0 E) s:=fun e j=>by
  rw[Zgg,Zmg] at j;exact O.tr s0 _ _ _ lg hs _ _ _ s j W I
 cases e with
 |UnaryOp op y p=>
  cases op with
  |Not=>exact wpAny_isTrue_Not (pm (O.tst s0 _ env x lg hs _ _ A s j W I) fun b s1 Y X J m=>⟨Y,X,J,m⟩)
  |_=>exact(Z2 j).elim
 |BoolOp op vs p=>exact wpAny_isTrue_BoolOp (J3r O I _ j W)
 |IfExp=>exact(Z2 j).elim
 |Compare l Ql cs p=>
  cases Ql with
  |nil=>exact q _ j
  |cons op Ql=>
   cases Ql with
   |cons=>exact q _ j
   |nil=>
    cases cs with
    |nil=>exact q _ j
    |cons r cs=>
     cases cs with
     |cons=>exact q _ j
     |nil=>
      change Z5 (match Q7 op r with|false=>_|true=>_) at j;cases hm:Q7 op r with
      |true=>rw[hm] at j;exact q _ j
      |false=>
       rw[hm] at j;exact wpAny_isTrue_Compare1 (pm (O.ev s0 _ env x lg hs _ _ A s j W I) fun a s1 Y X J m=>pm (O.ev s0 _ env x Y X _ _ A s1 J m I) fun b s2 lg2 hs2 hg2 Z=>
        pm (Zqv GO O hg2 Z I) fun c s3 lg3 hs3 hg3 hst3=>Zgv O hg3 hst3 I) (Z41▸hm)
 |_=>exact wpAny_isTrue_value (pm (O.ev s0 _ env x lg hs _ _ A s j W I) fun w s1 Y X J m=>Zgv O J m I) rfl
end
theorem Zej {e:Expr}(h:Z66 e=false)(t:Option Expr)(l:Nat)(env:Env):swapsWith e t l env=pure false:=by
 cases e<;>first|rfl|contradiction
theorem Zf0 {e:Expr}(h:Z66 e=false)(a:List Expr)(l:Nat)(env:Env):swapsWithSole a e l env=pure false:=by
 unfold swapsWithSole
 split
 ·exact Zej h _ _ _
 ·rfl
section
variable {v:V}{o:Jr}{g:G}{A:Around}{s:Shared}
theorem J3u {st:Stmt}{env:Env}{Q:Flow->Shared->Prop}{E:Value->Shared->Prop}(h:aU (M v) A (nA [st] env) Q E s):aU (M v) A (exec st env) Q E s:=fun Γ p m=>by
 haveI a:=h Γ p m;simp only[execs_cons,iG] at a;refine lE _ Γ _ (fun f q I j=> ?_) (fun y y y h=>h) p s a;cases f<;>exact j
theorem Zkh {α β γ:Type}{a:Sem α}{b:α->Sem β}{q:Pos}{vs:α->List Value}{f:β->Sem γ}{Q:β->Shared->Prop}{I:γ->Shared->Prop}{E:Value->Shared->Prop}
  (h:aU (M v) A (do let y<-a;kC q;b y) Q E s) (hf:∀r s',Q r s'->aU (M v) A (f r) I E s'):aU (M v) A (do let y<-a;kC q;let it<-oS (vs y) (b y);f it) I E s:=fun Γ p J=>by
 haveI j:=h Γ p J;rw[iG] at j⊢;refine lE _ Γ _ (fun y p1 W m=> ?_) (fun z z z h=>h) p s j;rw[iG,Sem.wp_cmd_standAt] at m⊢;simp only[iG,qO];exact lE _ Γ _ (fun r Y Z X=>hf r Z X Γ Y J) (fun z z z h=>h) _ W m
theorem Zu2 {e:Expr}{env:Env}{j:Pos}{Q:Flow->Shared->Prop}{E:Value->Shared->Prop}{A:Around}{s:Shared}
  (h:aU (M v) A (lP e env) (fun w a=>aU (M v) A (nI env (some (.pure w)) none) Q E a) E s):aU (M v) A (exec (.Raise (some e) none j) env) Q E s:=by
 haveI k:∀{m:Sem Value},aU (M v) A m (fun w a=>aU (M v) A (nI env (some (.pure w)) none) Q E a) E s->aU (M v) A (nI env (some m) none) Q E s:=fun {m} h=>by
  haveI e:nI env (some m) none=m>>=fun w=>nI env (some (.pure w)) none:=rfl;rw[e];exact aA h
 simp only[arm_exec_Raise];exact aA (bW (k (aA (bC h (fun w a q=>aA (bW (aH q))) fun y y x=>x))))
theorem Zu3 {e:Value}{n:Str}{env:Env}{b:Stmt}{a:List Stmt}{j:Pos}{R:Result->Shared->Prop}{A:Around}{s:Shared}
  (h:aU (M v) A (setFlight e none) (fun y s0=>aU (M v) A (bindName env n e) (fun y q=>aU (M v) A (nA (b::a) env) (fun f I=>R (.ok f) I) (fun y y=>False) q) (fun y y=>False) s0) (fun y y=>False) s):
  bR (M v) A (.handlers e [.ExceptHandler none (some n) (b::a) j] env) R s:=by
 refine sD ?_;show aU _ A (do return PySem.Fin.done (<-(handleWith e env [.ExceptHandler none (some n) (b::a) j]).onRaise (fun x=>do fI x env;dI x))) _ _ s;refine aA (wpAny_noted ?_);dsimp only[handleWith];refine aA (bW (aA (bC h (fun y q W=> ?_) fun y y x=>x.elim)));refine aA (bC W (fun y I X=> ?_) fun y y x=>x.elim);exact aA (kJ (bC X (fun f J m=>aH (aH m)) fun x J m=>m.elim))
theorem J3v(O:Jm v o){s0:Zt}{body:List Stmt}{t:Expr}{n:Str}{b:Stmt}{m:List Stmt}{hp I:Pos}{env:Env}{x:Cx}{lg:Lg}{hs:Hs}{Q:K Flow}{E:K Value}(hg:Z5 (exS o (.Try body [.ExceptHandler (some t) (some n) (b::m) hp] [] [] I) env x lg hs Q E))(hst:St v s0 lg s)(a:Jn s0 x A):
  aU (M v) A (exec (.Try body [.ExceptHandler (some t) (some n) (b::m) hp] [] [] I) env) (Zn v s0 Q) (Zn v s0 E) s:=by
 refine wpAny_Try_except (bC (O.sx s0 body env x lg hs _ _ A s hg hst a) (fun f s1 h1=> ?_) fun e s1 ⟨lg1,hs1,hg1,hst1⟩=>pmb (Zd6 O hg1 hst1 a) fun y s2 lg2 hs2 hg2 Y=>
   pmb (Z12▸O.tr s0 _ _ _ lg2 hs2 _ _ _ s2 hg2 Y a) fun y s3 lg3 hs3 hg3 hst3=>wpAny_handleBy_cons (codeAny_handlers_test (pmb (O.ev s0 t env _ lg3 hs3 _ _ _ s3 hg3 hst3 (a.mark (some e))) fun c s4 lg4 hs4 hg4 Z=>
    pmb (Zey▸O.tr s0 _ _ _ lg4 hs4 _ _ _ s4 hg4 Z (a.mark (some e))) fun hit s5 lg5 hs5 j hst5=> ?_)) ?_)
 ·cases f with
  |next=>exact nO h1
  |_=>exact h1
 ·cases hit with
  |false=>exact(Z2 j).elim
  |true=>
   simp only at j;rw[<-Z12,Zjr,Zbg] at j;rw[Z12] at j;exact Zu3 (pmb (O.tr s0 _ _ _ lg5 hs5 _ _ _ s5 j hst5 (a.mark (some e))) fun y s60 W X hg60 q=>pmb (O.tr s0 _ _ _ W X _ _ _ s60 hg60 q (a.mark (some e))) fun y s6 lg6 hs6 hg6 hst6=>
    pmb (O.sx s0 _ env _ lg6 hs6 _ _ _ s6 hg6 hst6 (a.mark (some e))) fun f s7 lg7 hs7 hg7 J=>bC (O.tr s0 _ _ _ lg7 hs7 _ _ _ s7 hg7 J a) (fun y y h=>h) (fun y y h=>(Zah h).elim))
 ·rintro rfl;exact Z2 hg1
theorem Zyh(O:Jm v o){s0:Zt}{st:Stmt}{env:Env}{x:Cx}{lg:Lg}{hs:Hs}{Q:K Flow}{E:K Value}(a:Z5 (exS o st env x lg hs Q E))(Y:St v s0 lg s)(X:Jn s0 x A):
  aU (M v) A (exec st env) (Zn v s0 Q) (Zn v s0 E) s:=by
 have q:∀st:Stmt,Z5 (o.tr Flow (Z7r [st] env) x lg hs Q E)->aU (M v) A (exec st env) (Zn v s0 Q) (Zn v s0 E) s:=fun e a=>by
  rw[Zqp] at a;exact J3u (O.tr s0 _ _ _ lg hs _ _ _ s a Y X)
 cases st with
 |Return e p=>cases e with
  |none=>exact q _ a
  |some e=>exact wpAny_Return_some (O.ev s0 _ env x lg hs _ _ A s a Y X)
 |If t b f p=>
  refine wpAny_If (pm (O.tst s0 _ env x lg hs _ _ A s a Y X) fun b Z W J I j=> ?_);cases b with
  |true=>exact O.sx s0 _ env x W J _ _ A Z I j X
  |false=>exact O.sx s0 _ env x W J _ _ A Z I j X
 |For target iter body orelse pos=>
  simp only[arm_exec_For];refine aA (bW (aA (pm (O.ev s0 _ env x lg hs _ _ A s a Y X) fun w Z W J I j=> ?_)));rw[Z24,Zbd] at I;refine Zkh (O.tr s0 _ _ _ W J _ _ _ Z I j X) fun it s2 ⟨lg2,hs2,hg2,hst2⟩=>oV (cm (O.cd s0 _ _ lg2 hs2 _ _ s2 hg2 hst2 (X.mark none)) fun r s3 lg3 hs3 hg3 hst3=> ?_);cases r with
  |ok f=>exact⟨lg3,hs3,hg3,hst3⟩
  |error e=>exact J08 O hg3 hst3 X (fun y y h=>h)
 |While test body orelse pos=>
  simp only[exec_While];refine aA (bW (oV (cm (O.cd s0 _ _ lg hs _ _ s a Y (X.mark none)) fun r s3 lg3 hs3 hg3 hst3=> ?_)));cases r with
  |ok f=>exact⟨lg3,hs3,hg3,hst3⟩
  |error e=>exact(Z2 hg3).elim
 |Expr value pos=>
  obtain⟨hc,a⟩:=tf a;haveI hO2755:=tf a;haveI hi:=hO2755.1;haveI a:=hO2755.2;rw[Zbf] at hi;rw[arm_exec_Expr,hi,Zej hc];exact aA (bW (aA (aH (aA (pm (O.ev s0 _ env x lg hs _ _ A s a Y X) fun w Z W J I j=>Zex▸O.tr s0 _ _ _ W J _ _ _ Z I j X)))))
 |Assign targets value pos=>
  change Z5 (match Z66 value with|true=>_|false=>_) at a;cases hc:Z66 value with
  |true=>rw[hc] at a;exact q _ a
  |false=>
   rw[hc] at a;rw[arm_exec_Assign,Zf0 hc];refine aA (bW (aA (aH (aA (pm (O.ev s0 _ env x lg hs _ _ A s a Y X) fun w Z W J I j=> ?_)))));rw[Z9v,Zad,Zd3] at I;exact O.tr s0 _ _ _ W J _ _ _ Z I j X
 |Assert t m p=>
  refine wpAny_Assert_holds (pm (O.tst s0 _ env x lg hs _ _ A s a Y X) fun b Z W J I j=> ?_);cases b with
  |true=>exact⟨rfl,W,J,I,j⟩
  |false=>exact(Z2 I).elim
 |Raise e c pos=>cases e with
  |none=>exact q _ a
  |some e=>cases c with
   |some=>exact q _ a
   |none=>exact Zu2 (pm (O.ev s0 e env x lg hs _ _ A s a Y X) fun w Z W J I j=>Zgq▸O.tr s0 _ _ _ W J _ _ _ Z I j X)
 |Try body hds orelse final pos=>cases hds with
  |nil=>exact q _ a
  |cons hd hds=>
   obtain⟨t,n,suite,hp⟩:=hd;cases t with
   |none=>exact q _ a
   |some t=>cases n with
    |none=>exact q _ a
    |some n=>cases suite with
     |nil=>exact q _ a
     |cons b suite=>cases hds with
      |cons=>exact q _ a
      |nil=>cases orelse with
       |cons=>exact q _ a
       |nil=>cases final with
        |cons=>exact q _ a
        |nil=>exact J3v O a Y X
 |_=>exact q _ a
theorem J0m(O:Jm v o):J3l v (Z6p v g o):=by
 intro s0 ss env x lg hs Q E A s I y J;change Z5 (sxS o ss env x lg hs Q E) at I;cases ss with
 |nil=>exact nO ⟨lg,hs,I,y⟩
 |cons st r=>
  refine nL (pm (Zyh O I y J) fun f W m q j a=> ?_);cases f with
  |next=>exact O.sx s0 _ env x m q _ _ A W j a J
  |brk=>exact⟨m,q,j,a⟩
  |cont=>exact⟨m,q,j,a⟩
  |ret w=>exact⟨m,q,j,a⟩
theorem J0n:Jm v J3g:=by
 exact⟨fun y y y y y y y y y y h=>(Z2 h).elim,fun y y y y y y y y h=>(Z2 h).elim,fun y y y y y y y y y y h=>(Z2 h).elim,fun y y y y y y y y y y h=>(Z2 h).elim,fun y y y y y y y y y y h=>(Z2 h).elim,fun y y y y y y y y y y h=>(Z2 h).elim⟩
theorem Z13(GO:J5 v g):∀n,Jm v (Ql v g n):=by
 intro a
 induction a with
 |zero=>
  exact J0n
 |succ n ih=>
  exact⟨J05 g (ih),J0f GO (ih),J0l GO (ih),Zu0 (ih),Zu1 GO (ih),J0m (ih)⟩
end
noncomputable def Z09:List Nat->Bool
 |[]=>true
 |a::l=>match l.any (cK a) with|true=>false|false=>Z09 l
noncomputable def Z1z(lg:Lg):List Nat->Option (List Sl)
 |[]=>some []
 |j::r=>match lg.at j with
  |some s=>(match Z1z lg r with|some l=>some (s::l)|none=>none)
  |none=>none
noncomputable def Z53:List Sl->List Sl->Z8->Z8
 |[],[],r=>r
 |a::l,b::m,r=>Z8.ob (.sl a) (.sl b) (Z53 l m r)
 |_,_,_=>Zd "slots"
noncomputable def Z3(o:Obj):Nat:=match o.data with
 | .seq _ n=>n
 | .dict _ n=>n
 |_=>0
noncomputable def Z6(v:Value):Nat:=match v with
 | .str _ t=>t
 | .int _ t=>t
 |_=>0
def Jhy(o:Obj)(i:Nat):Nat:=match o.data with
 | .seq l _=>(match Z5i l.toList i with|some v=>Z6 v|none=>0)
 |_=>0
noncomputable def Zdb:Sl:=⟨0,⟨.none,none, .plain,⟨[]⟩⟩, .no⟩
def Q0(l:List Sl)(i:Nat):Sl:=match Z5i l i with|some s=>s|none=>Zdb
def Qo(a:Value)(lg:Lg)(W:List Sl):Ph:=⟨nE (aO lg.b lg.m) 8,aO lg.t lg.i,a,Q0 W⟩
noncomputable def Jey(v:Value):Nat:=match v with
 | .ref a=>a
 |_=>0
noncomputable def Z5k(r:Result):Value:=match r with
 | .ok (.ret x)=>x
 |_=> .none
def Z4k(lg:Lg)(hs:Hs)(k:Nat×Obj->Hs->Z8):Z8:=
 pop (.prim 10 none .none .none lg) hs fun j hs=>pop (.prim 11 none .none .none lg) hs fun i hs=>match lg.at j with
  |some s=>(match i with
   |0=>(match Zy s.g with|true=>k (s.a,s.o) hs|false=>Zd "regroup")
   |i+1=>(match Zgb s.g i with|some p=>k p hs|none=>Zd "regroup: element"))
  |none=>Zd "regroup: slot"
def Z54(lg:Lg)(n:Nat):Hs->(List (Nat×Obj)->Hs->Z8)->Z8:=
 Nat.rec (motive:=fun y=>Hs->(List (Nat×Obj)->Hs->Z8)->Z8) (fun hs k=>k [] hs) (fun y a hs k=>Z4k lg hs fun p hs=>a hs fun l hs=>k (p::l) hs) n
noncomputable def Zu4(o:Obj):Value×Value:=match o.data with
 | .seq l _=>(match l.toList with
  |a::b::_=>(a,b)
  |_=>(.none, .none))
 |_=>(.none, .none)
def Zdc(p:Nat×Obj):Option He:=oG (fun q:(Str×Nat)×(Str×Nat)=>⟨p.1,q.1.1,q.1.2,q.2.1,q.2.2⟩) (match Zu4 p.2 with
 |(.str k kt, .str v vt)=>some ((k,kt),(v,vt))
 |_=>none)
def Zu5(p:Nat×Obj):Option Si:=oG (fun q:(Str×Nat)×(Int×Nat)=>⟨p.1,q.1.1,q.1.2,q.2.1,q.2.2⟩) (match Zu4 p.2 with
 |(.str k kt, .int v vt)=>some ((k,kt),(v,vt))
 |_=>none)
def Z6v(p:Nat×Obj):Option Is:=oG (fun q:(Int×Nat)×(Str×Nat)=>⟨p.1,q.1.1,q.1.2,q.2.1,q.2.2⟩) (match Zu4 p.2 with
 |(.int k kt, .str v vt)=>some ((k,kt),(v,vt))
 |_=>none)
def heO(e:He):Obj:=Yf (.str e.k e.kt) (.str e.v e.vt)
def siO(e:Si):Obj:=Yf (.str e.k e.kt) (.int e.c e.ct)
def isO(e:Is):Obj:=Yf (.int e.c e.ct) (.str e.k e.kt)
def Z6w {α:Type}(f:Nat×Obj->Option α)(a:α->Obj)(l:List (Nat×Obj)):(List α->Z8)->Z8:=
 List.rec (motive:=fun y=>(List α->Z8)->Z8) (fun k=>k []) (fun p y j k=>match f p with
  |some e=>Z8.ob (.obj p.2) (.obj (a e)) (j fun r=>k (e::r))
  |none=>Zd "regroup: what") l
noncomputable def Z84(L:List Value)(n:Nat):Obj:=⟨.type "list",none, .seq ⟨L⟩ n,⟨[]⟩⟩
noncomputable def Zfb(o:Obj):Bool:=match o.cls with
 | .type n=>S.eqLit (PySem.code "code") n
 |_=>false
def Zdd(l:List (Nat×Obj)):Bool:=List.rec true (fun p y a=>match Zfb p.2 with|true=>a|false=>false) l
set_option tactic.hygienic true in theorem Zu6 {o:Obj}(h:Zfb o=true):o.cls= .type "code":=by
 unfold Zfb at h
 split at h
 ·rename_i n e;haveI q:(n=="code")=S.eqLit (PySem.code "code") n:=congrFun (S.eqLit_eq "code" (PySem.code "code") rfl) n;rw[<-q] at h;simp only[e,beq_iff_eq.mp h]
 ·contradiction
set_option tactic.hygienic true in theorem Zmj:∀{l:List (Nat×Obj)},Zdd l=true->∀p∈l,p.2.cls= .type "code":=by
 intro z0_
 induction z0_ with
 |nil=>
  intro _ _ h;exact nomatch h
 |cons q l ih=>
  intro h p hp;haveI h':(match Zfb q.2 with|true=>Zdd l|false=>false)=true:=h
  split at h'
  ·rename_i z;rcases aC.mp hp with rfl|hp
   ·exact Zu6 z
   ·exact ih h' p hp
  ·contradiction
def Z4a(lg:Lg)(s:Sl)(hs:Hs)(k:Sl->Hs->Z8):Z8:=
 pop (.prim 12 none .none .none lg) hs fun d hs=>match d with
  |0=>k s hs
  |d+1=>match Zy s.g with
   |true=>(match d with
    |0=>k {s with g:= .no} hs
    |1=>pop (.prim 13 none .none .none lg) hs fun n hs=>Z54 lg n hs fun l hs=>Z6w Zdc heO l fun r=>k {s with g:= .hs r} hs
    |2=>pop (.prim 13 none .none .none lg) hs fun n hs=>Z54 lg n hs fun l hs=>Z6w Zu5 siO l fun r=>k {s with g:= .si r} hs
    |3=>pop (.prim 13 none .none .none lg) hs fun n hs=>Z54 lg n hs fun l hs=>Z6w Z6v isO l fun r=>k {s with g:= .is r} hs
    |4=>pop (.prim 13 none .none .none lg) hs fun n hs=>Z54 lg n hs fun l hs=>Z6w Zdc heO l fun r=>Z8.cond (s.o=Z84 (r.map fun e=> .ref e.a) (Z3 s.o)) (k {s with g:= .hs r,o:=Z84 (r.map fun e=> .ref e.a) (Z3 s.o)} hs)
    |5=>pop (.prim 13 none .none .none lg) hs fun n hs=>Z54 lg n hs fun l hs=>Z6w Z6v isO l fun r=>Z8.cond (s.o=Z84 (r.map fun e=> .ref e.a) (Z3 s.o)) (k {s with g:= .is r,o:=Z84 (r.map fun e=> .ref e.a) (Z3 s.o)} hs)
    |j+6=>(match fJ j 100 with
     |true=>(match lg.at j with
      |some s'=>(match Zy s'.g with
       |true=>k {s with g:=s'.g} hs
       |false=>Zd "regroup: exception")
      |none=>Zd "regroup: no slot")
     |false=>pop (.prim 13 none .none .none lg) hs fun n hs=>Z54 lg n hs fun l hs=>match Zdd l with
      |true=>k {s with g:= .tab l} hs
      |false=>Zd "regroup: no code"))
   |false=>Zd "regroup of an exception"
def Z55(m:Value)(lg:Lg)(n:Nat):Hs->(List Nat->List Sl->Hs->Z8)->Z8:=
 Nat.rec (motive:=fun y=>Hs->(List Nat->List Sl->Hs->Z8)->Z8) (fun hs k=>k [] [] hs) (fun y q hs k=>
  pop (.prim 9 none m .none lg) hs fun j hs=>match lg.at j with
   |some s=>Z4a lg s hs fun s hs=>q hs fun a W hs=>k (j::a) (s::W) hs
   |none=>Zd "pick: slot") n
theorem Z0m:∀{l m:List Sl}{r:Z8},Z5 (Z53 l m r)->l=m/\Z5 r:=by
 intro y
 induction y with
 |nil=>
  intro q;cases q with
  |nil=>
   intro r h;exact⟨rfl,h⟩
  |cons _ _=>
   intro r h;exact(Z2 h).elim
 |cons a l ih=>
  intro q;cases q with
  |nil=>
   intro r h;exact(Z2 h).elim
  |cons b m=>
   intro r h;obtain⟨e,I⟩:=J0 h;injection e with e
   haveI j:=ih I;haveI W:=j.1;haveI J:=j.2;exact⟨by rw[e,W],J⟩
set_option tactic.hygienic true in theorem Zf1 {a:Nat}{l:List Nat}(h:Z09 (a::l)=true):a∉l/\Z09 l=true:=by
 dsimp only[Z09] at h
 split at h
 ·contradiction
 ·rename_i q;refine⟨fun hm=> ?_,h⟩;have:l.any (cK a)=true:=mC.mpr ⟨a,hm,rM a⟩;rw[q] at this;contradiction
set_option tactic.hygienic true in theorem Z6x {lg:Lg}:∀{idx:List Nat}{W:List Sl},Z1z lg idx=some W->∀s∈W,∃j∈idx,lg.sl[j]?=some s:=by
 intro z0_
 induction z0_ with
 |nil=>
  intro W h s hs;cases h;contradiction
 |cons j r ih=>
  intro W h s hs;dsimp only[Z1z] at h;refine Z7 fun k'=> ?_
  split at h
  ·rename_i s1 e1
   split at h
   ·rename_i l e2;cases h;rcases aC.mp hs with rfl|hs
    ·exact k' (⟨j, .head _,Qq (b:=lg.b) (m:=lg.m) (t:=lg.t) (i:=lg.i) e1⟩)
    ·obtain⟨j',hj,e⟩:=ih e2 s hs;exact k' (⟨j', .tail _ hj,e⟩)
   ·cases h
  ·cases h
theorem Zai {l:List Sl}(I:(l.map Sl.a).Nodup){i j:Nat}{s t:Sl}(hi:l[i]?=some s)(Z:l[j]?=some t)(e:s.a=t.a):i=j:=by
 have X:(l.map Sl.a)[i]?=some s.a:=by rw[bE,hi];rfl
 have Y:(l.map Sl.a)[j]?=some s.a:=by simp only[bE,Z,e];rfl
 obtain⟨y,W⟩:=bJ.mp X;obtain⟨J,m⟩:=bJ.mp Y;rcases pM i j with q|q|q
 ·exact absurd (W.trans m.symm) ((fA.mp I) i j y J q)
 ·exact q
 ·exact absurd (m.trans W.symm) ((fA.mp I) j i J y q)
set_option tactic.hygienic true in theorem Z1f {lg:Lg}(hn:(lg.sl.map Sl.a).Nodup):∀{idx:List Nat}{W:List Sl},Z1z lg idx=some W->Z09 idx=true->(W.map Sl.a).Nodup:=by
 intro z0_
 induction z0_ with
 |nil=>
  intro W h _;cases h;exact gJ
 |cons j r ih=>
  intro W h hd;obtain⟨d1,d2⟩:=Zf1 hd;dsimp only[Z1z] at h
  split at h
  ·rename_i s1 e1
   split at h
   ·rename_i l e2;cases h;rw[aP,bM];refine⟨fun hm=> ?_,ih e2 d2⟩;obtain⟨t,ht,e⟩:=aN.mp hm;obtain⟨j',hj,e'⟩:=Z6x e2 t ht;have:=Zai hn (Qq (b:=lg.b) (m:=lg.m) (t:=lg.t) (i:=lg.i) e1) e' e.symm;exact d1 (this▸hj)
   ·contradiction
  ·contradiction
noncomputable def hhB(z:Bool)(hh:Option Value):Bool:=match z with
 |true=>(match hh with|none=>true|some _=>false)
 |false=>true
theorem Zqw {z:Bool}{hh:Option Value}(h:hhB z hh=true):z=true->hh=none:=by
 intro e;subst e;cases hh with
 |none=>rfl
 |some=>contradiction
noncomputable def Z2g(l:List Sl)(idx:List Nat)(a:List Sl):List Sl:=
 List.rec (motive:=fun y=>List Sl->List Sl->List Sl) (fun l y=>l) (fun j y m l a=>match a with|[]=>l|w::a=>m (l.set j w) a) idx l a
def Z8.condO(c:Option Prop)(r:Z8):Z8:=match c with
 |some c=>Z8.cond c r
 |none=>r
set_option tactic.hygienic true in theorem Zu7 {lg:Lg}:∀(idx:List Nat)(S ws l:List Sl),(∀(j:Nat) (s:Sl),lg.sl[j]?=some s->∃t:Sl,l[j]?=some t/\t.a=s.a)->l.map Sl.a=lg.sl.map Sl.a->Z1z lg idx=some S->ws.map Sl.a=S.map Sl.a->
  (Z2g l idx ws).map Sl.a=lg.sl.map Sl.a:=by
 intro z0_
 induction z0_ with
 |nil=>
  intro _ _ _ _ e _ _;exact e
 |cons j js ih=>
  intro S z2_;cases z2_ with
  |nil=>
   intro _ _ e _ _;exact e
  |cons w ws=>
   intro l hl e hS hw;dsimp only[Z1z] at hS;refine Z7 fun k'=> ?_
   split at hS
   ·rename_i s1 e1
    split at hS
    ·rename_i S' e2;cases hS;rw[aP,aP] at hw;injection hw with hw1 hw2
     have e1':=Qq (b:=lg.b) (m:=lg.m) (t:=lg.t) (i:=lg.i) e1;obtain⟨t,ht,ta⟩:=hl j s1 e1';refine k' ?_;refine ih S' ws (l.set j w) (fun j' s' h'=> ?_) ?_ e2 hw2
     ·rw[oW];obtain⟨t',ht',ta'⟩:=hl j' s' h'
      by_cases q:j=j'
      ·subst q;have:j<l.length:=(bJ.mp ht).1;rw[if_pos rfl,if_pos this];exact⟨w,rfl,by rw[hw1];have:=e1'.symm.trans h';cases this;rfl⟩
      ·rw[if_neg q];exact⟨t',ht',ta'⟩
     ·rw[qX,<-e];refine set_same ?_;rw[bE,ht];exact congrArg some (ta.trans hw1.symm)
    ·cases hS
   ·cases hS
theorem Zbi {lg:Lg}:∀(idx:List Nat)(a l:List Sl)(x:Sl),a.length=idx.length->x∈Z2g l idx a->x∈a\/∃j,j∉idx/\l[j]?=some x
 |[],_,l,x,_,h=>by
  obtain⟨j,m⟩:=List.getElem?_of_mem (show x∈l from h);exact .inr ⟨j,(nomatch·),m⟩
 |j::js,[],l,x,hl,h=>by contradiction
 |j::js,w::a,l,x,hl,h=>by
  rcases Zbi (lg:=lg) js a (l.set j w) x (Nat.succ.inj hl) h with q|⟨y,m,q⟩
  ·exact .inl (.tail _ q)
  ·rw[oW] at q
   by_cases e:j=y
   ·rw[if_pos e] at q
    split at q
    ·cases q;exact .inl (.head _)
    ·contradiction
   ·rw[if_neg e] at q;exact .inr ⟨y,fun I=>(aC.mp I).elim (fun z=>e z.symm) m,q⟩
set_option tactic.hygienic true in theorem Zu8 {lg:Lg}:∀{idx:List Nat}{W:List Sl},Z1z lg idx=some W->W.length=idx.length:=by
 intro z0_
 induction z0_ with
 |nil=>
  intro W h;cases h;rfl
 |cons j r ih=>
  intro W h;dsimp only[Z1z] at h
  split at h
  ·split at h
   ·rename_i l e2;cases h;simp only[bQ,ih e2,bQ]
   ·contradiction
  ·contradiction
set_option tactic.hygienic true in theorem Zbj {c:Option Prop}{r:Z8}(h:Z5 (Z8.condO c r)):(∀p,c=some p->p)/\Z5 r:=by
 cases c with
 |none=>exact⟨fun p e=>(nomatch e),h⟩
 |some c=>obtain⟨a,b⟩:=Y4 h;exact⟨fun p e=>by cases e;exact a,b⟩
def Old(lg:Lg)(h:Heap):Prop:=∀s∈lg.sl,Ji h s
set_option tactic.hygienic true in theorem Old.plain {lg:Lg}{h:Heap}(o:Old lg h){s:Sl}(hm:s∈lg.sl)(e:Zy s.g=true):h.get? s.a=some s.o/\Y1 h s.g:=by
 have:=o s hm;unfold Ji at this
 split at this
 ·rename_i q;rw[q] at e;contradiction
 ·exact this
set_option tactic.hygienic true in theorem Je {h:Heap}{s:Sl}{g:Gd}(e:Zy g=true)(a:h.get? s.a=some s.o)(b:Y1 h g):Ji h {s with g:=g}:=by
 unfold Ji
 split
 ·rename_i q;rw[show g=_ from q] at e;contradiction
 ·exact⟨a,b⟩
set_option tactic.hygienic true in theorem Z0k {lg:Lg}{h:Heap}(o:Old lg h){hs:Hs}{k:Nat×Obj->Hs->Z8}(g:Z5 (Z4k lg hs k)):∃p hs',h.get? p.1=some p.2/\Z5 (k p hs'):=by
 unfold Z4k at g;obtain⟨j,hs1,g⟩:=J4 g;obtain⟨i,hs2,g⟩:=J4 g
 split at g
 ·rename_i s e;have hm:=aZ (Qq (b:=lg.b) (m:=lg.m) (t:=lg.t) (i:=lg.i) e)
  split at g
  ·split at g
   ·rename_i q;exact⟨_,_,(o.plain hm q).1,g⟩
   ·exact(Z2 g).elim
  ·split at g
   ·rename_i p q;refine⟨p,_, ?_,g⟩;haveI hx:Zy s.g=true:=by
     unfold Zgb at q
     split at q
     all_goals first
      |(rename_i e';rw[e'];rfl)
      |contradiction
    exact Zkc q (o.plain hm hx).2
   ·exact(Z2 g).elim
 ·exact(Z2 g).elim
theorem Z1g {lg:Lg}{h:Heap}(o:Old lg h)(n:Nat):∀{hs:Hs}{k:List (Nat×Obj)->Hs->Z8},Z5 (Z54 lg n hs k)->∃l a,(∀p∈l,h.get? p.1=some p.2)/\Z5 (k l a):=by
 induction n with
 |zero=>intro hs k g;exact⟨[],hs,fun y J=>absurd J aD,g⟩
 |succ n ih=>
  intro hs k g;haveI g1:Z5 (Z4k lg hs fun p hs=>Z54 lg n hs fun l hs=>k (p::l) hs):=g;refine Z7 fun X=> ?_;obtain⟨p,Y,I,g2⟩:=Z0k o g1;obtain⟨l,j,W,g⟩:=ih g2;exact X (⟨p::l,j,fun q m=>(aC.mp m).elim (fun e=>e▸I) (W q),g⟩)
set_option tactic.hygienic true in theorem Z2h {α:Type}{f:Nat×Obj->Option α}{ob:α->Obj}{h:Heap}{ad:α->Nat}(hf:∀p e,f p=some e->ad e=p.1):∀{l:List (Nat×Obj)}{k:List α->Z8},(∀p∈l,h.get? p.1=some p.2)->Z5 (Z6w f ob l k)->∃r,(∀e∈r,h.get? (ad e)=some (ob e))/\Z5 (k r):=by
 intro z0_
 induction z0_ with
 |nil=>
  intro k _ g;exact⟨[],fun _ hx=>absurd hx aD,g⟩
 |cons p l ih=>
  intro k hl g;haveI g':Z5 (match f p with
   |some e=>Z8.ob (.obj p.2) (.obj (ob e)) (Z6w f ob l fun r=>k (e::r))
   |none=>Zd "regroup: what"):=g
  refine Z7 fun k'=> ?_
  split at g'
  ·rename_i e q;obtain⟨e1,g1⟩:=J0 g';injection e1 with e1
   obtain⟨r,hr,g2⟩:=ih (fun p hp=>hl p (.tail _ hp)) g1;exact k' (⟨e::r,fun x hx=>(aC.mp hx).elim (fun z=>by rw[z,hf p e q,hl p (.head _),e1]) (hr x),g2⟩)
  ·exact k' ((Z2 g').elim)
theorem Zmk {α β:Type}{x:Option α}{f:α->β}{g:β->Nat}{n:Nat}{e:β}(h:x.map f=some e)(a:∀q,g (f q)=n):g e=n:=by
 cases x with
 |none=>contradiction
 |some q=>exact cW h▸a q
theorem Zqx(p:Nat×Obj)(e:He)(h:Zdc p=some e):e.a=p.1:=by unfold Zdc at h;exact Zmk (g:=He.a) h fun y=>rfl
theorem J3w(p:Nat×Obj)(e:Si)(h:Zu5 p=some e):e.a=p.1:=by unfold Zu5 at h;exact Zmk (g:=Si.a) h fun y=>rfl
theorem Zbk(p:Nat×Obj)(e:Is)(h:Z6v p=some e):e.a=p.1:=by unfold Z6v at h;exact Zmk (g:=Is.a) h fun y=>rfl
set_option tactic.hygienic true in theorem Z4l {lg:Lg}{h:Heap}(o:Old lg h){s:Sl}(hm:s∈lg.sl){hs:Hs}{k:Sl->Hs->Z8}(g:Z5 (Z4a lg s hs k)):∃s' hs',s'.a=s.a/\Ji h s'/\Z5 (k s' hs'):=by
 unfold Z4a at g;refine Z7 fun k'=> ?_;obtain⟨d,hs1,g⟩:=J4 g
 split at g
 ·exact k' (⟨s,_,rfl,o s hm,g⟩)
 ·split at g
  ·rename_i q;obtain⟨h1,h2⟩:=o.plain hm q
   split at g
   ·exact k' (⟨{s with g:= .no},_,rfl,Je (g:= .no) rfl h1 trivial,g⟩)
   ·obtain⟨n,hs2,g⟩:=J4 g;obtain⟨l,hs3,hl,g⟩:=Z1g o n g;obtain⟨r,hr,g⟩:=Z2h Zqx hl g;exact k' (⟨{s with g:= .hs r},_,rfl,Je (g:= .hs r) rfl h1 hr,g⟩)
   ·obtain⟨n,hs2,g⟩:=J4 g;obtain⟨l,hs3,hl,g⟩:=Z1g o n g;obtain⟨r,hr,g⟩:=Z2h J3w hl g;exact k' (⟨{s with g:= .si r},_,rfl,Je (g:= .si r) rfl h1 hr,g⟩)
   ·obtain⟨n,hs2,g⟩:=J4 g;obtain⟨l,hs3,hl,g⟩:=Z1g o n g;obtain⟨r,hr,g⟩:=Z2h Zbk hl g;exact k' (⟨{s with g:= .is r},_,rfl,Je (g:= .is r) rfl h1 hr,g⟩)
   ·obtain⟨n,hs2,g⟩:=J4 g;obtain⟨l,hs3,hl,g⟩:=Z1g o n g;obtain⟨r,hr,g⟩:=Z2h Zqx hl g;obtain⟨eo,g⟩:=Y4 g;exact k' (⟨{s with g:= .hs r,o:=Z84 (r.map fun e=> .ref e.a) (Z3 s.o)},_,rfl,Je (s:={s with o:=Z84 (r.map fun e=> .ref e.a) (Z3 s.o)}) (g:= .hs r) rfl (by rw[h1,<-eo]) hr,g⟩)
   ·obtain⟨n,hs2,g⟩:=J4 g;obtain⟨l,hs3,hl,g⟩:=Z1g o n g;obtain⟨r,hr,g⟩:=Z2h Zbk hl g;obtain⟨eo,g⟩:=Y4 g;exact k' (⟨{s with g:= .is r,o:=Z84 (r.map fun e=> .ref e.a) (Z3 s.o)},_,rfl,Je (s:={s with o:=Z84 (r.map fun e=> .ref e.a) (Z3 s.o)}) (g:= .is r) rfl (by rw[h1,<-eo]) hr,g⟩)
   ·split at g
    ·split at g
     ·rename_i s' e;have hm':=aZ (Qq (b:=lg.b) (m:=lg.m) (t:=lg.t) (i:=lg.i) e)
      split at g
      ·rename_i q';exact k' (⟨{s with g:=s'.g},_,rfl,Je (g:=s'.g) q' h1 (o.plain hm' q').2,g⟩)
      ·exact Z2 g
     ·exact Z2 g
    ·obtain⟨n,hs2,g⟩:=J4 g;obtain⟨l,hs3,hl,g⟩:=Z1g o n g
     split at g
     ·rename_i q';exact k' (⟨{s with g:= .tab l},_,rfl,Je (g:= .tab l) rfl h1 (fun p hp=>⟨hl p hp,Zmj q' p hp⟩),g⟩)
     ·exact Z2 g
  ·exact Z2 g
set_option tactic.hygienic true in theorem Z0n {rv:Value}{lg:Lg}{h:Heap}(o:Old lg h)(n:Nat):∀{hs:Hs}{k:List Nat->List Sl->Hs->Z8},Z5 (Z55 rv lg n hs k)->
  ∃js W S hs',Z1z lg js=some S/\W.map Sl.a=S.map Sl.a/\(∀s∈W,Ji h s)/\Z5 (k js W hs'):=by
 induction n with
 |zero=>intro hs k g;exact⟨[],[],[],hs,rfl,rfl,fun _ hx=>absurd hx aD,g⟩
 |succ n ih=>
  intro hs k g;haveI g0:Z5 (pop (.prim 9 none rv .none lg) hs fun j hs=>match lg.at j with
   |some s=>Z4a lg s hs fun s hs=>Z55 rv lg n hs fun js W hs=>k (j::js) (s::W) hs
   |none=>Zd "pick: slot"):=g
  clear g;refine Z7 fun k'=> ?_;obtain⟨j,hs1,g⟩:=J4 g0
  split at g
  ·rename_i s e;have hm:=aZ (Qq (b:=lg.b) (m:=lg.m) (t:=lg.t) (i:=lg.i) e);obtain⟨s',hs2,ea,ok,g⟩:=Z4l o hm g;obtain⟨js,W,S,hs3,eS,eW,hW,g⟩:=ih g;refine k' ?_;refine⟨j::js,s'::W,s::S,hs3, ?_, ?_, ?_,g⟩
   ·unfold Z1z;simp only[e,eS]
   ·rw[aP,aP,ea,eW]
   ·intro x hx;exact(aC.mp hx).elim (fun z=>z▸ok) (hW x)
  ·exact Z2 g
noncomputable def frB(xf:Bool)(out:List Env):Option (List Env×List Env):=match xf with|true=>some ([],out)|false=>none
noncomputable def frL(xf:Bool)(fr:List Nat):List Nat:=match xf with|true=>fr|false=>[]
def Qi(v:V)(z xf:Bool)(d u:Nat)(c:Code)(P:List Sl)(na:Nat)(C:Nat->Prop)(F:Nat->Ph->Result×List Sl):Prop:=
 ∀(A:Around) (s:Shared) (hh:Option Value) (out:List Env) (fr:List Nat),(z=true->hh=none)->Jn ⟨s,P.map Sl.a,frL xf fr⟩ ⟨d,u,hh,frB xf out⟩ A->St v ⟨s,P.map Sl.a,frL xf fr⟩ ⟨s.heap.objs.size,0,s.toks,0,P⟩ s->
  bR (M v) A c (fun r s'=>∃i,i<na/\C i/\∃U,r=(F i U).1/\St v ⟨s,P.map Sl.a,frL xf fr⟩ ⟨aO U.n 8,0,U.t,0,(F i U).2⟩ s') s
def Yu(v:V)(z xf:Bool)(d u:Nat)(c:Code)(P:List Sl)(na:Nat)(C:Nat->Prop)(D:Nat->Ph->Prop)(F:Nat->Ph->Result×List Sl):Prop:=
 ∀(A:Around) (s:Shared) (hh:Option Value) (out:List Env) (fr:List Nat),(z=true->hh=none)->Jn ⟨s,P.map Sl.a,frL xf fr⟩ ⟨d,u,hh,frB xf out⟩ A->St v ⟨s,P.map Sl.a,frL xf fr⟩ ⟨s.heap.objs.size,0,s.toks,0,P⟩ s->
  bR (M v) A c (fun r s'=>∃i,i<na/\C i/\∃U,D i U/\r=(F i U).1/\St v ⟨s,P.map Sl.a,frL xf fr⟩ ⟨aO U.n 8,0,U.t,0,(F i U).2⟩ s') s
theorem Qi.toD {v:V}{z xf:Bool}{d u:Nat}{c:Code}{P:List Sl}{na:Nat}{C:Nat->Prop}{D:Nat->Ph->Prop}{F:Nat->Ph->Result×List Sl}(h:Qi v z xf d u c P na C F)(q:∀i U,D i U):Yu v z xf d u c P na C D F:=by
 intro A s hh out fr m j a;refine cC (h A s hh out fr m j a) fun r s' ⟨i,hi,hc,U,e,st⟩=>⟨i,hi,hc,U,q i U,e,st⟩
def J7(v:V)(z xf:Bool)(d u:Nat)(c:Code)(P:List Sl)(F:Ph->Result×List Sl):Prop:=Qi v z xf d u c P 1 (fun y=>True) (fun y=>F)
def Zfc(k:Nat)(F:Ph->Result×List Sl):K Result:=fun r lg hs=>
 Z55 (Z5k r) lg k hs fun a W y=>match Z09 a with
  |true=>Z8.ob (.res r) (.res (F (Qo (Z5k r) lg W)).1) (Z53 W (F (Qo (Z5k r) lg W)).2 (Z8.fin True))
  |false=>Zd "done: twice"
def done(k:Nat)(F:Ph->Result×List Sl):K Result:=Zfc k F
def Z2i(na:Nat)(k:Nat->Nat)(C:Nat->Prop)(F:Nat->Ph->Result×List Sl):K Result:=fun r lg hs=>
 pop (.prim 15 none .none .none lg) hs fun i hs=>match fJ i na with
  |true=>Z8.cond (C i) (Zfc (k i) (F i) r lg hs)
  |false=>Zd "done: alternative"
def Jj(na:Nat)(k:Nat->Nat)(C:Nat->Prop)(D:Nat->Ph->Prop)(F:Nat->Ph->Result×List Sl):K Result:=fun r lg hs=>
 pop (.prim 15 none .none .none lg) hs fun i hs=>match fJ i na with
  |true=>Z8.cond (C i) (Z55 (Z5k r) lg (k i) hs fun a W y=>match Z09 a with
   |true=>Z8.ob (.res r) (.res (F i (Qo (Z5k r) lg W)).1) (Z53 W (F i (Qo (Z5k r) lg W)).2 (Z8.fin (D i (Qo (Z5k r) lg W))))
   |false=>Zd "done: twice")
  |false=>Zd "done: alternative"
theorem St.old {v:V}{B:Zt}{lg:Lg}{s:Shared}(h:St v B lg s):Old lg s.heap:=h.rep.slots
theorem St.adr {v:V}{B:Zt}{lg:Lg}{s:Shared}(h:St v B lg s){W:List Sl}(ok:∀x∈W,Ji s.heap x)(q:∀x∈W,x.a∈lg.sl.map Sl.a)(hn:(W.map Sl.a).Nodup)(n t:Nat)(J:n=aO lg.b lg.m)(Y:t=aO lg.t lg.i):St v B ⟨n,0,t,0,W⟩ s:=
 ⟨⟨by simp only[h.rep.size,J];rfl,ok,hn,fun x I=>by obtain⟨y,j,e⟩:=aN.mp (q x I);rw[<-e];exact h.rep.low y j,h.rep.kt,h.rep.stat,fun x I=>by obtain⟨y,j,e⟩:=aN.mp (q x I);rw[<-e];exact h.rep.own y j,h.rep.frame,h.rep.tup,h.rep.nolim,h.rep.big,fun b hb=>by obtain⟨q1,X,Z⟩:=h.rep.frs b hb;exact⟨q1,fun y j=>by obtain⟨z,hz,e⟩:=aN.mp (q y j);rw[<-e];exact X z hz,Z⟩⟩,
  by simp only[h.toks,Y];rfl,h.gens,h.drawn,h.os⟩
theorem Z33 {lg:Lg}{I:List Nat}{S W:List Sl}(eS:Z1z lg I=some S)(eW:W.map Sl.a=S.map Sl.a):∀x∈W,x.a∈lg.sl.map Sl.a:=fun x J=>by
 have:x.a∈S.map Sl.a:=by rw[<-eW];exact aL J
 obtain⟨y,X,e⟩:=aN.mp this;haveI m:=Z6x eS y X;haveI j:=fC (m);haveI q:=(bF (m)).2;simp only[<-e];exact aL (aZ q)
set_option tactic.hygienic true in theorem Zaj {v:V}{B:Zt}{k:Nat}{F:Ph->Result×List Sl}{r:Result}{lg:Lg}{hs:Hs}{s:Shared}(hg:Z5 (Zfc k F r lg hs))(hst:St v B lg s):∃U,r=(F U).1/\St v B ⟨aO U.n 8,0,U.t,0,(F U).2⟩ s:=by
 unfold Zfc at hg;refine Z7 fun k'=> ?_;obtain⟨js,W,S,hs',eS,eW,hW,hg⟩:=Z0n hst.old k hg
 split at hg
 ·rename_i hd;obtain⟨e1,hg1⟩:=J0 hg;injection e1 with e1
  obtain⟨e2,_⟩:=Z0m hg1;refine k' ?_;refine⟨Qo (Z5k r) lg W,e1, ?_⟩;rw[<-e2];exact hst.adr hW (Z33 eS eW) (by rw[eW];exact Z1f hst.rep.nodup eS hd) _ _ (by have h8:=hst.rep.big;rw[hst.rep.size] at h8;exact bG h8) rfl
 ·exact Z2 hg
set_option tactic.hygienic true in theorem Zml {v:V}{g:G}(GO:J5 v g){z xf:Bool}{d u n na:Nat}{k:Nat->Nat}{c:Code}{P:List Sl}{C:Nat->Prop}{F:Nat->Ph->Result×List Sl}{hs:Hs}
  (h:∀(N T:Nat) (hh:Option Value) (out:List Env),(z=true->hh=none)->Z5 ((Ql v g n).cd c ⟨d,u,hh,frB xf out⟩ ⟨aO N 8,0,T,0,P⟩ hs (Z2i na k C F))):Qi v z xf d u c P na C F:=by
 intro A s hh out fr hz ha hst;haveI g0:=h (s.heap.objs.size-8) s.toks hh out hz;rw[show aO (s.heap.objs.size-8) 8=s.heap.objs.size from bG hst.rep.big] at g0;refine cC ((Z13 GO n).cd _ c _ _ hs _ A s g0 hst ha) fun r s' h=> ?_;refine Z7 fun k'=> ?_;obtain⟨lg,hs,hg,hst⟩:=h;unfold Z2i at hg;obtain⟨i,hs',hg⟩:=J4 hg
 split at hg
 ·rename_i q;obtain⟨hc,hg⟩:=Y4 hg;exact k' (⟨i,aW q,hc,Zaj hg hst⟩)
 ·exact Z2 hg
theorem Zmm {v:V}{g:G}(GO:J5 v g){z:Bool}{d u n na:Nat}{k:Nat->Nat}{c:Code}{P:List Sl}{C:Nat->Prop}{F:Nat->Ph->Result×List Sl}{hs:Hs}
  (h:∀(N T:Nat) (hh:Option Value),(z=true->hh=none)->Z5 ((Ql v g n).cd c ⟨d,u,hh,none⟩ ⟨aO N 8,0,T,0,P⟩ hs (Z2i na k C F))):Qi v z false d u c P na C F:=
 Zml GO fun N T hh y a=>h N T hh a
theorem Jk {v:V}{g:G}(GO:J5 v g){z:Bool}{d u n k:Nat}{c:Code}{P:List Sl}{F:Ph->Result×List Sl}{hs:Hs}
  (h:∀(N T:Nat) (hh:Option Value),(z=true->hh=none)->Z5 ((Ql v g n).cd c ⟨d,u,hh,none⟩ ⟨aO N 8,0,T,0,P⟩ hs (done k F))):J7 v z false d u c P F:=by
 intro A s hh out fr q m a;haveI j:=h (s.heap.objs.size-8) s.toks hh q;rw[show aO (s.heap.objs.size-8) 8=s.heap.objs.size from bG a.rep.big] at j;refine cC ((Z13 GO n).cd _ c _ _ hs _ A s j a m) fun r s' h=> ?_;haveI lg:=fC (h);haveI hs:=fC (bF (h));haveI y:=(bF (bF (h))).1;haveI a:=(bF (bF (h))).2;exact⟨0,aX,trivial,Zaj y a⟩
set_option tactic.hygienic true in theorem Zbl {v:V}{g:G}(GO:J5 v g){z xf:Bool}{d u n na:Nat}{k:Nat->Nat}{c:Code}{P:List Sl}{C:Nat->Prop}{D:Nat->Ph->Prop}{F:Nat->Ph->Result×List Sl}{hs:Hs}
  (h:∀(N T:Nat) (hh:Option Value) (out:List Env),(z=true->hh=none)->Z5 ((Ql v g n).cd c ⟨d,u,hh,frB xf out⟩ ⟨aO N 8,0,T,0,P⟩ hs (Jj na k C D F))):Yu v z xf d u c P na C D F:=by
 intro A s hh out fr hz ha hst;haveI g0:=h (s.heap.objs.size-8) s.toks hh out hz;rw[show aO (s.heap.objs.size-8) 8=s.heap.objs.size from bG hst.rep.big] at g0;refine cC ((Z13 GO n).cd _ c _ _ hs _ A s g0 hst ha) fun r s' h=> ?_;refine Z7 fun k'=> ?_;obtain⟨lg,hs,hg,hst⟩:=h;unfold Jj at hg;obtain⟨i,hs',hg⟩:=J4 hg
 split at hg
 ·rename_i q;obtain⟨hc,hg⟩:=Y4 hg;obtain⟨js,W,S,hs',eS,eW,hW,hg⟩:=Z0n hst.old (k i) hg
  split at hg
  ·rename_i hd;obtain⟨e1,hg1⟩:=J0 hg;injection e1 with e1
   obtain⟨e2,hg2⟩:=Z0m hg1;refine k' ?_;refine⟨i,aW q,hc,Qo (Z5k r) lg W,Zaf hg2,e1, ?_⟩;rw[<-e2];exact hst.adr hW (Z33 eS eW) (by rw[eW];exact Z1f hst.rep.nodup eS hd) _ _ (by have h8:=hst.rep.big;rw[hst.rep.size] at h8;exact bG h8) rfl
  ·exact Z2 hg
 ·exact Z2 hg
theorem Z2j {v:V}{g:G}(GO:J5 v g){d u n na:Nat}{k:Nat->Nat}{c:Code}{P:List Sl}{C:Nat->Prop}{D:Nat->Ph->Prop}{F:Nat->Ph->Result×List Sl}{hs:Hs}
  (h:∀N T:Nat,Z5 ((Ql v g n).cd c ⟨d,u,none,none⟩ ⟨aO N 8,0,T,0,P⟩ hs (Jj na k C D F))):Yu v true false d u c P na C D F:=
 Zbl GO fun N T j y a=>by rw[a rfl];exact h N T
theorem Z3f {v:V}{g:G}(GO:J5 v g){d u n na:Nat}{k:Nat->Nat}{c:Code}{P:List Sl}{C:Nat->Prop}{F:Nat->Ph->Result×List Sl}{hs:Hs}
  (h:∀N T:Nat,Z5 ((Ql v g n).cd c ⟨d,u,none,none⟩ ⟨aO N 8,0,T,0,P⟩ hs (Z2i na k C F))):Qi v true false d u c P na C F:=
 Zmm GO fun N T j a=>by rw[a rfl];exact h N T
theorem Z85 {v:V}{g:G}(GO:J5 v g){d u n k:Nat}{c:Code}{P:List Sl}{F:Ph->Result×List Sl}{hs:Hs}
  (h:∀N T:Nat,Z5 ((Ql v g n).cd c ⟨d,u,none,none⟩ ⟨aO N 8,0,T,0,P⟩ hs (done k F))):J7 v true false d u c P F:=
 Jk GO fun N T j a=>by rw[a rfl];exact h N T
theorem Yu.mono {v:V}{z xf:Bool}{d u:Nat}{c:Code}{P:List Sl}{na j:Nat}{C y:Nat->Prop}{D I:Nat->Ph->Prop}{F m:Nat->Ph->Result×List Sl}(h:Yu v z xf d u c P na C D F)
  (k:∀i,i<na->C i->∃a,a<j/\y a/\∀U,D i U->∃φ',I a φ'/\(F i U).1=(m a φ').1/\(F i U).2=(m a φ').2/\φ'.n=U.n/\φ'.t=U.t):Yu v z xf d u c P j y I m:=by
 intro A s hh out fr hz Y X;refine cC (h A s hh out fr hz Y X) fun r s' ⟨i,hi,hc,U,hd,e,st⟩=> ?_;refine Z7 fun k'=> ?_;obtain⟨a,W,J,q⟩:=k i hi hc;obtain⟨φ',e0,e1,e2,e3,Z⟩:=q U hd;refine k' ?_;exact⟨a,W,J,φ',e0,e.trans e1,by simp only[<-e2,e3,Z];exact st⟩
theorem Qi.mono {v:V}{z xf:Bool}{d u:Nat}{c:Code}{P:List Sl}{na j:Nat}{C I:Nat->Prop}{F m:Nat->Ph->Result×List Sl}(h:Qi v z xf d u c P na C F)
  (k:∀i,i<na->C i->∃a,a<j/\I a/\∀U,∃φ',(F i U).1=(m a φ').1/\(F i U).2=(m a φ').2/\φ'.n=U.n/\φ'.t=U.t):Qi v z xf d u c P j I m:=by
 intro A s hh out fr hz Y y;refine cC (h A s hh out fr hz Y y) fun r s' ⟨i,hi,hc,U,e,st⟩=> ?_;refine Z7 fun k'=> ?_;obtain⟨a,J,W,q⟩:=k i hi hc;obtain⟨φ',X,e2,e3,Z⟩:=q U;refine k' ?_;exact⟨a,J,W,φ',e.trans X,by simp only[<-e2,e3,Z];exact st⟩
structure Zi(ι:Type) where
 code:ι->Code
 P:ι->List Sl
 cond:ι->Option Prop
 na:Nat:=1
 C:ι->Nat->Prop:=fun y y=>True
 F:ι->Nat->Ph->Result×List Sl
 k:Nat
 nn:Nat->Nat:=fun y=>0
 ext:Code->List Sl->Option ι
 d:Nat
 u:Nat
 z:Bool:=false
 xf:Bool:=false
 D:Option (ι->Nat->Ph->Prop):=none
def Zbm(C:Nat->Prop)(a:Nat->Hs->Z8)(lg:Lg)(m:Nat):Hs->Z8:=
 Nat.rec (motive:=fun y=>Hs->Z8) (fun y=>Z8.fin True) (fun m j hs=>pop (.prim 14 none .none .none lg) hs fun d hs=>match d with
  |0=>Z8.cond (¬C m) (j hs)
  |_=>fork (.split (C m)) hs fun q I=>Z8.alt (C m) (a m q) (j I)) m
theorem Zu9 {c:Prop}{x y:Z8}(h:Z5 (.alt c x y)):(c->Z5 x)/\Z5 y:=by
 haveI a:=h.1;haveI j:=h.2.1;haveI q:=h.2.2;injection a with ha hb
 exact⟨fun m=>⟨ha,j m⟩,hb,q⟩
theorem Zbn {C:Nat->Prop}{a:Nat->Hs->Z8}{lg:Lg}:∀(m:Nat){hs:Hs},Z5 (Zbm C a lg m hs)->∀i,i<m->C i->∃X,Z5 (a i X):=by
 intro Y
 induction Y with
 |zero=>
  intro _ _ i y _;exact absurd y (fY i)
 |succ m ih=>
  intro hs g i y I;haveI g0:Z5 (pop (.prim 14 none .none .none lg) hs fun d hs=>match d with
   |0=>Z8.cond (¬C m) (Zbm C a lg m hs)
   |_=>fork (.split (C m)) hs fun J W=>Z8.alt (C m) (a m J) (Zbm C a lg m W)):=g
  clear g;obtain⟨d,hs1,g⟩:=J4 g0
  split at g
  ·haveI j:=Y4 g;haveI hn:=j.1;haveI g:=j.2;rcases gV.mp y with q|q
   ·exact ih g i q I
   ·exact absurd (q▸I) hn
  ·obtain⟨J,W,g⟩:=Zec g;obtain⟨Z,gb⟩:=Zu9 g;rcases gV.mp y with q|q
   ·exact ih gb i q I
   ·cases q;exact⟨J,Z I⟩
noncomputable def Zfd:List Nat->List Nat->Bool
 |[],_=>true
 |j::js,l=>match l.any (cK j) with|true=>false|false=>Zfd js l
set_option tactic.hygienic true in theorem Zua:∀{js l:List Nat},Zfd js l=true->∀j∈js,j∉l:=by
 intro z0_
 induction z0_ with
 |nil=>
  intro _ _ j h;exact nomatch h
 |cons i js ih=>
  intro l q j h;dsimp only[Zfd] at q
  split at q
  ·contradiction
  ·rename_i z;rcases aC.mp h with rfl|h
   ·intro hm;have:l.any (cK j)=true:=mC.mpr ⟨j,hm,rM j⟩;rw[z] at this;contradiction
   ·exact ih q j h
def Zi.contIn {ι:Type}(f:Zi ι)(i:ι)(lg:Lg)(j:List Nat)(R:K Result)(a:Nat)(hs:Hs)(U:Ph):Z8:=match f.xf with
  |false=>R (f.F i a U).1 ⟨aO U.n 8,0,U.t,0,(f.F i a U).2.take (f.nn a)++Z2g lg.sl j ((f.F i a U).2.drop (f.nn a))⟩ hs
  |true=>Z8.all fun ψ=>R (f.F i a U).1 ⟨aO U.n 8,0,U.t,0,(f.F i a U).2.take (f.nn a)++Z42 ψ (Z2g lg.sl j ((f.F i a U).2.drop (f.nn a))) 0⟩ hs
def Zi.cont {ι:Type}(f:Zi ι)(i:ι)(lg:Lg)(j:List Nat)(R:K Result)(a:Nat)(hs:Hs):Z8:=match f.D with
 |none=>Z8.all (f.contIn i lg j R a hs)
 |some D=>Z8.allC (D i a) (f.contIn i lg j R a hs)
def Zi.dOf {ι:Type}(f:Zi ι)(i:ι)(a:Nat)(U:Ph):Prop:=match f.D with
 |none=>True
 |some D=>D i a U
set_option tactic.hygienic true in theorem Zi.good_cont {ι:Type}{f:Zi ι}{i:ι}{lg:Lg}{js:List Nat}{R:K Result}{a:Nat}{hs:Hs}(h:Z5 (f.cont i lg js R a hs))(U:Ph)(hd:f.dOf i a U):Z5 (f.contIn i lg js R a hs U):=by
 unfold Zi.cont at h;unfold Zi.dOf at hd
 split at h
 ·exact Zae h U
 ·rename_i D e;rw[e] at hd;exact Zeb h U hd
def Zi.frs {ι:Type}(f:Zi ι)(x:Cx)(lg:Lg)(j:List Nat)(hs:Hs)(k:Hs->Z8):Z8:=match f.xf with
 |false=>k hs
 |true=>match x.fr with
  |some p=>Zbb p.1 lg hs fun a hs=>(match Zfd a j with|true=>k hs|false=>Zd "contract: frames")
  |none=>Zd "contract: no frames"
def Zi.run {ι:Type}(f:Zi ι)(i:ι)(lg:Lg)(a:List Nat)(R:K Result)(hs:Hs):Z8:=match f.na with
 |1=>f.cont i lg a R 0 hs
 |n=>Zbm (f.C i) (f.cont i lg a R) lg n hs
def Zi.one {ι:Type}(f:Zi ι)(i:ι)(x:Cx)(c:Code)(W:List Sl)(lg:Lg)(a:List Nat)(hs:Hs)(k:Hs->Z8):Z8:=match Yz (hhB f.z x.hh) (Yz (dE x.d f.d) (dE x.u f.u)) with
 |true=>Z8.ob (.code c) (.code (f.code i)) (Z53 W (f.P i) (Z8.condO (f.cond i) (f.frs x lg a hs k)))
 |false=>Zd "contract: room"
def Zi.ctr {ι:Type}(f:Zi ι):Ctr:=fun x c lg hs R=>
 Z55 .none lg f.k hs fun a W hs=>match Z09 a with
  |true=>(match f.ext c W with
    |some i=>f.one i x c W lg a hs (f.run i lg a R)
    |none=>Zd "contract: another call")
  |false=>Zd "contract: twice"
theorem Zi.one_of {ι:Type}{f:Zi ι}{i:ι}{x:Cx}{c:Code}{W:List Sl}{lg:Lg}{q:List Nat}{hs:Hs}{k:Hs->Z8}(a:Z5 (f.one i x c W lg q hs k)):hhB f.z x.hh=true/\x.d<=f.d/\x.u<=f.u/\c=f.code i/\W=f.P i/\(∀p,f.cond i=some p->p)/\Z5 (f.frs x lg q hs k):=by
 refine Z7 fun I=> ?_;obtain⟨j,a⟩:=tt a;obtain⟨m,a⟩:=J0 a;injection m with m
 obtain⟨y,a⟩:=Z0m a;obtain⟨J,a⟩:=Zbj a;rw[Qn,Qn,Z.ble_iff,Z.ble_iff] at j;exact I ⟨j.1,j.2.1,j.2.2,m,y,J,a⟩
set_option tactic.hygienic true in theorem Zi.run_of {ι:Type}{f:Zi ι}{i:ι}{lg:Lg}{js:List Nat}{R:K Result}{hs:Hs}(hg:Z5 (f.run i lg js R hs)){a:Nat}(hlt:a<f.na)(hca:f.C i a):∃hs',Z5 (f.cont i lg js R a hs'):=by
 unfold Zi.run at hg
 split at hg
 ·rename_i q;rw[q] at hlt;exact⟨_,qP.mp hlt▸hg⟩
 ·exact Zbn _ hg a hlt hca
structure Gv(v:V)(B:Zt)(lg:Lg)(s:Shared)(P:List Sl)(fr:List Nat):Prop where
 st:St v B lg s
 W:∀y∈P,Ji s.heap y
 nd:(P.map Sl.a).Nodup
 adr:∀y∈P,∃w∈lg.sl,w.a=y.a
 frs:∀b∈fr,v.kt.get b=none/\(∀y∈P,y.a≠b)/\(∃o,s.heap.get? b=some o/\o.cls= .type "frame"/\∀vs,o.data≠ .fields vs)/\(b∈B.fr\/∃y∈lg.sl,y.a=b/\Z0s y.o=true)
section
variable {v:V}{B:Zt}{lg:Lg}{s s':Shared}{P O:List Sl}{fr idx:List Nat}{k N T:Nat}
theorem Gv.start(h:Gv v B lg s P fr):St v ⟨s,P.map Sl.a,fr⟩ ⟨s.heap.objs.size,0,s.toks,0,P⟩ s:=
 ⟨⟨rfl,h.W,h.nd,fun y j=>(h.adr y j).elim fun w q=>q.2▸h.st.rep.low w q.1,h.st.rep.kt,h.st.rep.stat,fun y j=> .inr (aL j),fun z z e z z=>e,fun z z e z=>e,h.st.rep.nolim,h.st.rep.big,
  fun b m=>(h.frs b m).2.2.1.elim fun o c=>⟨(h.frs b m).1,(h.frs b m).2.1,o,c.1,c.2.1,c.2.2,fun o0 I=>⟨o.slots,cW (c.1.symm.trans I)▸rfl⟩⟩⟩,rfl,rfl,rfl,rfl⟩
variable(h:Gv v B lg s P fr)(st':St v ⟨s,P.map Sl.a,fr⟩ ⟨N,0,T,0,O⟩ s')(hpa:(O.drop k).map Sl.a=P.map Sl.a)
include st' hpa in
theorem Gv.news {y:Sl}(j:y∈O.take k):s.heap.get? y.a=none:=by
 refine(st'.rep.own y (iS j)).resolve_right fun q=> ?_;haveI m:=st'.rep.nodup;rw[<-cT k O,bB,hV] at m;exact m.2.2 y.a (aL j) y.a (by rw[hpa];exact q) rfl
include st' in
theorem Gv.keep {b:Nat}{o:Obj}(e:s.heap.get? b=some o)(y:b∉P.map Sl.a):∃sl,s'.heap.get? b=some {o with slots:=sl}:=by
 refine Z7 fun j=> ?_
 by_cases q:b∈fr
 ·obtain⟨_,_,o',J,_,_,m⟩:=st'.rep.frs b q;obtain⟨sl,I⟩:=m o e;exact j (⟨sl,I▸J⟩)
 ·exact j (⟨o.slots,st'.rep.frame b o e y q⟩)
include h st' hpa in
theorem Gv.fin {L:List Sl}(eL:L.map Sl.a=lg.sl.map Sl.a)(hok:∀y∈L,Ji s'.heap y):St v B ⟨N,0,T,0,O.take k++L⟩ s':=by
 have I:∀{y:Sl},y∈L->∃z∈lg.sl,z.a=y.a:=fun j=>aN.mp (eL▸aL (f:=Sl.a) j);have J:∀{p:Sl->Prop},(∀y∈O.take k,p y)->(∀y∈L,p y)->∀y∈O.take k++L,p y:=fun f g y j=>(aG.mp j).elim (f y) (g y);haveI nd:=st'.rep.nodup;rw[<-cT k O,bB,hV] at nd;refine⟨⟨st'.rep.size,J (fun y j=>st'.rep.slots y (iS j)) hok, ?_,J (fun y j=>st'.rep.low y (iS j)) fun y j=> ?_,st'.rep.kt,st'.rep.stat,J (fun y j=>h.st.rep.fresh (Gv.news st' hpa j)) fun y j=> ?_,fun b o e Y hb2=> ?_,
  fun b o e q=>st'.rep.tup b o (h.st.rep.tup b o e q) q,st'.rep.nolim,st'.rep.big,fun b Y=> ?_⟩,st'.toks,st'.gens.trans h.st.gens,st'.drawn.trans h.st.drawn,st'.os.trans h.st.os⟩
 ·rw[bB,hV];refine⟨nd.1,eL▸h.st.rep.nodup,fun a W b h2 e=> ?_⟩;obtain⟨y,j,e1⟩:=aN.mp W;obtain⟨z,m,e2⟩:=aN.mp (eL▸h2);obtain⟨o,h2⟩:=(h.st.rep.slots z m).there;have W:=Gv.news st' hpa j;simp only[e1,e,<-e2,h2] at W;contradiction
 ·obtain⟨z,m,e⟩:=I j;exact e▸h.st.rep.low z m
 ·obtain⟨z,m,e⟩:=I j;exact e▸h.st.rep.own z m
 ·have Z:∀z∈lg.sl,z.a≠b:=fun z m q=>(h.st.rep.own z m).elim (fun q'=>by rw[q,e] at q';contradiction) fun q'=>Y (q▸q');refine st'.rep.frame b o (h.st.rep.frame b o e Y hb2) (fun X=> ?_) fun X=> ?_
  ·obtain⟨z,m,e'⟩:=aN.mp X;obtain⟨w,hw,e3⟩:=h.adr z m;exact Z w hw (e3.trans e')
  ·exact(h.frs b X).2.2.2.elim hb2 fun⟨y,j,ea,_⟩=>Z y j ea
 ·refine Z7 fun k'=> ?_;obtain⟨c1,c2,o,c3,c4,c5,c6⟩:=h.st.rep.frs b Y;obtain⟨sl,e⟩:=Gv.keep st' c3 fun X=>by
   obtain⟨z,m,e'⟩:=aN.mp X;obtain⟨w,hw,e3⟩:=h.adr z m;exact c2 w hw (e3.trans e')
  refine k' ?_;refine⟨c1,J (fun y j q=> ?_) (fun y j=> ?_),_,e,c4,c5,fun o0 e0=>(c6 o0 e0).elim fun sl0 q=>⟨sl,q▸rfl⟩⟩
  ·have W:=Gv.news st' hpa j;rw[q,c3] at W;contradiction
  ·refine Z7 fun k'=> ?_;obtain⟨z,m,e⟩:=I j;refine k' ?_;exact e▸c2 z m
variable {S:List Sl}(eS:Z1z lg idx=some S)(eW:P.map Sl.a=S.map Sl.a)
include h hpa eS eW in
theorem Gv.put {y:Sl}(X:y∈Z2g lg.sl idx (O.drop k)):y∈O\/(y∈lg.sl/\y.a∉P.map Sl.a):=by
 refine Z7 fun I=> ?_;rcases Zbi (lg:=lg) idx _ _ y (by rw[<-aE (f:=Sl.a),hpa,eW,aE,Zu8 eS]) X with q|⟨j,W,q⟩
 ·exact I (.inl (fD q))
 ·refine I ?_;refine .inr ⟨aZ q,fun Z=> ?_⟩;obtain⟨t,J,e⟩:=aN.mp (eW▸Z);obtain⟨j',m,Y⟩:=Z6x eS t J;exact W (Zai h.st.rep.nodup q Y e.symm▸m)
include hpa eS eW in
theorem Gv.put_a:(Z2g lg.sl idx (O.drop k)).map Sl.a=lg.sl.map Sl.a:=Zu7 idx _ _ lg.sl (fun j s' h=>⟨s',h,rfl⟩) rfl eS (hpa.trans eW)
include h st' in
theorem Gv.same {y:Sl}(X:y∈O\/(y∈lg.sl/\y.a∉P.map Sl.a))(hn:y.a∉fr\/Z0s y.o=false):Ji s'.heap y:=by
 rcases X with q|⟨j,J⟩
 ·exact st'.rep.slots y q
 ·refine(h.st.rep.slots y j).mono (fun o e=>st'.rep.frame _ _ e J fun m=> ?_) (fun b o e q=>st'.rep.tup b o e q);rcases hn with hn|hn
  ·exact hn m
  ·rcases (h.frs _ m).2.2.2 with z|⟨w,W,Y,I⟩
   ·exact(h.st.rep.frs _ z).2.1 y j rfl
   ·rw[Zd5 h.st.rep.nodup W j Y,hn] at I;contradiction
include h st' in
theorem Gv.mark {y:Sl}(W:y∈O\/(y∈lg.sl/\y.a∉P.map Sl.a)){sl:Array (Option Value)}(j:∀o,s'.heap.get? y.a=some o->sl=o.slots):Ji s'.heap {y with o:={y.o with slots:=sl}}:=by
 refine Z7 fun m=> ?_;rcases W with q|⟨I,J⟩
 ·exact m ((st'.rep.slots y q).marked (fun o e=>⟨o.slots,e⟩) j fun z z e z=>e)
 ·exact m ((h.st.rep.slots y I).marked (fun o e=>Gv.keep st' e J) j fun b o e q=>st'.rep.tup b o e q)
end
section
variable {v:V}{B:Zt}{lg:Lg}{s s':Shared}{P S:List Sl}{idx:List Nat}
theorem Gv.close {ι:Type}{f:Zi ι}{i:ι}{a:Nat}{U:Ph}{R:K Result}{hs:Hs}{I:List Nat}(h:Gv v B lg s P (frL f.xf I))(st':St v ⟨s,P.map Sl.a,frL f.xf I⟩ ⟨aO U.n 8,0,U.t,0,(f.F i a U).2⟩ s')(hpa:((f.F i a U).2.drop (f.nn a)).map Sl.a=P.map Sl.a)(eS:Z1z lg idx=some S)(eW:P.map Sl.a=S.map Sl.a)
  (q:Z5 (f.contIn i lg idx R a hs U)):Zn v B R (f.F i a U).1 s':=by
 unfold Zi.contIn at q
 generalize f.F i a U=p at*
 obtain⟨r,O⟩:=p;have W:=fun y m=>h.put hpa eS eW (y:=y) m;cases hxf:f.xf with
 |false=>
  rw[hxf] at q st' h;exact⟨_,hs,q,h.fin st' hpa (Gv.put_a hpa eS eW) fun y m=>h.same st' (W y m) (.inl aD)⟩
 |true=>
  rw[hxf] at q;refine⟨_,hs,Zae q (Ztw s'.heap ⟨0,0,0,0,Z2g lg.sl idx (O.drop (f.nn a))⟩ []),h.fin st' hpa ((Zd4 _ _ _).trans (Gv.put_a hpa eS eW)) fun y m=> ?_⟩;obtain⟨j,X,Y,rfl⟩:=Zef m;rw[dH];haveI J:=W X (aZ Y);cases hb:Z0s X.o with
  |true=>exact h.mark st' J fun o e=>by show Z67 s'.heap ⟨0,0,0,0,Z2g lg.sl idx (O.drop (f.nn a))⟩ j=_;unfold Z67;rw[Y];simp only[e]
  |false=>exact h.same st' J (.inr hb)
end
theorem Zi.frs_ok {ι:Type}{v:V}{f:Zi ι}{B:Zt}{lg:Lg}{s:Shared}{P S:List Sl}{idx:List Nat}{x:Cx}{A:Around}{d u:Nat}{hs:Hs}{k:Hs->Z8}(I:St v B lg s)(W:∀y∈P,Ji s.heap y)(nd:(P.map Sl.a).Nodup)(eS:Z1z lg idx=some S)(eW:P.map Sl.a=S.map Sl.a)
  (Y:Jn B x A) (hd:x.d<=d) (hu:x.u<=u) (m:Z5 (f.frs x lg idx hs k)):∃out fr hs',Z5 (k hs')/\Jn ⟨s,P.map Sl.a,frL f.xf fr⟩ ⟨d,u,x.hh,frB f.xf out⟩ A/\Gv v B lg s P (frL f.xf fr):=by
 have adr:∀y∈P,∃w∈lg.sl,w.a=y.a:=fun y Z=>aN.mp (Z33 eS eW y Z);unfold Zi.frs at m;cases q:f.xf with
 |false=>
  rw[q] at m;exact⟨[],[],_,m,⟨aK Y.depth hd,aK Y.units hu,Y.hh,fun g e=>by contradiction⟩,I,W,nd,adr,fun b hb=>absurd hb aD⟩
 |true=>
  rw[q] at m;change Z5 (match x.fr with|some p=>_|none=>_) at m;cases hp:x.fr with
  |none=>rw[hp] at m;exact(Z2 m).elim
  |some p=>
   rw[hp] at m;refine Z7 fun X=> ?_;obtain⟨kn,hs2,k1,k2,m⟩:=Z9z I.rep.slots m;obtain⟨hdj,m⟩:=tt m;obtain⟨a1,a2,a3⟩:=Y.fr p hp;refine X ?_;refine⟨p.1++p.2,(p.1++p.2).filterMap (·.frame),hs2,m,⟨aK Y.depth hd,aK Y.units hu,Y.hh,fun p' e=> ?_⟩,I,W,nd,adr,fun b hb=> ?_⟩
   ·cases e;refine⟨a1,fun env J=>absurd J aD,fun env J=> ?_⟩;refine Z7 fun X=> ?_;rcases aG.mp J with h|h
    ·obtain⟨y,Z,e,_⟩:=k1 env h;exact X (⟨a2 env h,y.a,eU.mpr ⟨env,J,e⟩,e⟩)
    ·obtain⟨b1,L,b2,e⟩:=a3 env h;exact X (⟨b1,L,eU.mpr ⟨env,J,e⟩,e⟩)
   ·refine Z7 fun X=> ?_;obtain⟨env,J,e⟩:=eU.mp hb;rcases aG.mp J with h|h
    ·obtain⟨y,Z,e',eo,ec,ed⟩:=k1 env h;obtain⟨j,hj,y',hy',e''⟩:=k2 env h;cases e'.symm.trans e;refine X ?_;refine⟨I.rep.low y Z,fun z hz q=> ?_,⟨y.o,eo,ec,ed⟩, .inr ⟨y,Z,rfl,Z6s.mpr ec⟩⟩;obtain⟨t,ht,e3⟩:=aN.mp (eW▸aL (f:=Sl.a) hz);obtain⟨j',hj',q'⟩:=Z6x eS t ht;exact Zua hdj j hj (Zai I.rep.nodup hy' q' (by rw[<-cW (e'.symm.trans e''),e3,q])▸hj')
    ·obtain⟨b1,L,b2,e'⟩:=a3 env h;cases e'.symm.trans e;obtain⟨c1,c2,o,c3,c4,c5,_⟩:=I.rep.frs b b2;refine X ?_;refine⟨c1,fun z hz q=> ?_,⟨o,c3,c4,c5⟩, .inl b2⟩;obtain⟨w,hw,e3⟩:=adr z hz;exact c2 w hw (e3.trans q)
theorem Zi.okD {ι:Type}{v:V}(f:Zi ι)(hf:∀i,(∀p,f.cond i=some p->p)->Yu v f.z f.xf f.d f.u (f.code i) (f.P i) f.na (f.C i) (f.dOf i) (f.F i))(Z:∀i a U,a<f.na->((f.F i a U).2.drop (f.nn a)).map Sl.a=(f.P i).map Sl.a:=by intros;exact rfl):Za v f.ctr:=by
 intro B c x lg hs R A s j m hA;refine Z7 fun k'=> ?_;obtain⟨idx,W,S,hs',eS,eW,X,j⟩:=Z0n m.old f.k j;obtain⟨hd,j⟩:=tt j;cases ei:f.ext c W with
 |none=>rw[ei] at j;exact Z2 j
 |some i=>
  rw[ei] at j;obtain⟨hz,Y,h2,rfl,rfl,hc,j⟩:=Zi.one_of j;obtain⟨out,fr,hsk,j,J,G⟩:=Zi.frs_ok m X (eW▸Z1f m.rep.nodup eS hd) eS eW hA Y h2 j;refine k' (cC (hf i hc A s x.hh out fr (Zqw hz) J G.start) ?_);rintro r s' ⟨a,q,y,U,I,rfl,st'⟩;obtain⟨hs'',j⟩:=Zi.run_of j q y;exact Gv.close G st' (Z i a U q) eS eW (Zi.good_cont j U I)
theorem Zi.ok {ι:Type}{v:V}(f:Zi ι)(y:∀i,(∀p,f.cond i=some p->p)->Qi v f.z f.xf f.d f.u (f.code i) (f.P i) f.na (f.C i) (f.F i))(j:∀i a U,a<f.na->((f.F i a U).2.drop (f.nn a)).map Sl.a=(f.P i).map Sl.a:=by intros;exact rfl) (m:f.D=none:=by rfl):Za v f.ctr:=
 f.okD (fun i q=>(y i q).toD fun a U=>by unfold Zi.dOf;rw[m];trivial) j
noncomputable def Z0d:List Stmt->Nat->Stmt
 |[],_=> .Pass ⟨0,0,0,0⟩
 |s::_,0=>s
 |_::r,n+1=>Z0d r n
def Y2(n:Nat):Stmt:=Z0d PySem.Challenge.pw_wb0105_01.main.body n
noncomputable def Qm(s:Stmt):List Stmt:=match s with
 | .FunctionDef _ _ b _ _ _ _ _ _ _=>b
 | .ClassDef _ _ _ b _ _ _ _ _ _ _=>b
 | .While _ b _ _=>b
 | .For _ _ b _ _=>b
 | .If _ b _ _=>b
 |_=>[]
def Z2k(n k:Nat):Stmt:=Z0d (Qm (Y2 n)) k
noncomputable def Zgw(s:Stmt):Expr:=match s with
 | .While t _ _ _=>t
 | .Assign _ v _=>v
 | .Return (some e) _=>e
 | .If t _ _ _=>t
 | .For _ i _ _ _=>i
 |_=> .Constant .none 0 ⟨0,0,0,0⟩
noncomputable def J3x:List Expr->Nat->Expr
 |[],_=> .Constant .none 0 ⟨0,0,0,0⟩
 |e::_,0=>e
 |_::r,n+1=>J3x r n
def J3y(e:Expr):List Expr:=match e with
 | .BinOp l _ r _=>[l,r]
 | .Tuple l _ _=>l
 | .List l _=>l
 | .BoolOp _ vs _=>vs
 | .Compare l _ cs _=>l::cs
 | .Call _ as ks _=>as++Z7z ks
 | .ListComp b _ _ _=>[b]
 | .Subscript b _ _=>[b]
 | .Lambda _ b _ _=>[b]
 |_=>[]
def kid(e:Expr)(i:Nat):Expr:=J3x (J3y e) i
noncomputable def Zyi(s:Stmt):Arguments:=match s with| .FunctionDef _ a _ _ _ _ _ _ _ _=>a|_=>default
noncomputable def Zki:Scope:={kind:= .module,names:=[],isGenerator:=false,isCoroutine:=false,more:=[]}
def Zqy(s:Stmt):Scope:=match s with| .FunctionDef _ _ _ _ _ _ k _ _ _=>k|_=>Zki
def Y5(name qual:Str)(s:Stmt)(globals:Addr)(defaults kwdefaults doc pyModule code closureTuple:Value)(builtins:Addr):FuncData:=
 {name,qualname:=qual,params:=Zyi s,body:= .stmts (Qm s),scope:=Zqy s,globals,closure:=[],defaults,kwdefaults,doc,pyModule,annotations:=none,code,closureTuple,builtins}
noncomputable def de(P:Params)(s:Str)(t:Tok)(v:Value):DictEntry:=⟨PyData.keyHash P s, .str s t,v⟩
noncomputable def st(s:String):Str:=⟨⟨s.toList.map Char.toNat⟩⟩
noncomputable def iZ(n:Nat):Value:= .int (Int.ofNat n) 0
noncomputable def iN(n t:Nat):Value:= .int (Int.ofNat n) t
noncomputable def rF(a:Nat):Value:= .ref a
noncomputable def vT(s:Str)(t:Nat):Value:= .str s t
noncomputable def oC(l:List Value):Obj:=⟨.type "code",none, .fields ⟨l⟩,⟨[]⟩⟩
noncomputable def oF(f:FuncData):Obj:=⟨.type "function",none, .func f,⟨[]⟩⟩
noncomputable def oT(l:List Value):Obj:=⟨.type "tuple",none, .seq ⟨l⟩ 0,⟨[]⟩⟩
def bI(P:Params)(s:String)(n:Nat):DictEntry:=de P (st s) n (.builtin s)
def tI(P:Params)(s:String)(n:Nat):DictEntry:=de P (st s) n (.type s)
def o0(P:Params):Obj:=⟨(.type "dict"),none,(.dict ⟨[(de P (st "__name__") 1 (.str (st "builtins") 160)),(de P (st "__doc__") 2 (.builtin "builtins.__doc__:str#opaque")),(de P (st "__package__") 3 (.builtin "builtins.__package__:str#opaque")),(de P (st "__loader__") 4 (.builtin "builtins.__loader__:shared#opaque")),(de P (st "__spec__") 5 (.builtin "builtins.__spec__#opaque")),(bI P "__build_class__" 6),(bI P "__import__" 7),(bI P "abs" 8),(bI P "all" 9),(bI P "any" 10),(bI P "ascii" 11),(bI P "bin" 12),(bI P "breakpoint" 13),(bI P "callable" 14),(bI P "chr" 15),(bI P "compile" 16),(bI P "delattr" 17),(bI P "dir" 18),(bI P "divmod" 19),(bI P "eval" 20),(bI P "exec" 21),(bI P "format" 22),(bI P "getattr" 23),(bI P "globals" 24),(bI P "hasattr" 25),(bI P "hash" 26),(bI P "hex" 27),(bI P "id" 28),(bI P "input" 29),(bI P "isinstance" 30),(bI P "issubclass" 31),(bI P "iter" 32),(bI P "aiter" 33),(bI P "len" 34),(bI P "locals" 35),(bI P "max" 36),(bI P "min" 37),(bI P "next" 38),(bI P "anext" 39),(bI P "oct" 40),(bI P "ord" 41),(bI P "pow" 42),(bI P "print" 43),(bI P "repr" 44),(bI P "round" 45),(bI P "setattr" 46),(bI P "sorted" 47),(bI P "sum" 48),(bI P "vars" 49),(de P (st "None") 50 .none),(de P (st "Ellipsis") 51 .ellipsis),(de P (st "NotImplemented") 52 .notImplemented),(de P (st "False") 53 (.bool false)),(de P (st "True") 54 (.bool true)),(tI P "bool" 55),(tI P "memoryview" 56),(tI P "bytearray" 57),(tI P "bytes" 58),(tI P "classmethod" 59),(tI P "complex" 60),(tI P "dict" 61),(tI P "enumerate" 62),(tI P "filter" 63),(tI P "float" 64),(tI P "frozenset" 65),(tI P "property" 66),(tI P "int" 67),(tI P "list" 68),(tI P "map" 69),(tI P "object" 70),(tI P "range" 71),(tI P "reversed" 72),(tI P "set" 73),(tI P "slice" 74),(tI P "staticmethod" 75),(tI P "str" 76),(tI P "super" 77),(tI P "tuple" 78),(tI P "type" 79),(tI P "zip" 80),(de P (st "__debug__") 81 (.bool true)),(tI P "BaseException" 82),(tI P "BaseExceptionGroup" 83),(tI P "Exception" 84),(tI P "GeneratorExit" 85),(tI P "KeyboardInterrupt" 86),(tI P "SystemExit" 87),(tI P "ArithmeticError" 88),(tI P "AssertionError" 89),(tI P "AttributeError" 90),(tI P "BufferError" 91),(tI P "EOFError" 92),(tI P "ImportError" 93),(tI P "LookupError" 94),(tI P "MemoryError" 95),(tI P "NameError" 96),(tI P "OSError" 97),(tI P "ReferenceError" 98),(tI P "RuntimeError" 99),(tI P "StopAsyncIteration" 100),(tI P "StopIteration" 101),(tI P "SyntaxError" 102),(tI P "SystemError" 103),(tI P "TypeError" 104),(tI P "ValueError" 105),(tI P "Warning" 106),(tI P "FloatingPointError" 107),(tI P "OverflowError" 108),(tI P "ZeroDivisionError" 109),(tI P "BytesWarning" 110),(tI P "DeprecationWarning" 111),(tI P "EncodingWarning" 112),(tI P "FutureWarning" 113),(tI P "ImportWarning" 114),(tI P "PendingDeprecationWarning" 115),(tI P "ResourceWarning" 116),(tI P "RuntimeWarning" 117),(tI P "SyntaxWarning" 118),(tI P "UnicodeWarning" 119),(tI P "UserWarning" 120),(tI P "BlockingIOError" 121),(tI P "ChildProcessError" 122),(tI P "ConnectionError" 123),(tI P "FileExistsError" 124),(tI P "FileNotFoundError" 125),(tI P "InterruptedError" 126),(tI P "IsADirectoryError" 127),(tI P "NotADirectoryError" 128),(tI P "PermissionError" 129),(tI P "ProcessLookupError" 130),(tI P "TimeoutError" 131),(tI P "IndentationError" 132),(tI P "_IncompleteInputError" 133),(tI P "IndexError" 134),(tI P "KeyError" 135),(tI P "ModuleNotFoundError" 136),(tI P "NotImplementedError" 137),(tI P "PythonFinalizationError" 138),(tI P "RecursionError" 139),(tI P "UnboundLocalError" 140),(tI P "UnicodeError" 141),(tI P "BrokenPipeError" 142),(tI P "ConnectionAbortedError" 143),(tI P "ConnectionRefusedError" 144),(tI P "ConnectionResetError" 145),(tI P "TabError" 146),(tI P "UnicodeDecodeError" 147),(tI P "UnicodeEncodeError" 148),(tI P "UnicodeTranslateError" 149),(tI P "ExceptionGroup" 150),(de P (st "EnvironmentError") 151 (.type "OSError")),(de P (st "IOError") 152 (.type "OSError")),(bI P "open" 153),(de P (st "quit") 154 (.builtin "builtins.quit#opaque")),(de P (st "exit") 155 (.builtin "builtins.exit#opaque")),(de P (st "copyright") 156 (.builtin "builtins.copyright#opaque")),(de P (st "credits") 157 (.builtin "builtins.credits#opaque")),(de P (st "license") 158 (.builtin "builtins.license#opaque")),(de P (st "help") 159 (.builtin "builtins.help#opaque"))]⟩ 159),⟨[]⟩⟩
def o1(P:Params):Obj:=⟨(.type "dict"),none,(.dict ⟨[(de P (st "builtins") 162 (rF 4)),(de P (st "__main__") 163 (rF 5)),(de P (st "_sre") 244 (rF 12))]⟩ 3),⟨[]⟩⟩
def o2(P:Params):Obj:=⟨.none,none,(.dict ⟨[(de P (st "\x69mport.loaded._sre") 183 (.bool true)),(de P (st "class._frozen_importlib.BuiltinImporter") 185 (rF 14)),(de P (st "watched.\x69mport") 206 (rF 18)),(de P (st "class._frozen_importlib.ModuleSpec") 216 (rF 22)),(de P (st "sys.modules.booked-epoch") 245 (iZ 3)),(de P (st "\x69mport.later-laid._sre") 270 (.bool true)),(de P (st "watched.library") 272 (rF 27)),(de P (st "watched.library-objects") 0 (vT ⟨⟨[12]⟩⟩ 0)),(de P (st "watched.library-deep._sre") 273 (vT ⟨⟨[4,0,0,11,4,0,0,11,4,0,0,3,4,0,0,11,8,4,100,105,99,116,2]⟩⟩ 0))]⟩ 9),⟨[]⟩⟩
def o3(P:Params):Obj:=⟨(.type "dict"),none,(.dict ⟨[(de P (st "__name__") 165 (.str (st "law_wb0105_01") 710)),(de P (st "__doc__") 166 .none),(de P (st "__package__") 167 .none),(de P (st "__loader__") 168 (.builtin "__main__.__loader__#opaque")),(de P (st "__spec__") 169 .none),(de P (st "__annotations__") 170 (rF 6)),(de P (st "__builtins__") 171 (rF 4)),(de P (st "__file__") 173 (.str (st "/claim/cut.py") 172)),(de P (st "__cached__") 174 .none),(de P (st "_sre") 275 (rF 12)),(de P (st "tspecials") 317 (rF 36)),(de P (st "_name_disallowed_re") 343 (rF 41)),(de P (st "_value_disallowed_re") 377 (rF 46)),(de P (st "_formatparam") 387 (rF 54)),(de P (st "Headers") 545 (rF 175)),(de P (st "_DIV_LIMIT") 549 (iN 4000 548)),(de P (st "_div2n1n") 566 (rF 186)),(de P (st "_div3n2n") 580 (rF 193)),(de P (st "_int2digits") 591 (rF 200)),(de P (st "_digits2int") 602 (rF 207)),(de P (st "_divmod_pos") 617 (rF 214)),(de P (st "int_divmod") 627 (rF 221)),(de P (st "insort_right") 642 (rF 230)),(de P (st "bisect_right") 656 (rF 239)),(de P (st "insort_left") 669 (rF 248)),(de P (st "bisect_left") 683 (rF 257)),(de P (st "ELLIPSIS_MARKER") 687 (.str (st "...") 686)),(de P (st "_ellipsis_match") 699 (rF 264)),(de P (st "_strip_exception_details") 709 (rF 271)),(de P (st "_law_message") 722 (rF 278)),(de P (st "_law_refused") 728 (rF 283)),(de P (st "_law_few") 740 (rF 290)),(de P (st "_law_pairs") 746 (rF 295)),(de P (st "_law_many") 752 (rF 300)),(de P (st "_law_run") 758 (rF 305)),(de P (st "law") 764 (rF 310))]⟩ 36),⟨[]⟩⟩
noncomputable def o4:Obj:=⟨(.type "module"),(some 0), .plain,⟨[]⟩⟩
noncomputable def o5:Obj:=⟨(.type "module"),(some 3), .plain,⟨[]⟩⟩
def o10:Obj:=⟨(.type "frame"),none, .plain,⟨[some (rF 9),some (rF 3),some (rF 3),none,some (.str (st "__main__") 164),none,some (rF 0)]⟩⟩
def o35:Obj:=(oT [(iZ 14),(iZ 14),(iZ 4),(iZ 1),(iZ 1),(iZ 9),(iZ 0),(iZ 4227896069),(iZ 939524097),(iZ 0),(iZ 0),(iZ 0),(iZ 0),(iZ 0),(iZ 0),(iZ 13),(iZ 11),(iZ 9),(iZ 0),(iZ 4227896069),(iZ 939524097),(iZ 0),(iZ 0),(iZ 0),(iZ 0),(iZ 0),(iZ 0),(iZ 1)])
def o36:Obj:=⟨(.type "re.Pattern"),none,(.fields ⟨[(vT ⟨⟨[91,32,92,40,92,41,60,62,64,44,59,58,92,92,34,47,92,91,92,93,92,63,61,93]⟩⟩ 285),(iN 32 316),(iZ 0), .none, .none,(rF 35),(iZ 0)]⟩),⟨[]⟩⟩
def o40:Obj:=(oT [(iZ 14),(iZ 10),(iZ 4),(iZ 1),(iZ 1),(iZ 22),(iZ 0),(iZ 31),(iZ 16),(iZ 127),(iZ 0),(iZ 13),(iZ 7),(iZ 22),(iZ 0),(iZ 31),(iZ 16),(iZ 127),(iZ 0),(iZ 1)])
def o41:Obj:=⟨(.type "re.Pattern"),none,(.fields ⟨[(vT ⟨⟨[91,92,120,48,48,45,92,120,49,70,92,120,55,70,93]⟩⟩ 319),(iN 32 342),(iZ 0), .none, .none,(rF 40),(iZ 0)]⟩),⟨[]⟩⟩
def o45:Obj:=(oT [(iZ 14),(iZ 14),(iZ 4),(iZ 1),(iZ 1),(iZ 9),(iZ 4294966783),(iZ 0),(iZ 0),(iZ 2147483648),(iZ 0),(iZ 0),(iZ 0),(iZ 0),(iZ 0),(iZ 13),(iZ 11),(iZ 9),(iZ 4294966783),(iZ 0),(iZ 0),(iZ 2147483648),(iZ 0),(iZ 0),(iZ 0),(iZ 0),(iZ 0),(iZ 1)])
def o46:Obj:=⟨(.type "re.Pattern"),none,(.fields ⟨[(vT ⟨⟨[91,92,120,48,48,45,92,120,48,56,92,120,48,65,45,92,120,49,70,92,120,55,70,93]⟩⟩ 345),(iN 32 376),(iZ 0), .none, .none,(rF 45),(iZ 0)]⟩),⟨[]⟩⟩
def o62:Obj:=(oT [.none])
def o68:Obj:=(oC [(.str (st "__init__") 400),(.str (st "Headers.__init__") 401),(.str (st "/claim/cut.py") 402),(iZ 17),(iZ 2),(iZ 0),(iZ 0),(iZ 3),(rF 63),(.bool true),(iZ 276),(rF 64), .none,(rF 65),(rF 66),(rF 67),(iZ 407),(iZ 17),(.str (st "/claim/cut.py") 408)])
def o69:Obj:=(oF (Y5 (st "__init__") (st "Headers.__init__") (Z2k 6 0) 3 (rF 62) .none .none (.str (st "cpy313.wsgiref.headers") 282) (rF 68) .none 0))
def o75:Obj:=(oC [(.str (st "_convert_string_type") 410),(.str (st "Headers._convert_string_type") 411),(.str (st "/claim/cut.py") 412),(iZ 27),(iZ 2),(iZ 0),(iZ 1),(iZ 3),(rF 70),(.bool true),(iZ 276),(rF 71), .none,(rF 72),(rF 73),(rF 74),(iZ 417),(iZ 27),(.str (st "/claim/cut.py") 418)])
def o76:Obj:=(oF (Y5 (st "_convert_string_type") (st "Headers._convert_string_type") (Z2k 6 1) 3 .none .none .none (.str (st "cpy313.wsgiref.headers") 282) (rF 75) .none 0))
def o82:Obj:=(oC [(.str (st "__len__") 420),(.str (st "Headers.__len__") 421),(.str (st "/claim/cut.py") 422),(iZ 35),(iZ 1),(iZ 0),(iZ 0),(iZ 3),(rF 77),(.bool true),(iZ 276),(rF 78), .none,(rF 79),(rF 80),(rF 81),(iZ 424),(iZ 35),(.str (st "/claim/cut.py") 425)])
def o83:Obj:=(oF (Y5 (st "__len__") (st "Headers.__len__") (Z2k 6 2) 3 .none .none .none (.str (st "cpy313.wsgiref.headers") 282) (rF 82) .none 0))
def o89:Obj:=(oC [(.str (st "__setitem__") 427),(.str (st "Headers.__setitem__") 428),(.str (st "/claim/cut.py") 429),(iZ 38),(iZ 3),(iZ 0),(iZ 0),(iZ 3),(rF 84),(.bool true),(iZ 276),(rF 85), .none,(rF 86),(rF 87),(rF 88),(iZ 433),(iZ 38),(.str (st "/claim/cut.py") 434)])
def o90:Obj:=(oF (Y5 (st "__setitem__") (st "Headers.__setitem__") (Z2k 6 3) 3 .none .none .none (.str (st "cpy313.wsgiref.headers") 282) (rF 89) .none 0))
def o94:Obj:=(oC [(.str (st "__delitem__") 436),(.str (st "Headers.__delitem__") 437),(.str (st "/claim/cut.py") 438),(iZ 42),(iZ 2),(iZ 0),(iZ 0),(iZ 3),(rF 91),(.bool true),(iZ 276),(rF 92), .none, .none, .none,(rF 93),(iZ 439),(iZ 42),(.str (st "/claim/cut.py") 440)])
def o95:Obj:=(oF (Y5 (st "__delitem__") (st "Headers.__delitem__") (Z2k 6 4) 3 .none .none .none (.str (st "cpy313.wsgiref.headers") 282) (rF 94) .none 0))
def J3z:Obj:=(oC [(.str (st "__getitem__") 442),(.str (st "Headers.__getitem__") 443),(.str (st "/claim/cut.py") 444),(iZ 46),(iZ 2),(iZ 0),(iZ 0),(iZ 3),(rF 96),(.bool true),(iZ 276),(rF 97), .none,(rF 98),(rF 99),(rF 100),(iZ 447),(iZ 46),(.str (st "/claim/cut.py") 448)])
def J40:Obj:=(oF (Y5 (st "__getitem__") (st "Headers.__getitem__") (Z2k 6 5) 3 .none .none .none (.str (st "cpy313.wsgiref.headers") 282) (rF 101) .none 0))
def J41:Obj:=(oC [(.str (st "__contains__") 450),(.str (st "Headers.__contains__") 451),(.str (st "/claim/cut.py") 452),(iZ 49),(iZ 2),(iZ 0),(iZ 0),(iZ 3),(rF 103),(.bool true),(iZ 276),(rF 104), .none,(rF 105),(rF 106),(rF 107),(iZ 455),(iZ 49),(.str (st "/claim/cut.py") 456)])
def J42:Obj:=(oF (Y5 (st "__contains__") (st "Headers.__contains__") (Z2k 6 6) 3 .none .none .none (.str (st "cpy313.wsgiref.headers") 282) (rF 108) .none 0))
def J43:Obj:=(oC [(.str (st "get_all") 458),(.str (st "Headers.get_all") 459),(.str (st "/claim/cut.py") 460),(iZ 52),(iZ 2),(iZ 0),(iZ 0),(iZ 3),(rF 110),(.bool true),(iZ 276),(rF 111), .none, .none, .none,(rF 112),(iZ 461),(iZ 52),(.str (st "/claim/cut.py") 462)])
def J44:Obj:=(oF (Y5 (st "get_all") (st "Headers.get_all") (Z2k 6 7) 3 .none .none .none (.str (st "cpy313.wsgiref.headers") 282) (rF 113) .none 0))
def J45:Obj:=(oT [.none])
def J46:Obj:=(oC [(.str (st "get") 464),(.str (st "Headers.get") 465),(.str (st "/claim/cut.py") 466),(iZ 56),(iZ 3),(iZ 0),(iZ 0),(iZ 3),(rF 116),(.bool true),(iZ 276),(rF 117), .none,(rF 118),(rF 119),(rF 120),(iZ 472),(iZ 56),(.str (st "/claim/cut.py") 473)])
def J47:Obj:=(oF (Y5 (st "get") (st "Headers.get") (Z2k 6 8) 3 (rF 115) .none .none (.str (st "cpy313.wsgiref.headers") 282) (rF 121) .none 0))
def J48:Obj:=(oC [(.str (st "keys") 475),(.str (st "Headers.keys") 476),(.str (st "/claim/cut.py") 477),(iZ 63),(iZ 1),(iZ 0),(iZ 0),(iZ 3),(rF 123),(.bool true),(iZ 276),(rF 124), .none, .none, .none,(rF 125),(iZ 478),(iZ 63),(.str (st "/claim/cut.py") 479)])
def J49:Obj:=(oF (Y5 (st "keys") (st "Headers.keys") (Z2k 6 9) 3 .none .none .none (.str (st "cpy313.wsgiref.headers") 282) (rF 126) .none 0))
def J4a:Obj:=(oC [(.str (st "values") 481),(.str (st "Headers.values") 482),(.str (st "/claim/cut.py") 483),(iZ 66),(iZ 1),(iZ 0),(iZ 0),(iZ 3),(rF 128),(.bool true),(iZ 276),(rF 129), .none, .none, .none,(rF 130),(iZ 484),(iZ 66),(.str (st "/claim/cut.py") 485)])
def J4b:Obj:=(oF (Y5 (st "values") (st "Headers.values") (Z2k 6 10) 3 .none .none .none (.str (st "cpy313.wsgiref.headers") 282) (rF 131) .none 0))
def J4c:Obj:=(oC [(.str (st "items") 487),(.str (st "Headers.items") 488),(.str (st "/claim/cut.py") 489),(iZ 69),(iZ 1),(iZ 0),(iZ 0),(iZ 3),(rF 133),(.bool true),(iZ 276),(rF 134), .none,(rF 135),(rF 136),(rF 137),(iZ 491),(iZ 69),(.str (st "/claim/cut.py") 492)])
def J4d:Obj:=(oF (Y5 (st "items") (st "Headers.items") (Z2k 6 11) 3 .none .none .none (.str (st "cpy313.wsgiref.headers") 282) (rF 138) .none 0))
def J4e:Obj:=(oC [(.str (st "setdefault") 514),(.str (st "Headers.setdefault") 515),(.str (st "/claim/cut.py") 516),(iZ 81),(iZ 3),(iZ 0),(iZ 0),(iZ 3),(rF 159),(.bool true),(iZ 276),(rF 160), .none,(rF 161),(rF 162),(rF 163),(iZ 521),(iZ 81),(.str (st "/claim/cut.py") 522)])
def J4f:Obj:=(oF (Y5 (st "setdefault") (st "Headers.setdefault") (Z2k 6 15) 3 .none .none .none (.str (st "cpy313.wsgiref.headers") 282) (rF 164) .none 0))
def J4g:Obj:=(oC [(.str (st "add_header") 524),(.str (st "Headers.add_header") 525),(.str (st "/claim/cut.py") 526),(iZ 89),(iZ 3),(iZ 0),(iZ 0),(iZ 11),(rF 166),(.bool true),(iZ 276),(rF 167), .none,(rF 168),(rF 169),(rF 170),(iZ 534),(iZ 89),(.str (st "/claim/cut.py") 535)])
def J4h:Obj:=(oF (Y5 (st "add_header") (st "Headers.add_header") (Z2k 6 16) 3 .none .none .none (.str (st "cpy313.wsgiref.headers") 282) (rF 171) .none 0))
def J4i(P:Params):Obj:=⟨(.type "dict"),none,(.dict ⟨[(de P (st "__module__") 395 (.str (st "cpy313.wsgiref.headers") 282)),(de P (st "__firstlineno__") 399 (iN 15 398)),(de P (st "__init__") 409 (rF 69)),(de P (st "_convert_string_type") 419 (rF 76)),(de P (st "__len__") 426 (rF 83)),(de P (st "__setitem__") 435 (rF 90)),(de P (st "__delitem__") 441 (rF 95)),(de P (st "__getitem__") 449 (rF 102)),(de P (st "__contains__") 457 (rF 109)),(de P (st "get_all") 463 (rF 114)),(de P (st "get") 474 (rF 122)),(de P (st "keys") 480 (rF 127)),(de P (st "values") 486 (rF 132)),(de P (st "items") 493 (rF 139)),(de P (st "__repr__") 500 (rF 146)),(de P (st "__str__") 506 (rF 151)),(de P (st "__bytes__") 513 (rF 158)),(de P (st "setdefault") 523 (rF 165)),(de P (st "add_header") 536 (rF 172)),(de P (st "__static_attributes__") 538 (rF 173)),(de P (st "__dict__") 540 (rF 176)),(de P (st "__weakref__") 542 (rF 177)),(de P (st "__doc__") 543 .none)]⟩ 4),⟨[]⟩⟩
def J4j:Obj:=⟨(.type "type"),none,(.cls ⟨(st "Headers"),[(.type "object")],[(rF 175),(.type "object")],174,(st "Headers"),true,[],[],false,none,false⟩),⟨[none,none,some (.str (st "Headers") 388),some (.str (st "Headers") 396),some (.builtin "object.__new__"),some (.bool true)]⟩⟩
def J4k:Obj:=⟨(.type "getset_descriptor"),none,(.fields ⟨[(.str (st "__dict__") 539),(rF 175),(.builtin "function.__dict__"),(.builtin "function.__dict__#set")]⟩),⟨[]⟩⟩
def J4l:Obj:=⟨(.type "getset_descriptor"),none,(.fields ⟨[(.str (st "__weakref__") 541),(rF 175),(.builtin "ExceptionGroup.__weakref__"), .none]⟩),⟨[]⟩⟩
def J4m:Obj:=(oC [(.str (st "_div2n1n") 550),(.str (st "_div2n1n") 551),(.str (st "/claim/cut.py") 552),(iZ 104),(iZ 3),(iZ 0),(iZ 0),(iZ 3),(rF 180),(.bool true),(iZ 276),(rF 181), .none,(rF 182),(rF 183),(rF 184),(iZ 564),(iZ 104),(.str (st "/claim/cut.py") 565)])
def J4n:Obj:=(oF (Y5 (st "_div2n1n") (st "_div2n1n") (Y2 9) 3 .none .none .none (.str (st "cpy313._pylong") 546) (rF 185) .none 0))
def J4o:Obj:=(oC [(.str (st "_div3n2n") 567),(.str (st "_div3n2n") 568),(.str (st "/claim/cut.py") 569),(iZ 120),(iZ 6),(iZ 0),(iZ 0),(iZ 3),(rF 187),(.bool true),(iZ 276),(rF 188), .none,(rF 189),(rF 190),(rF 191),(iZ 578),(iZ 120),(.str (st "/claim/cut.py") 579)])
def J4p:Obj:=(oF (Y5 (st "_div3n2n") (st "_div3n2n") (Y2 10) 3 .none .none .none (.str (st "cpy313._pylong") 546) (rF 192) .none 0))
def Zub:Obj:=(oC [(.str (st "_int2digits") 581),(.str (st "_int2digits") 582),(.str (st "/claim/cut.py") 583),(iZ 130),(iZ 2),(iZ 0),(iZ 0),(iZ 3),(rF 194),(.bool true),(iZ 276),(rF 195), .none,(rF 196),(rF 197),(rF 198),(iZ 589),(iZ 130),(.str (st "/claim/cut.py") 590)])
def J4q:Obj:=(oF (Y5 (st "_int2digits") (st "_int2digits") (Y2 11) 3 .none .none .none (.str (st "cpy313._pylong") 546) (rF 199) .none 0))
def Zuc:Obj:=(oC [(.str (st "_digits2int") 592),(.str (st "_digits2int") 593),(.str (st "/claim/cut.py") 594),(iZ 146),(iZ 2),(iZ 0),(iZ 0),(iZ 3),(rF 201),(.bool true),(iZ 276),(rF 202), .none,(rF 203),(rF 204),(rF 205),(iZ 600),(iZ 146),(.str (st "/claim/cut.py") 601)])
def J4r:Obj:=(oF (Y5 (st "_digits2int") (st "_digits2int") (Y2 12) 3 .none .none .none (.str (st "cpy313._pylong") 546) (rF 206) .none 0))
def J4s:Obj:=(oC [(.str (st "_divmod_pos") 603),(.str (st "_divmod_pos") 604),(.str (st "/claim/cut.py") 605),(iZ 155),(iZ 2),(iZ 0),(iZ 0),(iZ 3),(rF 208),(.bool true),(iZ 276),(rF 209), .none,(rF 210),(rF 211),(rF 212),(iZ 615),(iZ 155),(.str (st "/claim/cut.py") 616)])
def J4t:Obj:=(oF (Y5 (st "_divmod_pos") (st "_divmod_pos") (Y2 13) 3 .none .none .none (.str (st "cpy313._pylong") 546) (rF 213) .none 0))
def J4u:Obj:=(oC [(.str (st "int_divmod") 618),(.str (st "int_divmod") 619),(.str (st "/claim/cut.py") 620),(iZ 166),(iZ 2),(iZ 0),(iZ 0),(iZ 3),(rF 215),(.bool true),(iZ 276),(rF 216), .none,(rF 217),(rF 218),(rF 219),(iZ 625),(iZ 166),(.str (st "/claim/cut.py") 626)])
def J4v:Obj:=(oF (Y5 (st "int_divmod") (st "int_divmod") (Y2 14) 3 .none .none .none (.str (st "cpy313._pylong") 546) (rF 220) .none 0))
def J4w:Obj:=(oT [(iN 0 630), .none])
def J4x(P:Params):Obj:=⟨(.type "dict"),none,(.dict ⟨[(de P (st "key") 631 .none)]⟩ 1),⟨[]⟩⟩
def J4y:Obj:=(oC [(.str (st "insort_right") 632),(.str (st "insort_right") 633),(.str (st "/claim/cut.py") 634),(iZ 178),(iZ 4),(iZ 0),(iZ 1),(iZ 3),(rF 224),(.bool true),(iZ 276),(rF 225), .none,(rF 226),(rF 227),(rF 228),(iZ 640),(iZ 178),(.str (st "/claim/cut.py") 641)])
def J4z:Obj:=(oF (Y5 (st "insort_right") (st "insort_right") (Y2 16) 3 (rF 222) (rF 223) .none (.str (st "cpy313.bisect") 628) (rF 229) .none 0))
def J50:Obj:=(oT [(iN 0 643), .none])
def J51(P:Params):Obj:=⟨(.type "dict"),none,(.dict ⟨[(de P (st "key") 644 .none)]⟩ 1),⟨[]⟩⟩
def J52:Obj:=(oC [(.str (st "bisect_right") 645),(.str (st "bisect_right") 646),(.str (st "/claim/cut.py") 647),(iZ 184),(iZ 4),(iZ 0),(iZ 1),(iZ 3),(rF 233),(.bool true),(iZ 276),(rF 234), .none,(rF 235),(rF 236),(rF 237),(iZ 654),(iZ 184),(.str (st "/claim/cut.py") 655)])
def J53:Obj:=(oF (Y5 (st "bisect_right") (st "bisect_right") (Y2 17) 3 (rF 231) (rF 232) .none (.str (st "cpy313.bisect") 628) (rF 238) .none 0))
def J54:Obj:=(oT [(iN 0 657), .none])
def J55(P:Params):Obj:=⟨(.type "dict"),none,(.dict ⟨[(de P (st "key") 658 .none)]⟩ 1),⟨[]⟩⟩
def J56:Obj:=(oC [(.str (st "insort_left") 659),(.str (st "insort_left") 660),(.str (st "/claim/cut.py") 661),(iZ 204),(iZ 4),(iZ 0),(iZ 1),(iZ 3),(rF 242),(.bool true),(iZ 276),(rF 243), .none,(rF 244),(rF 245),(rF 246),(iZ 667),(iZ 204),(.str (st "/claim/cut.py") 668)])
def J57:Obj:=(oF (Y5 (st "insort_left") (st "insort_left") (Y2 18) 3 (rF 240) (rF 241) .none (.str (st "cpy313.bisect") 628) (rF 247) .none 0))
def J58:Obj:=(oT [(iN 0 670), .none])
def J59(P:Params):Obj:=⟨(.type "dict"),none,(.dict ⟨[(de P (st "key") 671 .none)]⟩ 1),⟨[]⟩⟩
def J5a:Obj:=(oC [(.str (st "bisect_left") 672),(.str (st "bisect_left") 673),(.str (st "/claim/cut.py") 674),(iZ 210),(iZ 4),(iZ 0),(iZ 1),(iZ 3),(rF 251),(.bool true),(iZ 276),(rF 252), .none,(rF 253),(rF 254),(rF 255),(iZ 681),(iZ 210),(.str (st "/claim/cut.py") 682)])
def J5b:Obj:=(oF (Y5 (st "bisect_left") (st "bisect_left") (Y2 19) 3 (rF 249) (rF 250) .none (.str (st "cpy313.bisect") 628) (rF 256) .none 0))
def J5c:Obj:=(oC [(.str (st "_ellipsis_match") 688),(.str (st "_ellipsis_match") 689),(.str (st "/claim/cut.py") 690),(iZ 232),(iZ 2),(iZ 0),(iZ 0),(iZ 3),(rF 258),(.bool true),(iZ 276),(rF 259), .none,(rF 260),(rF 261),(rF 262),(iZ 697),(iZ 232),(.str (st "/claim/cut.py") 698)])
def J5d:Obj:=(oF (Y5 (st "_ellipsis_match") (st "_ellipsis_match") (Y2 22) 3 .none .none .none (.str (st "cpy313.doctest") 684) (rF 263) .none 0))
def J5e:Obj:=(oC [(.str (st "_strip_exception_details") 700),(.str (st "_strip_exception_details") 701),(.str (st "/claim/cut.py") 702),(iZ 260),(iZ 1),(iZ 0),(iZ 0),(iZ 3),(rF 265),(.bool true),(iZ 276),(rF 266), .none,(rF 267),(rF 268),(rF 269),(iZ 707),(iZ 260),(.str (st "/claim/cut.py") 708)])
def J5f:Obj:=(oF (Y5 (st "_strip_exception_details") (st "_strip_exception_details") (Y2 23) 3 .none .none .none (.str (st "cpy313.doctest") 684) (rF 270) .none 0))
def J5g:Obj:=(oC [(.str (st "_law_message") 712),(.str (st "_law_message") 713),(.str (st "/claim/cut.py") 714),(iZ 273),(iZ 1),(iZ 0),(iZ 0),(iZ 3),(rF 272),(.bool true),(iZ 276),(rF 273), .none,(rF 274),(rF 275),(rF 276),(iZ 720),(iZ 273),(.str (st "/claim/cut.py") 721)])
def J5h:Obj:=(oF (Y5 (st "_law_message") (st "_law_message") (Y2 25) 3 .none .none .none (.str (st "law_wb0105_01") 710) (rF 277) .none 0))
def J5i:Obj:=(oC [(.str (st "_law_refused") 723),(.str (st "_law_refused") 724),(.str (st "/claim/cut.py") 725),(iZ 278),(iZ 4),(iZ 0),(iZ 0),(iZ 3),(rF 279),(.bool true),(iZ 276),(rF 280), .none, .none, .none,(rF 281),(iZ 726),(iZ 278),(.str (st "/claim/cut.py") 727)])
def J5j:Obj:=(oF (Y5 (st "_law_refused") (st "_law_refused") (Y2 26) 3 .none .none .none (.str (st "law_wb0105_01") 710) (rF 282) .none 0))
def J5k:Obj:=(oC [(.str (st "_law_few") 729),(.str (st "_law_few") 730),(.str (st "/claim/cut.py") 731),(iZ 300),(iZ 3),(iZ 0),(iZ 0),(iZ 3),(rF 284),(.bool true),(iZ 276),(rF 285), .none,(rF 286),(rF 287),(rF 288),(iZ 738),(iZ 300),(.str (st "/claim/cut.py") 739)])
def J5l:Obj:=(oF (Y5 (st "_law_few") (st "_law_few") (Y2 27) 3 .none .none .none (.str (st "law_wb0105_01") 710) (rF 289) .none 0))
def J5m:Obj:=(oC [(.str (st "_law_pairs") 741),(.str (st "_law_pairs") 742),(.str (st "/claim/cut.py") 743),(iZ 312),(iZ 3),(iZ 0),(iZ 0),(iZ 3),(rF 291),(.bool true),(iZ 276),(rF 292), .none, .none, .none,(rF 293),(iZ 744),(iZ 312),(.str (st "/claim/cut.py") 745)])
def J5n:Obj:=(oF (Y5 (st "_law_pairs") (st "_law_pairs") (Y2 28) 3 .none .none .none (.str (st "law_wb0105_01") 710) (rF 294) .none 0))
def Zud:Obj:=(oC [(.str (st "_law_many") 747),(.str (st "_law_many") 748),(.str (st "/claim/cut.py") 749),(iZ 319),(iZ 5),(iZ 0),(iZ 0),(iZ 3),(rF 296),(.bool true),(iZ 276),(rF 297), .none, .none, .none,(rF 298),(iZ 750),(iZ 319),(.str (st "/claim/cut.py") 751)])
def J5o:Obj:=(oF (Y5 (st "_law_many") (st "_law_many") (Y2 29) 3 .none .none .none (.str (st "law_wb0105_01") 710) (rF 299) .none 0))
def J5p:Obj:=(oC [(.str (st "_law_run") 753),(.str (st "_law_run") 754),(.str (st "/claim/cut.py") 755),(iZ 338),(iZ 2),(iZ 0),(iZ 0),(iZ 3),(rF 301),(.bool true),(iZ 276),(rF 302), .none, .none, .none,(rF 303),(iZ 756),(iZ 338),(.str (st "/claim/cut.py") 757)])
def J5q:Obj:=(oF (Y5 (st "_law_run") (st "_law_run") (Y2 30) 3 .none .none .none (.str (st "law_wb0105_01") 710) (rF 304) .none 0))
def Zue:Obj:=(oC [(.str (st "law") 759),(.str (st "law") 760),(.str (st "/claim/cut.py") 761),(iZ 358),(iZ 1),(iZ 0),(iZ 0),(iZ 3),(rF 306),(.bool true),(iZ 276),(rF 307), .none, .none, .none,(rF 308),(iZ 762),(iZ 358),(.str (st "/claim/cut.py") 763)])
def Zak:Obj:=(oF (Y5 (st "law") (st "law") (Y2 31) 3 .none .none .none (.str (st "law_wb0105_01") 710) (rF 309) .none 0))
def Jbp(P:Params):Frag:=[(0,o0 P),(1,o1 P),(2,o2 P),(3,o3 P),(4,o4),(5,o5),(10,o10),(35,o35),(36,o36),(40,o40),(41,o41),(45,o45),(46,o46),(62,o62),(68,o68),(69,o69),(75,o75),(76,o76),(82,o82),(83,o83),(89,o89),(90,o90),(94,o94),(95,o95),(101,J3z),(102,J40),(108,J41),(109,J42),(113,J43),(114,J44),(115,J45),(121,J46),(122,J47),(126,J48),(127,J49),(131,J4a),(132,J4b),(138,J4c),(139,J4d),(164,J4e),(165,J4f),(171,J4g),(172,J4h),(174,J4i P),(175,J4j),(176,J4k),(177,J4l),(185,J4m),(186,J4n),(192,J4o),(193,J4p),(199,Zub),(200,J4q),(206,Zuc),(207,J4r),(213,J4s),(214,J4t),(220,J4u),(221,J4v),(222,J4w),(223,J4x P),(229,J4y),(230,J4z),(231,J50),(232,J51 P),(238,J52),(239,J53),(240,J54),(241,J55 P),(247,J56),(248,J57),(249,J58),(250,J59 P),(256,J5a),(257,J5b),(263,J5c),(264,J5d),(270,J5e),(271,J5f),(277,J5g),(278,J5h),(282,J5i),(283,J5j),(289,J5k),(290,J5l),(294,J5m),(295,J5n),(299,Zud),(300,J5o),(304,J5p),(305,J5q),(309,Zue),(310,Zak)]
def kt(P:Params):KT:=(.node (some (o0 P)) (.node (some (o1 P)) (.node (some (o3 P)) (.node none (.node none (.node none (.node none (.node (some J49) .nil .nil) .nil) (.node (some o95) .nil (.node (some (J4x P)) .nil .nil))) (.node none (.node none (.node none (.node (some J5f) .nil .nil) .nil) (.node (some J4r) .nil .nil)) (.node none (.node (some J4j) .nil .nil) (.node (some J53) .nil .nil)))) (.node none (.node none (.node none (.node none (.node (some J5c) .nil .nil) .nil) (.node (some Zub) .nil .nil)) (.node none (.node none (.node (some J5n) .nil .nil) .nil) (.node (some J50) .nil .nil))) (.node none .nil (.node none .nil (.node (some J56) .nil .nil))))) (.node none (.node none (.node (some o35) (.node none (.node (some J4a) .nil .nil) .nil) .nil) (.node none (.node (some o83) .nil .nil) (.node (some J45) .nil .nil))) (.node none (.node none (.node (some o75) (.node (some J4d) .nil .nil) .nil) (.node none (.node (some J4g) (.node (some Zud) .nil .nil) .nil) .nil)) (.node none (.node none (.node none (.node (some J5j) .nil .nil) .nil) .nil) .nil)))) (.node (some o5) (.node none (.node none (.node none (.node none (.node none (.node (some J5b) .nil .nil) .nil) (.node (some J4p) .nil .nil)) (.node none (.node none (.node (some J5k) .nil .nil) .nil) .nil)) (.node none .nil (.node (some J43) (.node (some J4l) (.node (some J5q) .nil .nil) .nil) (.node (some (J55 P)) .nil .nil)))) (.node none (.node (some o41) .nil .nil) (.node none (.node (some o89) .nil .nil) (.node (some J46) (.node (some J4m) .nil .nil) (.node (some J58) .nil .nil))))) (.node none (.node none (.node none (.node (some o69) .nil .nil) (.node (some J3z) (.node (some J4f) .nil .nil) (.node (some J4y) .nil .nil))) (.node none (.node none (.node none (.node (some J5g) .nil .nil) .nil) (.node (some J4s) .nil .nil)) (.node none (.node none (.node (some Zue) .nil .nil) .nil) .nil))) (.node none (.node (some o45) .nil (.node (some J42) .nil .nil)) (.node none (.node none .nil (.node (some J4v) .nil .nil)) .nil))))) (.node (some (o2 P)) (.node (some o4) (.node none (.node none (.node none (.node none (.node none (.node (some J5a) .nil .nil) .nil) (.node (some J4o) .nil .nil)) .nil) (.node none .nil (.node none (.node (some J4k) (.node (some J5p) .nil .nil) .nil) (.node (some J54) .nil .nil)))) (.node none (.node (some o40) (.node none (.node none (.node (some J5d) .nil .nil) .nil) (.node (some J4q) .nil .nil)) (.node none .nil (.node (some (J51 P)) .nil .nil))) (.node none .nil (.node none .nil (.node (some J57) .nil .nil))))) (.node none (.node none (.node (some o36) (.node (some o68) (.node (some J4b) .nil .nil) .nil) (.node none (.node (some J4e) .nil .nil) .nil)) .nil) (.node none (.node none (.node (some o76) .nil .nil) (.node (some J41) (.node (some J4h) (.node (some J5o) .nil .nil) .nil) .nil)) (.node none (.node none .nil (.node (some J4u) .nil .nil)) .nil)))) (.node none (.node (some o10) (.node none (.node none .nil (.node none (.node none (.node (some J5l) .nil .nil) .nil) .nil)) (.node none (.node (some o82) .nil .nil) (.node (some J44) .nil .nil))) (.node none (.node none (.node none (.node (some J4c) .nil .nil) .nil) .nil) (.node none (.node (some o90) (.node none (.node (some J5i) .nil .nil) .nil) .nil) (.node (some J47) (.node (some J4n) .nil .nil) (.node (some (J59 P)) .nil .nil))))) (.node none (.node none (.node none .nil (.node (some J40) (.node none (.node (some J5m) .nil .nil) .nil) (.node (some J4z) .nil .nil))) (.node none (.node none (.node none (.node (some J5h) .nil .nil) .nil) (.node (some J4t) .nil .nil)) (.node none (.node none (.node (some Zak) .nil .nil) .nil) .nil))) (.node none (.node (some o46) (.node none (.node none (.node (some J5e) .nil .nil) .nil) (.node (some Zuc) .nil .nil)) (.node none (.node (some (J4i P)) .nil .nil) (.node (some J52) .nil .nil))) (.node (some o62) (.node (some o94) .nil (.node (some J4w) .nil .nil)) (.node (some J48) .nil .nil)))))))
def Z9b(P:Params):Frag:=([195,202,297,307].map fun a=>(a,(⟨.none,none, .fields ⟨[]⟩,⟨[]⟩⟩:Obj)))++((199,Zub)::(206,Zuc)::(299,Zud)::(309,Zue)::Jbp P)
noncomputable def w2(w:World)(b c:Bool):World:=(w.withFollow "special-get-raises" b).withFollow "comprehension-iter-twice" c
def vW(w:World):V:=⟨PySem.Challenge.pw_wb0105_01,w,kt w.params⟩
noncomputable def hh(l:List Nat)(r:Hs):Hs:=l.foldr Hs.d r
inductive HT where
 |l (x:Nat)
 |n (a b:HT)
noncomputable def hTt:HT:=(.n (.n (.n (.n (.n (.n (.n (.n (.l 0x11121101011121101011121101011010111) (.l 0x111119f001101df100000111010000010001111110000)) (.n (.l 0x1004041333020002020020000211000040010011111011110000000010100000000000000000000000000000000) (.l 0x1111111))) (.n (.n (.l 0x1110101) (.l 0x10ff051af01bf01af019f601bf1af00001af0001af0001af019f10014f1cf519f19f10016f0519f01af019f018f601af19f000019f00019f00019f018f118f0004031af00018f00118f18f18f11)) (.n (.l 0x113f113f113f113f13f13f000013f13f13f13f13f100e) (.l 0x1405760000600060006054057600006000600060555551111604e111604e111604e101501515151110504e0100402e0001000)))) (.n (.n (.n (.l 0x10605040310389a033103e01010) (.l 0x110f110f110f10f10f0010f10f10f10f10f100e1)) (.n (.l 0x1707070408a9000090009000908408a900009000900090888881112904e112904e112904e1028028282844408440404007e) (.l 0x10ff051df016f015f014f20f016f15f000015f00015f00015f01cf10017f1ff51cf1cf10019f051cf01df01cf01bf20f01df1cf00001cf0001cf0001cf01bf11bf0004031af0001bf0011bf1bf1bf11))) (.n (.n (.l 0x110f051bf01cf01bf01af601cf1bf00001bf0001bf0001bf01af10015f1df51af1af10017f051af01bf01af019f601bf1af00001af0001af0001af019f119f0004031af00019f00119f19f19f11) (.l 0x10000)) (.n (.l 0x10be44001144419f11131133318f511121122217f4311101e10efd0ded000d000d014010efd0ded000d000d0100ff00ff00ff00ff00ef0dd000d0ded1) (.l 0x103e3202111c11121111103e0ef103e03e003e21019090900c000efb30efbb0de0ef0ef00ef08044002110010))))) (.n (.n (.n (.n (.l 0x11bf01af019f10016f0519f01af019f018f20f01af19f0de19f00019f00019f018f) (.l 0x10de60006000605004411204e03330302070605)) (.n (.l 0x171112b04e112b04e112b04e102a02a2a2a6660a6606060555050444441111804e111804e111804e10170171717333073303030) (.l 0x103ea202111611121111103e8103e03e0103e910130303006008538550de80440021100101411))) (.n (.n (.l 0x1315f411121122214f3203e19f00110111103e000de11110110111103e000de110f10f0110f110f110f110f110f110f110f) (.l 0x113f12fdc0dec000c000c013f113f113f113f113f)) (.n (.l 0x10efaa0a0a040bdc0dec000c000c0b40bdc0dec000c000c0bbbbb1113c04e113c04e113c04e10) (.l 0x1a015f14f15f00ef0d0c20f00efd0ded000d000d014f14f)))) (.n (.n (.n (.l 0x1302200020de21011000) (.l 0x111110)) (.n (.l 0x117f11131133316f611121122215f5311101e21114f13f0de13f00013f00013f0201122) (.l 0x121f013f1013f013f12f113f13f0113f106e))) (.n (.n (.l 0x110f0ff0de0ff0000ff0000ff) (.l 0x10de10f12f11f0de11f00011f00011f)) (.n (.l 0x101011001014114105033440de110104e111000) (.l 0x101df01cf01bf)))))) (.n (.n (.n (.n (.n (.l 0x111121111103e) (.l 0x111f13f12f0de12f00012f00012f011f11f11f11f11f11114f04e1114f04e1114f04e1013f013f13f13fddd011fdd0d0d0400ef1ce00ef400ef1ce00ef0ef0ef0ef0ef11140ff04e1140ff04e1140ff04e1040ef040ef)) (.n (.l 0x1103e03e0) (.l 0x1030201))) (.n (.n (.l 0x11ef10ff10ff1) (.l 0x111f051ff018f017f016f20f018f17f0de17f00017f00017f01ef10019f21f51ef1ef1001bf051ef01ff01ef01df20f01ff1ef0de1ef0001ef0001ef01df11df0004031af0001df0011df1df1df11440011)) (.n (.l 0x115f0520f021f020f01ff6021f20f0de20f00020f00020f01ff1001af22f51ff1ff1001cf051ff020f01ff01ef6020f1ff0de1ff0001ff0001ff01ef11ef0004031af0001ef0011ef1ef1ef11440011) (.l 0x111f051cf1fe601df1cf0de1cf0001cf0001cf01bf10016f1ef51bf1bf10018f051bf01cf01bf01af601cf1bf0de1bf0001bf0001bf01af11af0005041af0001af0011af1af1af1155001155518f1)))) (.n (.n (.n (.l 0x112f051df01ef01df01cf601ef1df0de1df0001df0001df01cf10017f1ff51cf1cf10019f051cf1fe601df1cf0de1cf0001cf0001cf01bf11bf0005041af0001bf0011bf1bf1bf1155001155519f1) (.l 0x116f116f0003021af00016f00116f16f16f1133001133314f11121122213f203e19f00110111103e000de110f10f0110f110f110f110f110f110f110f110f110f10f10f0de10f10f10f10f10f100e)) (.n (.l 0x11cf1bf1547610ff0ef10a91547610ff0ef083100) (.l 0x103e870722211f0ff0ff0ff00ff00ff0ff112f119e03e760611110f20e12f22e03e65054440ffddd0d0dd110f119e03e54042220efccc0c0cc10ff119e03e4303111d20e0ff22e0fe14))) (.n (.n (.l 0x10001031226f100100101013f012f011f20f013f12f0de12f00012f00012f11f0011f10003501000421f05105011f0ef00d0ef00ff00ef0d20f00ff0ef0de0ef0000ef0000ef0d1) (.l 0x101e619f18f0de18f00018f00018f0601af01af01af01af019f018f18f00018f0de18f6011115504e01441010113030333302111010219e22240215f14f0de14f00014f00014f)) (.n (.l 0x1020f01ff01ef01df1df1df1df1df10) (.l 0x111f11f0200025115f10f10f112f711f10f03e10f10f017f011f013f012f010f000104050603023101011ddd1110fb110fba21a0010ef9999bb111304e11304e11304e1))))) (.n (.n (.n (.n (.l 0x1111204e11204e00e) (.l 0x11cf080808304030220f0430de300030003020222222220)) (.n (.l 0x10ff21f010f1010f010f110f10f0110f109e) (.l 0x12bf02af029f028f027f026f025f024f023f022f021f020f01ff01ef1fe01af002bf02af029f028f027f026f025f024f023f022f021f015f01ff01ef1fe01af14f2))) (.n (.n (.l 0x10de600060006055555111804e11804e11804e10707771110504e0100402e00) (.l 0x1410503344000)) (.n (.l 0x1518f019f018f017f6019f18f0de18f00018f00018f017f10012f1af517f17f10014f0517f018f017f016f6018f17f0de17f00017f00017f029e1c1) (.l 0x17222b999090991c119e103e0ef606111a20ec22e103ed5054449777070771a119e103ec40422286660606619119e103eb303111720e922e113e35e)))) (.n (.n (.n (.l 0x11af019f018f017f016f015f014f013f012f011f0) (.l 0x125f10020f28f525f25f10022f0525f026f025f024f20f026f25f0de25f00025f00025f024f124f0004031af00024f00124f24f24f1144001)) (.n (.l 0x128f10023f2bf528f28f10025f0528f029f028f027f20f029f28f0de28f00028f00028f027f127f0004031af00027f00127f27f27f1144001) (.l 0x12bf10026f2ef52bf2bf10028f052bf02cf02bf02af20f02cf2bf0de2bf0002bf0002bf02af12af0004031af0002af0012af2af2af1144001))) (.n (.n (.l 0x12ef10029f31f52ef2ef1002bf052ef02ff02ef02df20f02ff2ef0de2ef0002ef0002ef02df12df0004031af0002df0012df2df2df1144001) (.l 0x1005e44001144416f11131133)) (.n (.l 0x1320de20002000201) (.l 0x116f6511121122215f54311101e21114f13f0de13f00013f00013f01003e00de113f12f0de12f00012f00012f01003e1de010f109ec))))))) (.n (.n (.n (.n (.n (.n (.l 0x1100e211001011101003e0de) (.l 0x111311313113333)) (.n (.l 0x117f7611121122216f65311101e21115f14f0de14f00014f00014f02011220000de12f012f11003e0000de11f011f10f10f109e) (.l 0x100ff00ef0d0c0b0a09))) (.n (.n (.l 0x120005119e05005050518e) (.l 0x119e1111)) (.n (.l 0x11fe01af1af1af1af1af1) (.l 0x1060504)))) (.n (.n (.n (.l 0x10010) (.l 0x110f10f0de10f10f10f10f10f100e1c)) (.n (.l 0x111f010f00ff0ccccccc1cc010fcc0c0c0bbb0b0aaaaa11130ef04e1130ef04e1130ef04e103d03d3d3d9) (.l 0x1119e103e))) (.n (.n (.l 0x111211222) (.l 0x1c0c12f13f13f113f113f113f106e)) (.n (.l 0x1155500355555100e0de100011000) (.l 0x1048ec021bf100a00a0acbbcccccc30e18001ff0007060520f0760de60006000605015000731e00))))) (.n (.n (.n (.n (.l 0x11048e8128100600606d00ef0d0c700efd0ded000d000d0c00ef0d0c60c12fc0cccc100e0a507d7) (.l 0x1048e9021bf10070070798899999930e155150007)) (.n (.l 0x10ef1ce00ef0ef0ef0ef0ef11111f04e1111f04e1111f04e1010f010f10f10faaa016e3b03b3b) (.l 0x13de315f514ce14f4311101e21113f12f0de12f00012f00012f01003e01de010f110f109e))) (.n (.n (.l 0x10ef0ef0ef00ef00ef0ef) (.l 0x16661660a6606060555050444441111804e111804e111804e1017017171733307330303)) (.n (.l 0x177771111204e111204e111204e1011003e01) (.l 0x1a90de90009000908)))) (.n (.n (.n (.l 0x10b0a09080747e03021104e008e08e08e08e08e08e08e08e08e08e08e08e08e08e08e) (.l 0x1011019f018f017f10f019f18f0de18f00018f00018f17f0016f17f000200055010ff)) (.n (.l 0x10423e0de423e) (.l 0x11cf1bf15476110a915476108))) (.n (.n (.l 0x18080c0c0c0c0888101c01c01c1c1c0c00c00c0c0c8380ba800188866888830e213) (.l 0x1210f017fa17f0001ef017f01bf01af019f15f0110f110f16f17f19f0200135)) (.n (.l 0x141bf1113113331af614ce19f5311101e21ce02122201103e0de15e106e424e) (.l 0x10d9909090888080777712e)))))) (.n (.n (.n (.n (.n (.l 0x126e4441cf1113113331bfa14ce1af931112de02122201103e1de009ec1) (.l 0x147e503650de5000500050405040320f0540de400040004030333322333)) (.n (.l 0x140004e48e) (.l 0x101af019f018f))) (.n (.n (.l 0x122213f11f11f11f011f011f11f114f119e03e980811112f20e14f22e) (.l 0x1222dbbb0b0bb10ef)) (.n (.l 0x11ef1fe1bf1bf1bf1bf10) (.l 0x100c000c0bbbbb1110ef04e110ef04e110ef04e10d0ddd7770b70ae)))) (.n (.n (.n (.l 0x1040040418e) (.l 0x122f021f020f)) (.n (.l 0x1010e10003501000921f0a1017e) (.l 0x147611e10))) (.n (.n (.l 0x109080747e23e) (.l 0x1223220202101)) (.n (.l 0x10440021148e141135e) (.l 0x122e1111))))) (.n (.n (.n (.n (.l 0x104e0101011) (.l 0x1bb0de0ff0ff00ff0904411ee)) (.n (.l 0x1010e1021200351a10a0a117e) (.l 0x110003501000421f05105011f))) (.n (.n (.l 0x1ccc0c0cc10ff119e03e4303) (.l 0x100ce4400114441ae)) (.n (.l 0x1760de60006000605) (.l 0x1d0c5010efd0ded000d000d01003e0de15e106e424e)))) (.n (.n (.n (.l 0x18111b04e11b04e11b04e10a0aaa44408440404007e) (.l 0x1aac0aaaa111404e11404e11404e1030333111204e0)) (.n (.l 0x1174d2070dd77100e103033) (.l 0x125f024f023f20f025f24f0de24f00024f00024f0))) (.n (.n (.l 0x111110f04e1110f04e1110f04e100ff00ff0ff0ff) (.l 0x100ee00ef0d0c0ef0ded0d11003e0000de4de424e)) (.n (.l 0x1311101e) (.l 0x111f11f11f11f11f)))))))) (.n (.n (.n (.n (.n (.n (.n (.l 0x101ff01ef01df) (.l 0x140012222248e)) (.n (.l 0x1606060777070) (.l 0x103e21019090900c000efb))) (.n (.n (.l 0x1015f014f) (.l 0x151555005)) (.n (.l 0x1017f048e1af12d10018f0018f018f17f15f15f) (.l 0x111f90965e4be10f808111c20e0ef22e103e0ff)))) (.n (.n (.n (.l 0x110f010f010f10f) (.l 0x116f016f016f)) (.n (.l 0x133e0001821f028f027f13f011bf10112f1) (.l 0x14013ee4013ee040404040302200020de21))) (.n (.n (.l 0x101ff1ff1ff1ff) (.l 0x10022330de)) (.n (.l 0x1048e31226f100148e1) (.l 0x10ef40efaaa016e3b03b3b3b7770b70ae))))) (.n (.n (.n (.n (.l 0x14044410111440041110110111103e0de) (.l 0x148e045e03e)) (.n (.l 0x112f1be424e) (.l 0x112f012f12f))) (.n (.n (.l 0x10ef0ef00ef) (.l 0x1003e000)) (.n (.l 0x1200110148e) (.l 0x130322275550505518)))) (.n (.n (.n (.l 0x1015e106e124e) (.l 0x130303301068e)) (.n (.l 0x1029f028f027f026f26f26f26f26f10) (.l 0x12cf02bf02af029f29f29f29f29f100))) (.n (.n (.l 0x12ff02ef02df02cf2cf2cf2cf2cf100) (.l 0x132f031f030f02ff2ff2ff2ff2ff100)) (.n (.l 0x11af048e0ef120ef100c00c0c13f001) (.l 0x1028e1141144418f811131133342ec1)))))) (.n (.n (.n (.n (.n (.l 0x110110414141011110de11103141410) (.l 0x1430de30003000302)) (.n (.l 0x1010f00ff) (.l 0x1130303006008518550de904411ee))) (.n (.n (.l 0x111204e) (.l 0x116bf00)) (.n (.l 0x10ff00ff00ff) (.l 0x111f011f011f)))) (.n (.n (.n (.l 0x120201248e) (.l 0x123e0de30201)) (.n (.l 0x11af013f30303332fe020222111) (.l 0x199100e2222222222203e6de010))) (.n (.n (.l 0x119e055555185e4) (.l 0x101cf1cf1cf)) (.n (.l 0x110f10f010f) (.l 0x1040302))))) (.n (.n (.n (.n (.l 0x10d0c0b) (.l 0x175e0000de11f011f10f09ec1)) (.n (.l 0x1141144417f71113113333fe1) (.l 0x1015f015f))) (.n (.n (.l 0x1012f011f) (.l 0x12122220)) (.n (.l 0x14440404) (.l 0x1023f069e20f20f20f20f10)))) (.n (.n (.n (.l 0x119e19e400400491e00de22) (.l 0x118f18f18f18f)) (.n (.l 0x123f23f23f23f) (.l 0x112f12f12f12f))) (.n (.n (.l 0x115f15f15f15f) (.l 0x10a090)) (.n (.l 0x150123f03e) (.l 0x1050403))))))) (.n (.n (.n (.n (.n (.n (.l 0x1026f025f024f) (.l 0x147e030211)) (.n (.l 0x1110504e01004) (.l 0x16606066194be))) (.n (.n (.l 0x10ef0d0c099999991995fe) (.l 0x16cea4e033303020706051)) (.n (.l 0x11000) (.l 0x175e1de010f110f109ec1)))) (.n (.n (.n (.l 0x11013f12fb0efd10f0ffb) (.l 0x110f0de10f00010f00a2e)) (.n (.l 0x17698420ef019f18f10ff) (.l 0x180706033313307330303))) (.n (.n (.l 0x120211) (.l 0x11af01af01af)) (.n (.l 0x114f014f014f) (.l 0x10004e10))))) (.n (.n (.n (.n (.l 0x101cf01bf) (.l 0x11101195e)) (.n (.l 0x11225f100) (.l 0x117f017f017f17f17f1))) (.n (.n (.l 0x1016f84e013fbde8b0e) (.l 0x10747e23e0de747e23e)) (.n (.l 0x1112f093e12f110f45e) (.l 0x1039e144422f141e21f)))) (.n (.n (.n (.l 0x103ae144425f141e24f) (.l 0x103ce14442bf141e2af)) (.n (.l 0x154e111f119e03e6505) (.l 0x1200a23e703ee001111))) (.n (.n (.l 0x1daaa0a0aa1d119e83e) (.l 0x12220ffddd0d0dd110f)) (.n (.l 0x113f13f013f) (.l 0x189e16f16f1)))))) (.n (.n (.n (.n (.n (.l 0x1013f13f13f) (.l 0x157634e0c6e)) (.n (.l 0x10fe141135e) (.l 0x10201))) (.n (.n (.l 0x1b0e0ff0de4de124e) (.l 0x1a7e11f11f10ff45e)) (.n (.l 0x10efbb0de94e086ee) (.l 0x119e19e200200291e)))) (.n (.n (.n (.l 0x176984216f15f10ff) (.l 0x11011f10f9cb0efd9)) (.n (.l 0x10b0a6ce0deb0a6ce) (.l 0x13ccea111b6fe2101))) (.n (.n (.l 0x143e043e50c410131) (.l 0x1188866888830e213)) (.n (.l 0x188080881b4bed505) (.l 0x111103e))))) (.n (.n (.n (.n (.l 0x132ec111) (.l 0x10b990de)) (.n (.l 0x119f19f19f19f19f) (.l 0x105330de))) (.n (.n (.l 0x116f16f17f16f89e) (.l 0x10ef0ef0ef0ef0ef)) (.n (.l 0x116f16f16f16f16f) (.l 0x166666100e)))) (.n (.n (.n (.l 0x11110ef20e10f22e) (.l 0x1b97e119e113e35e)) (.n (.l 0x11010104e1) (.l 0x10))) (.n (.n (.l 0x10) (.l 0x10)) (.n (.l 0x10) (.l 0x10)))))))))
noncomputable def hLk(t:HT):Nat->Nat->Nat:=HT.rec (motive:=fun y=>Nat->Nat->Nat) (fun x y y=>x) (fun y y a b k i=>match dE k i with
 |true=>b (k/2) (i-k)
 |false=>a (k/2) i) t
def hSt(f:Nat->Hs->Hs)(n:Nat)(r:Hs):Hs:=match dE n 1 with
 |true=>r
 |false=>match dE 14 (n % 16) with
  |false=> .d (n % 16) (f (n/16) r)
  |true=>match cK (n % 16) 14 with
   |true=>f (hLk hTt 128 (n/16 % 256)) (f (n/4096) r)
   |false=> .d (n/16 % 256) (f (n/4096) r)
def Z4(n:Nat)(r:Hs):Hs:=Nat.rec (motive:=fun y=>Nat->Hs->Hs) (fun y r=>r) (fun y a n r=>hSt a n r) 5000 n r
def J1:=Z4 0x11
def Y9:=Z4 0x10
def Z4m:=Z4 0x110d4fe
def Z5l:=Z4 0x110a51e1cf0808083afe60a1e022222222000
def Z5m:=Z4 0x11048e302210101c6eb1ccc9a00999abe
def Z5n:=Z4 0x1ece11
def Z5o:=Z4 0x1ece
def Zde:=Z4 0x1c6e03eca11a911999888888100e00131100130022110022221
def Zdf:=Z4 0x1186e0d1e17fb018f018f018f17f
def Zuf:=Z4 0x1109ee11
def Zmn:=Z4 0x11048e31211f10159e03e
def Zmo:=Z4 0x108ae11
def Z9c:=Z4 0x1186e
def Zmp:=Z4 0x11009ee11
def Zmq:=Z4 0x110de1031211f10159e11
def Zmr:=Z4 0x108ae
def Zbo:=Z4 0x100
def Zfe:=Z4 0x1000de
def Zff:=Z4 0x110a51e31e00
def Zfg:=Z4 0x1d5ecfe
def Zfh:=Z4 0x1eaecfe
noncomputable def Zf(l:Nat):Nat:=nE 900 (kK 70 l)
noncomputable def Ze(l:Nat):Nat:=nE 8500 (kK 500 l)
def rn(l:Nat)(w:World)(g:G)(c:Code)(P:List Sl)(N T:Nat)(h:Option Value)(hs:Hs)(K:K Result):Z8:=
 (Ql (vW w) g 100000).cd c ⟨Zf l,Ze l,h,none⟩ ⟨aO N 8,0,T,0,P⟩ hs K
def rnx(l:Nat)(w:World)(g:G)(c:Code)(P:List Sl)(N T:Nat)(h:Option Value)(out:List Env)(hs:Hs)(K:K Result):Z8:=
 (Ql (vW w) g 100000).cd c ⟨Zf l,Ze l,h,frB true out⟩ ⟨aO N 8,0,T,0,P⟩ hs K
theorem Zx {r:Z8}{p:Prop}(h:(r.l,r.p)=(r.r,p))(a:p):Z5 r:=by
 injection h with h1 h2
 exact⟨h1,h2▸a⟩
def Z8.fam(f:Nat->Z8):Nat->Z8
 |0=> .fin True
 |n+1=>⟨.two (f n).l (Z8.fam f n).l, .two (f n).r (Z8.fam f n).r, .both (f n).t (Z8.fam f n).t⟩
noncomputable def Zms(P:Nat->Prop):Nat->Prop
 |0=>True
 |n+1=>P n/\Zms P n
theorem J0o {P:Nat->Prop}:∀{n:Nat},(∀k,k<n->P k)->Zms P n:=by
 intro a
 induction a with
 |zero=>
  intro _;exact trivial
 |succ n ih=>
  intro h;exact⟨h n (pW n),ih fun k j=>h k (eF j)⟩
theorem Z4n {f:Nat->Z8}:∀{n:Nat},Z5 (Z8.fam f n)->∀k,k<n->Z5 (f k):=by
 intro y
 induction y with
 |zero=>
  intro _ _ j;exact absurd j (fY _)
 |succ n ih=>
  rintro⟨I,m⟩ k j;injection I with a b
  rcases gV.mp j with q|rfl
  ·exact ih ⟨b,m.2⟩ k q
  ·exact⟨a,m.1⟩
theorem J6 {f:Nat->Z8}{P:Nat->Prop}{n:Nat}(h:((Z8.fam f n).l,(Z8.fam f n).p)=((Z8.fam f n).r,Zms P n))(a:∀k,k<n->P k)(k:Nat)(j:k<n):Z5 (f k):=
 Z4n (Zx h (J0o a)) k j
noncomputable def Zal(C:Nat->Prop)(f:Nat->Option Prop):Nat->Prop
 |0=>True
 |n+1=>match f n with
  |some p=>(C n->p)/\Zal C f n
  |none=>¬C n/\Zal C f n
theorem Zdg {C:Nat->Prop}{f:Nat->Option Prop}:∀{n:Nat},(∀k,k<n->match f k with|some p=>C k->p|none=>¬C k)->Zal C f n:=by
 intro a
 induction a with
 |zero=>
  intro _;exact trivial
 |succ n ih=>
  intro h;have q:=h n (pW n);have r:=ih fun k j=>h k (eF j);unfold Zal
  split at q
  ·exact⟨q,r⟩
  ·exact⟨q,r⟩
def Zmt (Γ:List Prop)(j:Nat):Prop:=match j with
 |0=>True
 |j+1=>match Z5i Γ j with|some p=>p|none=>True
def J5r(hs:Hs)(f:Nat->Hs->D×D):D×D:=Hs.rec (.nil, .two .nil .nil) (fun n r y=>f n r) (fun y y y y=>(.nil, .two .nil .nil)) hs
def T.chk(t:T):List Prop->Hs->(Hs->D×D)->D×D:=
 T.rec (motive:=fun y=>List Prop->Hs->(Hs->D×D)->D×D)
  (fun p Γ hs k=>J5r hs fun j hs=>(.ob (.pr p) (k hs).1, .ob (.pr (Zmt Γ j)) (k hs).2))
  (fun c y i Γ hs k=>J5r hs fun j hs=>(.ob (.pr c) (i Γ hs k).1, .ob (.pr (Zmt Γ j)) (i Γ hs k).2))
  (fun y i Γ hs k=>(.all fun U=>(i U Γ hs k).1, .all fun U=>(i U Γ hs k).2))
  (fun C y i Γ hs k=>(.all fun U=>(i U (Γ++[C U]) hs k).1, .all fun U=>(i U (Γ++[C U]) hs k).2))
  (fun c y y i j Γ hs k=>i (Γ++[c]) hs fun hs=>j (Γ++[¬c]) hs k)
  (fun c y y i j Γ hs k=>i (Γ++[c]) hs fun hs=>j Γ hs k)
  (fun y y i j Γ hs k=>i Γ hs fun hs=>j Γ hs k) t
def Zdh (Γ:List Prop):Prop:=∀p∈Γ,p
set_option tactic.hygienic true in theorem Zdh.nth {Γ:List Prop}(h:Zdh Γ):∀j,Zmt Γ j
 |0=>trivial
 |j+1=>by
  unfold Zmt;simp only
  split
  ·rename_i p e;exact h p (Z4j e)
  ·trivial
theorem Zdh.add {Γ:List Prop}(h:Zdh Γ){p:Prop}(j:p):Zdh (Γ++[p]):=fun q a=>(aG.mp a).elim (h q) fun m=>aM.mp m▸j
theorem f0:Zdh []:=fun y h=>nomatch h
section
open PySem.W.ZRun
def Z7m:Program:={PySem.Challenge.pw_wb0105_01 with main:={PySem.Challenge.pw_wb0105_01.main with body:=[0,2,3,4,6,8,9,10,11,12,13,14,21,22,23,25,26,27,28,29,30,31].map Y2}}
noncomputable def Zcq:List Str:=["tspecials","_name_disallowed_re","_value_disallowed_re","_formatparam","insort_right","bisect_right","insort_left","bisect_left"].map aB
noncomputable def Zqn:List Addr:=[195,202,297,307]++([199,206,299,309]++[0,1,2,3,4,5,10,35,36,40,41,45,46,62,68,69,75,76,82,83,89,90,94,95,101,102,108,109,113,114,115,121,122,126,127,131,132,138,139,164,165,171,172,174,175,176,177,185,186,192,193,199,200,206,207,213,214,220,221,222,223,229,230,231,232,238,239,240,241,247,248,249,250,256,257,263,264,270,271,277,278,282,283,289,290,294,295,299,300,304,305,309,310])
theorem J35(w:World):(pX treeTable PySem.Challenge.rw_wb0105_01.row.prog w 3488).map (openSeen Z7m Zcq (importedModules PySem.Challenge.rw_wb0105_01.row.prog.main.body) (fun s=>xlAt Z7m [] s&&recOk (rB PySem.Challenge.rw_wb0105_01.row.toRowW) s) true)=some (openGood Z7m Zcq):=by
 unfold pX fencedOpening topFrom;simp only[PySem.W.Fast.te10274390034422433532,PySem.W.Fast.te14082659384304107361,PySem.W.Fast.te14364793385576792824,PySem.W.Fast.te4187177175401517315]
 kernel_rfl
theorem Jbj(w:World):(pX treeTable PySem.Challenge.rw_wb0105_01.row.prog w 3488).map (obsZ Zqn)=some (valZ Z9b 311 765 w):=by
 unfold pX fencedOpening topFrom;simp only[PySem.W.Fast.te10274390034422433532,PySem.W.Fast.te14082659384304107361,PySem.W.Fast.te14364793385576792824,PySem.W.Fast.te4187177175401517315]
 kernel_rfl
theorem both {α β γ:Type}{o:Option α}{f:α->β}{g:α->γ}{x:β}{y:γ}(h:o.map f=some x)(k:o.map g=some y):o.map (fun s=>(f s,g s))=some (x,y):=by
 cases o with
 |none=>cases h
 |some a=>exact congrArg some (Prod.ext (cW h) (cW k))
theorem J36:LeftO PySem.Challenge.rw_wb0105_01.row.prog Z7m Zcq (fun s=>xlAt Z7m [] s&&recOk (rB PySem.Challenge.rw_wb0105_01.row.toRowW) s) (obsZ Zqn) (valZ Z9b 311 765) 3488:=fun w=>both (J35 w) (Jbj w)
theorem Jep:PySem.Challenge.rw_wb0105_01.wellSaid=true:=by
 rw[PySem.W.Fast.te9446332074065402090]
 kernel_rfl
end
def Z9:List Str:=[st "KeyError",st "OSError",st "Error",st "Exit",st "E",st "Lock",st "KEYERROR",st "OSERROR",st "ERROR",st "EXIT",st "LOCK",st "keyerror",st "oserror",st "error",st "exit",st "e",st "lock",st "Z",st "z"]
def Z56:List Str:=[st "1",st "0",st "2",st "3",st "4",st "5",st "6",st "7",st "8",st "9",st "10",st "11",st "12",st "Error\t"]
noncomputable def Zug(n:Bool):Nat:=match n with|true=>41|false=>46
def J2(n:Bool):List Str:=match n with|true=>Z9|false=>Z56
abbrev Zdi:=I3 Bool Str Nat
def Z1h:Zi Zdi where
 code i:= .call (.builtin "re.Pattern.search") ⟨[.ref (Zug i.1), .str i.2 i.3],[]⟩
 P _:=[]
 cond i:=some (i.2∈J2 i.1)
 F _ _ _:=(.ok (.ret .none),[])
 k:=0
 ext c _:=match c with
  | .call _ ⟨[.ref a, .str s t],[]⟩=>some ⟨cK a 41,s,t⟩
  |_=>none
 d:=Zf 0
 u:=Ze 0
theorem Z3k {α:Type}{l:List α}{x:α}(h:x∈l)(d:α):∃k,k<l.length/\l.getD k d=x:=by
 refine Z7 fun j=> ?_;obtain⟨k,a,e⟩:=lH h;refine j ?_;exact⟨k,a,by simp only[aI,aS a,e];rfl⟩
theorem Z4o {α:Type}(d:α){l:List α}{n:Nat}(h:l.length=n):∃v:Nat->α,l=(aJ n).map v:=⟨fun j=>l.getD j d,by
 subst h;refine mD (by simp only[aE,dK]) fun i a m=> ?_;rw[mE,lN,aI,aS a];rfl⟩
theorem Z1i {α:Type}(d:α){P:List α->Prop}{m:Nat}(h:∀(v:Nat->α) k,k<m+1->P ((aJ k).map v))(l:List α)(a:l.length<=m):P l:=by
 obtain⟨v,e⟩:=Z4o d (rfl:l.length=l.length);rw[e];exact h v _ (fG a)
theorem Z5p {f:Nat->Z8}{n:Nat}(h:((Z8.fam f n).l,(Z8.fam f n).p)=((Z8.fam f n).r,Zms (fun y=>True) n))(k:Nat)(a:k<n):Z5 (f k):=J6 h (fun y y=>trivial) k a
theorem Qg {v:V}{g:G}(GO:J5 v g){z:Bool}{d u n k:Nat}{c:Code}{P:List Sl}{F:Ph->Result×List Sl}{hs:Hs}
  (h:∀(N T:Nat) (hh:Option Value) (out:List Env),(z=true->hh=none)->Z5 ((Ql v g n).cd c ⟨d,u,hh,frB true out⟩ ⟨aO N 8,0,T,0,P⟩ hs (done k F))):J7 v z true d u c P F:=by
 intro A s hh out fr q m a;haveI j:=h (s.heap.objs.size-8) s.toks hh out q;rw[show aO (s.heap.objs.size-8) 8=s.heap.objs.size from bG a.rep.big] at j;refine cC ((Z13 GO n).cd _ c _ _ hs _ A s j a m) fun r s' h=> ?_;haveI lg:=fC (h);haveI hs:=fC (bF (h));haveI y:=(bF (bF (h))).1;haveI a:=(bF (bF (h))).2;exact⟨0,aX,trivial,Zaj y a⟩
noncomputable def W1(r:Z8):D×Prop:=(r.l,r.p)
noncomputable def X1(r:Z8)(p:Prop):D×Prop:=(r.r,p)
def W2(f:Bool->Z8):(D×Prop)×(D×Prop):=(W1 (f false),W1 (f true))
def X2(f:Bool->Z8)(p:Prop):(D×Prop)×(D×Prop):=(X1 (f false) p,X1 (f true) p)
def W4(f:Bool->Bool->Z8):((D×Prop)×(D×Prop))×((D×Prop)×(D×Prop)):=(W2 (f false),W2 (f true))
def X4(f:Bool->Bool->Z8)(p:Prop):((D×Prop)×(D×Prop))×((D×Prop)×(D×Prop)):=(X2 (f false) p,X2 (f true) p)
theorem g2 {f:Bool->Z8}{p:Prop}(h:W2 f=X2 f p)(a:p)(b:Bool):Z5 (f b):=by
 injection h with h1 h2
 cases b
 ·exact Zx h1 a
 ·exact Zx h2 a
theorem g4 {f:Bool->Bool->Z8}{p:Prop}(h:W4 f=X4 f p)(a:p)(b c:Bool):Z5 (f b c):=by
 injection h with h1 h2
 cases b
 ·exact g2 h1 a c
 ·exact g2 h2 a c
def rnK(v:V)(g:G)(d u:Nat)(c:Code)(P:List Sl)(hs:Hs)(K:K Result)(N T:Nat):Z8:=(Ql v g 100000).cd c ⟨d,u,none,none⟩ ⟨aO N 8,0,T,0,P⟩ hs K
def rnX(v:V)(g:G)(d u:Nat)(c:Code)(P:List Sl)(hs:Hs)(K:K Result)(N T:Nat)(out:List Env):Z8:=(Ql v g 100000).cd c ⟨d,u,none,frB true out⟩ ⟨aO N 8,0,T,0,P⟩ hs K
section
variable {w:World}{b c:Bool}{g:G}{d u na:Nat}{co:Code}{P:List Sl}{C:Nat->Prop}{D:Nat->Ph->Prop}{F:Nat->Ph->Result×List Sl}{E:Ph->Result×List Sl}{p:Prop}
theorem zD {w:World}(GO:J5 (vW w) g)(k:Nat->Nat)(hs:Hs)(h:∀N T,W1 (rnK (vW w) g d u co P hs (Jj na k C D F) N T)=X1 (rnK (vW w) g d u co P hs (Jj na k C D F) N T) p)(a:p):
  Yu (vW w) true false d u co P na C D F:=Z2j GO fun N T=>Zx (h N T) a
theorem zD2(GO:J5 (vW (w2 w b c)) g)(k:Nat->Nat)(hs:Hs)(h:∀N T,W2 (fun b=>rnK (vW (w2 w b c)) g d u co P hs (Jj na k C D F) N T)=X2 (fun b=>rnK (vW (w2 w b c)) g d u co P hs (Jj na k C D F) N T) p)(a:p):
  Yu (vW (w2 w b c)) true false d u co P na C D F:=Z2j GO fun N T=>g2 (h N T) a b
theorem zD4(GO:J5 (vW (w2 w b c)) g)(k:Nat->Nat)(hs:Hs)(h:∀N T,W4 (fun b c=>rnK (vW (w2 w b c)) g d u co P hs (Jj na k C D F) N T)=X4 (fun b c=>rnK (vW (w2 w b c)) g d u co P hs (Jj na k C D F) N T) p)(a:p):
  Yu (vW (w2 w b c)) true false d u co P na C D F:=Z2j GO fun N T=>g4 (h N T) a b c
theorem zA4(GO:J5 (vW (w2 w b c)) g)(k:Nat->Nat)(hs:Hs)(h:∀N T,W4 (fun b c=>rnK (vW (w2 w b c)) g d u co P hs (Z2i na k C F) N T)=X4 (fun b c=>rnK (vW (w2 w b c)) g d u co P hs (Z2i na k C F) N T) p)(a:p):
  Qi (vW (w2 w b c)) true false d u co P na C F:=Z3f GO fun N T=>g4 (h N T) a b c
theorem zN2(GO:J5 (vW (w2 w b c)) g)(k:Nat)(hs:Hs)(h:∀N T,W2 (fun b=>rnK (vW (w2 w b c)) g d u co P hs (done k E) N T)=X2 (fun b=>rnK (vW (w2 w b c)) g d u co P hs (done k E) N T) p)(a:p):
  J7 (vW (w2 w b c)) true false d u co P E:=Z85 GO fun N T=>g2 (h N T) a b
theorem zN4(GO:J5 (vW (w2 w b c)) g)(k:Nat)(hs:Hs)(h:∀N T,W4 (fun b c=>rnK (vW (w2 w b c)) g d u co P hs (done k E) N T)=X4 (fun b c=>rnK (vW (w2 w b c)) g d u co P hs (done k E) N T) p)(a:p):
  J7 (vW (w2 w b c)) true false d u co P E:=Z85 GO fun N T=>g4 (h N T) a b c
theorem Z5q {p:Nat->Nat->Prop}(GO:J5 (vW (w2 w b c)) g)(k:Nat->Nat)(hs:Hs)(h:∀N T,W4 (fun b c=>rnK (vW (w2 w b c)) g d u co P hs (Jj na k C D F) N T)=X4 (fun b c=>rnK (vW (w2 w b c)) g d u co P hs (Jj na k C D F) N T) (p N T))(a:∀N T,p N T):
  Yu (vW (w2 w b c)) true false d u co P na C D F:=Z2j GO fun N T=>g4 (h N T) (a N T) b c
theorem Jez {p:Nat->Nat->Prop}(GO:J5 (vW (w2 w b c)) g)(k:Nat->Nat)(hs:Hs)(h:∀N T,W2 (fun b=>rnK (vW (w2 w b c)) g d u co P hs (Z2i na k C F) N T)=X2 (fun b=>rnK (vW (w2 w b c)) g d u co P hs (Z2i na k C F) N T) (p N T))(a:∀N T,p N T):
  Qi (vW (w2 w b c)) true false d u co P na C F:=Z3f GO fun N T=>g2 (h N T) (a N T) b
theorem zX {w:World}(GO:J5 (vW w) g)(k:Nat)(hs:Hs)(h:∀N T out,W1 (rnX (vW w) g d u co P hs (done k E) N T out)=X1 (rnX (vW w) g d u co P hs (done k E) N T out) p)(a:p):
  J7 (vW w) true true d u co P E:=Qg GO fun N T y out j=>by rw[j rfl];exact Zx (h N T out) a
end
theorem Zuh(w:World)(n:Bool)(s:Str)(a:s∈J2 n)(t N T:Nat)(h:Option Value):
  Z5 (rn 0 w ⟨[],[]⟩ (.call (.builtin "re.Pattern.search") ⟨[.ref (Zug n), .str s t],[]⟩) [] N T h (Z4 0x100de .nil) (done 0 fun y=>(.ok (.ret .none),[]))):=by
 cases n
 all_goals
  obtain⟨k,j,rfl⟩:=Z3k a (st "0");clear a
  revert k
  exact J6 (P:=fun y=>True) (by kernel_rfl) (fun y y=>trivial)
theorem Ym {v:V}:J5 v ⟨[],[]⟩:=⟨fun y a=>absurd a aD,fun y a=>absurd a aD⟩
theorem gC {v:V}{f:Ctr}{l:List Ctr}{m:List Cmp}(h:Za v f)(r:J5 v ⟨l,m⟩):J5 v ⟨f::l,m⟩:=⟨List.forall_mem_cons.mpr ⟨h,r.ctr⟩,r.cmp⟩
theorem gA {v:V}{k l:List Ctr}{m:List Cmp}(h:∀f∈k,Za v f)(r:J5 v ⟨l,m⟩):J5 v ⟨k++l,m⟩:=⟨fun f a=>(aG.mp a).elim (h f) (r.ctr f),r.cmp⟩
theorem gN {v:V}{m:List Cmp}(h:∀f∈m,Z1t v f):J5 v ⟨[],m⟩:=⟨fun y a=>absurd a aD,h⟩
theorem Z86(w:World):Za (vW w) Z1h.ctr:=by
 refine Z1h.ok (fun i a=> ?_);exact Jk Ym fun N T hh y=>Zuh w i.1 i.2 (a _ rfl) i.3 N T hh
noncomputable def Jf0(n:Nat):Nat:=match dE 65 n with|true=>(match dE n 90 with|true=>aO n 32|false=>n)|false=>n
noncomputable def Jf1(n:Nat):Nat:=match dE 97 n with|true=>(match dE n 122 with|true=>nE n 32|false=>n)|false=>n
noncomputable def Z0(s:Str):Str:=⟨⟨s.cps.toList.map Jf0⟩⟩
def J9(s:Str):Str:=⟨⟨s.cps.toList.map Jf1⟩⟩
def Zh:List Str:=[st "KeyError\x7f",st "OSError\x1f",st "Error\t",st "Exit\r",st "E\x0b",st "Lock\x01"]
abbrev Zdj:=I2 Str Nat
def Z14:Zi Zdj where
 code i:= .call (.builtin "str.lower") ⟨[.str i.1 i.2],[]⟩
 P _:=[]
 cond i:=some (i.1∈Z9++Zh)
 F i _ U:=(.ok (.ret (.str (Z0 i.1) (Z6 U.rv))),[])
 k:=0
 ext c _:=match c with
  | .call _ ⟨[.str s t],[]⟩=>some ⟨s,t⟩
  |_=>none
 d:=Zf 0
 u:=Ze 0
def Z3l:Zi Zdj where
 code i:= .call (.builtin "str.upper") ⟨[.str i.1 i.2],[]⟩
 P _:=[]
 cond i:=some (i.1∈Z9)
 F i _ U:=(.ok (.ret (.str (J9 i.1) (Z6 U.rv))),[])
 k:=0
 ext c _:=match c with
  | .call _ ⟨[.str s t],[]⟩=>some ⟨s,t⟩
  |_=>none
 d:=Zf 0
 u:=Ze 0
theorem J0p(w:World)(s:Str)(a:s∈Z9++Zh)(t N T:Nat)(h:Option Value):
  Z5 (rn 0 w ⟨[],[]⟩ (.call (.builtin "str.lower") ⟨[.str s t],[]⟩) [] N T h (Zbo .nil) (done 0 fun U=>(.ok (.ret (.str (Z0 s) (Z6 U.rv))),[]))):=by
 obtain⟨k,j,rfl⟩:=Z3k a (st "0");clear a
 revert k
 exact J6 (P:=fun y=>True) (by kernel_rfl) (fun y y=>trivial)
theorem J0q(w:World)(s:Str)(a:s∈Z9)(t N T:Nat)(h:Option Value):
  Z5 (rn 0 w ⟨[],[]⟩ (.call (.builtin "str.upper") ⟨[.str s t],[]⟩) [] N T h (Zbo .nil) (done 0 fun U=>(.ok (.ret (.str (J9 s) (Z6 U.rv))),[]))):=by
 obtain⟨k,j,rfl⟩:=Z3k a (st "0");clear a
 revert k
 exact J6 (P:=fun y=>True) (by kernel_rfl) (fun y y=>trivial)
theorem Z34(w:World):Za (vW w) Z14.ctr:=
 Z14.ok (fun i a=>Jk Ym fun N T hh y=>J0p w i.1 (a _ rfl) i.2 N T hh)
theorem Z6y(w:World):Za (vW w) Z3l.ctr:=
 Z3l.ok (fun i a=>Jk Ym fun N T hh y=>J0q w i.1 (a _ rfl) i.2 N T hh)
theorem Zbp {v:V}{f:Ctr}{l:List Ctr}{m:List Cmp}(h:Za v f)(r:J5 v ⟨l,m⟩):J5 v ⟨l++[f],m⟩:=
 ⟨fun x a=>(aG.mp a).elim (r.ctr x) fun q=>by simp only[aM.mp q];exact h,r.cmp⟩
def G3:G:=⟨[Z1h.ctr,Z14.ctr,Z3l.ctr],[]⟩
theorem gk3(w:World):J5 (vW w) G3:=Zbp (l:=[Z1h.ctr,Z14.ctr]) (Z6y w) (Zbp (l:=[Z1h.ctr]) (Z34 w) (Zbp (l:=[]) (Z86 w) Ym))
abbrev Zmu:=I4 Nat Bool Str Nat
noncomputable def Zyj(i:Zmu):Code:= .call (.ref 76) ⟨[.ref i.1, .str i.3 i.4],[(aB "name", .bool i.2)]⟩
noncomputable def Zbq:Zi Zmu where
 code:=Zyj
 P _:=[]
 cond i:=some (i.3∈J2 i.2)
 F i _ _:=(.ok (.ret (.str i.3 i.4)),[])
 k:=0
 ext c _:=match c with
  | .call _ ⟨[.ref a, .str s t],[(_, .bool n)]⟩=>some ⟨a,n,s,t⟩
  |_=>none
 d:=Zf 1
 u:=Ze 1
def Jbq:Hs:=Z4 0x1101100de1110100de10095e .nil
theorem J5s(w:World)(i:Zmu)(j:i.3∈J2 i.2)(N T:Nat)(h:Option Value):
  Z5 (rn 1 w G3 (Zyj i) [] N T h Jbq (done 0 fun y=>(.ok (.ret (.str i.3 i.4)),[]))):=by
 obtain⟨a,n,s,t⟩:=i;cases n
 ·exact Zx (p:=s∈J2 false/\∀_:Ph,True) (by kernel_rfl) ⟨j,fun y=>trivial⟩
 ·exact Zx (p:=s∈J2 true/\∀_:Ph,True) (by kernel_rfl) ⟨j,fun y=>trivial⟩
theorem Zdk(w:World):Za (vW w) Zbq.ctr:=
 Zbq.ok (fun i a=>Jk (gk3 w) fun N T hh y=>J5s w i (a _ rfl) N T hh)
def G4:G:=⟨[Z1h.ctr,Z14.ctr,Z3l.ctr,Zbq.ctr],[]⟩
theorem gk4(w:World):J5 (vW w) G4:=Zbp (l:=[Z1h.ctr,Z14.ctr,Z3l.ctr]) (Zdk w) (gk3 w)
noncomputable def He.ref(e:He):Value:= .ref e.a
noncomputable def Is.ref(e:Is):Value:= .ref e.a
noncomputable def Si.ref(e:Si):Value:= .ref e.a
noncomputable def lst(L:List Value)(n:Nat):Obj:=⟨.type "list",none, .seq ⟨L⟩ n,⟨[]⟩⟩
structure Hd where
 a:Nat
 d:Nat
 l:Nat
 tk:Nat
 n:Nat
 hk:Int
def hdL(h:Hd)(L:List He):Sl:=⟨h.l,lst (L.map He.ref) h.n, .hs L⟩
def Yc(_P:Params)(h:Hd)(L:List He):List Sl:=
 [⟨h.a,⟨.ref 175,some h.d, .plain,⟨[]⟩⟩, .no⟩,⟨h.d,⟨.type "dict",none, .dict ⟨[⟨h.hk, .str (st "_headers") h.tk, .ref h.l⟩]⟩ 1,⟨[]⟩⟩, .no⟩,hdL h L]
section
open Classical in
noncomputable def Zb(L:List He)(n:Str):Option He:=L.find? fun e=>decide (Z0 e.k=n)
abbrev HdI:=I2 Hd (List He)
abbrev Zmv:=I4 Hd (List He) Str Nat
noncomputable def J5t(i:Zmv):Code:= .call (.ref 122) ⟨[.ref i.1.a, .str i.3 i.4],[]⟩
def Zmw(P:Params)(h:Hd)(L:List He)(e:Option He):Result×List Sl:=(.ok (.ret (match e with|some e=> .str e.v e.vt|none=> .none)),Yc P h L)
noncomputable def Zmx(L:List He)(j:Nat):Option He:=match j with|0=>none|j+1=>L[j]?
def Z1p(S:List Sl):Option (Hd×List He):=match S with
 |[a,d,l]=>(match l.g with
  | .hs L=>(match d.o.data with
   | .dict es _=>(match es.toList with
    |[e]=>some (⟨a.a,d.a,l.a,Z6 e.key,Z3 l.o,e.hash⟩,L)
    |_=>none)
   |_=>none)
  |_=>none)
 |_=>none
noncomputable def Zmy(g c f:Nat->Prop)(z:Prop):Nat->Nat->Prop
 |0,_=>z
 |r+1,j=>g j/\∀_:Ph,(c j->f j)/\(¬c j->Zmy g c f z r (j+1))
theorem Zqz(e:He)(l:List He)(n:Str):Zb (e::l) n=if Z0 e.k=n then some e else Zb l n:=by
 unfold Zb
 by_cases q:Z0 e.k=n
 ·rw[if_pos q];exact iA (decide_eq_true q)
 ·rw[if_neg q];exact fP (by rw[decide_eq_false q];exact jH)
theorem Zkj {v:Nat->He}{s:Str}{a:Option He}{g f:Nat->Prop}{z:Prop}(X:a=none->z):∀(r j:Nat),(∀i,i<r->g (j+i))->(∀i,i<r->a=some (v (j+i))->f (j+i))->a=Zb ((dU j r).map v) s->Zmy g (fun j=>Z0 (v j).k=s) f z r j:=by
 intro I
 induction I with
 |zero=>
  intro _ _ _ e;exact X e
 |succ r ih=>
  intro j J W e;rw[List.range'_succ,aP,Zqz] at e;refine⟨J 0 (eO r),fun y=>⟨fun q=>W 0 (eO r) (by rw[if_pos q] at e;exact e),fun q=>ih (j+1) (fun i m=> ?_) (fun i m=> ?_) (by rw[if_neg q] at e;exact e)⟩⟩
  ·rw[gW,jE 1 i];exact J (i+1) (kB m)
  ·rw[gW,jE 1 i];exact W (i+1) (kB m)
noncomputable def Zui(b i:Nat):List Nat:=[b,i,b,i,b,i,0,b,i,0,1,1]++[0,1,0,1,1,b+1,i,1,1,1]++[0,1,0,1,1,b+1,i,1,1,1]++[0,1,0,1,1,b+1,i,1,1,1]++[b,b,b,b,b]
def Jf2(b i:Nat):List Nat:=Zui b i++[1,2,b,2]
noncomputable def Zyk(t:Nat->Nat):Nat->Nat->Hs
 |0,j=>hh [1,0,3*j+4,0,3*j+4,0,3*j+5,0,3*j+6,0] .nil
 |r+1,j=>hh (match j with|0=>[]|_=>[3*j+1]) (hh (Jf2 (3*j+5) (j+1)) (.two (hh [3*j+5,t (j+1),3*j+5,0,3*j+6,0,3*j+7,0] .nil) (hh [0,3*j+4,0,3*j+4,0,3*j+4,3*j+4,3*j+8,0,3*j+4,3*j+4] (Zyk t r (j+1)))))
def J5u(t:Nat->Nat)(n:Nat):Hs:=Z4 0x11c2e00404302200020de2111402113ee003e0de (match n with|0=>Z4 0x147e040 .nil|n+1=>Zyk t (n+1) 0)
end
noncomputable def Zs:He:=⟨0,⟨⟨[]⟩⟩,0,⟨⟨[]⟩⟩,0⟩
def Jp(L:List He):Prop:=(∀e∈L,e.k∈Z9++Zh)/\L.length<=4
def Zmz(P:Params):Zi Zmv where
 code:=J5t
 P i:=Yc P i.1 i.2
 cond i:=some (i.3∈Z9++Zh/\Z0 i.3∈Z9/\Jp i.2)
 na:=2
 C i a:=match a with|0=>Zb i.2 (Z0 i.3)=none|_=>Zb i.2 (Z0 i.3)≠none
 F i a _:=match a with|0=>Zmw P i.1 i.2 none|_=>Zmw P i.1 i.2 (some ((Zb i.2 (Z0 i.3)).getD Zs))
 k:=3
 ext c S:=match c with
  | .call _ ⟨[.ref _, .str s t],[]⟩=>(match Z1p S with
   |some (h,L)=>some ⟨h,L,s,t⟩
   |none=>none)
  |_=>none
 d:=Zf 2
 u:=Ze 2
 z:=true
theorem Zam {f:Nat->Z8}{P:Nat->Prop}{n:Nat}(h:(aJ n).map (fun k=>((f k).l,(f k).p))=(aJ n).map fun k=>((f k).r,P k))(k:Nat)(j:k<n)(a:P k):Z5 (f k):=by
 haveI e:=congrArg (fun l=>l[k]?) h;simp only[bE,bE,eM j] at e;exact Zx (cW e) a
variable(w:World)(b c:Bool)
theorem J5v(h:Hd)(L:List He)(s:Str)(t:Nat)(W:s∈Z9++Zh)(X:Z0 s∈Z9)(Y:Jp L):
  Qi (vW (w2 w b c)) true false (Zf 2) (Ze 2) (J5t ⟨h,L,s,t⟩) (Yc w.params h L) (L.length+1) (fun j=>Zb L (Z0 s)=Zmx L j) (fun j y=>Zmw w.params h L (Zmx L j)):=by
 obtain⟨g,I⟩:=Y
 revert L
 intro L g I;obtain⟨v,e⟩:=Z4o Zs (rfl:L.length=L.length);have J:∀i,i<L.length->(v i).k∈Z9++Zh:=fun i m=>g _ (by rw[e];exact aL (eV.mpr m));rw[e]
 generalize L.length=k at I J
 clear e g;refine Z3f (gk4 _) (n:=100000) (k:=fun y=>3) (hs:=J5u id k) fun N T=> ?_;have Z:k<5:=fG I;clear I;have q:s∈Z9++Zh/\∀_:Ph,Z0 s∈J2 true/\∀_:Ph,Zmy (fun i=>(v i).k∈Z9++Zh) (fun i=>Z0 (v i).k=Z0 s) (fun i=>Zb ((aJ k).map v) (Z0 s)=Zmx ((aJ k).map v) (i+1)/\True) (Zb ((aJ k).map v) (Z0 s)=Zmx ((aJ k).map v) 0/\True) k 0:=
  ⟨W,fun y=>⟨X,fun y=>Zkj (a:=Zb ((aJ k).map v) (Z0 s)) (fun h=>⟨h,trivial⟩) k 0 (fun i m=>by rw[dH];exact J i m) (fun i m h=>⟨h.trans (by rw[dH];show _=((aJ k).map v)[i]?;rw[bE,eM m];rfl),trivial⟩) (by rw[<-kU])⟩⟩
 clear J
 revert k
 exact Zam (by cases b<;>kernel_rfl)
theorem Zr0:Za (vW (w2 w b c)) (Zmz w.params).ctr:=by
 refine(Zmz w.params).ok (fun i W=> ?_) (fun i a U y=> ?_)
 ·obtain⟨h,L,s,t⟩:=i;haveI m:=W _ rfl;haveI I:=m.1;haveI J:=m.2.1;haveI X:=m.2.2;refine(J5v w b c h L s t I J X).mono fun j y q=> ?_;cases e:Zb L (Z0 s) with
  |none=>exact⟨0,iX,e,fun U=>⟨U,by rw[<-q,e];rfl,rfl,rfl,rfl⟩⟩
  |some x=>exact⟨1,lF,by show Zb L (Z0 s)≠none;rw[e];exact nofun,fun U=>⟨U,by show _=(Zmw w.params h L (some ((Zb L (Z0 s)).getD Zs))).1;rw[<-q,e];rfl,rfl,rfl,rfl⟩⟩
 ·cases a<;>rfl
noncomputable def Zgx(h:Hd):Code:= .call (.ref 139) ⟨[.ref h.a],[]⟩
noncomputable def Zyl(h:Hd):Code:= .call (.ref 127) ⟨[.ref h.a],[]⟩
noncomputable def Zym(h:Hd):Code:= .call (.ref 132) ⟨[.ref h.a],[]⟩
noncomputable def He.kV(e:He):Value:= .str e.k e.kt
noncomputable def He.vV(e:He):Value:= .str e.v e.vt
def Zgy(P:Params)(h:Hd)(L:List He)(U:Ph):Result×List Sl:=(.ok (.ret (.ref (U.w 0).a)),⟨(U.w 0).a,lst (L.map He.ref) (Z3 (U.w 0).o), .hs L⟩::Yc P h L)
def Zyn(P:Params)(h:Hd)(L:List He)(U:Ph):Result×List Sl:=(.ok (.ret (.ref (U.w 0).a)),⟨(U.w 0).a,lst (L.map He.kV) (Z3 (U.w 0).o), .no⟩::Yc P h L)
def Zyo(P:Params)(h:Hd)(L:List He)(U:Ph):Result×List Sl:=(.ok (.ret (.ref (U.w 0).a)),⟨(U.w 0).a,lst (L.map He.vV) (Z3 (U.w 0).o), .no⟩::Yc P h L)
def Zbr(P:Params):Zi HdI where
 code i:=Zgx i.1
 P i:=Yc P i.1 i.2
 cond i:=some (i.2.length<=4)
 F i _ U:=Zgy P i.1 i.2 U
 k:=3
 nn _:=1
 ext _ S:=(match Z1p S with
  |some (h,L)=>some ⟨h,L⟩
  |none=>none)
 d:=Zf 2
 u:=Ze 2
def J5w(k:Nat):Hs:=match k with
 |0=>Z4 0x1bfe044e .nil
 |1=>Z4 0x1bfe15144e .nil
 |2=>Z4 0x1bfe2515244e .nil
 |3=>Z4 0x1bfe352515344e .nil
 |4=>Z4 0x1bfe45352515444e .nil
 |_=>Z4 0x1bfe5545352515544e .nil
theorem Zgz(h:Hd)(L:List He)(a:L.length<=5):
  J7 (vW (w2 w b c)) false false (Zf 2) (Ze 2) (Zgx h) (Yc w.params h L) (Zgy w.params h L):=by
 revert L
 exact Z1i Zs fun v k j=>Jk (gk4 _) (n:=100000) (k:=4) (hs:=J5w k) fun N T hh y=>by revert k;exact Z5p (by kernel_rfl)
theorem Zh0:Za (vW (w2 w b c)) (Zbr w.params).ctr:=
 (Zbr w.params).ok (fun i a=>Zgz w b c i.1 i.2 (cX (a _ rfl)))
def Zfi(P:Params):Zi HdI where
 code i:=Zyl i.1
 P i:=Yc P i.1 i.2
 cond i:=some (i.2.length<=3)
 F i _ U:=Zyn P i.1 i.2 U
 k:=3
 nn _:=1
 ext _ S:=(match Z1p S with
  |some (h,L)=>some ⟨h,L⟩
  |none=>none)
 d:=Zf 2
 u:=Ze 2
 z:=true
def Jbr(c:Bool)(k:Nat):Hs:=match c with
 |true=>(match k with
  |0=>Z4 0x10cbe48e68e .nil
  |1=>Z4 0x10bbde666655e48e68e .nil
  |2=>Z4 0x10c4e01068e .nil
  |_=>Z4 0x104ae995fe01068e .nil)
 |false=>match k with
  |0=>Z4 0x10cbe099e .nil
  |1=>Z4 0x10bbde666655e099e .nil
  |2=>Z4 0x10c4e99e .nil
  |_=>Z4 0x104ae995fe99e .nil
theorem J0r(h:Hd)(L:List He)(j:L.length<=3):
  J7 (vW (w2 w b c)) true false (Zf 2) (Ze 2) (Zyl h) (Yc w.params h L) (Zyn w.params h L):=by
 revert L
 exact Z1i Zs fun v k a=>Z85 (gk4 _) (n:=100000) (k:=4) (hs:=Jbr c k) fun N T=>by revert k;exact Z5p (by cases b<;>cases c<;>kernel_rfl)
theorem Zkk:Za (vW (w2 w b c)) (Zfi w.params).ctr:=
 (Zfi w.params).ok (fun i a=>J0r w b c i.1 i.2 (a _ rfl))
def Zbs(P:Params):Zi HdI where
 code i:=Zym i.1
 P i:=Yc P i.1 i.2
 cond i:=some (i.2.length<=3)
 F i _ U:=Zyo P i.1 i.2 U
 k:=3
 nn _:=1
 ext _ S:=(match Z1p S with
  |some (h,L)=>some ⟨h,L⟩
  |none=>none)
 d:=Zf 2
 u:=Ze 2
 z:=true
def Jbs(c:Bool)(k:Nat):Hs:=match c with
 |true=>(match k with
  |0=>Z4 0x10cbe48e68e .nil
  |1=>Z4 0x10bbde666655e48e68e .nil
  |2=>Z4 0x10c4e01068e .nil
  |_=>Z4 0x104ae995fe01068e .nil)
 |false=>match k with
  |0=>Z4 0x10cbe099e .nil
  |1=>Z4 0x10bbde666655e099e .nil
  |2=>Z4 0x10c4e99e .nil
  |_=>Z4 0x104ae995fe99e .nil
theorem J0s(h:Hd)(L:List He)(j:L.length<=3):
  J7 (vW (w2 w b c)) true false (Zf 2) (Ze 2) (Zym h) (Yc w.params h L) (Zyo w.params h L):=by
 revert L
 exact Z1i Zs fun v k a=>Z85 (gk4 _) (n:=100000) (k:=4) (hs:=Jbs c k) fun N T=>by revert k;exact Z5p (by cases b<;>cases c<;>kernel_rfl)
theorem Zdl:Za (vW (w2 w b c)) (Zbs w.params).ctr:=
 (Zbs w.params).ok (fun i a=>J0s w b c i.1 i.2 (a _ rfl))
abbrev Zn0:=I4 Nat Nat (List He) He
noncomputable def J5x(i:Zn0):Code:= .call (.builtin "list.append") ⟨[.ref i.1, .ref i.4.a],[]⟩
def J5y(i:Zn0):List Sl:=[⟨i.1,lst (i.3.map He.ref) i.2, .hs i.3⟩,⟨i.4.a,heO i.4, .no⟩]
def J5z(i:Zn0)(U:Ph):Result×List Sl:=(.ok (.ret .none),[⟨i.1,lst ((i.3++[i.4]).map He.ref) (Z3 (U.w 0).o), .hs (i.3++[i.4])⟩,⟨i.4.a,heO i.4, .no⟩])
abbrev Zn1:=I4 Nat Nat (List Value) Gd
noncomputable def J60(i:Zn1):Code:= .call (.builtin "len") ⟨[.ref i.1],[]⟩
def Zuj(i:Zn1):List Sl:=[⟨i.1,lst i.3 i.2,i.4⟩]
def J61(i:Zn1)(U:Ph):Result×List Sl:=(.ok (.ret (.int (Int.ofNat i.3.length) (Z6 U.rv))),Zuj i)
noncomputable def Zh1(s:Sl)(g:Gd):Sl:={s with g:=g}
noncomputable def reG:List Sl->List Gd->List Sl
 |s::l,g::gs=>Zh1 s g::reG l gs
 |l,_=>l
def Z69(l:List Sl):Prop:=∀s∈l,s.g= .no
theorem Zbt:∀(l:List Sl)(m:List Gd),(reG l m).map Sl.a=l.map Sl.a:=by
 intro q
 induction q with
 |nil=>
  intro j;cases j with
  |nil=>
   exact rfl
  |cons _ _=>
   exact rfl
 |cons s l ih=>
  intro j;cases j with
  |nil=>
   exact rfl
  |cons g m=>
   show s.a::(reG l m).map Sl.a=_;rw[ih m];rfl
theorem Zh2 {h:Heap}:∀{l:List Sl}{gs:List Gd},Z69 l->(∀s∈reG l gs,Zy s.g=true)->(∀s∈reG l gs,Ji h s)->∀s∈l,Ji h s
 |[],_,_,_,_=>fun y hs=>nomatch hs
 |s::l,[],_,_,h=>h
 |s::l,g::gs,p,e,h=>fun x hx=>by
  rcases aC.mp hx with rfl|hx
  ·haveI q:=p x (.head _);haveI r:=(h (Zh1 x g) (.head _)).plain (e (Zh1 x g) (.head _));unfold Ji;rw[q];exact⟨r,trivial⟩
  ·exact Zh2 (fun s hs=>p s (.tail _ hs)) (fun s hs=>e s (.tail _ hs)) (fun s hs=>h s (.tail _ hs)) x hx
theorem Zr1 {h:Heap}:∀{l:List Sl}{gs:List Gd},Z69 l->(∀g∈gs,Zy g=true/\Y1 h g)->(∀s∈l,Ji h s)->∀s∈reG l gs,Ji h s
 |[],[],_,_,_=>fun y hs=>nomatch hs
 |[],_::_,_,_,_=>fun y hs=>nomatch hs
 |s::l,[],_,_,h=>h
 |s::l,g::gs,p,e,h=>fun x hx=>by
  rcases aC.mp hx with rfl|hx
  ·haveI q:=h s (.head _);unfold Ji at q;rw[p s (.head _)] at q;exact Je (s:=s) (e g (.head _)).1 q.1 (e g (.head _)).2
  ·exact Zr1 (fun s hs=>p s (.tail _ hs)) (fun g a=>e g (.tail _ a)) (fun s hs=>h s (.tail _ hs)) x hx
set_option tactic.hygienic true in theorem Zr2 {h:Heap}:∀{l:List Sl}{gs:List Gd},gs.length<=l.length->(∀g∈gs,Zy g=true)->(∀s∈reG l gs,Ji h s)->∀g∈gs,Y1 h g
 |_,[],_,_,_=>fun _ hg=>nomatch hg
 |[],g::gs,hl,_,_=>absurd hl (by simp)
 |s::l,g::gs,hl,e,h=>fun x hx=>by
  rcases aC.mp hx with rfl|hx
  ·haveI q:=h (Zh1 s x) (.head _);unfold Ji at q
   split at q
   ·rename_i z;rw[show(Zh1 s x).g=x from rfl] at z;rw[z] at e;exact absurd (e _ (.head _)) (by simp[Zy])
   ·exact q.2
  ·exact Zr2 (iH hl) (fun g hg=>e g (.tail _ hg)) (fun s hs=>h s (.tail _ hs)) x hx
theorem Zkl:∀{l:List Sl}{gs:List Gd},Z69 l->(∀g∈gs,Zy g=true)->∀s∈reG l gs,Zy s.g=true
 |[],[],_,_=>fun y hs=>nomatch hs
 |[],_::_,_,_=>fun y hs=>nomatch hs
 |s::l,[],p,_=>fun x hx=>by rw[p x hx];rfl
 |s::l,g::gs,p,e=>fun x hx=>by
  rcases aC.mp hx with rfl|hx
  ·exact e g (.head _)
  ·exact Zkl (fun s hs=>p s (.tail _ hs)) (fun g a=>e g (.tail _ a)) x hx
theorem Qi.reG {v:V}{z xf:Bool}{d u:Nat}{c:Code}{P:List Sl}{na nn:Nat}{C:Nat->Prop}{F:Nat->Ph->Result×List Sl}(h:Qi v z xf d u c P na C F)(j:List Gd)
  (hP:Z69 P) (Y:∀g∈j,Zy g=true) (hl:j.length<=P.length) (hF:∀i U,Z69 ((F i U).2.drop nn)):
  Qi v z xf d u c (reG P j) na C (fun i U=>((F i U).1,(F i U).2.take nn++LW.reG ((F i U).2.drop nn) j)):=by
 intro A s hh out fr hz Z I;rw[Zbt] at Z I;have st0:St v ⟨s,P.map Sl.a,frL xf fr⟩ ⟨s.heap.objs.size,0,s.toks,0,P⟩ s:=by
  have ok:=Zh2 (h:=s.heap) hP (Zkl hP Y) I.rep.slots;have X:∀x∈P,x.a∈(LW.reG P j).map Sl.a:=fun x hx=>by rw[Zbt];exact aL hx
  exact I.adr ok (fun x hx=>X x hx) (by have:=I.rep.nodup;rwa[show(({b:=s.heap.objs.size,m:=0,t:=s.toks,i:=0,sl:=LW.reG P j}:Lg).sl.map Sl.a)=(LW.reG P j).map Sl.a from rfl,Zbt] at this) _ _ rfl rfl
 refine cC (h A s hh out fr hz Z st0) ?_;rintro r s' ⟨i,hi,hc,U,e,st⟩;refine⟨i,hi,hc,U,e, ?_⟩;have gok:∀g∈j,Y1 s'.heap g:=fun g J=>(Zr2 hl Y I.rep.slots g J).mono fun b o e q=>st.rep.tup b o e q;have X:((F i U).2.take nn++LW.reG ((F i U).2.drop nn) j).map Sl.a=(F i U).2.map Sl.a:=by
  rw[bB,Zbt,<-bB,cT]
 rw[Zbt];refine st.adr (W:=(F i U).2.take nn++LW.reG ((F i U).2.drop nn) j) (fun x hx=> ?_) (fun x hx=> ?_) (by rw[X];exact st.rep.nodup) _ _ rfl rfl
 ·rcases aG.mp hx with hx|hx
  ·exact st.rep.slots x (iS hx)
  ·exact Zr1 (hF i U) (fun g J=>⟨Y g J,gok g J⟩) (fun y hy=>st.rep.slots y (fD hy)) x hx
 ·have:x.a∈((F i U).2.take nn++LW.reG ((F i U).2.drop nn) j).map Sl.a:=aL hx;rw[X] at this;exact this
def Zdm:Zi Zn0 where
 code:=J5x
 P:=J5y
 cond i:=some (i.3.length<=4)
 F i _ U:=J5z i U
 k:=2
 ext _ S:=match S with
  |[l,t]=>(match l.g with
   | .hs L=>(match Zdc (t.a,t.o) with
    |some e=>some ⟨l.a,Z3 l.o,L,e⟩
    |none=>none)
   |_=>none)
  |_=>none
 d:=Zf 0
 u:=Ze 0
def Jf3(k:Nat):Hs:=match k with
 |0=>Z4 0x10101196e .nil
 |1=>Z4 0x1010110296e .nil
 |2=>Z4 0x101012010396e .nil
 |3=>Z4 0x101013e3e0496e .nil
 |_=>Z4 0x10101423e0596e .nil
theorem J62(w:World)(l n:Nat)(L:List He)(e:He)(a:L.length<=4):J7 (vW w) false false (Zf 0) (Ze 0) (J5x ⟨l,n,L,e⟩) (J5y ⟨l,n,L,e⟩) (J5z ⟨l,n,L,e⟩):=by
 revert L
 exact Z1i (⟨0,st "",0,st "",0⟩:He) (fun v k j=>Jk Ym (n:=100000) (k:=2) (hs:=Jf3 k) fun N T m y=>by revert k;exact Z5p (by kernel_rfl))
theorem Zbu(w:World):Za (vW w) Zdm.ctr:=
 Zdm.ok (fun i a=>J62 w i.1 i.2 i.3 i.4 (a _ rfl))
noncomputable def Z1(o:Obj):List Value:=match o.data with| .seq l _=>l.toList|_=>[]
def Zdn:Zi Zn1 where
 code:=J60
 P:=Zuj
 cond i:=some (i.3.length<=5/\Zy i.4=true)
 F i _ U:=J61 i U
 k:=1
 ext _ S:=match S with
  |[l]=>some ⟨l.a,Z3 l.o,Z1 l.o,l.g⟩
  |_=>none
 d:=Zf 0
 u:=Ze 0
def Jf4(_:Nat):Hs:=Z4 0x148e10100 .nil
theorem J63(w:World)(l n:Nat)(vs:List Value)(a:vs.length<=5):J7 (vW w) false false (Zf 0) (Ze 0) (J60 ⟨l,n,vs, .no⟩) (Zuj ⟨l,n,vs, .no⟩) (J61 ⟨l,n,vs, .no⟩):=by
 revert vs
 exact Z1i Value.none (fun v k j=>Jk Ym (n:=100000) (k:=1) (hs:=Jf4 k) fun N T m y=>by revert k;exact Z5p (by kernel_rfl))
theorem Zek {l n:Nat}{vs:List Value}:Z69 [⟨l,lst vs n, .no⟩]:=fun s hs=>by rw[aM.mp hs]
theorem Zbv(w:World):Za (vW w) Zdn.ctr:=by
 refine Zdn.ok (fun i I=> ?_);obtain⟨l,n,vs,g⟩:=i;haveI a:=I _ rfl;haveI j:=a.1;haveI m:=a.2;exact Qi.reG (nn:=0) (J63 w l n vs j) [g] Zek (fun x q=>by rw[aM.mp q];exact m) (cB _) (fun y y=>Zek)
def G5(P:Params):G:=⟨[Z1h.ctr,Z14.ctr,Z3l.ctr,Zbq.ctr,(Zmz P).ctr,(Zbr P).ctr,(Zfi P).ctr,(Zbs P).ctr,Zdm.ctr,Zdn.ctr],[]⟩
theorem gk5:J5 (vW (w2 w b c)) (G5 w.params):=
 gC (Z86 _) (gC (Z34 _) (gC (Z6y _) (gC (Zdk _) (gC (Zr0 w b c) (gC (Zh0 w b c) (gC (Zkk w b c) (gC (Zdl w b c) (gC (Zbu _) (gC (Zbv _) Ym)))))))))
abbrev Z35:=I6 Hd (List He) Str Nat Str Nat
noncomputable def Zyp(i:Z35):Code:= .call (.ref 165) ⟨[.ref i.1.a, .str i.3 i.4, .str i.5 i.6],[]⟩
noncomputable def Zyq(i:Z35):Code:= .call (.ref 172) ⟨[.ref i.1.a, .str i.3 i.4, .str i.5 i.6],[]⟩
noncomputable def Zk(s:Str)(t:Nat)(x:Str)(j:Nat)(U:Ph):He:=⟨(U.w 0).a,s,t,x,j⟩
def hdN(h:Hd)(U:Ph)(j:Nat):Hd:={h with n:=Z3 (U.w j).o}
def Zn2(P:Params)(i:Z35)(L:List He)(r:Value)(U:Ph):Result×List Sl:=(.ok (.ret r),⟨(U.w 0).a,heO (Zk i.3 i.4 i.5 i.6 U), .no⟩::Yc P (hdN i.1 U 3) (L++[Zk i.3 i.4 i.5 i.6 U]))
def Jbt(P:Params)(i:Z35)(a:Nat)(U:Ph):Result×List Sl:=match a with
 |0=>Zn2 P i i.2 (.str i.5 i.6) U
 |_=>(.ok (.ret (.str ((Zb i.2 (Z0 i.3)).getD Zs).v ((Zb i.2 (Z0 i.3)).getD Zs).vt)),Yc P i.1 i.2)
noncomputable def kSd(a:Nat):Nat:=match a with|0=>4|_=>3
noncomputable def nSd(a:Nat):Nat:=match a with|0=>1|_=>0
def Z15(L:List He)(s x:Str):Prop:=s∈Z9/\Z0 s∈Z9/\x∈Z56/\Jp L
def nIn(i:Z35):Prop:=Z15 i.2 i.3 i.5
def Z1u(L:List He)(s:Str)(a:Nat):Prop:=match a with|0=>Zb L (Z0 s)=none|_=>Zb L (Z0 s)≠none
def cSd(i:Z35)(a:Nat):Prop:=Z1u i.2 i.3 a
def Zn3(f:Z35->Code)(c:Code)(S:List Sl):Option Z35:=match c with
 | .call _ ⟨[.ref _, .str s t, .str x xt],[]⟩=>(match Z1p S with
  |some (h,L)=>some ⟨h,L,s,t,x,xt⟩
  |none=>none)
 |_=>none
def Zn4(P:Params):Zi Z35 where
 code:=Zyp
 P i:=Yc P i.1 i.2
 cond i:=some (Z15 i.2 i.3 i.5)
 na:=2
 C i a:=Z1u i.2 i.3 a
 F:=Jbt P
 k:=3
 nn:=nSd
 ext c S:=Zn3 Zyp c S
 d:=Zf 3
 u:=Ze 3
 z:=true
def Zn5(P:Params):Zi Z35 where
 code:=Zyq
 P i:=Yc P i.1 i.2
 cond i:=some (Z15 i.2 i.3 i.5)
 F i _ U:=Zn2 P i i.2 .none U
 k:=3
 nn _:=1
 ext c S:=Zn3 Zyq c S
 d:=Zf 3
 u:=Ze 3
 z:=true
theorem J0t:Za (vW (w2 w b c)) (Zn4 w.params).ctr:=
 (Zn4 w.params).ok (fun i m=>zA4 (gk5 w b c) kSd (Z4 0x1123e5013ee95e (.two (Z4 0x123e03e .nil) (J1 (.two (Z4 0x1afe0002000498be1111 .nil) .nil)))) (p:=(i.3∈Z9++Zh/\Z0 i.3∈Z9/\Jp i.2)/\((Zb i.2 (Z0 i.3)≠none->∀W:Ph,(cSd (I6.mk i.1 i.2 i.3 i.4 i.5 i.6) 1)/\True)/\((Zb i.2 (Z0 i.3)=none->∀I:Ph,(i.3∈J2 true)/\∀q:Ph,(i.5∈J2 false)/\∀X:Ph,(i.2.length<=4)/\∀J:Ph,(cSd (I6.mk i.1 i.2 i.3 i.4 i.5 i.6) 0)/\True)/\True))) (fun y y=>by kernel_rfl) (by
    have j:nIn ⟨i.1,i.2,i.3,i.4,i.5,i.6⟩:=(m _ rfl);exact⟨⟨aG.mpr (.inl j.1),j.2.1,j.2.2.2⟩,fun m y=>⟨m,trivial⟩,fun m y=>⟨j.1,fun y=>⟨j.2.2.1,fun y=>⟨j.2.2.2.2,fun y=>⟨m,trivial⟩⟩⟩⟩,trivial⟩)) (fun i a U y=>by cases a<;>rfl)
theorem J0u:Za (vW (w2 w b c)) (Zn5 w.params).ctr:=
 (Zn5 w.params).ok (fun i j=>zN4 (gk5 w b c) 4 (Z4 0x1bde800dea9550068406980de800080008060a0a0abde8800080de86011115504e01441010113030333302111010219e222402540de40004000402122201103e000 .nil) (p:=(i.5∈J2 false)/\∀q:Ph,(i.3∈J2 true)/\∀I:Ph,(i.2.length<=4)/\∀m:Ph,True) (fun y y=>by kernel_rfl) (by
    have a:nIn ⟨i.1,i.2,i.3,i.4,i.5,i.6⟩:=(j _ rfl);exact⟨a.2.2.1,fun y=>⟨a.1,fun y=>⟨a.2.2.2.2,fun y=>trivial⟩⟩⟩)) (fun y y y y=>rfl)
set_option tactic.hygienic true in theorem Rep.sameBut {v:V}{B:Zt}{h h':Heap}{lg:Lg}(R:Rep v B lg h){j:Nat}{s:Sl}(hj:lg.sl[j]?=some s)(hx:Zy s.g=true)(hc:¬Fix s.o){o':Obj}(hs:jC s.a h h')(ge:h'.get? s.a=some o'):
  Rep v B {lg with sl:=lg.sl.set j {s with o:=o'}} h':=by
 have hmem:=aZ hj;have ho:h.get? s.a=some s.o:=(R.slots s hmem).plain hx;have ht:∀b o,h.get? b=some o->Fix o->h'.get? b=some o:=fun b o e q=>by
  refine(hs.2 b ?_).trans e;rintro rfl;rw[ho] at e;cases e;exact hc q
 haveI em:(lg.sl.set j {s with o:=o'}).map Sl.a=lg.sl.map Sl.a:=Z83 hj _;have back:∀s'∈lg.sl.set j {s with o:=o'},∃s2∈lg.sl,s2.a=s'.a:=fun s' hs'=>by
  have:s'.a∈lg.sl.map Sl.a:=by rw[<-em];exact aL hs'
  obtain⟨s2,h2,e2⟩:=aN.mp this;exact⟨s2,h2,e2⟩
 refine⟨by rw[hs.1];exact R.size, ?_,by show((lg.sl.set j {s with o:=o'}).map Sl.a).Nodup;rw[em];exact R.nodup, ?_,fun a o e=> ?_,R.stat, ?_, ?_,fun b o e q=>ht _ _ (R.tup b o e q) q, ?_,by rw[hs.1];exact R.big, ?_⟩
 ·intro s' hs'
  by_cases e:s'.a=s.a
  ·haveI hx':({s with o:=o'}:Sl)∈lg.sl.set j {s with o:=o'}:=qY (bJ.mp hj).1 _;haveI nd:((lg.sl.set j {s with o:=o'}).map Sl.a).Nodup:=by rw[em];exact R.nodup
   have:s'={s with o:=o'}:=Zd5 nd hs' hx' e;subst this;have old:=R.slots s hmem;unfold Ji at old;refine Z7 fun k'=> ?_
   split at old
   ·rename_i q;rw[q] at hx;contradiction
   ·exact k' (Je (s:={s with o:=o'}) hx ge (old.2.mono ht))
  ·haveI hs2:s'∈lg.sl:=by
    rcases nH hs' with q|q
    ·exact q
    ·exact absurd (by rw[q]) e
   exact(R.slots s' hs2).mono (fun o e'=>(hs.2 _ e).trans e') ht
 ·intro s' hs';obtain⟨s2,h2,e2⟩:=back s' hs';rw[<-e2];exact R.low s2 h2
 ·refine(hs.2 a ?_).trans (R.kt a o e);rintro rfl;rw[R.low s hmem] at e;contradiction
 ·intro s' hs';obtain⟨s2,h2,e2⟩:=back s' hs';rw[<-e2];exact R.own s2 h2
 ·intro b o e hb hb2;refine(hs.2 b fun q=> ?_).trans (R.frame b o e hb hb2);rcases R.own s hmem with h1|h1
  ·rw[<-q,e] at h1;contradiction
  ·exact hb (q▸h1)
 ·refine R.nolim.sameBut hs ?_;intro q;obtain⟨o,ho'⟩:=R.stat;rw[q,R.low s hmem] at ho';contradiction
 ·intro b hb;refine Z7 fun k'=> ?_;obtain⟨h1,h2,o,h3,h4⟩:=R.frs b hb;refine k' ?_;refine⟨h1,fun s' hs'=> ?_,o,(hs.2 b fun q=>h2 s hmem q.symm).trans h3,h4⟩;obtain⟨s2,hs2,e2⟩:=back s' hs';rw[<-e2];exact h2 s2 hs2
noncomputable def Z6a:Obj:=⟨.type "slice",none, .fields ⟨[.none, .none, .none]⟩,⟨[]⟩⟩
theorem Zf2:typeLookup Z6a.cls (aB "__index__")=pure none:=by
 show typeLookup (.type "slice") "__index__"=pure none;rw[typeLookup_type,builtinLookup_eq_fast];kernel_rfl
section
variable {prog:Program}{w:World}{A:Around}{E:Value->Shared->Prop}{s:Shared}
theorem Zuk {l sl v:Addr}{a ys:List Value}{n m:Nat}{Q:PySem.Fin->Shared->Prop}(q:s.heap.get? l=some (LW.lst a n))(hs:s.heap.get? sl=some Z6a)(Z:s.heap.get? v=some (LW.lst ys m))(J:l≠v)
  (Y:a.length<=5) (h2:ys.length<=5) (y:∀h' n',jC l s.heap h'->h'.get? l=some (LW.lst ys n')->Q (.done (.ret .none)) {s with heap:=h'}):
  aU (cP prog w) A (Builtin.«list.__setitem__» ⟨[.ref l, .ref sl, .ref v],[]⟩) Q E s:=by
 obtain⟨hp,g,d,tk,os⟩:=s;dsimp only at q hs Z y;haveI hx:=Zf2;haveI hf:lU (.ref l) (.ref v)=false:=by simp[lU,J]
 haveI hc1:((LW.lst ys m).cls==Value.type "list"||(LW.lst ys m).cls==Value.type "tuple")=true:=by simp[LW.lst]
 haveI j:gF ((⟨a⟩:Array Value).size+(⟨ys⟩:Array Value).size)=false:=by
  unfold gF;simp;simp only[bV];lia
 wp_walk
 rw[if_neg (by rw[j];exact jH)];haveI W:(if(1:Int)>0 then(0:Int) else ↑(⟨a⟩:Array Value).size-1)=0:=rfl;haveI X:(if(1:Int)>0 then(↑(⟨a⟩:Array Value).size:Int) else-1)= ↑(⟨a⟩:Array Value).size:=rfl;rw[W,X];haveI e2:(max (0:Int) ↑(⟨a⟩:Array Value).size).toNat=(⟨a⟩:Array Value).size:=by rw[mQ (aR _)];rfl
 rw[e2];refine aA ?_;show aU _ _ (updateSeq l _) _ _ _;haveI hz:(⟨a⟩:Array Value).size<=5:=Y;haveI I:((⟨a⟩:Array Value).extract 0 (pY 0)++⟨ys⟩++(⟨a⟩:Array Value).extract (⟨a⟩:Array Value).size)=⟨ys⟩:=by
  apply rL;simp
 refine wpAny_updateSeq q rfl ?_ (by simp only[bV];lia) (by rw[I,bV];show ys.length<=_;lia);refine aA (kF ?_);refine aH (y _ (if(⟨ys⟩:Array Value).size==(⟨a⟩:Array Value).size then n else n+1) (dY ..) ?_);rw[gB _ q rfl];show some (⟨.type "list",none, .seq ((⟨a⟩:Array Value).extract 0 (pY 0)++⟨ys⟩++(⟨a⟩:Array Value).extract (⟨a⟩:Array Value).size) (if(((⟨a⟩:Array Value).extract 0 (pY 0)++⟨ys⟩++(⟨a⟩:Array Value).extract (⟨a⟩:Array Value).size).size==(⟨a⟩:Array Value).size) then n else n+1),_⟩:Obj)=_;rw[I];rfl
end
abbrev Zdo:=I7 Nat Nat (List Value) Nat Nat Nat (I3 (List Value) Gd Gd)
noncomputable def J64(i:Zdo):Code:= .builtin "list.__setitem__" ⟨[.ref i.1, .ref i.4, .ref i.5],[]⟩
def Zan(i:Zdo):List Sl:=[⟨i.1,LW.lst i.3 i.2, .no⟩,⟨i.4,Z6a, .no⟩,⟨i.5,LW.lst i.7.1 i.6, .no⟩]
def Zn6(i:Zdo)(U:Ph):Result×List Sl:=(.ok (.ret .none),[⟨i.1,LW.lst i.7.1 (Z3 (U.w 0).o), .no⟩,⟨i.4,Z6a, .no⟩,⟨i.5,LW.lst i.7.1 i.6, .no⟩])
theorem J65(v:V)(i:Zdo)(Z:i.3.length<=5)(h2:i.7.1.length<=5)(d u:Nat):J7 v false false d u (J64 i) (Zan i) (Zn6 i):=by
 intro A s hh out fr _ ha m;have I:∀x∈Zan i,s.heap.get? x.a=some x.o:=fun x J=>(m.rep.slots x J).plain (by
  simp only[Zan,aC,aD,or_false] at J;rcases J with rfl|rfl|rfl<;>rfl)
 haveI hl:=I ⟨i.1,LW.lst i.3 i.2, .no⟩ (.head _);haveI hs:=I ⟨i.4,Z6a, .no⟩ (.tail _ (.head _));haveI hv:=I ⟨i.5,LW.lst i.7.1 i.6, .no⟩ (.tail _ (.tail _ (.head _)));haveI W:(Zan i).map Sl.a|>.Nodup:=m.rep.nodup
 haveI Y:i.1≠i.5:=by
  simp only[Zan,aP,fE,bM,aC,aD,or_false,not_or] at W;exact W.1.2
 refine lI entry_list_setitem ?_;refine Zuk hl hs hv Y Z h2 fun h' n' X ge=> ?_;refine⟨0,aX,trivial,⟨s.heap.objs.size-8,s.toks, .none,fun y=>⟨0,LW.lst [] n', .no⟩⟩,rfl, ?_⟩;haveI R:=m.rep.sameBut (j:=0) (s:=⟨i.1,LW.lst i.3 i.2, .no⟩) rfl rfl (by rintro (q|q)<;>exact absurd q (by show(Value.type "list")≠_;simp)) X ge;haveI hb:=m.rep.big;exact⟨⟨X.1.trans (bG m.rep.big).symm,R.slots,R.nodup,R.low,R.kt,R.stat,R.own,R.frame,R.tup,R.nolim,R.big,R.frs⟩,rfl,m.gens,m.drawn,m.os⟩
def Zn7(i:Zdo):Bool:=Yz (dE i.3.length 5) (Yz (dE i.7.1.length 5) (Yz (Zy i.7.2) (Zy i.7.3)))
noncomputable def Zyr {ι:Type}(f:ι->Bool)(i:ι):Option {i:ι//f i=true}:=match h:f i with|true=>some ⟨i,h⟩|false=>none
def Zul:Zi {i:Zdo//Zn7 i=true} where
 code i:=J64 i.1
 P i:=reG (Zan i.1) [i.1.7.2, .no,i.1.7.3]
 cond _:=none
 F i _ U:=((Zn6 i.1 U).1,reG (Zn6 i.1 U).2 [i.1.7.2, .no,i.1.7.3])
 k:=3
 ext _ S:=match S with
  |[l,s,v]=>Zyr Zn7 ⟨l.a,Z3 l.o,Z1 l.o,s.a,v.a,Z3 v.o,Z1 v.o,l.g,v.g⟩
  |_=>none
 d:=Zf 0
 u:=Ze 0
theorem J66(w:World):Za (vW w) Zul.ctr:=by
 refine Zul.ok (fun i y=> ?_);obtain⟨i,a⟩:=i;simp only[Zn7,Qn,Z.ble_iff] at a;refine Z7 fun W=> ?_;obtain⟨m,q,J,I⟩:=a;refine W ?_;refine Qi.reG (nn:=0) (J65 (vW w) i m q (Zf 0) (Ze 0)) [i.7.2, .no,i.7.3] ?_ ?_ (cB _) ?_
 ·intro s hs;simp only[Zan,aC,aD,or_false] at hs;rcases hs with rfl|rfl|rfl<;>rfl
 ·intro g j;simp only[aC,aD,or_false] at j;rcases j with rfl|rfl|rfl
  ·exact J
  ·rfl
  ·exact I
 ·intro _ U s hs;simp only[Zn6,kW,aC,aD,or_false] at hs;rcases hs with rfl|rfl|rfl<;>rfl
noncomputable def Yv(dd:Option Nat)(ss:Array (Option Value))(l k:Nat):Obj:=⟨.type "list_iterator",dd, .fields ⟨[.ref l, .int (Int.ofNat k) 0]⟩,ss⟩
theorem Z87 {v:V}{B:Zt}{b m t i:Nat}{s:Shared}{it l k n:Nat}{dd:Option Nat}{ss:Array (Option Value)}{vs:List Value}{gl ge gi:Gd}{rest:List Sl}{val:Value}{A:Around}{Q:Option Value->Shared->Prop}{E:Value->Shared->Prop}
  (W:St v B ⟨b,m,t,i,⟨it,Yv dd ss l k,gi⟩::⟨l,LW.lst vs n,gl⟩::rest⟩ s) (hi:Zy gi=true) (hl:Zy gl=true) (he:Zy ge=true) (hge:∀h,Y1 h gl->Y1 h ge) (hv:vs[k]?=some val)
  (hQ:∀dd ss s',St v B ⟨b,m,t,i,⟨it,Yv dd ss l (k+1),ge⟩::⟨l,LW.lst vs n,gl⟩::rest⟩ s'->Q (some val) s'):aU (M v) A (kH (.ref it)) Q E s:=by
 haveI Y:=W.old.plain (s:=⟨it,Yv dd ss l k,gi⟩) (.head _) hi;haveI a1:=Y.1;haveI X:=W.old.plain (s:=⟨l,LW.lst vs n,gl⟩) (.tail _ (.head _)) hl;haveI a2:=X.1;haveI g2:=X.2;refine wpAny_pyNext_list_item (it:=it) (l:=l) (i:=k) (items:=vs.toArray) ⟨_,a1,rfl,rfl⟩ ⟨_,a2,rfl,n,rfl⟩ (by simpa using hv) fun h' hit sb=> ?_;refine Z7 fun k'=> ?_;obtain⟨o',ho,hc,hd⟩:=hit;obtain⟨cls,I,da,J⟩:=o';simp only at hc hd;subst hc hd;have R:=W.rep.sameBut (j:=0) (s:=⟨it,Yv dd ss l k,gi⟩) rfl hi (by rintro (q|q)<;>exact absurd q (by show(Value.type "list_iterator")≠_;simp)) (o':=Yv I J l (k+1)) sb ho;refine k' ?_;refine hQ I J _ ⟨⟨R.size,fun x hx=> ?_,R.nodup,fun x hx=> ?_,R.kt,R.stat,fun x hx=> ?_,R.frame,R.tup,R.nolim,R.big,fun b hb=> ?_⟩,W.toks,W.gens,W.drawn,W.os⟩
 ·rcases aC.mp hx with rfl|hx
  ·refine Je (s:=⟨it,Yv I J l (k+1),gi⟩) he ho (hge h' ?_);exact(R.slots ⟨l,LW.lst vs n,gl⟩ (.tail _ (.head _))|>fun z=>(show Old ⟨b,m,t,i,⟨it,Yv I J l (k+1),gi⟩::⟨l,LW.lst vs n,gl⟩::rest⟩ h' from R.slots).plain (.tail _ (.head _)) hl).2
  ·exact R.slots x (.tail _ hx)
 ·rcases aC.mp hx with rfl|hx
  ·exact R.low ⟨it,Yv I J l (k+1),gi⟩ (.head _)
  ·exact R.low x (.tail _ hx)
 ·rcases aC.mp hx with rfl|hx
  ·exact R.own ⟨it,Yv I J l (k+1),gi⟩ (.head _)
  ·exact R.own x (.tail _ hx)
 ·haveI a:=R.frs b hb;haveI q1:=a.1;haveI Z:=a.2.1;haveI q3:=a.2.2;refine⟨q1,fun y hy=> ?_,q3⟩;rcases aC.mp hy with rfl|hy
  ·exact Z ⟨it,Yv I J l (k+1),gi⟩ (.head _)
  ·exact Z y (.tail _ hy)
def Z4b(o:Jr)(target:Expr)(it:Value)(body orelse:List Stmt)(env:Env)(val:Value)(x:Cx)(lg:Lg)(hs:Hs)(R:K Result):Z8:=
 o.tr Unit (do Z7t target it val;Z30 target env val) x lg hs (fun y lg hs=>o.sx body env x lg hs (Zm6 o (.forLoop target it body orelse env) x R) (Zm7 o env x R)) fun y y y=>Zd "an exception at a loop's target"
theorem Zh3 {v:V}{o:Jr}(O:Jm v o){B:Zt}{target:Expr}{it:Value}{body orelse:List Stmt}{env:Env}{x:Cx}{R:K Result}{A:Around}{s:Shared}{val:Value}(m:Jn B x A)
  (J:∀(Q:Option Value->Shared->Prop) (E:Value->Shared->Prop),(∀s',(∃lg hs,Z5 (Z4b o target it body orelse env val x lg hs R)/\St v B lg s')->Q (some val) s')->aU (M v) A (kH it) Q E s):
  bR (M v) A (.forLoop target it body orelse env) (Zn v B R) s:=by
 refine jM ?_;rw[Qf];show aU _ _ ((lT target it body orelse env).onRaise (fun x=>do fI x env;dI x)) _ _ s;refine cH ?_;unfold lT;refine aA (bW (aA (cH ?_)));refine J _ _ ?_;rintro s' ⟨I,q,a,j⟩;dsimp only[Z4b] at a;rw[Z80,Z2f] at a;exact Zqr (bC (O.tr B _ _ _ I q _ _ _ s' a j m) (fun y X ⟨W,hs2,hg2,hst2⟩=>Zgu O hg2 hst2 m) (fun e s' h=>(Yg h).elim))
def Z6z(o:Jr)(elt:Expr)(g:Comprehension)(k:Scope)(p:Pos)(it acc:Value)(env:Env)(val:Value)(x:Cx)(lg:Lg)(hs:Hs)(R:K Result):Z8:=
 o.tr Unit (do Z7t g.target it val;Z30 g.target env val) x lg hs (fun y lg hs=>Z98 o g.ifs env x lg hs (Zf9 o elt acc (.compLoop (.ListComp elt [g] k p) 0 it acc env) env x R)) fun y y y=>Zd "an exception at a loop's target"
theorem Zr3 {v:V}{o:Jr}(O:Jm v o){B:Zt}{elt:Expr}{g:Comprehension}{k:Scope}{p:Pos}{it acc:Value}{env:Env}{x:Cx}{R:K Result}{A:Around}{s:Shared}{val:Value}(q:Jn B x A)(j:g.is_async=0)
  (Y:∀(Q:Option Value->Shared->Prop) (E:Value->Shared->Prop),(∀s',(∃lg hs,Z5 (Z6z o elt g k p it acc env val x lg hs R)/\St v B lg s')->Q (some val) s')->aU (M v) A (kH it) Q E s):
  bR (M v) A (.compLoop (.ListComp elt [g] k p) 0 it acc env) (Zn v B R) s:=by
 refine jM ?_;rw[Qf];show aU _ _ ((pZ (.ListComp elt [g] k p) 0 it acc env).onRaise (fun x=>do fI x env;dI x)) _ _ s;refine cH ?_;obtain⟨target,X,ifs,as⟩:=g;simp only at j;subst j;dsimp only[pZ,jY,fK,List.getElem?_nil,bne_self_eq_false,cA,if_false];refine aA (bW (aA ?_));refine Y _ _ ?_;rintro s' ⟨J,I,a,m⟩;simp only;dsimp only[Z6z] at a;rw[Z80,Z2f] at a;haveI W:=O.tr B _ _ _ J I _ _ _ s' a m q;exact Zqr (bC W (fun y s2 ⟨Z,hs2,hg2,hst2⟩=>Zei O rfl hg2 hst2 q) (fun e s' h=>(Yg h).elim))
set_option tactic.hygienic true in theorem Z2l {v:V}{B:Zt}{na:Nat}{k:Nat->Nat}{C:Nat->Prop}{D:Nat->Ph->Prop}{F:Nat->Ph->Result×List Sl}{r:Result}{s':Shared}(h:Zn v B (Jj na k C D F) r s'):
  ∃i,i<na/\C i/\∃U,D i U/\r=(F i U).1/\St v B ⟨aO U.n 8,0,U.t,0,(F i U).2⟩ s':=by
 refine Z7 fun k'=> ?_;obtain⟨lg,hs,hg,hst⟩:=h;unfold Jj at hg;obtain⟨i,hs',hg⟩:=J4 hg
 split at hg
 ·rename_i q;haveI hO3259:=Y4 hg;haveI hc:=hO3259.1;haveI hg:=hO3259.2;obtain⟨js,W,S,hs',eS,eW,hW,hg⟩:=Z0n hst.old (k i) hg
  split at hg
  ·rename_i hd;haveI hO3283:=J0 hg;haveI e1:=hO3283.1;haveI hg1:=hO3283.2;injection e1 with e1
   haveI hO3295:=Z0m hg1;haveI e2:=hO3295.1;haveI hg2:=hO3295.2;refine k' ?_;refine⟨i,aW q,hc,Qo (Z5k r) lg W,Zaf hg2,e1, ?_⟩;rw[<-e2];exact hst.adr hW (Z33 eS eW) (by rw[eW];exact Z1f hst.rep.nodup eS hd) _ _ (by haveI h8:=hst.rep.big;rw[hst.rep.size] at h8;exact bG h8) rfl
  ·exact Z2 hg
 ·exact Z2 hg
section
variable {v:V}{g:G}{z xf:Bool}{d u nn na:Nat}{kk:Nat->Nat}{C:Nat->Prop}{D:Nat->Ph->Prop}{F:Nat->Ph->Result×List Sl}{hs:Hs}
variable {it l k n:Nat}{dd:Option Nat}{ss:Array (Option Value)}{vs:List Value}{gi gl ge:Gd}{rest:List Sl}{val:Value}
theorem Zn8(GO:J5 v g){target:Expr}{body orelse:List Stmt}{env:Env}(Z:Zy gi=true)(Y:Zy gl=true)(X:Zy ge=true)(q:∀h,Y1 h gl->Y1 h ge)(W:vs[k]?=some val)
  (h:∀(N T:Nat) (hh:Option Value) (out:List Env) (dd:Option Nat) (ss:Array (Option Value)),(z=true->hh=none)->Z5 (Z4b (Ql v g nn) target (.ref it) body orelse env val ⟨d,u,hh,frB xf out⟩ ⟨aO N 8,0,T,0,⟨it,Yv dd ss l (k+1),ge⟩::⟨l,LW.lst vs n,gl⟩::rest⟩ hs (Jj na kk C D F))):
  Yu v z xf d u (.forLoop target (.ref it) body orelse env) (⟨it,Yv dd ss l k,gi⟩::⟨l,LW.lst vs n,gl⟩::rest) na C D F:=by
 intro A s hh out fr hz J a;haveI I:=Zh3 (R:=Jj na kk C D F) (target:=target) (it:= .ref it) (body:=body) (orelse:=orelse) (env:=env) (val:=val) (Z13 GO nn) (s:=s) J fun Q E hQ=>Z87 (ge:=ge) a Z Y X q W fun y j s' st'=> ?_
 ·exact cC I fun r s' h=>Z2l h
 ·haveI m:=h (s.heap.objs.size-8) s.toks hh out y j hz;rw[show aO (s.heap.objs.size-8) 8=s.heap.objs.size from bG a.rep.big] at m;exact hQ s' ⟨_,hs,m,st'⟩
theorem Zjt(GO:J5 v g){elt:Expr}{a:Comprehension}{m:Scope}{p:Pos}{acc:Value}{env:Env}(I:a.is_async=0)(hi:Zy gi=true)(hl:Zy gl=true)(he:Zy ge=true)(J:∀h,Y1 h gl->Y1 h ge)(Z:vs[k]?=some val)
  (h:∀(N T:Nat) (hh:Option Value) (out:List Env) (dd:Option Nat) (ss:Array (Option Value)),(z=true->hh=none)->Z5 (Z6z (Ql v g nn) elt a m p (.ref it) acc env val ⟨d,u,hh,frB xf out⟩ ⟨aO N 8,0,T,0,⟨it,Yv dd ss l (k+1),ge⟩::⟨l,LW.lst vs n,gl⟩::rest⟩ hs (Jj na kk C D F))):
  Yu v z xf d u (.compLoop (.ListComp elt [a] m p) 0 (.ref it) acc env) (⟨it,Yv dd ss l k,gi⟩::⟨l,LW.lst vs n,gl⟩::rest) na C D F:=by
 intro A s hh out fr hz Y j;haveI X:=Zr3 (R:=Jj na kk C D F) (elt:=elt) (g:=a) (k:=m) (p:=p) (it:= .ref it) (acc:=acc) (env:=env) (val:=val) (Z13 GO nn) (s:=s) Y I fun Q E hQ=>Z87 (ge:=ge) j hi hl he J Z fun W q s' st'=> ?_
 ·exact cC X fun r s' h=>Z2l h
 ·haveI y:=h (s.heap.objs.size-8) s.toks hh out W q hz;rw[show aO (s.heap.objs.size-8) 8=s.heap.objs.size from bG j.rep.big] at y;exact hQ s' ⟨_,hs,y,st'⟩
end
def G6(P:Params):G:=⟨[Z1h.ctr,Z14.ctr,Z3l.ctr,Zbq.ctr,(Zmz P).ctr,(Zbr P).ctr,(Zfi P).ctr,(Zbs P).ctr,Zdm.ctr,Zdn.ctr,Zul.ctr,(Zn4 P).ctr,(Zn5 P).ctr],[]⟩
theorem gk6:J5 (vW (w2 w b c)) (G6 w.params):=
 gC (Z86 _) (gC (Z34 _) (gC (Z6y _) (gC (Zdk _) (gC (Zr0 w b c) (gC (Zh0 w b c) (gC (Zkk w b c) (gC (Zdl w b c) (gC (Zbu _) (gC (Zbv _) (gC (J66 _) (gC (J0t w b c) (gC (J0u w b c) Ym))))))))))))
section
noncomputable def Zn9(i:Zmv):Code:= .call (.ref 95) ⟨[.ref i.1.a, .str i.3 i.4],[]⟩
open Classical in
noncomputable def Zg(L:List He)(n:Str):List He:=L.filter fun e=>decide (Z0 e.k≠n)
noncomputable def Z2m:List He->Nat->List He
 |[],_=>[]
 |e::l,i=>match rN i 2 with|0=>e::Z2m l (gG i 2)|_=>Z2m l (gG i 2)
def Zna(P:Params)(h:Hd)(L:List He)(U:Ph):Result×List Sl:=(.ok (.ret .none),Yc P (hdN h U 2) L)
theorem J67 {w:World}{b c:Bool}{g:G}{d u m:Nat}{k:Nat->Nat}{na:Nat->Nat}{co:Nat->Code}{P:Nat->List Sl}{C:Nat->Nat->Prop}{F:Nat->Nat->Ph->Result×List Sl}{p Q:Nat->Prop}(GO:J5 (vW (w2 w b c)) g)(hs:Bool->Nat->Hs)
  (h:∀N T,(aJ m).map (fun n=>W4 fun b c=>rnK (vW (w2 w b c)) g d u (co n) (P n) (hs c n) (Z2i (na n) k (C n) (F n)) N T)=(aJ m).map fun n=>X4 (fun b c=>rnK (vW (w2 w b c)) g d u (co n) (P n) (hs c n) (Z2i (na n) k (C n) (F n)) N T) (p n))
  (j:∀n,Q n->p n) (n:Nat) (q:n<m) (a:Q n):Qi (vW (w2 w b c)) true false d u (co n) (P n) (na n) (C n) (F n):=Z3f GO fun N T=>by
 haveI e:=congrArg (fun l=>l[n]?) (h N T);simp only[bE,bE,eM q] at e;exact g4 (f:=fun b c=>rnK (vW (w2 w b c)) g d u (co n) (P n) (hs c n) (Z2i (na n) k (C n) (F n)) N T) (cW e) (j n a) b c
theorem Znb {w:World}{b c:Bool}{g:G}{d u m:Nat}{k na:Nat}{co:Nat->Code}{P:Nat->List Sl}{C:Nat->Prop}{D:Nat->Nat->Ph->Prop}{F:Nat->Nat->Ph->Result×List Sl}{p Q:Nat->Prop}(GO:J5 (vW (w2 w b c)) g)(hs:Bool->Nat->Hs)
  (h:∀N T,(aJ m).map (fun n=>W4 fun b c=>rnK (vW (w2 w b c)) g d u (co n) (P n) (hs c n) (Jj na (fun y=>k) C (D n) (F n)) N T)=(aJ m).map fun n=>X4 (fun b c=>rnK (vW (w2 w b c)) g d u (co n) (P n) (hs c n) (Jj na (fun y=>k) C (D n) (F n)) N T) (p n))
  (q:∀n,n<m->Q n->p n) (n:Nat) (a:n<m) (j:Q n):Yu (vW (w2 w b c)) true false d u (co n) (P n) na C (D n) (F n):=Z2j GO fun N T=>by
 haveI e:=congrArg (fun l=>l[n]?) (h N T);simp only[bE,bE,eM a] at e;exact g4 (f:=fun b c=>rnK (vW (w2 w b c)) g d u (co n) (P n) (hs c n) (Jj na (fun y=>k) C (D n) (F n)) N T) (cW e) (q n a j) b c
theorem Zh4 {α:Type}(d:α){P:List α->Prop}{m:Nat}(h:∀(v:Nat->α) k,k<m->P ((aJ (k+1)).map v))(l:List α)(j:l≠[])(q:l.length<=m):P l:=by
 cases l with
 |nil=>exact absurd rfl j
 |cons a l=>
  obtain⟨v,e⟩:=Z4o d (rfl:(a::l).length=(a::l).length);rw[e];exact h v _ q
noncomputable def Zh5(f:He->Prop->Prop->Prop)(a:Nat->Prop):List He->Nat->Nat->Prop
 |[],_,m=>a m
 |e::l,b,m=>f e (Zh5 f a l (2*b) m) (Zh5 f a l (2*b) (m+b))
theorem Zkm {f:He->Prop->Prop->Prop}{a:Nat->Prop}{s:Str}:∀(l:List He)(b m:Nat),(∀e∈l,∀x y,(Z0 e.k≠s->x)->(¬Z0 e.k≠s->y)->f e x y)->(∀i,Zg l s=Z2m l i->a (m+b*i))->Zh5 f a l b m:=by
 intro J
 induction J with
 |nil=>
  intro _ _ _ h;exact h 0 rfl
 |cons e l ih=>
  intro b m k h;exact k e (.head _) _ _
   (fun q=>ih (2*b) m (fun e j=>k e (.tail _ j)) fun i I=>by
    have:=h (2*i) (by rw[Zg,mF,if_pos (decide_eq_true q),Z2m,show rN (2*i) 2=0 from Nat.mul_mod_right 2 i,show gG (2*i) 2=i from Nat.mul_div_cancel_left i iX];exact congrArg _ I)
    rwa[pN,<-rC] at this)
   (fun q=>ih (2*b) (m+b) (fun e j=>k e (.tail _ j)) fun i I=>by
    have:=h (2*i+1) (by rw[Zg,mF,if_neg (by simpa using q),Z2m,show rN (2*i+1) 2=1 by(show(2*i+1) % 2=1;lia),show gG (2*i+1) 2=i by(show(2*i+1)/2=i;lia)];exact I)
    rwa[Nat.mul_add,Nat.mul_one,pN,<-rC,jE (2*b*i),<-gW] at this)
noncomputable def Zfj(I:Nat->List Nat)(q a:List Nat)(y:Nat->List Nat->List Nat):Nat->Nat->Nat->Nat->List Nat->Hs
 |0,_,_,m,K=>hh (y m K.reverse) .nil
 |r+1,j,b,m,K=>hh (I j) (.two (hh q (Zfj I q a y r (j+1) (2*b) m (j::K))) (hh a (Zfj I q a y r (j+1) (2*b) (m+b) K)))
def Jf5(c:Bool)(n:Nat):Hs:=hh ([0,0,0,2,2,1,1,0,2,0,3,0,0,0,3,0,0,0,3,0,0,0,0,3,4,1,1,2,0,4,1,1,2,3,0,0,0,0,3,0,0,0,3,3,0,4,5,0,5,0,0,5,0,0,1,0]) (hh (match c with|true=>[0,3,0,3,0,3,3,8,0,3,3,1]|false=>[3,3,0,3,0,3,0,3,0,3,0,3,3,8,0,3,3,1])
 (Zfj (fun j=>[1,1,8,j,8,j,8,j,0,8,j,0,8,j,1,2,4,2]) [1,0,2,0,2,2,2,0,3,0,3,0,3,3,8,0,3,3,1] [0,3,0,3,0,3,3,8,0,3,3,1]
  (fun m K=>(match n with|0=>[]|_=>[3,3])++[3,7,8,0,0,0,0,8,0,0,0,8,8,0,9,11,0,11,0,0,11,0,11,10,0,0,0,4,0,m,8,0,9,0,10]++(match m with|0=>[0]|_=>2::K.length::K.flatMap fun j=>[10,j])) n 1 1 0 []))
theorem Zr4 {v:V}{P:Params}{h:Hd}{L:List He}{s:Str}{t:Nat}{na:Nat}(a:Qi v true false (Zf 3) (Ze 3) (Zn9 ⟨h,L,s,t⟩) (Yc P h L) na (fun i=>Zg L (Z0 s)=Z2m L i) (fun i=>Zna P h (Z2m L i))):
  J7 v true false (Zf 3) (Ze 3) (Zn9 ⟨h,L,s,t⟩) (Yc P h L) (Zna P h (Zg L (Z0 s))):=
 a.mono fun i y e=>⟨0,aX,trivial,fun U=>⟨U,by rw[e],by rw[e],rfl,rfl⟩⟩
theorem J68(h:Hd)(L:List He)(s:Str)(t:Nat)(a:s∈Z9++Zh)(I:Z0 s∈Z9)(J:Jp L):
  J7 (vW (w2 w b c)) true false (Zf 3) (Ze 3) (Zn9 ⟨h,L,s,t⟩) (Yc w.params h L) (Zna w.params h (Zg L (Z0 s))):=by
 obtain⟨g,W⟩:=J;refine Zr4 (na:=2^L.length) ?_
 revert g
 revert W
 revert L
 exact Z1i Zs fun v=>J67 (k:=fun z=>3) (p:=fun k=>s∈Z9++Zh/\∀_:Ph,Z0 s∈J2 true/\∀_:Ph,Zh5 (fun e x y=>e.k∈Z9++Zh/\∀_:Ph,(Z0 e.k≠Z0 s->x)/\(¬Z0 e.k≠Z0 s->y)) (fun m=>∀_:Ph,Zg ((aJ k).map v) (Z0 s)=Z2m ((aJ k).map v) m/\True) ((aJ k).map v) 1 0)
  (gk6 w b c) Jf5 (fun N T=>by kernel_rfl) (fun n (g:∀e∈(aJ n).map v,e.k∈Z9++Zh)=>⟨a,fun z=>⟨I,fun z=>Zkm _ _ _ (fun e j x y k1 k2=>⟨g e j,fun z=>⟨k1,k2⟩⟩) fun i q z=>⟨by rwa[dH,oK],trivial⟩⟩⟩)
def Zum(P:Params):Zi Zmv where
 code:=Zn9
 P i:=Yc P i.1 i.2
 cond i:=some (i.3∈Z9++Zh/\Z0 i.3∈Z9/\Jp i.2)
 F i _ U:=Zna P i.1 (Zg i.2 (Z0 i.3)) U
 k:=3
 ext c S:=match c with
  | .call _ ⟨[.ref _, .str s t],[]⟩=>(match Z1p S with
   |some (h,L)=>some ⟨h,L,s,t⟩
   |none=>none)
  |_=>none
 d:=Zf 3
 u:=Ze 3
 z:=true
theorem J69:Za (vW (w2 w b c)) (Zum w.params).ctr:=
 (Zum w.params).ok (fun i a=>J68 w b c i.1 i.2 i.3 i.4 (a _ rfl).1 (a _ rfl).2.1 (a _ rfl).2.2)
end
def G7(P:Params):G:=⟨(G6 P).ctr++[(Zum P).ctr],[]⟩
theorem gk7:J5 (vW (w2 w b c)) (G7 w.params):=
 ⟨fun f a=>(aG.mp a).elim ((gk6 w b c).ctr f) fun q=>by simp only[aM.mp q];exact J69 w b c,fun y a=>absurd a aD⟩
noncomputable def J6a(i:Z35):Code:= .call (.ref 90) ⟨[.ref i.1.a, .str i.3 i.4, .str i.5 i.6],[]⟩
def Jf6(P:Params)(i:Z35)(U:Ph):Result×List Sl:=Zn2 P i (Zg i.2 (Z0 i.3)) .none U
theorem Zh6(L:List He)(n:Str):(Zg L n).length<=L.length:=bY _ _
def Zun(P:Params):Zi Z35 where
 code:=J6a
 P i:=Yc P i.1 i.2
 cond i:=some (Z15 i.2 i.3 i.5)
 F i _ U:=Jf6 P i U
 k:=3
 nn _:=1
 ext c S:=Zn3 J6a c S
 d:=Zf 4
 u:=Ze 4
 z:=true
theorem J6b:Za (vW (w2 w b c)) (Zun w.params).ctr:=
 (Zun w.params).ok (fun i j=>zN4 (gk7 w b c) 4 (Z4 0x1afe00de498be23e0ef0decce95e .nil) (p:=(i.3∈Z9++Zh/\Z0 i.3∈Z9/\Jp i.2)/\∀I:Ph,(i.3∈J2 true)/\∀q:Ph,(i.5∈J2 false)/\∀m:Ph,((Zg i.2 (Z0 i.3)).length<=4)/\∀J:Ph,True) (fun y y=>by kernel_rfl) (by
    have a:nIn ⟨i.1,i.2,i.3,i.4,i.5,i.6⟩:=(j _ rfl);exact⟨⟨aG.mpr (.inl a.1),a.2.1,a.2.2.2⟩,fun y=>⟨a.1,fun y=>⟨a.2.2.1,fun y=>⟨aK (Zh6 _ _) a.2.2.2.2,fun y=>trivial⟩⟩⟩⟩)) (fun y y y y=>rfl)
abbrev Zuo:=I2 Str Nat
abbrev Zup:=I2 Int Nat
noncomputable def Jf7(i:Zuo):Code:= .call (.type "int") ⟨[.str i.1 i.2],[]⟩
noncomputable def Jf8(i:Zup):Code:= .call (.type "str") ⟨[.int i.1 i.2],[]⟩
def Yh:List Str:=[st "0",st "1",st "2",st "3",st "4",st "5",st "6",st "7",st "8",st "9",st "10",st "11",st "12"]
def Zj(n:Int):Str:=Yh.getD n.toNat (st "0")
def valN(s:Str):Int:=Int.ofNat (Yh.findIdx (fun x=>x==s))
def Jf9(i:Zuo)(U:Ph):Result×List Sl:=(.ok (.ret (.int (valN i.1) (Z6 U.rv))),[])
def Jfa(i:Zup)(U:Ph):Result×List Sl:=(.ok (.ret (.str (Zj i.1) (Z6 U.rv))),[])
def Zao:Zi Zuo where
 code:=Jf7
 P _:=[]
 cond i:=some (i.1∈Yh)
 F i _ U:=Jf9 i U
 k:=0
 ext c _:=match c with
  | .call _ ⟨[.str s t],[]⟩=>some ⟨s,t⟩
  |_=>none
 d:=Zf 0
 u:=Ze 0
def Znc:Zi Zup where
 code:=Jf8
 P _:=[]
 cond i:=some (0<=i.1/\i.1<=12)
 F i _ U:=Jfa i U
 k:=0
 ext c _:=match c with
  | .call _ ⟨[.int n t],[]⟩=>some ⟨n,t⟩
  |_=>none
 d:=Zf 0
 u:=Ze 0
theorem Z88(w:World):Za (vW w) Zao.ctr:=by
 refine Zao.ok (fun i a=> ?_);obtain⟨s,t⟩:=i;obtain⟨k,m,rfl⟩:=Z3k (a _ rfl) (st "0");clear a;refine Jk Ym (n:=100000) (k:=0) (hs:=Zfe .nil) fun N T j y=> ?_
 revert k
 exact J6 (P:=fun y=>True) (by kernel_rfl) (fun y y=>trivial)
theorem Zr5:Za (vW (w2 w b c)) Znc.ctr:=by
 refine Znc.ok (fun i m=> ?_);obtain⟨n,t⟩:=i;obtain⟨j,a⟩:=m _ rfl;obtain⟨k,rfl⟩:=bU j;have I:k<13:=by simp only at a;exact Zm [] [_] [.z Zr (.n 12)] (.n Y8 (.n 13)) rfl a
 clear m j a;refine Jk Ym (n:=100000) (k:=0) (hs:=Z4 0x1000de0de .nil) fun N T q y=> ?_
 revert k
 refine J6 (P:=fun y=>True) ?_ (fun y y=>trivial);cases b<;>cases c<;>kernel_rfl
section
open PySem.F
section
variable {prog:Program}{w:World}{A:Around}{E:Value->Shared->Prop}{s:Shared}
theorem Zf3 {a b:Addr}{c1 c2:Int}{t1 t2 u1 u2:Nat}{k1 k2:Str}{Q:PySem.Fin->Shared->Prop}(j:s.heap.get? a=some (Yf (.int c1 t1) (.str k1 u1)))(q:s.heap.get? b=some (Yf (.int c2 t2) (.str k2 u2)))
  (h:Q (.done (.ret (.bool (decide (c1<c2\/(c1=c2/\k1.cps.toList<k2.cps.toList)))))) s):aU (cP prog w) A (Builtin.«tuple.__lt__» ⟨[.ref a, .ref b],[]⟩) Q E s:=by
 obtain⟨m,g,d,tk,J⟩:=s;dsimp only at j q;have hs:isSubtype (.type "tuple") (.type "tuple")=pure true:=by rw[isSubtype_type];kernel_rfl
 wp_walk
 refine nN hs ?_;rw[if_neg (by decide)];have y:sQ m a #[.int c1 t1, .str k1 u1]:=⟨_,j,rfl,0,rfl⟩;have I:sQ m b #[.int c2 t2, .str k2 u2]:=⟨_,q,rfl,0,rfl⟩;refine aA (tupleItemsOf_ y (aA (tupleItemsOf_ I ?_)));show aU _ _ (forIn [(Value.int c1 t1,Value.int c2 t2),(Value.str k1 u1,Value.str k2 u2)] (none,()) _>>=_) _ _ _;refine aA ?_;rw[gU];refine aA (aA (rO ?_))
 by_cases e1:c1=c2
 ·subst e1;simp only[beq_self_eq_true,iQ,cA,if_false];refine aH ?_;simp only;rw[gU];refine aA (aA (eqBool_str ?_))
  by_cases e2:k1=k2
  ·subst e2;simp only[beq_self_eq_true,iQ,cA,if_false];refine aH ?_;simp only[jG];refine aH ?_;have:decide (c1<c1\/c1=c1/\k1.cps.toList<k1.cps.toList)=false:=by
    simp[nF]
   rw[this] at h;exact aH h
  ·simp only[beq_eq_false_iff_ne.mpr e2,iB,if_true];refine aA (jU (aA ?_));refine(show aU _ _ (iW .Lt (.str k1 u1) (.str k2 u2)) _ _ _ from nB ?_);refine aA (aH ?_);refine aH ?_;refine aH ?_;have:decide (c1<c1\/c1=c1/\k1.cps.toList<k2.cps.toList)=decide (k1.cps.toList<k2.cps.toList):=by simp
   rw[this] at h;exact aH h
 ·simp only[beq_eq_false_iff_ne.mpr e1,iB,if_true];refine aA (jU (aA ?_));refine(show aU _ _ (iW .Lt (.int c1 t1) (.int c2 t2)) _ _ _ from wpAny_lt_int ?_);refine aA (aH ?_);refine aH ?_;refine aH ?_;have:decide (c1<c2\/c1=c2/\k1.cps.toList<k2.cps.toList)=decide (c1<c2):=by simp[e1]
  rw[this] at h;exact aH h
end
end
section
open PySem.F PySem.SeqAt PyProof.V
set_option genInjectivity true in
inductive Dt where
 |hs (l:List (Str×Str))
 |is (l:List (Int×Str))
 |ii (l:List Int)
noncomputable def He.kv(e:He):Str×Str:=(e.k,e.v)
noncomputable def Is.ck(e:Is):Int×Str:=(e.c,e.k)
noncomputable def pyS(p:Str×Str):PyData:= .tuple [.str p.1, .str p.2]
noncomputable def pyI(p:Int×Str):PyData:= .tuple [.int p.1, .str p.2]
def Dt.py:Dt->PyData
 | .hs l=> .list (l.map pyS)
 | .is l=> .list (l.map pyI)
 | .ii l=> .list (l.map .int)
def Dt.ok:Dt->Prop
 | .hs l=>∀p∈l,cF p.1=true/\cF p.2=true
 | .is l=>∀p∈l,cF p.2=true
 | .ii _=>True
noncomputable def Znd:Dt->Dt->Bool
 | .hs _, .hs _=>true
 | .is _, .is _=>true
 | .ii _, .ii _=>true
 |_,_=>false
noncomputable def Zc:List Value->Option (List Int):=fun l=>List.rec (some []) (fun v y a=>match v with| .int x _=>(match a with|some r=>some (x::r)|none=>none)|_=>none) l
def Zdp(s:Sl):Option (Dt×Obj):=match s.g with
 | .hs L=>some (.hs (L.map He.kv),lst (L.map He.ref) (Z3 s.o))
 | .is L=>some (.is (L.map Is.ck),lst (L.map Is.ref) (Z3 s.o))
 | .no=>(match Zc (Z1 s.o) with|some l=>some (.ii l,lst (Z1 s.o) (Z3 s.o))|none=>none)
 |_=>none
def Z3r(c:Prop)(lg:Lg)(hs:Hs)(R:Bool->Lg->Hs->Z8):Z8:=pop (.prim 16 none .none .none lg) hs fun d hs=>match d with
 |0=>split c lg hs R
 |1=>Z8.cond c (R true lg hs)
 |_=>Z8.cond (¬c) (R false lg hs)
theorem Qt {c:Prop}{lg:Lg}{hs:Hs}{R:Bool->Lg->Hs->Z8}(h:Z5 (Z3r c lg hs R)):∃q m,(c->Z5 (R true lg q))/\(¬c->Z5 (R false lg m)):=by
 unfold Z3r at h;obtain⟨d,j,h⟩:=J4 h
 split at h
 ·exact Z6r h
 ·obtain⟨a,b⟩:=Y4 h;exact⟨j,j,fun y=>b,fun n=>absurd a n⟩
 ·obtain⟨a,b⟩:=Y4 h;exact⟨j,j,fun n=>absurd n a,fun y=>b⟩
def fEq:Cmp:=fun x y a b lg hs R=>match dE x.u 9000 with
 |true=>pop (.prim 17 none a .none lg) hs fun i hs=>pop (.prim 17 none b .none lg) hs fun j hs=>(match lg.at i with
  |some q=>(match lg.at j with
   |some m=>Z4a lg q hs fun q hs=>Z4a lg m hs fun m hs=>(match Zdp q with
    |some d1=>(match Zdp m with
     |some d2=>(match Znd d1.1 d2.1 with
      |true=>Z8.ob (.val a) (.val (.ref q.a)) (Z8.ob (.val b) (.val (.ref m.a)) (Z8.ob (.obj q.o) (.obj d1.2) (Z8.ob (.obj m.o) (.obj d2.2) (Z8.cond (d1.1.ok/\d2.1.ok) (match y with
       | .Eq=>Z3r (d1.1=d2.1) lg hs R
       | .NotEq=>Z3r (d1.1≠d2.1) lg hs R
       |_=>Zd "eq: operator")))))
      |false=>Zd "eq: kinds")
     |none=>Zd "eq: right")
    |none=>Zd "eq: left")
   |none=>Zd "eq: slot")
  |none=>Zd "eq: slot")
 |false=>Zd "eq: room"
def ltP(c1:Int)(k1:Str)(c2:Int)(k2:Str):Prop:=c1<c2\/(c1=c2/\k1.cps.toList<k2.cps.toList)
def fLt:Cmp:=fun x j a b lg hs R=>match dE x.u 9000 with
 |true=>Z4k lg hs fun p hs=>Z4k lg hs fun q hs=>(match Z6v p with
  |some e1=>(match Z6v q with
   |some e2=>Z8.ob (.val a) (.val (.ref e1.a)) (Z8.ob (.val b) (.val (.ref e2.a)) (Z8.ob (.obj p.2) (.obj (isO e1)) (Z8.ob (.obj q.2) (.obj (isO e2)) (match j with
    | .Lt=>Z3r (ltP e1.c e1.k e2.c e2.k) lg hs R
    |_=>Zd "lt: operator"))))
   |none=>Zd "lt: right")
  |none=>Zd "lt: left")
 |false=>Zd "lt: room"
def fIn:Cmp:=fun x j a b lg hs R=>Z4k lg hs fun p hs=>(match a with
 | .str y t=>(match p.2.data with
  | .seq vs n=>(match vs.toList with
   |[.str y1 t1, .str y2 t2]=>Z8.ob (.val b) (.val (.ref p.1)) (Z8.ob (.obj p.2) (.obj (Yf (.str y1 t1) (.str y2 t2))) (match j with
    | .NotIn=>Z3r (¬(y1=y\/y2=y)) lg hs R
    |_=>Zd "in: operator"))
   |_=>Zd "in: what")
  |_=>Zd "in: no tuple")
 |_=>Zd "in: no text")
section
variable {prog:Program}{w:World}{A:Around}{E:Value->Shared->Prop}{s:Shared}
theorem Zuq {a b:Addr}{c1 c2:Int}{t1 t2 u1 u2:Nat}{k1 k2:Str}{Q:Value->Shared->Prop}(m:s.heap.get? a=some (Yf (.int c1 t1) (.str k1 u1)))(q:s.heap.get? b=some (Yf (.int c2 t2) (.str k2 u2)))
  (I:A.units<qA) (h:Q (.bool (decide (c1<c2\/(c1=c2/\k1.cps.toList<k2.cps.toList)))) s):aU (cP prog w) A (iW .Lt (.ref a) (.ref b)) Q E s:=by
 have j:sQ s.heap a #[.int c1 t1, .str k1 u1]:=⟨_,m,rfl,0,rfl⟩;haveI y:sQ s.heap b #[.int c2 t2, .str k2 u2]:=⟨_,q,rfl,0,rfl⟩;show aU _ _ (richCompare .Lt (.ref a) (.ref b)) _ _ _;refine wpAny_richCompare_same_room j.typeIs y.typeIs slot_tuple_lt ?_ I;exact iY slot_tuple_lt j.typeIs entry_tuple_lt (Zf3 m q ⟨_,rfl,by simp,h⟩) (args_tuple_lt_2 _ _)
theorem Zur {h:Heap}:∀{L:List He},Y1 h (.hs L)->ReadsAll h (L.map He.ref) ((L.map He.kv).map pyS) []:=by
 intro a
 induction a with
 |nil=>
  intro _;exact .nil
 |cons e L ih=>
  intro g;haveI j:=g e (.head _);haveI q:ReadsAll h [Value.str e.k e.kt, .str e.v e.vt] [.str e.k, .str e.v] []:= .cons (as:=[]) (.str _ _) (.cons (as:=[]) (.str _ _) .nil);exact .cons (as:=[]) (Reads.tuple j rfl rfl q) (ih fun e m=>g e (.tail _ m))
theorem Zus {h:Heap}:∀{L:List Is},Y1 h (.is L)->ReadsAll h (L.map Is.ref) ((L.map Is.ck).map pyI) []:=by
 intro a
 induction a with
 |nil=>
  intro _;exact .nil
 |cons e L ih=>
  intro g;haveI j:=g e (.head _);haveI q:ReadsAll h [Value.int e.c e.ct, .str e.k e.kt] [.int e.c, .str e.k] []:= .cons (as:=[]) (.int _ _) (.cons (as:=[]) (.str _ _) .nil);exact .cons (as:=[]) (Reads.tuple j rfl rfl q) (ih fun e m=>g e (.tail _ m))
set_option tactic.hygienic true in theorem Zut {h:Heap}:∀{vs:List Value}{l:List Int},Zc vs=some l->ReadsAll h vs (l.map PyData.int) []:=by
 intro z0_
 induction z0_ with
 |nil=>
  intro l e;cases e;exact .nil
 |cons v vs ih=>
  intro l e;cases v with
  |int x t=>
   haveI e':(match Zc vs with|some r=>some (x::r)|none=>none)=some l:=e;refine Z7 fun k'=> ?_
   split at e'
   ·rename_i r q;cases e';exact k' (.cons (as:=[]) (.int _ _) (ih q))
   ·contradiction
  |_=>exact nomatch e
set_option tactic.hygienic true in theorem Z70 {h:Heap}{sl:Sl}{d:Dt×Obj}(e:Zdp sl=some d)(ok:Ji h sl)(eo:sl.o=d.2):Reads h (.ref sl.a) d.1.py [sl.a]:=by
 unfold Zdp at e;unfold Ji at ok;refine Z7 fun k'=> ?_
 split at e
 ·rename_i L q;cases e;rw[q] at ok;exact k' (Reads.list (as:=[]) (eo▸ok.1) rfl rfl (Zur ok.2))
 ·rename_i L q;cases e;rw[q] at ok;exact k' (Reads.list (as:=[]) (eo▸ok.1) rfl rfl (Zus ok.2))
 ·rename_i q;rw[q] at ok
  split at e
  ·rename_i l q2;cases e;exact k' (Reads.list (as:=[]) (eo▸ok.1) rfl rfl (Zut q2))
  ·contradiction
 ·contradiction
theorem J6c:∀{l:List (Str×Str)},(∀p∈l,cF p.1=true/\cF p.2=true)->eB (l.map pyS)=true/\eY (l.map pyS)<=2:=by
 intro m
 induction m with
 |nil=>
  intro _;simp[eB,eY]
 |cons p l ih=>
  intro h;obtain⟨a,b⟩:=ih fun q y=>h q (.tail _ y);haveI j:=h p (.head _);haveI c:=j.1;haveI d:=j.2;constructor
  ·simp[eB,dZ,pyS,c,d,a]
  ·simp only[aP,eY,pyS,fB] at b⊢;lia
theorem J6d:∀{l:List (Int×Str)},(∀p∈l,cF p.2=true)->eB (l.map pyI)=true/\eY (l.map pyI)<=2:=by
 intro j
 induction j with
 |nil=>
  intro _;simp[eB,eY]
 |cons p l ih=>
  intro h;obtain⟨a,b⟩:=ih fun q m=>h q (.tail _ m);haveI c:=h p (.head _);constructor
  ·simp[eB,dZ,pyI,c,a]
  ·simp only[aP,eY,pyI,fB] at b⊢;lia
theorem Z0l:∀{d:Dt},d.ok->shaped d.py=true
 | .hs l,h=>by
  obtain⟨a,b⟩:=J6c h;show(dZ (.list (l.map pyS))&&decide (fB (.list (l.map pyS))<=64))=true;simp only[fM];exact⟨by simp only[dZ];exact a,decide_eq_true (by simp only[fB];exact Zm [] [_] [.n Zr Zfy] Zlt rfl b)⟩
 | .is l,h=>by
  obtain⟨a,b⟩:=J6d h;show(dZ (.list (l.map pyI))&&decide (fB (.list (l.map pyI))<=64))=true;simp only[fM];exact⟨by simp only[dZ];exact a,decide_eq_true (by simp only[fB];exact Zm [] [_] [.n Zr Zfy] Zlt rfl b)⟩
 | .ii l,_=>shaped_ints l
theorem J6e:∀l m:List (Str×Str),noMixAll (l.map pyS) (m.map pyS)=true:=by
 intro j
 induction j with
 |nil=>
  intro a;cases a with
  |nil=>
   simp[noMixAll]
  |cons _ _=>
   simp[noMixAll]
 |cons _ r ih=>
  intro a;cases a with
  |nil=>
   simp[noMixAll]
  |cons _ q=>
   simp[noMixAll,noMix,pyS,ih q]
theorem J6f:∀l m:List (Int×Str),noMixAll (l.map pyI) (m.map pyI)=true:=by
 intro j
 induction j with
 |nil=>
  intro a;cases a with
  |nil=>
   simp[noMixAll]
  |cons _ _=>
   simp[noMixAll]
 |cons _ r ih=>
  intro a;cases a with
  |nil=>
   simp[noMixAll]
  |cons _ q=>
   simp[noMixAll,noMix,pyI,ih q]
theorem Zbw:∀d e:Dt,Znd d e=true->noMix d.py e.py=true
 | .hs l, .hs m,_=>by dsimp only[Dt.py,noMix];exact J6e l m
 | .is l, .is m,_=>by dsimp only[Dt.py,noMix];exact J6f l m
 | .ii l, .ii m,_=>by dsimp only[Dt.py,noMix];exact noMix_ints l m
 | .hs _, .is _,h=>nomatch h
 | .hs _, .ii _,h=>nomatch h
 | .is _, .hs _,h=>nomatch h
 | .is _, .ii _,h=>nomatch h
 | .ii _, .hs _,h=>nomatch h
 | .ii _, .is _,h=>nomatch h
open Classical in
theorem Zkn:∀l m:List (Str×Str),PySem.Spec.sameAll (l.map pyS) (m.map pyS)=decide (l=m)
 |[],[]=>by simp[PySem.Spec.sameAll]
 |[],_::_=>by simp[PySem.Spec.sameAll]
 |_::_,[]=>by simp[PySem.Spec.sameAll]
 |(a,b)::r,(c,d)::q=>by
  simp only[aP,PySem.Spec.sameAll,pyS,PySem.Spec.same,Zkn r q]
  by_cases h1:a=c<;>by_cases h2:b=d<;>by_cases h3:r=q<;>simp[h1,h2,h3]
open Classical in
theorem Zko:∀l m:List (Int×Str),PySem.Spec.sameAll (l.map pyI) (m.map pyI)=decide (l=m)
 |[],[]=>by simp[PySem.Spec.sameAll]
 |[],_::_=>by simp[PySem.Spec.sameAll]
 |_::_,[]=>by simp[PySem.Spec.sameAll]
 |(a,b)::r,(c,d)::q=>by
  simp only[aP,PySem.Spec.sameAll,pyI,PySem.Spec.same,Zko r q]
  by_cases h1:a=c<;>by_cases h2:b=d<;>by_cases h3:r=q<;>simp[h1,h2,h3]
open Classical in
theorem Z9d:∀d e:Dt,Znd d e=true->PySem.Spec.same d.py e.py=decide (d=e)
 | .hs l, .hs m,_=>by dsimp only[Dt.py,PySem.Spec.same];rw[Zkn];simp
 | .is l, .is m,_=>by dsimp only[Dt.py,PySem.Spec.same];rw[Zko];simp
 | .ii l, .ii m,_=>by dsimp only[Dt.py,PySem.Spec.same];rw[same_ints];simp
 | .hs _, .is _,h=>nomatch h
 | .hs _, .ii _,h=>nomatch h
 | .is _, .hs _,h=>nomatch h
 | .is _, .ii _,h=>nomatch h
 | .ii _, .hs _,h=>nomatch h
 | .ii _, .is _,h=>nomatch h
end
set_option tactic.hygienic true in theorem Zne(v:V):Z1t v fEq:=by
 intro s0 op a b x lg hs R E A s hg hst ha;unfold fEq at hg
 split at hg
 ·rename_i hu;haveI hu':A.units+64<qA:=by
   haveI h1:=aW hu;haveI h2:=ha.units;show _<9900;exact Zm [] [_,_] [Yl,Zg1] Zlu rfl h2 h1
  refine Z7 fun k'=> ?_;obtain⟨i,hs1,hg⟩:=J4 hg;obtain⟨j,hs2,hg⟩:=J4 hg
  split at hg
  ·rename_i s1 e1
   split at hg
   ·rename_i s2 e2;haveI m1:=aZ (Qq (b:=lg.b) (m:=lg.m) (t:=lg.t) (i:=lg.i) e1);haveI m2:=aZ (Qq (b:=lg.b) (m:=lg.m) (t:=lg.t) (i:=lg.i) e2);obtain⟨s1,hs3,_,k1,hg⟩:=Z4l hst.old m1 hg;obtain⟨s2,hs4,_,k2,hg⟩:=Z4l hst.old m2 hg
    split at hg
    ·rename_i d1 q1
     split at hg
     ·rename_i d2 q2
      split at hg
      ·rename_i hk;obtain⟨ea,hg1⟩:=J0 hg;obtain⟨eb,hg2⟩:=J0 hg1;obtain⟨eo1,hg3⟩:=J0 hg2;obtain⟨eo2,hg4⟩:=J0 hg3;obtain⟨ok,hg5⟩:=Y4 hg4;clear hg hg1 hg2 hg3 hg4;injection ea with ea;injection eb with eb;injection eo1 with eo1;injection eo2 with eo2
       subst ea eb;haveI r1:=Z70 q1 k1 eo1;haveI r2:=Z70 q2 k2 eo2
       split at hg5
       ·obtain⟨h1,h2,ht,hf⟩:=Qt hg5;refine k' ?_;refine oL r1 r2 (Z0l ok.1) (Z0l ok.2) hu' (Zbw _ _ hk) ?_;rw[Z9d _ _ hk];refine⟨_,rfl, ?_⟩
        by_cases c:d1.1=d2.1
        ·simp only[c,decide_true];exact⟨lg,h1,ht c,hst⟩
        ·simp only[c,decide_false];exact⟨lg,h2,hf c,hst⟩
       ·obtain⟨h1,h2,ht,hf⟩:=Qt hg5;refine k' ?_;refine mG r1 r2 (Z0l ok.1) (Z0l ok.2) hu' (Zbw _ _ hk) ?_;rw[Z9d _ _ hk];refine⟨_,rfl, ?_⟩
        by_cases c:d1.1=d2.1
        ·simp only[c,decide_true,iQ];exact⟨lg,h2,hf (fun n=>n c),hst⟩
        ·simp only[c,decide_false,iB];exact⟨lg,h1,ht c,hst⟩
       ·exact Z2 hg5
      ·exact Z2 hg
     ·exact Z2 hg
    ·exact Z2 hg
   ·exact Z2 hg
  ·exact Z2 hg
 ·exact(Z2 hg).elim
set_option tactic.hygienic true in theorem Znf(v:V):Z1t v fLt:=by
 intro s0 op a b x lg hs R E A s hg hst ha;unfold fLt at hg;refine Z7 fun k'=> ?_
 split at hg
 ·rename_i hu;haveI hu':A.units<qA:=by
   haveI h1:=aW hu;haveI h2:=ha.units;show _<9900;exact Zm [] [_,_] [Yl,Zg1] (.n Y8 Zti) rfl h2 h1
  obtain⟨p,hs1,hp,hg⟩:=Z0k hst.old hg;obtain⟨q,hs2,hq,hg⟩:=Z0k hst.old hg
  split at hg
  ·rename_i e1 q1
   split at hg
   ·rename_i e2 q2;obtain⟨ea,hg1⟩:=J0 hg;obtain⟨eb,hg2⟩:=J0 hg1;obtain⟨eo1,hg3⟩:=J0 hg2;obtain⟨eo2,hg4⟩:=J0 hg3;clear hg hg1 hg2 hg3;injection ea with ea;injection eb with eb;injection eo1 with eo1;injection eo2 with eo2
    subst ea eb
    split at hg4
    ·refine k' ?_;refine Z7 fun k'=> ?_;obtain⟨h1,h2,ht,hf⟩:=Qt hg4;refine k' ?_;refine Zuq (c1:=e1.c) (c2:=e2.c) (t1:=e1.ct) (t2:=e2.ct) (k1:=e1.k) (k2:=e2.k) (u1:=e1.kt) (u2:=e2.kt) (by simp only[Zbk p e1 q1,hp,eo1];rfl) (by simp only[Zbk q e2 q2,hq,eo2];rfl) hu' ?_;refine⟨_,rfl, ?_⟩
     by_cases c:ltP e1.c e1.k e2.c e2.k
     ·have c':e1.c<e2.c\/e1.c=e2.c/\e1.k.cps.toList<e2.k.cps.toList:=c;rw[decide_eq_true c'];exact⟨lg,h1,ht c,hst⟩
     ·have c':¬(e1.c<e2.c\/e1.c=e2.c/\e1.k.cps.toList<e2.k.cps.toList):=c;rw[decide_eq_false c'];exact⟨lg,h2,hf c,hst⟩
    ·exact Z2 hg4
   ·exact Z2 hg
  ·exact Z2 hg
 ·exact Z2 hg
set_option tactic.hygienic true in theorem Zng(v:V):Z1t v fIn:=by
 intro s0 op a b x lg hs R E A s hg hst ha;unfold fIn at hg;refine Z7 fun k'=> ?_;obtain⟨p,hs1,hp,hg⟩:=Z0k hst.old hg
 split at hg
 ·rename_i y t _
  split at hg
  ·rename_i vs n hd
   split at hg
   ·rename_i y1 t1 y2 t2 hv;obtain⟨eb,hg1⟩:=J0 hg;obtain⟨eo,hg2⟩:=J0 hg1;clear hg hg1;injection eb with eb;injection eo with eo
    subst eb
    split at hg2
    ·refine k' ?_;refine Z7 fun k'=> ?_;obtain⟨h1,h2,ht,hf⟩:=Qt hg2;haveI ht1:sQ s.heap p.1 #[.str y1 t1, .str y2 t2]:=⟨_,by rw[hp,eo],rfl,0,rfl⟩;refine k' ?_;refine notin_tuple_strs ht1 (.cons y1 t1 (.cons y2 t2 .nil)) ?_;refine⟨_,rfl, ?_⟩
     by_cases c:y1=y\/y2=y
     ·have:(![y1,y2].any (·==y))=false:=by rcases c with c|c<;>simp[c]
      rw[this];exact⟨lg,h2,hf (fun z=>z c),hst⟩
     ·have:(![y1,y2].any (·==y))=true:=by
       rw[not_or] at c;simp[c.1,c.2]
      rw[this];exact⟨lg,h1,ht c,hst⟩
    ·exact Z2 hg2
   ·exact Z2 hg
  ·exact Z2 hg
 ·exact Z2 hg
end
def Z0o:List Cmp:=[fEq,fLt,fIn]
theorem Z01(v:V):∀f∈Z0o,Z1t v f:=by
 intro f a;simp only[Z0o,aC,aD,or_false] at a;rcases a with rfl|rfl|rfl
 ·exact Zne v
 ·exact Znf v
 ·exact Zng v
def GB:G:=⟨[],Z0o⟩
theorem gkB {v:V}:J5 v GB:=⟨fun y a=>absurd a aD,Z01 v⟩
section
abbrev Z4p:=I4 Nat Nat (List Is) Is
noncomputable def Zuu(i:Z4p):Code:= .call (.ref 257) ⟨[.ref i.1, .ref i.4.a],[]⟩
noncomputable def Zys(i:Z4p):Code:= .call (.ref 248) ⟨[.ref i.1, .ref i.4.a],[]⟩
noncomputable def Zyt(i:Z4p):Code:= .call (.ref 230) ⟨[.ref i.1, .ref i.4.a],[]⟩
def Z89(i:Z4p):List Sl:=[⟨i.1,lst (i.3.map Is.ref) i.2, .is i.3⟩,⟨i.4.a,isO i.4, .no⟩]
noncomputable def Zo:Is:=⟨0,0,0,⟨⟨[]⟩⟩,0⟩
def ltI(a b:Is):Prop:=ltP a.c a.k b.c b.k
open Classical in
noncomputable def Y7(f:Nat->Prop):Nat->Nat->Nat->Nat
 |0,lo,_=>lo
 |n+1,lo,hi=>if lo<hi then(if f ((lo+hi)/2) then Y7 f n ((lo+hi)/2+1) hi else Y7 f n lo ((lo+hi)/2)) else lo
def Ju(L:List Is)(x:Is):Nat:=Y7 (fun i=>ltI (L.getD i Zo) x) 8 0 L.length
def Z4q(L:List Is)(x:Is):Nat:=Y7 (fun i=>¬ltI x (L.getD i Zo)) 8 0 L.length
def Zuv(i:Z4p)(a:Nat)(U:Ph):Result×List Sl:=(.ok (.ret (.int (Int.ofNat a) (Z6 U.rv))),Z89 i)
noncomputable def insI(L:List Is)(a:Nat)(x:Is):List Is:=L.take a++x::L.drop a
def Znh(i:Z4p)(a:Nat)(U:Ph):Result×List Sl:=(.ok (.ret .none),[⟨i.1,lst ((insI i.3 a i.4).map Is.ref) (Z3 (U.w 0).o), .is (insI i.3 a i.4)⟩,⟨i.4.a,isO i.4, .no⟩])
noncomputable def Z3s(r:Bool)(c e:Nat->Prop):Nat->Nat->Nat->Prop
 |0,lo,_=>e lo/\True
 |f+1,lo,hi=>match fJ lo hi with
  |true=>(match r with
   |false=>(c ((lo+hi)/2)->Z3s r c e f ((lo+hi)/2+1) hi)/\(¬c ((lo+hi)/2)->Z3s r c e f lo ((lo+hi)/2))
   |true=>(c ((lo+hi)/2)->Z3s r c e f lo ((lo+hi)/2))/\(¬c ((lo+hi)/2)->Z3s r c e f ((lo+hi)/2+1) hi))
  |false=>e lo/\True
def Z1v(r:Bool)(p:Prop):Prop:=match r with|false=>p|true=>¬p
theorem Z4c {r:Bool}{c e:Nat->Prop}:∀{f j a:Nat},e (Y7 (fun i=>Z1v r (c i)) f j a)->Z3s r c e f j a:=by
 intro m
 induction m with
 |zero=>
  intro _ _ h;exact⟨h,trivial⟩
 |succ f ih=>
  intro j a h;dsimp only[Y7] at h;dsimp only[Z3s];cases q:fJ j a with
  |false=>
   rw[if_neg fun z=>by rw[Z.blt_iff.mpr z] at q;cases q] at h;exact⟨h,trivial⟩
  |true=>
   rw[if_pos (Z.blt_iff.mp q)] at h;cases r with
   |false=>exact⟨fun k=>ih (by rw[if_pos (show Z1v false _ from k)] at h;exact h),fun k=>ih (by rw[if_neg (show¬Z1v false _ from k)] at h;exact h)⟩
   |true=>exact⟨fun k=>ih (by rw[if_neg (show¬Z1v true _ from fun z=>z k)] at h;exact h),fun k=>ih (by rw[if_pos (show Z1v true _ from k)] at h;exact h)⟩
theorem Zju {p q:Nat->Prop}{m:Nat}(h:∀i,i<m->(p i↔q i)):∀(f j a:Nat),a<=m->Y7 p f j a=Y7 q f j a:=by
 intro I
 induction I with
 |zero=>
  intro _ _ _;exact rfl
 |succ f ih=>
  intro j a J;dsimp only[Y7]
  by_cases z:j<a
  ·haveI k:=h ((j+a)/2) (by lia);rw[if_pos z,if_pos z,ih _ a J,ih j _ (by lia)]
   by_cases y:p ((j+a)/2)
   ·rw[if_pos y,if_pos (k.mp y)]
   ·rw[if_neg y,if_neg fun z=>y (k.mpr z)]
  ·rw[if_neg z,if_neg z]
theorem Z8a {p:Is->Prop}{v:Nat->Is}{r:Bool}{c:Nat->Prop}{z k:Nat}(e:z=Y7 (fun i=>p (((aJ k).map v).getD i Zo)) 8 0 ((aJ k).map v).length)(a:∀i,p (v i)=Z1v r (c i)):z=Y7 (fun i=>Z1v r (c i)) 8 0 k:=by
 simp only[e,aE,dK];refine Zju (m:=k) (fun i j=> ?_) 8 0 k (cB k);simp only[aI,bE,eM j];exact iff_of_eq (a i)
theorem Zkp(v:Nat->Is)(x:Is)(k:Nat):Ju ((aJ k).map v) x=Y7 (fun i=>Z1v false (ltP (v i).c (v i).k x.c x.k)) 8 0 k:=Z8a (p:=fun e=>ltI e x) rfl fun y=>rfl
theorem J0v(v:Nat->Is)(x:Is)(k:Nat):Z4q ((aJ k).map v) x=Y7 (fun i=>Z1v true (ltP x.c x.k (v i).c (v i).k)) 8 0 k:=Z8a (p:=fun e=>¬ltI x e) rfl fun y=>rfl
theorem Qi.more {v:V}{z xf:Bool}{d u:Nat}{c:Code}{P:List Sl}{na a:Nat}{C:Nat->Prop}{F:Nat->Ph->Result×List Sl}(h:Qi v z xf d u c P na C F)(q:na<=a):Qi v z xf d u c P a C F:=
 h.mono fun i j m=>⟨i,hI j q,m,fun U=>⟨U,rfl,rfl,rfl,rfl⟩⟩
theorem Qi.one {v:V}{z xf:Bool}{d u:Nat}{c:Code}{P:List Sl}{na:Nat}{C:Nat->Prop}{F:Nat->Ph->Result×List Sl}{k:Nat}(h:Qi v z xf d u c P na C F)(q:∀i,C i->i=k):J7 v z xf d u c P (F k):=
 h.mono fun i y a=>⟨0,aX,trivial,fun U=>⟨U,by rw[q i a],by rw[q i a],rfl,rfl⟩⟩
noncomputable def Z71(r:Bool)(j:Nat->Nat->List Nat)(p q:Nat->List Nat)(a:Nat->Nat->Hs):Nat->Nat->Nat->Nat->Hs
 |0,d,lo,_=>a d lo
 |f+1,d,lo,hi=>match fJ lo hi with
  |true=>hh (j d ((lo+hi)/2+1)) (match r with
   |false=> .two (hh (p (d+1)) (Z71 r j p q a f (d+1) ((lo+hi)/2+1) hi)) (hh (q (d+1)) (Z71 r j p q a f (d+1) lo ((lo+hi)/2)))
   |true=> .two (hh (p (d+1)) (Z71 r j p q a f (d+1) lo ((lo+hi)/2))) (hh (q (d+1)) (Z71 r j p q a f (d+1) ((lo+hi)/2+1) hi)))
  |false=>a d lo
noncomputable def gtH:List Nat:=[1,1,1,1,0,1,1,1,1]
noncomputable def leH:List Nat:=[1,1,1,0,1,1,1,1]
def Jfb(n:Nat):Hs:=Z4 0x1e7e00de (Z71 false (fun y m=>[1,1,1,1,1,1,1,2,0,2,0,2,0,0,2,0,0,2,0,1,6,1,m,2,0,0]) (fun y=>gtH) (fun y=>leH) (fun y a=>hh [a,1,0,2,0] .nil) 8 1 0 n)
def J6g(c e n a:Nat)(r:Hs):Hs:=hh ([c,c,c,0,e,0,e,0,e,0,e,0,c,c,0,e,0,0,e,0,e,e,0,a,c,4,n+1]++(aJ a).flatMap (fun j=>[c,j+1])++[e,0]++(aJ (n-a)).flatMap (fun j=>[c,a+j+1])++[e,0]) r
def J6h(r:Bool)(n:Nat):Hs:=Z4 0x119e19e300300391e000de19e1101efe00de (Z71 r (fun y m=>match r with|false=>[1,1,1,1,1,1,1,3,0,3,0,3,0,0,3,0,0,3,0,1,6,2,m,3,0,0]|true=>[1,1,1,1,1,1,1,1,3,0,3,0,3,0,0,3,0,0,3,0,6,3,0,2,m,0]) (fun y=>match r with|false=>gtH|true=>leH) (fun y=>match r with|false=>leH|true=>gtH) (fun y a=>J6g 2 3 n a .nil) 8 1 0 n)
theorem Zr6(l n:Nat)(L:List Is)(x:Is)(j:L.length<=4):
  Qi (vW (w2 w b c)) true false (Zf 1) (Ze 1) (Zuu ⟨l,n,L,x⟩) (Z89 ⟨l,n,L,x⟩) (L.length+1) (fun a=>Ju L x=a) (Zuv ⟨l,n,L,x⟩):=by
 revert L
 exact Z1i Zo fun v k m=>Z3f gkB (n:=100000) (k:=fun y=>2) (hs:=Jfb k) fun N T=>by
  revert k
  exact J6 (P:=fun k=>Z3s false (fun i=>ltP (v i).c (v i).k x.c x.k) (fun a=>Ju ((aJ k).map v) x=a) 8 0 k) (by cases b<;>cases c<;>kernel_rfl) fun k y=>Z4c (Zkp v x k)
theorem J0w(l n:Nat)(L:List Is)(x:Is)(j:L.length<=3):
  Qi (vW (w2 w b c)) true false (Zf 2) (Ze 2) (Zys ⟨l,n,L,x⟩) (Z89 ⟨l,n,L,x⟩) (L.length+1) (fun a=>Ju L x=a) (Znh ⟨l,n,L,x⟩):=by
 revert L
 exact Z1i Zo fun v k m=>Z3f gkB (n:=100000) (k:=fun y=>2) (hs:=J6h false k) fun N T=>by
  revert k
  exact J6 (P:=fun k=>Z3s false (fun i=>ltP (v i).c (v i).k x.c x.k) (fun a=>Ju ((aJ k).map v) x=a) 8 0 k) (by cases b<;>cases c<;>kernel_rfl) fun k y=>Z4c (Zkp v x k)
theorem J0x(l n:Nat)(L:List Is)(x:Is)(j:L.length<=3):
  Qi (vW (w2 w b c)) true false (Zf 2) (Ze 2) (Zyt ⟨l,n,L,x⟩) (Z89 ⟨l,n,L,x⟩) (L.length+1) (fun a=>Z4q L x=a) (Znh ⟨l,n,L,x⟩):=by
 revert L
 exact Z1i Zo fun v k m=>Z3f gkB (n:=100000) (k:=fun y=>2) (hs:=J6h true k) fun N T=>by
  revert k
  exact J6 (P:=fun k=>Z3s true (fun i=>ltP x.c x.k (v i).c (v i).k) (fun a=>Z4q ((aJ k).map v) x=a) 8 0 k) (by cases b<;>cases c<;>kernel_rfl) fun k y=>Z4c (J0v v x k)
def Zfk(S:List Sl):Option Z4p:=match S with
 |[r,x]=>(match r.g with
  | .is L=>(match Z6v (x.a,x.o) with
   |some e=>some ⟨r.a,Z3 r.o,L,e⟩
   |none=>none)
  |_=>none)
 |_=>none
def Zuw:Zi Z4p where
 code:=Zuu
 P:=Z89
 cond i:=some (i.3.length<=4)
 na:=5
 C i a:=Ju i.3 i.4=a
 F:=Zuv
 k:=2
 ext _ S:=Zfk S
 d:=Zf 1
 u:=Ze 1
 z:=true
def Zni:Zi Z4p where
 code:=Zys
 P:=Z89
 cond i:=some (i.3.length<=3)
 F i _ U:=Znh i (Ju i.3 i.4) U
 k:=2
 ext _ S:=Zfk S
 d:=Zf 2
 u:=Ze 2
 z:=true
def Znj:Zi Z4p where
 code:=Zyt
 P:=Z89
 cond i:=some (i.3.length<=3)
 F i _ U:=Znh i (Z4q i.3 i.4) U
 k:=2
 ext _ S:=Zfk S
 d:=Zf 2
 u:=Ze 2
 z:=true
theorem J6i:Za (vW (w2 w b c)) Zuw.ctr:=
 Zuw.ok (fun i a=>(Zr6 w b c i.1 i.2 i.3 i.4 (a _ rfl)).more (dG (a _ rfl)))
theorem J0y:Za (vW (w2 w b c)) Zni.ctr:=
 Zni.ok (fun i a=>(J0w w b c i.1 i.2 i.3 i.4 (a _ rfl)).one fun y h=>h.symm)
theorem J0z:Za (vW (w2 w b c)) Znj.ctr:=
 Znj.ok (fun i a=>(J0x w b c i.1 i.2 i.3 i.4 (a _ rfl)).one fun y h=>h.symm)
end
section
def G8(P:Params):G:=⟨(G7 P).ctr++[(Zun P).ctr,Zao.ctr,Znc.ctr,Zuw.ctr,Zni.ctr,Znj.ctr],Z0o⟩
theorem gk8:J5 (vW (w2 w b c)) (G8 w.params):=
 gA (gk7 w b c).ctr (gC (J6b w b c) (gC (Z88 _) (gC (Zr5 w b c) (gC (J6i w b c) (gC (J0y w b c) (gC (J0z w b c) (gN (Z01 _))))))))
noncomputable def J3(g:Gd):List He:=match g with| .hs l=>l|_=>[]
noncomputable def Z3t(g:Gd):List Si:=match g with| .si l=>l|_=>[]
noncomputable def Zp(g:Gd):List Is:=match g with| .is l=>l|_=>[]
abbrev KV:=List (Str×Str)
open Classical in
noncomputable def Zfl(K:KV)(n:Str):Option (Str×Str):=K.find? fun p=>decide (Z0 p.1=n)
open Classical in
noncomputable def Z3u(K:KV)(n:Str):KV:=K.filter fun p=>decide (Z0 p.1≠n)
theorem Zap(L:List He)(n:Str):(Zg L n).map He.kv=Z3u (L.map He.kv) n:=by
 dsimp only[Zg,Z3u];simp only[dA];rfl
theorem Z8b(L:List He)(n:Str):Zfl (L.map He.kv) n=(Zb L n).map He.kv:=by
 dsimp only[Zb,Zfl];simp only[List.find?_map];rfl
end
theorem Z6b {prog:Program}{w:World}{A:Around}{s:Shared}{T:String}{name:Str}{id:String}{b:gT}{self:Value}{rest:List Value}{R:Result->Shared->Prop}(h:Slot T name id)(I:s.TypeIs self T)
  (q:lQ oO id=some b) (j:jW id ⟨self::rest,[]⟩)
  (J:aU (cP prog w) A.in1 (b ⟨self::rest,[]⟩) (fun a s'=>∃v,a= .done (.ret v)/\R (.ok (.ret v)) s') (fun e s'=>R (.error e) s') s):
  bR (cP prog w) A (.call (.builtin id) ⟨self::rest,[]⟩) R s:=
 eH h.plain q (h.check _ _ _ _ _ _ _ _ I j (bC J (fun a s' h'=>by obtain⟨v,rfl,m⟩:=h';exact m) fun y y h'=>h'))
theorem Yo {prog:Program}{w:World}{A:Around}{s:Shared}{T:String}{name:Str}{id:String}{b:gT}{self:Value}{rest:List Value}{S:Around->(Result->Shared->Prop)->Shared->Prop}{R:Result->Shared->Prop}(h:Slot T name id)(y:s.TypeIs self T)
  (q:lQ oO id=some b) (a:jW id ⟨self::rest,[]⟩) (m:Meets (b ⟨self::rest,[]⟩) S) (j:S A R s):bR (cP prog w) A (.call (.builtin id) ⟨self::rest,[]⟩) R s:=
 eH h.plain q (h.check _ _ _ _ _ _ _ _ y a (m prog w A R s j))
theorem Zaq {prog:Program}{w:World}{A:Around}{s:Shared}{l:Addr}{vs:List Value}{n:Nat}{x:Value}{R:Result->Shared->Prop}(j:s.heap.get? l=some (LW.lst vs n))(I:vs.length<=1000)
  (q:∀h' y,jC l s.heap h'->h'.get? l=some (LW.lst (vs++[x]) y)->R (.ok (.ret .none)) {s with heap:=h'}):
  bR (cP prog w) A (.call (.builtin "list.append") ⟨[.ref l,x],[]⟩) R s:=by
 haveI m:(vs.toArray).size<=qB:=by simp only[dL,bV];exact aK I (by decide)
 refine Yo F.slot_list_append ⟨_,j,rfl⟩ F.entry_list_append (F.args_list_append_2 _ _) (AutoListH.list_append_list_val_0 l vs.toArray n x m) ⟨j, ?_⟩;refine q _ (n+1) (dY ..) ?_;rw[gB _ j rfl];show some (bK (fun a=>a.push x) (LW.lst vs n))=_;unfold LW.lst;show some (⟨.type "list",none, .seq ((⟨vs⟩:Array Value).push x) _,⟨[]⟩⟩:Obj)=_
 congr 2
 ·simp
theorem St.set0 {v:V}{B:Zt}{n t:Nat}{sl:Sl}{rest:List Sl}{s:Shared}(q:St v B ⟨n,0,t,0,sl::rest⟩ s)(X:Zy sl.g=true)(hc:¬Fix sl.o){h':Heap}{o':Obj}{g':Gd}(W:Zy g'=true)
  (hs:jC sl.a s.heap h') (ge:h'.get? sl.a=some o') (J:Y1 h' g'):St v B ⟨n,0,t,0,⟨sl.a,o',g'⟩::rest⟩ {s with heap:=h'}:=by
 have R:=q.rep.sameBut (j:=0) (s:=sl) rfl X hc (o':=o') hs ge;refine⟨⟨R.size,fun x hx'=> ?_,R.nodup,fun x hx'=> ?_,R.kt,R.stat,fun x hx'=> ?_,R.frame,R.tup,R.nolim,R.big,fun b Z=> ?_⟩,q.toks,q.gens,q.drawn,q.os⟩
 ·rcases aC.mp hx' with rfl|hx'
  ·exact Je (s:=⟨sl.a,o',g'⟩) W ge J
  ·exact R.slots x (.tail _ hx')
 ·rcases aC.mp hx' with rfl|hx'
  ·exact R.low {sl with o:=o'} (.head _)
  ·exact R.low x (.tail _ hx')
 ·rcases aC.mp hx' with rfl|hx'
  ·exact R.own {sl with o:=o'} (.head _)
  ·exact R.own x (.tail _ hx')
 ·refine Z7 fun k'=> ?_;haveI m:=R.frs b Z;haveI q1:=m.1;haveI I:=m.2.1;haveI Y:=m.2.2;refine k' ?_;refine⟨q1,fun y hy=> ?_,Y⟩;rcases aC.mp hy with rfl|hy
  ·exact I {sl with o:=o'} (.head _)
  ·exact I y (.tail _ hy)
theorem Z4r {vs:List Value}{n:Nat}:¬Fix (LW.lst vs n):=by rintro (q|q)<;>exact absurd q (by show(Value.type "list")≠_;simp)
theorem Zbx {v:V}{B:Zt}{lg:Lg}{s:Shared}(m:St v B lg s){a:Nat}{h':Heap}(hs:jC a s.heap h'){vs:List Value}{n:Nat}(j:s.heap.get? a=some (LW.lst vs n)){g:Gd}(x:Y1 s.heap g):Y1 h' g:=
 x.mono fun b o e q=>(hs.2 b (by rintro rfl;rw[j] at e;cases e;exact Z4r q)).trans e
abbrev Znk:=I6 Nat Nat (List He) Nat Obj He
noncomputable def Jfc(i:Znk):Code:= .call (.builtin "list.append") ⟨[.ref i.1, .ref i.6.a],[]⟩
def Jfd(i:Znk):List Sl:=[⟨i.1,lst (i.3.map He.ref) i.2, .hs i.3⟩,⟨i.4,i.5, .hs [i.6]⟩]
def Jfe(i:Znk)(U:Ph):Result×List Sl:=(.ok (.ret .none),[⟨i.1,lst ((i.3++[i.6]).map He.ref) (Z3 (U.w 0).o), .hs (i.3++[i.6])⟩,⟨i.4,i.5, .hs [i.6]⟩])
def Znl:Zi Znk where
 code:=Jfc
 P:=Jfd
 cond i:=some (i.3.length<=1000)
 F i _ U:=Jfe i U
 k:=2
 ext _ S:=match S with
  |[l,c]=>(match l.g with
   | .hs A=>(match c.g with
    | .hs E=>(match E with|[e]=>some ⟨l.a,Z3 l.o,A,c.a,c.o,e⟩|_=>none)
    |_=>none)
   |_=>none)
  |_=>none
 d:=Zf 0
 u:=Ze 0
theorem Zr7(w:World):Za (vW w) Znl.ctr:=by
 refine Znl.ok (fun i hc=> ?_);haveI hn:=hc _ rfl;intro A s hh out fr hz ha j;refine Z7 fun k'=> ?_;obtain⟨q,g1⟩:=j.old.plain (s:=⟨i.1,lst (i.3.map He.ref) i.2, .hs i.3⟩) (.head _) rfl;haveI m:=j.old.plain (s:=⟨i.4,i.5, .hs [i.6]⟩) (.tail _ (.head _)) rfl;haveI a2:=m.1;haveI g2:=m.2;refine k' ?_;refine Zaq q (by rw[aE];exact hn) fun h' Z I ge=> ?_;haveI W:=Zbx j I q g1;haveI J:=Zbx j I q g2;haveI X:i.3.map He.ref++[Value.ref i.6.a]=(i.3++[i.6]).map He.ref:=by simp only[bB];rfl
 rw[X] at ge;haveI st:=j.set0 (g':= .hs (i.3++[i.6])) rfl Z4r rfl I ge (fun e Y=>(aG.mp Y).elim (W e) (J e));refine⟨0,aX,trivial,⟨s.heap.objs.size-8,s.toks, .none,fun y=>⟨0,LW.lst [] Z, .no⟩⟩,rfl, ?_⟩;show St _ _ ⟨aO (s.heap.objs.size-8) 8,0,s.toks,0,_⟩ _;rw[show aO (s.heap.objs.size-8) 8=s.heap.objs.size from bG j.rep.big];exact st
abbrev Znm:=I6 Nat Nat (List Is) Nat Obj Is
noncomputable def Jff(i:Znm):Code:= .call (.builtin "list.append") ⟨[.ref i.1, .ref i.6.a],[]⟩
def Jfg(i:Znm):List Sl:=[⟨i.1,lst (i.3.map Is.ref) i.2, .is i.3⟩,⟨i.4,i.5, .is [i.6]⟩]
def Jfh(i:Znm)(U:Ph):Result×List Sl:=(.ok (.ret .none),[⟨i.1,lst ((i.3++[i.6]).map Is.ref) (Z3 (U.w 0).o), .is (i.3++[i.6])⟩,⟨i.4,i.5, .is [i.6]⟩])
def Zh7:Zi Znm where
 code:=Jff
 P:=Jfg
 cond i:=some (i.3.length<=1000)
 F i _ U:=Jfh i U
 k:=2
 ext _ S:=match S with
  |[l,c]=>(match l.g with
   | .is A=>(match c.g with
    | .is E=>(match E with|[e]=>some ⟨l.a,Z3 l.o,A,c.a,c.o,e⟩|_=>none)
    |_=>none)
   |_=>none)
  |_=>none
 d:=Zf 0
 u:=Ze 0
theorem Zh8(w:World):Za (vW w) Zh7.ctr:=by
 refine Zh7.ok (fun i hc=> ?_);haveI hn:=hc _ rfl;intro A s hh out fr hz ha j;refine Z7 fun k'=> ?_;obtain⟨q,g1⟩:=j.old.plain (s:=⟨i.1,lst (i.3.map Is.ref) i.2, .is i.3⟩) (.head _) rfl;haveI m:=j.old.plain (s:=⟨i.4,i.5, .is [i.6]⟩) (.tail _ (.head _)) rfl;haveI a2:=m.1;haveI g2:=m.2;refine k' ?_;refine Zaq q (by rw[aE];exact hn) fun h' Z I ge=> ?_;haveI W:=Zbx j I q g1;haveI J:=Zbx j I q g2;haveI X:i.3.map Is.ref++[Value.ref i.6.a]=(i.3++[i.6]).map Is.ref:=by simp only[bB];rfl
 rw[X] at ge;haveI st:=j.set0 (g':= .is (i.3++[i.6])) rfl Z4r rfl I ge (fun e Y=>(aG.mp Y).elim (W e) (J e));refine⟨0,aX,trivial,⟨s.heap.objs.size-8,s.toks, .none,fun y=>⟨0,LW.lst [] Z, .no⟩⟩,rfl, ?_⟩;show St _ _ ⟨aO (s.heap.objs.size-8) 8,0,s.toks,0,_⟩ _;rw[show aO (s.heap.objs.size-8) 8=s.heap.objs.size from bG j.rep.big];exact st
abbrev Znn:=I5 Nat Nat (List Value) Int Nat
noncomputable def Jfi(i:Znn):Code:= .call (.builtin "list.append") ⟨[.ref i.1, .int i.4 i.5],[]⟩
def Jfj(i:Znn):List Sl:=[⟨i.1,lst i.3 i.2, .no⟩]
def Jfk(i:Znn)(U:Ph):Result×List Sl:=(.ok (.ret .none),[⟨i.1,lst (i.3++[.int i.4 i.5]) (Z3 (U.w 0).o), .no⟩])
def Zar:Zi Znn where
 code:=Jfi
 P:=Jfj
 cond i:=some (i.3.length<=1000)
 F i _ U:=Jfk i U
 k:=1
 ext c S:=match c with
  | .call _ ⟨[_, .int x xt],[]⟩=>(match S with
   |[l]=>some ⟨l.a,Z3 l.o,Z1 l.o,x,xt⟩
   |_=>none)
  |_=>none
 d:=Zf 0
 u:=Ze 0
theorem Z8c(w:World):Za (vW w) Zar.ctr:=by
 refine Zar.ok (fun i W=> ?_);have I:=W _ rfl;intro A s hh out fr Y X a;haveI j:=a.old.plain (s:=⟨i.1,lst i.3 i.2, .no⟩) (.head _) rfl;haveI q:=j.1;refine Zaq q I fun h' m J ge=> ?_;haveI st:=a.set0 (g':= .no) rfl Z4r rfl J ge trivial;refine⟨0,aX,trivial,⟨s.heap.objs.size-8,s.toks, .none,fun y=>⟨0,LW.lst [] m, .no⟩⟩,rfl, ?_⟩;show St _ _ ⟨aO (s.heap.objs.size-8) 8,0,s.toks,0,_⟩ _;rw[show aO (s.heap.objs.size-8) 8=s.heap.objs.size from bG a.rep.big];exact st
theorem St.kept {v:V}{B:Zt}{lg:Lg}{s:Shared}(st:St v B lg s){h':Heap}{tk:Nat}(j:∀b o,s.heap.get? b=some o->h'.get? b=some o)(m:8<=h'.objs.size):
  St v B ⟨aO (h'.objs.size-8) 8,0,tk,0,lg.sl⟩ {s with heap:=h',toks:=tk}:=by
 have R:=st.rep;haveI e8:aO (h'.objs.size-8) 8=h'.objs.size:=bG m;refine⟨⟨by show h'.objs.size=aO (aO _ 8) 0;rw[e8],fun x Y=>(R.slots x Y).mono (fun o e=>j _ _ e) (fun b o e y=>j _ _ e),R.nodup,R.low,fun a o e=>j _ _ (R.kt a o e),R.stat,R.own,fun b o e q1 Z=>j _ _ (R.frame b o e q1 Z),fun b o e q=>j _ _ (R.tup b o e q),R.nolim.at fun o e=>j _ _ e,m,fun b I=> ?_⟩,rfl,st.gens,st.drawn,st.os⟩;refine Z7 fun k'=> ?_;obtain⟨J,W,o,h3,X⟩:=R.frs b I;refine k' ?_;exact⟨J,W,o,j _ _ h3,X⟩
theorem Qv {w:World}{s:Shared}{B:Zt}{lg:Lg}(st:St (vW w) B lg s){h':Heap}(a:∀b o,s.heap.get? b=some o->h'.get? b=some o):8<=h'.objs.size:=by
 have e:(vW w).kt.get 310=some Zak:=by kernel_rfl
 have h:310<h'.objs.size:=cV (a _ _ (st.rep.kt _ _ e));exact lY (fV (by decide) h)
section
variable {prog:Program}{w:World}{A:Around}{s:Shared}
theorem Zh9 {l:Addr}{j:Array (Int×Tok)}{R:Result->Shared->Prop}(hh:A.handled=none)(hl:s.heap.IsList l (jF j))
  (hR:∀h' tk m,(∀b o,s.heap.get? b=some o->h'.get? b=some o)->R (.ok (.ret (.int (preSum (numAt j) j.size) m))) {s with heap:=h',toks:=tk}):
  bR (cP prog w) A (.call (.builtin "sum") ⟨[.ref l],[]⟩) R s:=by
 refine eH F.plain_sum F.entry_sum ?_;haveI X:jW "sum" ⟨[.ref l],[]⟩:=F.args_sum1 _;have body:aU (cP prog w) A.in1 (pO ⟨[.ref l],[]⟩) (fun Z s'=>match Z with
   | .done f=>R (.ok f) s'
   | .again c'=>c'.quiet=true/\bR (cP prog w) A c' R s') (fun e s'=>R (.error e) s') s:=by
  unfold pO;dsimp only[bQ,mV];rw[if_neg (by decide)];refine aA (nN (show qK "sum" ["start"] 0 {}=pure [none] from rfl) ?_);refine aA (iter_intList hl fun s₂ e st hfp J=> ?_);subst e;haveI W:=Walks.list (prog:=prog) (w:=w) (A:=A.in1) hh s.heap.objs.size l J (jF j);refine aA (qC (aA (aH ?_)));dsimp only[gU,jG];refine aA (aA (aA (jA (T:="int") (b:=false) (qQ _ _ _) PySem.sub_int_str ?_)));dsimp only[cA,if_false];refine aH (aA (aA (jA (T:="int") (b:=false) (qQ _ _ _) PySem.sub_int_bytes ?_)));dsimp only[cA,if_false];refine aH (aA (aA (jA (T:="int") (b:=false) (qQ _ _ _) PySem.sub_int_bytearray ?_)));dsimp only[cA,if_false];refine aH (aH (aA (iP ?_)));haveI Y:(s.heap.push {cls:= .type "list_iterator",data:= .fields #[.ref l, .int 0 0]}).objs.size∉[s.heap.objs.size,l]:=fun I=>jS _ (hfp _ I);refine aH ⟨plainId_quiet F.plain_sum_loop _,codeAny_sum_loopG W (numAt j) (fun y y=>intItems_at) _ Y (jF j).size 0 _ _ 0 0 (Or.inl rfl) rfl (bP _)
   (W.frame _ _ _ st fun b y o e=>aQ _ e) (bT _ rfl) fun h' tk m hk=> ?_⟩
  haveI key:=hR h' tk m fun b o e=>by
   haveI a:=cV e;refine hk b o (fun I=> ?_) (fun q=> ?_) (aQ _ (aQ _ e))
   ·rw[aM.mp I] at a;exact jS _ a
   ·rw[q,kT] at a;exact absurd a (oX.mpr (gL _))
  simpa[jF] using key
 simp only[kO,F.kind_sum];cases hsig:iR "sum" with
 |none=>exact aH body
 |some sig=>
  simp only[jW,hsig] at X;haveI h2:fN "sum" sig ⟨[.ref l],[]⟩=pure ():=X;show aU _ A.in1 (fN "sum" sig ⟨[.ref l],[]⟩) _ _ s;simp only[h2];exact aH body
end
abbrev Zha:=I3 Nat Nat (List Value)
noncomputable def J6j(i:Zha):Code:= .call (.builtin "sum") ⟨[.ref i.1],[]⟩
def Zno(i:Zha):List Sl:=[⟨i.1,LW.lst i.3 i.2, .no⟩]
noncomputable def Z4s(vs:List Value):Option (List (Int×Tok)):=List.rec (some []) (fun v y a=>match v with| .int x t=>(match a with|some r=>some ((x,t)::r)|none=>none)|_=>none) vs
def Y6(vs:List Value):Int:=List.rec 0 (fun v y a=>match v with| .int x _=>dF x a|_=>a) vs
def Znp(i:Zha):Bool:=match Z4s i.3 with|some _=>true|none=>false
set_option tactic.hygienic true in theorem Z5r:∀{vs:List Value}{l:List (Int×Tok)},Z4s vs=some l->vs=l.map (fun p=>Value.int p.1 p.2)/\Y6 vs=(l.map (·.1)).sum:=by
 intro z0_
 induction z0_ with
 |nil=>
  intro l e;cases e;exact⟨rfl,rfl⟩
 |cons v vs ih=>
  intro l e;cases v with
  |int x t=>
   haveI e':(match Z4s vs with|some r=>some ((x,t)::r)|none=>none)=some l:=e;refine Z7 fun k'=> ?_
   split at e'
   ·rename_i r q;cases e';haveI hO5251:=ih q;haveI a:=hO5251.1;haveI b:=hO5251.2;refine k' ?_;refine⟨by rw[a];rfl, ?_⟩;show dF x (Y6 vs)=_;rw[b];rfl
   ·contradiction
  |_=>exact nomatch e
def Zux:Zi {i:Zha//Znp i=true} where
 code i:=J6j i.1
 P i:=Zno i.1
 cond _:=none
 F i _ U:=(.ok (.ret (.int (Y6 i.1.3) (Z6 U.rv))),Zno i.1)
 k:=1
 ext _ S:=match S with
  |[l]=>Zyr Znp ⟨l.a,Z3 l.o,Z1 l.o⟩
  |_=>none
 d:=Zf 0
 u:=Ze 0
 z:=true
set_option tactic.hygienic true in theorem J6k(w:World):Za (vW w) Zux.ctr:=by
 refine Zux.ok (fun i _=> ?_);obtain⟨⟨l,n,vs⟩,hi⟩:=i;intro A s hh out fr hz ha hst;haveI hA:A.handled=none:=ha.hh.trans (hz rfl);haveI at0:s.heap.get? l=some (LW.lst vs n):=(hst.rep.slots ⟨l,LW.lst vs n, .no⟩ (.head _)).plain rfl;dsimp only[Znp] at hi;refine Z7 fun k'=> ?_
 split at hi
 ·rename_i xs e;haveI hO5263:=Z5r e;haveI e1:=hO5263.1;haveI e2:=hO5263.2;haveI hl:s.heap.IsList l (jF xs.toArray):=⟨_,at0,rfl,n,by
   show Data.seq ⟨vs⟩ n=Data.seq (jF xs.toArray) n;rw[show vs=_ from e1];simp[jF]⟩
  refine k' ?_;refine Zh9 hA hl fun h' tk t' hk=> ?_;haveI st:=hst.kept (tk:=tk) hk (Qv hst hk);refine⟨0,aX,trivial,⟨h'.objs.size-8,tk, .int 0 t',fun _=>Zdb⟩, ?_,st⟩;show _=(Except.ok (Flow.ret (.int (Y6 vs) t')):Result);rw[show Y6 vs=_ from e2]
  congr 3
  rw[preSum_eq,iC (by simp)]
 ·contradiction
abbrev Znq:=I2 Str Nat
noncomputable def Jbu(i:Znq):Code:= .call (.type "ValueError") ⟨[.str i.1 i.2],[]⟩
noncomputable def Zuy(t:Nat):Obj:=⟨.type "ValueError",none, .fields ⟨[.ref t, .none, .none, .none, .bool false, .none]⟩,⟨[]⟩⟩
noncomputable def Zdq(a:Value):Obj:=⟨.type "tuple",none, .seq ⟨[a]⟩ 0,⟨[]⟩⟩
def Jbv(i:Znq)(U:Ph):Result×List Sl:=(.ok (.ret (.ref (U.w 0).a)),[⟨(U.w 0).a,Zuy (U.w 1).a, .no⟩,⟨(U.w 1).a,Zdq (.str i.1 i.2), .no⟩])
theorem St.news {v:V}{s:Shared}{h':Heap}{fr:List Nat}(st:St v ⟨s,[],fr⟩ ⟨s.heap.objs.size,0,s.toks,0,[]⟩ s)(X:∀b o,s.heap.get? b=some o->h'.get? b=some o)(hb:8<=h'.objs.size)
  {W:List Sl} (hn:(W.map Sl.a).Nodup) (y:∀x∈W,s.heap.get? x.a=none/\h'.get? x.a=some x.o/\x.g= .no) (tk:Nat):St v ⟨s,[],fr⟩ ⟨aO (h'.objs.size-8) 8,0,tk,0,W⟩ {s with heap:=h',toks:=tk}:=by
 haveI st':=st.kept (tk:=tk) X hb;haveI R:=st'.rep;refine⟨⟨R.size,fun x m=> ?_,hn,fun x m=> ?_,R.kt,R.stat,fun x m=> .inl (y x m).1,R.frame,R.tup,R.nolim,R.big,fun b J=> ?_⟩,st'.toks,st'.gens,st'.drawn,st'.os⟩
 ·haveI j:=y x m;haveI e:=j.2.1;haveI g:=j.2.2;dsimp only[Ji];simp only[g];exact⟨e,trivial⟩
 ·cases q:v.kt.get x.a with
  |none=>rfl
  |some o=>
   have:=st.rep.kt _ _ q;rw[(y x m).1] at this;contradiction
 ·refine Z7 fun k'=> ?_;obtain⟨Y,h2,o,I,Z⟩:=st.rep.frs b J;refine k' ?_;refine⟨Y,fun x m q=> ?_,o,X _ _ I,Z⟩;have:=(y x m).1;simp only[q,I] at this;contradiction
theorem Zuz {prog:Program}{w:World}{A:Around}{s:Shared}{rest:List Value}{R:Result->Shared->Prop}(a:rest.length<=qB)
  (h:∀h' e,Heap.MadeExc s.heap h' e "ValueError" rest->R (.ok (.ret (.ref e))) {s with heap:=h'}):bR (cP prog w) A (.call (.type "ValueError") ⟨rest,[]⟩) R s:=by
 obtain⟨m,g,d,tk,q⟩:=s;refine sD ?_;show aU _ _ (again (.builtin "type.__call__" ⟨.type "ValueError"::rest,[]⟩)) _ _ _;exact aH ⟨Code.quiet_builtin _ (by decide+kernel),lI entry_typeCall (wpAny_type_call_exc PySem.F.excCall_ValueError (fun h' e j=>h h' e j) a)⟩
def Znr:Zi Znq where
 code:=Jbu
 P _:=[]
 cond _:=none
 F i _ U:=Jbv i U
 k:=0
 nn _:=2
 ext c _:=match c with
  | .call _ ⟨[.str m t],[]⟩=>some ⟨m,t⟩
  |_=>none
 d:=Zf 0
 u:=Ze 0
theorem J10(w:World):Za (vW w) Znr.ctr:=by
 refine Znr.ok (fun i y=> ?_);intro A s hh out fr hz ha I;refine Zuz (by simp only[bV];simp) fun h' e m=> ?_;refine Z7 fun k'=> ?_;obtain⟨t,a,X,Y⟩:=m.there;refine k' ?_;refine⟨0,aX,trivial,⟨h'.objs.size-8,s.toks, .none,fun j=>match j with|0=>⟨e,Zuy t, .no⟩|_=>⟨t,Zdq (.str i.1 i.2), .no⟩⟩,rfl, ?_⟩;haveI Z:e≠t:=fun q=>by
  rw[q,Y] at a;injection a with a
  injection a with a
  injection a with a
  exact absurd a (by decide)
 have:=I.news (W:=[⟨e,Zuy t, .no⟩,⟨t,Zdq (.str i.1 i.2), .no⟩]) m.keeps (Qv I m.keeps) (by simp[Z]) (fun x J=>by
  simp only[aC,aD,or_false] at J;rcases J with rfl|rfl
  ·exact⟨m.new,a,rfl⟩
  ·exact⟨X,Y,rfl⟩) s.toks
 exact this
section
variable {prog:Program}{w:World}{A:Around}{E:Value->Shared->Prop}{s:Shared}
theorem Zjv {e t:Addr}{m:Str}{tk:Tok}{vs:List Value}{Q:PySem.Fin->Shared->Prop}(J:A.units<qA)(I:s.heap.get? e=some ⟨.type "ValueError",none, .fields ⟨.ref t::vs⟩,⟨[]⟩⟩)(q:s.heap.get? t=some (Zdq (.str m tk)))
  (j:Q (.done (.ret (.str m tk))) s):aU (cP prog w) A (Builtin.«str.__new__» ⟨[.type "str", .ref e],[]⟩) Q E s:=by
 unfold Builtin.«str.__new__»;haveI W:=isSubtype_str_str;haveI y:s.heap.ExcAt e "ValueError" (.ref t):=⟨_,_,I,rfl,rfl,rfl⟩;haveI a:s.heap.TupAt t [.str m tk]:=⟨_,0,q,rfl,rfl⟩
 wp_walk using strOf_exc_one PySem.F.excStr_ValueError J y a
 exact j
end
abbrev Zns:=I5 Nat Nat (List Value) Str Nat
noncomputable def Jbw(i:Zns):Code:= .builtin "str.__new__" ⟨[.type "str", .ref i.1],[]⟩
def Znt(i:Zns):List Sl:=[⟨i.1,⟨.type "ValueError",none, .fields ⟨.ref i.2::i.3⟩,⟨[]⟩⟩, .no⟩,⟨i.2,Zdq (.str i.4 i.5), .no⟩]
noncomputable def J6l(o:Obj):List Value:=match o.data with| .fields l=>(match l.toList with|_::r=>r|[]=>[])|_=>[]
def Zby:Zi Zns where
 code:=Jbw
 P:=Znt
 cond _:=none
 F i _ U:=(.ok (.ret (.str i.4 i.5)),Znt i)
 k:=2
 ext _ S:=match S with
  |[e,t]=>(match t.o.data with
   | .seq l _=>(match l.toList with
    |[.str m tk]=>some ⟨e.a,t.a,J6l e.o,m,tk⟩
    |_=>none)
   |_=>none)
  |_=>none
 d:=Zf 0
 u:=Ze 0
theorem J11(w:World):Za (vW w) Zby.ctr:=by
 refine Zby.ok (fun i y=> ?_);intro A s hh out fr hz q j;have J:=(j.rep.slots ⟨i.1,⟨.type "ValueError",none, .fields ⟨.ref i.2::i.3⟩,⟨[]⟩⟩, .no⟩ (.head _)).plain rfl;have Y:=(j.rep.slots ⟨i.2,Zdq (.str i.4 i.5), .no⟩ (.tail _ (.head _))).plain rfl;refine lI PySem.F.entry_str_new ?_;have W:=q.units;have Z:Zby.u=8500:=rfl;refine Zjv (vs:=i.3) (t:=i.2) ?_ J Y ?_
 ·have:(A.under (.builtin "str.__new__" ⟨[.type "str", .ref i.1],[]⟩)).units=A.units+(Code.builtin "str.__new__" ⟨[.type "str", .ref i.1],[]⟩).cUnits:=rfl;rw[this];have I:=(Z3p (id:="str.__new__") (args:=⟨[.type "str", .ref i.1],[]⟩) (by kernel_rfl)).2;have m:A.units<=Zby.u:=W;rw[Z] at m;show _<9900;exact Zm [] [_,_] [.n Zr (.n 8500), .n Yi lQ8] (.n (.a Zlp Q4) Zti) rfl m I
 ·have X:=j.rep.big;exact⟨0,aX,trivial,⟨s.heap.objs.size-8,s.toks, .none,fun y=>Zdb⟩,rfl,by
   have e:aO (s.heap.objs.size-8) 8=s.heap.objs.size:=bG X;show St _ _ ⟨aO (s.heap.objs.size-8) 8,0,s.toks,0,Znt i⟩ s;rw[e];exact j⟩
def Jy:List Str:=[st "KeyError",st "OSError",st "Error",st "Exit",st "E",st "Lock",st "KEYERROR",st "OSERROR",st "ERROR",st "EXIT",st "LOCK",st "keyerror",st "oserror",st "error",st "exit",st "e",st "lock"]
theorem Zw:∀s∈Jy,s∈Z9/\Z0 s∈Z9/\Z0 s∈Jy/\J9 s∈Jy/\Z0 (J9 s)=Z0 s/\Z0 (Z0 s)=Z0 s/\Z0 s≠st "z"/\cF s=true/\J9 (Z0 s)∈Jy/\Z0 (J9 (Z0 s))=Z0 s:=by
 decide+kernel
theorem Qw:∀s∈Yh,s∈Z56/\0<=valN s/\valN s<=12/\Zj (valN s)=s/\cF s=true:=by
 decide+kernel
theorem Yq(n:Int)(j:0<=n)(a:n<=12):Zj n∈Yh/\valN (Zj n)=n:=by
 obtain⟨k,rfl⟩:=bU j;exact(by decide+kernel:∀k,k<13->Zj (Int.ofNat k)∈Yh/\valN (Zj (Int.ofNat k))=Int.ofNat k) k (Zm [] [_] [.z Zr (.n 12)] (.n Y8 (.n 13)) rfl a)
theorem Zr8:st "1"∈Yh/\valN (st "1")=1:=by decide+kernel
def HN(L:List He):Prop:=∀e∈L,e.k∈Jy/\e.v∈Yh
theorem HN.ok {L:List He}(h:HN L)(j:L.length<=4):Jp L:=⟨fun e a=>aG.mpr (.inl (Zw _ (h e a).1).1),j⟩
theorem HN.del {L:List He}(h:HN L)(n:Str):HN (Zg L n):=fun e a=>h e (cI.mp a).1
theorem HN.add {L:List He}(h:HN L){e:He}(j:e.k∈Jy)(a:e.v∈Yh):HN (L++[e]):=fun x hx=>by
 rcases aG.mp hx with hx|hx
 ·exact h x hx
 ·rw[aM.mp hx];exact⟨j,a⟩
theorem HN.look {L:List He}(h:HN L){n:Str}(q:Zb L n≠none):((Zb L n).getD Zs).k∈Jy/\((Zb L n).getD Zs).v∈Yh/\Z0 ((Zb L n).getD Zs).k=n:=by
 cases e:Zb L n with
 |none=>exact absurd e q
 |some x=>
  unfold Zb at e;haveI a:=cN e;haveI j:=iV e;exact⟨(h x a).1,(h x a).2,by simpa using j⟩
theorem Z72 {L:List He}{n:Str}{e:He}:e∈Zg L n↔e∈L/\Z0 e.k≠n:=by
 unfold Zg;simp[cI]
abbrev Zv0:=I6 Hd (List He) Str Nat Int Nat
noncomputable def J6m(i:Zv0):Code:= .call (.ref 290) ⟨[.ref i.1.a, .str i.3 i.4, .int i.5 i.6],[]⟩
def Z36(K:KV)(p:Str×Str):KV:=if p.2=st "1" then Z3u K (Z0 (J9 p.1)) else Z3u K (Z0 p.1)++[(p.1,Zj (valN p.2-1))]
def Z20(K:KV)(s:Str)(r:Int):KV:=match Zfl K (Z0 s) with
 |some p=>Z3u K (Z0 s)++[(s,Zj (valN p.2+1))]
 |none=>if(K.length:Int)<r then K++[(s,st "1")] else K.foldl Z36 K
def J6n(P:Params)(i:Zv0)(U:Ph):Result×List Sl:=(.ok (.ret .none),Yc P (hdN i.1 U 2) (J3 (U.w 2).g))
def Dst(L:List He):Prop:=L.Pairwise fun a b=>Z0 a.k≠Z0 b.k
def Zbz(L:List He)(s:Str):Prop:=s∈Jy/\HN L/\L.length<=3/\(∀e∈L,1<=valN e.v/\valN e.v<=11)/\Dst L
noncomputable def Z9e(a:List He->Prop):List He->List He->Prop
 |[],C=>True/\a C
 |e::rest,C=>(e.v=aB "1"->e.k∈Z9/\∀_:Ph,(J9 e.k∈Z9++Zh/\Z0 (J9 e.k)∈Z9/\Jp C)/\∀_:Ph,Z9e a rest (Zg C (Z0 (J9 e.k))))/\
  (¬(e.v=aB "1")->e.v∈Yh/\∀_:Ph,(0<=(valN e.v).sub 1/\(valN e.v).sub 1<=12)/\∀m:Ph,Z15 C e.k (Zj ((valN e.v).sub 1))/\∀j:Ph,Z9e a rest (Zg C (Z0 e.k)++[Zk e.k e.kt (Zj ((valN e.v).sub 1)) (Z6 m.rv) j]))
def Zr9(L:List He)(s:Str)(r:Int)(X:KV):Prop:=(s∈Z9++Zh/\Z0 s∈Z9/\Jp L)/\(¬Zb L (Z0 s)≠none)/\((Zb L (Z0 s)=none->∀_:Ph,(L.length<=3)/\∀_:Ph,((aF He.kV L).length<=5/\Zy Gd.no=true)/\∀_:Ph,(¬Int.ofNat (aF He.kV L).length<r)/\(L.length<=4)/\∀_:Ph,Z9e (fun C=>aF He.kv C=X) L L)/\True)
theorem J12 {L:List He}{e:He}(h:e∈L):(Zg L (Z0 e.k)).length+1<=L.length:=by
 unfold Zg
 induction L with
 |nil=>contradiction
 |cons x L ih=>
  rcases aC.mp h with rfl|h
  ·rw[bH (by simp),bQ];exact dG (bY _ _)
  ·have:=ih h;rw[mF]
   split
   ·simp only[bQ,bQ];exact dG this
   ·simp only[bQ];exact cX this
theorem Zv1(X:KV):∀(rest C:List He),HN rest->HN C->C.length<=3->(∀e∈rest,e∈C/\1<=valN e.v)->Dst rest->(rest.map He.kv).foldl Z36 (C.map He.kv)=X->Z9e (fun C=>aF He.kv C=X) rest C:=by
 intro z0_
 induction z0_ with
 |nil=>
  intro C _ _ _ _ _ Z;exact⟨trivial,Z⟩
 |cons e rest ih=>
  intro C I J hl m hd Z;have hk:=(I e (.head _)).1;have hv:=(I e (.head _)).2;haveI a:=Zw _ hk;haveI n1:=a.1;haveI n2:=a.2.1;haveI n3:=a.2.2.1;haveI n4:=a.2.2.2.1;haveI Y:=a.2.2.2.2.1;haveI n6:=a.2.2.2.2.2.1;haveI n7:=a.2.2.2.2.2.2.1;haveI n8:=a.2.2.2.2.2.2.2.1;haveI n9:=a.2.2.2.2.2.2.2.2.1;haveI n10:=a.2.2.2.2.2.2.2.2.2;obtain⟨f1,f2,f3,f4,f5⟩:=Qw _ hv;haveI hin:=(m e (.head _)).1;have h1:=(m e (.head _)).2;obtain⟨dh,dt⟩:=dO.mp hd;haveI W:(rest.map He.kv).foldl Z36 (Z36 (C.map He.kv) e.kv)=X:=Z;refine⟨fun q=>⟨n1,fun y=>⟨⟨aG.mpr (.inl (Zw _ n4).1),Y▸n2,J.ok (by lia)⟩,fun y=> ?_⟩⟩,fun q=>⟨hv,fun y=>⟨?_,fun U8=>⟨?_,fun U9=> ?_⟩⟩⟩⟩
  ·rw[Y];refine ih _ (fun x j=>I x (.tail _ j)) (J.del _) (aK (bY _ _) hl) (fun x j=>⟨Z72.mpr ⟨(m x (.tail _ j)).1,fun z=>dh x j z.symm⟩,(m x (.tail _ j)).2⟩) dt ?_;rw[Zap,<-W]
   congr 1
   unfold Z36;rw[if_pos (show e.kv.2=st "1" from q)];show Z3u (C.map He.kv) (Z0 e.k)=Z3u _ (Z0 (J9 e.k));rw[Y]
  ·have:(valN e.v).sub 1=valN e.v-1:=rfl;lia
  ·have e1:(valN e.v).sub 1=valN e.v-1:=rfl;haveI nf:=Yq (valN e.v-1) (by lia) (by lia);rw[e1];exact⟨n1,n2,(Qw _ nf.1).1,J.ok (by lia)⟩
  ·haveI e1:(valN e.v).sub 1=valN e.v-1:=rfl;haveI nf:=Yq (valN e.v-1) (by lia) (by lia);rw[e1];haveI hne:¬e.kv.2=st "1":=q;refine ih _ (fun x j=>I x (.tail _ j)) ((J.del _).add hk nf.1) ?_ (fun x j=>⟨aG.mpr (.inl (Z72.mpr ⟨(m x (.tail _ j)).1,fun z=>dh x j z.symm⟩)),(m x (.tail _ j)).2⟩) dt ?_
   ·simp only[aV,bA];exact aK (J12 hin) hl
   ·simp only[bB,Zap,<-W]
    congr 1
    unfold Z36;rw[if_neg hne];rfl
theorem J13 {L:List He}{s:Str}{r:Int}(j:Zbz L s)(I:Zb L (Z0 s)=none)(W:¬(L.length:Int)<r):Zr9 L s r (Z20 (L.map He.kv) s r):=by
 have Y:=j.1;have m:=j.2.1;have q:=j.2.2.1;have h4:=j.2.2.2.1;have h5:=j.2.2.2.2;haveI a:=Zw _ Y;haveI X:=a.1;haveI Z:=a.2.1;haveI n3:=a.2.2.1;haveI n4:=a.2.2.2.1;haveI n5:=a.2.2.2.2.1;haveI n6:=a.2.2.2.2.2.1;haveI n7:=a.2.2.2.2.2.2.1;haveI n8:=a.2.2.2.2.2.2.2.1;haveI n9:=a.2.2.2.2.2.2.2.2.1;haveI n10:=a.2.2.2.2.2.2.2.2.2;refine⟨⟨aG.mpr (.inl X),Z,m.ok (by lia)⟩,fun z=>z I,fun y y=>⟨q,fun y=>⟨⟨by rw[aE];exact aK q (by decide),rfl⟩,fun y=>⟨by rw[aE];exact W,by lia,fun y=> ?_⟩⟩⟩,trivial⟩;refine Zv1 _ L L m m q (fun e J=>⟨J,(h4 e J).1⟩) h5 ?_;unfold Z20;simp only[Z8b,I];simp only[oY];rw[if_neg (by rw[aE];exact W)]
theorem Zra {L:List He}{s:Str}{t:Nat}{r:Int}(a:Zb L (Z0 s)≠none)(j:Nat)(U:Ph):aF He.kv (Zg L (Z0 s)++[Zk s t (Zj ((valN ((Zb L (Z0 s)).getD Zs).v).add 1)) j U])=Z20 (aF He.kv L) s r:=by
 unfold Z20;simp only[Z8b,bB,Zap];cases e:Zb L (Z0 s) with
 |none=>exact absurd e a
 |some x=>rfl
theorem Zrb {L:List He}{s:Str}{t:Nat}{r:Int}(a:Zb L (Z0 s)=none)(m:(L.length:Int)<r)(j:Nat)(U:Ph):aF He.kv (L++[Zk s t (aB "1") j U])=Z20 (aF He.kv L) s r:=by
 unfold Z20;simp only[Z8b,a,bB];simp only[oY];rw[if_pos (by rw[aE];exact m)];rfl
noncomputable def Znu:Nat->Nat->Nat->Hs
 |0,_,b=>hh [1,0,0,b+4,0,b+5,0,b+6,0] .nil
 |n+1,i,b=>hh ([b-1,b,i,b,i,b,i,0,b,i,0,1,1]++(aJ 3).flatMap (fun y=>[0,1,0,1,1,b+1,i,1,1,1])++aY 5 (b+5)++[2])
  (.two (hh [b+5,b+5,3,b+6,0,b+6,0,0,0,0,14,b+5,0,b+6,0,b+7,0,0,b+2,0,b+2,0,b+2,b+2,b+3,0,b+2,b+2] (Znu n (i+1) (b+3)))
   (hh [0,0,0,0,b+5,16,1,17,b+5,b+5,b+6,0,b+6,0,0,0,0,15,b+5,0,b+6,0,b+7,0,0,b+3,0,b+3,0,b+3,b+3,b+4,0,b+3,b+3] (Znu n (i+1) (b+4))))
def Jfl(n:Nat):Hs:=Z4 0x11023e5013ee95e (.two (Z4 0x1110204e0100148e1afe60a1e4dbe (Znu n 1 2)) .nil)
theorem J6o(h:Hd)(L:List He)(s:Str)(t:Nat)(r:Int)(rt:Nat)(a:Zbz L s)(m:1<=r):
  Yu (vW (w2 w b c)) true false (Zf 5) (Ze 5) (J6m ⟨h,L,s,t,r,rt⟩) (Yc w.params h L) 1 (fun y=>True) (fun y U=>(J3 (U.w 2).g).map He.kv=Z20 (L.map He.kv) s r) (fun y=>J6n w.params ⟨h,L,s,t,r,rt⟩):=by
 by_cases hq:Zb L (Z0 s)=none
 ·by_cases hr:(L.length:Int)<r
  ·obtain⟨m,j,X,Z,h5⟩:=a;obtain⟨I,q,n3,n4,n5,n6,n7,n8,n9,n10⟩:=Zw _ m;exact zD4 (gk8 w b c) (fun y=>3) (Z4 0x11023e5013ee95e (.two (Z4 0x1bfe0afed02a1e3dbe .nil) .nil)) (p:=(s∈Z9++Zh/\Z0 s∈Z9/\Jp L)/\(¬Zb L (Z0 s)≠none)/\((Zb L (Z0 s)=none->∀U1:Ph,(L.length<=3)/\∀U2:Ph,((aF He.kV L).length<=5/\Zy Gd.no=true)/\∀W:Ph,(Int.ofNat (aF He.kV L).length<r)/\(Z15 L s (aB "1"))/\∀J:Ph,(True)/\(aF He.kv (L++[Zk s t (aB "1") (W.t.add 0) J])=Z20 (aF He.kv L) s r))/\True)) (fun y y=>by kernel_rfl) (by exact⟨⟨aG.mpr (.inl I),q,j.ok (by lia)⟩,fun z=>z hq,fun y y=>⟨X,fun y=>⟨⟨by rw[aE];exact aK X (by decide),rfl⟩,fun y=>⟨by rw[aE];exact hr,⟨I,q,(Qw _ Zr8.1).1,j.ok (by lia)⟩,fun y=>⟨trivial,Zrb hq hr _ _⟩⟩⟩⟩,trivial⟩)
  ·have h0:L≠[]:=fun z=>hr (by rw[z];exact m);have hl:=a.2.2.1;have hQ:=And.intro a (And.intro hq hr);clear a hq hr
   revert hQ
   revert hl
   revert h0
   revert L
   exact Zh4 Zs fun v=>Znb (k:=3) (p:=fun n=>Zr9 ((aJ (n+1)).map v) s r (Z20 (((aJ (n+1)).map v).map He.kv) s r)) (gk8 w b c) (fun y n=>Jfl (n+1)) (fun N T=>by kernel_rfl) fun n y ⟨a,hq,hr⟩=>J13 a hq hr
 ·obtain⟨m,j,X,Z,h5⟩:=a;obtain⟨I,q,n3,n4,n5,n6,n7,n8,n9,n10⟩:=Zw _ m;obtain⟨g1,g2,g3⟩:=j.look hq;exact zD4 (gk8 w b c) (fun y=>3) (Z4 0x1123e5013ee95e (.two (Z4 0x1afe023e0ff0decce11f110f10de1111 .nil) (Y9 .nil))) (p:=(s∈Z9++Zh/\Z0 s∈Z9/\Jp L)/\((Zb L (Z0 s)≠none->∀U1:Ph,(((Zb L (Z0 s)).getD Zs).v∈Yh)/\∀U2:Ph,(0<=(LW.valN ((Zb L (Z0 s)).getD Zs).v).add 1/\(LW.valN ((Zb L (Z0 s)).getD Zs).v).add 1<=12)/\∀W:Ph,(Z15 L s (Zj ((LW.valN ((Zb L (Z0 s)).getD Zs).v).add 1)))/\∀J:Ph,(True)/\(aF He.kv (Zg L (Z0 s)++[Zk s t (Zj ((LW.valN ((Zb L (Z0 s)).getD Zs).v).add 1)) (Z6 W.rv) J])=Z20 (aF He.kv L) s r))/\(¬Zb L (Z0 s)=none)/\True)) (fun y y=>by kernel_rfl) (by
    have gm:((Zb L (Z0 s)).getD Zs)∈L:=by
     cases e:Zb L (Z0 s) with
     |none=>exact absurd e hq
     |some x=>exact cN (show L.find? _=some x from e)
    have gr:=Z _ gm;have Y:(valN ((Zb L (Z0 s)).getD Zs).v).add 1=valN ((Zb L (Z0 s)).getD Zs).v+1:=rfl;have nf:=Yq (valN ((Zb L (Z0 s)).getD Zs).v+1) (by lia) (by lia);exact⟨⟨aG.mpr (.inl I),q,j.ok (by lia)⟩,fun y y=>⟨g2,fun y=>⟨⟨by rw[Y];lia,by rw[Y];lia⟩,fun y=>⟨⟨I,q,(Qw _ nf.1).1,j.ok (by lia)⟩,fun y=>⟨trivial,Zra hq _ _⟩⟩⟩⟩,hq,trivial⟩)
def Znv(P:Params):Zi Zv0 where
 code:=J6m
 P i:=Yc P i.1 i.2
 cond i:=some (Zbz i.2 i.3/\1<=i.5)
 F i _ U:=J6n P i U
 k:=3
 ext c S:=match c with
  | .call _ ⟨[.ref _, .str s t, .int r rt],[]⟩=>(match Z1p S with
   |some (h,L)=>some ⟨h,L,s,t,r,rt⟩
   |none=>none)
  |_=>none
 d:=Zf 5
 u:=Ze 5
 z:=true
 D:=some fun i y U=>(J3 (U.w 2).g).map He.kv=Z20 (i.2.map He.kv) i.3 i.5
theorem Zrc:Za (vW (w2 w b c)) (Znv w.params).ctr:=
 (Znv w.params).okD (fun i a=>J6o w b c i.1 i.2 i.3 i.4 i.5 i.6 (a _ rfl).1 (a _ rfl).2)
def G9(P:Params):G:=⟨(G8 P).ctr++[(Znv P).ctr,Zux.ctr],Z0o⟩
theorem gk9:J5 (vW (w2 w b c)) (G9 w.params):=
 gA (gk8 w b c).ctr (gC (Zrc w b c) (gC (J6k _) (gN (Z01 _))))
section
abbrev J6p:=I7 Nat Nat (List Si) Str Nat Int Nat
noncomputable def Si.kc(e:Si):Str×Int:=(e.k,e.c)
abbrev KC:=List (Str×Int)
noncomputable def Zv2(i:J6p):Code:= .call (.ref 295) ⟨[.ref i.1, .str i.4 i.5, .int i.6 i.7],[]⟩
def Znw(p n:Nat)(L:List Si):List Sl:=[⟨p,lst (L.map Si.ref) n, .si L⟩]
open Classical in
noncomputable def Q3(K:KC)(s:Str)(r:Int):KC:=
 if∃p∈K,Z0 p.1=Z0 s then K.filter (fun p=>decide (Z0 p.1≠Z0 s))++[(s,1+((K.filter (fun p=>decide (Z0 p.1=Z0 s))).map (·.2)).sum)]
 else if(K.length:Int)<r then K++[(s,1)] else(K.filter (fun p=>decide (1<p.2))).map fun p=>(p.1,p.2-1)
def Zv3(p n:Nat)(L:List Si)(U:Ph):Result×List Sl:=(.ok (.ret (.ref (U.w 0).a)),⟨(U.w 0).a,lst ((Z3t (U.w 0).g).map Si.ref) (Z3 (U.w 0).o), .si (Z3t (U.w 0).g)⟩::Znw p n L)
def Jfm:Si:=⟨0,st "",0,0,0⟩
noncomputable def sgP(c:Bool)(x:Nat):List Nat:=(match c with|true=>[0,3,0,3,0,3,3]|false=>[3,3,0,3,0,3,0,3,0,3,0,3,3])++[x,0,3,3]
noncomputable def isJ(j i:Nat)(x y:List Nat):List Nat:=match cK i j with|true=>x|false=>y
def h1P(c:Bool)(n j:Nat):List Nat:=[0,0,0,2,2,1,1,2,2,0,2,3,0,3,0,0,3,0,0,1,0]++sgP c 6++1::(aJ n).flatMap (fun i=>[1,1,6,i+1,6,i+1,6,i+1,0,6,i+1,0,6,i+1,1,2,4,1,2]++isJ j i [4,0,3,0,3,0,3,3,6,0,3,3,1] [3,1,0,2,0,2,2,2,0,3,0,3,0,3,3,6,0,3,3,1])++7::7::(match n with|0=>[3]|_=>[3,3,3])++[0,0,7,0,0,4,0,4,0,4,0,0,7,0,0,8,0,0,8,0,0,8,0,1]
noncomputable def elP(b i:Nat):List Nat:=[b,b+8,i,b+8,i,b+8,i,0,b+8,i,0,1,1]++(aJ 3).flatMap (fun y=>[0,1,0,1,1,b+9,i,1,1,1])++aY 5 (b+1)
def Jfn(c:Bool)(n:Nat):Hs:=hh (h1P c n n) (hh [0,0,7,0,0,8,0,0,8,0,0,8,0,7,3,7,6,0,10,0,1,10,0,0,10,0,0,1,10,0,1,0,0,3,n+1] (hh ((aJ n).flatMap fun i=>[10,i+1]) (Z4 0x10a02 .nil)))
def Jfo(c:Bool)(n j:Nat):Hs:=hh (h1P c n j) (hh ([7,6,0,0,7,8,0,8,0,0,8,0,0,1,0]++sgP c 11) (hh ((aJ n).flatMap fun i=>elP (3*i+3) (i+1)++[1,2,3*i+12,1,2]++isJ j i [3,3*i+4,0,3*i+5,0,3*i+5,3*i+5,3*i+5] [4]++[0,3*i+6,0,3*i+6,0,3*i+6,3*i+6,3*i+14,0,3*i+6,3*i+6])
 (hh (1::aY 6 (3*n+3)++[22,3*n+3,0,1,0,3*n+11,1,3*n+11,0,3*n+11,0,1,3*n+11,1,0,0,3,n]) (hh ((aJ n).flatMap fun i=>isJ j i [] [3*n+15,i+1]) (hh [2,0,3*n+15,0] .nil)))))
noncomputable def Zv4:Nat->Nat->Nat->List Nat->Hs
 |0,_,b,K=>hh (1::aY 6 b++[0,b,3,K.length]++K.flatMap (fun s=>[s,0])++[b+9,0]) .nil
 |n+1,i,b,K=>hh (elP b i++[2]) (.two (hh [b+1,b+1,1,0,b+3,0,b+3,b+3,b+3,0,b+4,0,b+4,0,b+4,b+4,b+12,0,b+4,b+4] (Zv4 n (i+1) (b+4) (K.map (fun s=>s+4)++[2]))) (hh [0,b+3,0,b+3,0,b+3,b+3,b+11,0,b+3,b+3] (Zv4 n (i+1) (b+3) (K.map fun s=>s+3))))
def Jfp(c:Bool)(n:Nat):Hs:=hh (h1P c n n) (hh ([0,0,7,0,0,8,0,0,8,0,0,8,0,7,4,7,8,0,8,0,0,8,0,0,1,0]++sgP c 11) (Zv4 n 1 3 []))
noncomputable def Zdr(s:Str)(c:Nat->Si->Prop)(a:Prop):List Si->Nat->Prop
 |[],_=>a
 |e::l,i=>e.k∈Z9++Zh/\∀_:Ph,s∈Z9++Zh/\∀_:Ph,c i e/\Zdr s c a l (i+1)
theorem Z9f {s:Str}{c:Nat->Si->Prop}{a:Prop}(hs:s∈Z9++Zh)(q:a){v:Nat->Si}:∀(n b:Nat),(∀i,i<n->(v (b+i)).k∈Z9++Zh/\c (b+i) (v (b+i)))->Zdr s c a ((dU b n).map v) b:=by
 intro j
 induction j with
 |zero=>
  intro _ _;exact q
 |succ n ih=>
  intro b h;exact⟨(h 0 (eO n)).1,fun y=>⟨hs,fun y=>⟨(h 0 (eO n)).2,ih (b+1) fun i m=>by rw[gW,jE 1 i];exact h (i+1) (kB m)⟩⟩⟩
def isP(j i:Nat)(x y:Prop):Prop:=match cK i j with|true=>x|false=>y
theorem Zrd {j i:Nat}{x y:Prop}(a:i=j->x)(m:i≠j->y):isP j i x y:=by
 unfold isP;cases q:cK i j with
 |true=>exact a (cU q)
 |false=>exact m (iI q)
noncomputable def Zfm(a:KC->Prop):List Si->KC->Prop
 |[],X=>True/\a X
 |e::l,X=>(1<e.c->Zfm a l (X++[(e.k,e.c-1)]))/\(¬1<e.c->Zfm a l X)
theorem Zv5 {R:KC}:∀(l:List Si)(X:KC),X++((l.map Si.kc).filter fun p=>decide (1<p.2)).map (fun p=>(p.1,p.2-1))=R->Zfm (·=R) l X:=by
 intro a
 induction a with
 |nil=>
  intro X h;exact⟨trivial,by simp only[<-h];exact(gX X).symm⟩
 |cons e l ih=>
  intro X h;exact⟨fun q=>ih _ (by rw[<-h,eD,aP,bD (p:=fun p:Str×Int=>decide (1<p.2)) (decide_eq_true q)];rfl),fun q=>ih _ (by rw[<-h,aP,bH (p:=fun p:Str×Int=>decide (1<p.2)) fun z=>q (of_decide_eq_true z)])⟩
noncomputable def vL(v:Nat->Si)(n:Nat):List Si:=(dU 0 n).map v
def J6q(v:Nat->Si)(n j:Nat)(s:Str):KC:=((dU 0 n).filter fun i=> !cK i j).map (fun i=>(v i).kc)++[(s,1+((v j).c+0))]
def Jfq(L:List Si):Prop:=L.Pairwise fun a b=>Z0 a.k≠Z0 b.k
def Zfn(L:List Si)(s:Str)(r:Int):Prop:=s∈Z9++Zh/\(∀e∈L,e.k∈Z9++Zh)/\Jfq L/\L.length<=3/\1<=r/\r<=3
noncomputable def nJ(k:Nat):Nat:=match k with|0=>1|1=>2|2=>2|_=>3
noncomputable def jJ(k:Nat):Nat:=match k with|0=>0|1=>0|2=>1|3=>0|4=>1|_=>2
theorem Jbx:∀k,k<6->(dU 0 (nJ k)).filter (fun i=>cK i (jJ k))=[jJ k]:=by decide
theorem Jby:∀n,n<4->∀j,j<n->∃k,k<6/\nJ k=n/\jJ k=j:=by decide
structure VOk(v:Nat->Si)(n:Nat)(s:Str):Prop where
 g:∀i,i<n->(v i).k∈Z9++Zh
 s:s∈Z9++Zh
theorem Zc0 {v:Nat->Si}{n:Nat}{s:Str}{r:Int}(h:∀i,i<n->Z0 (v i).k≠Z0 s):Q3 ((vL v n).map Si.kc) s r=if((n:Nat):Int)<r then(vL v n).map Si.kc++[(s,1)] else(((vL v n).map Si.kc).filter fun p=>decide (1<p.2)).map fun p=>(p.1,p.2-1):=by
 unfold Q3;rw[if_neg,aE,vL,aE,List.length_range'];rintro⟨p,a,e⟩;obtain⟨x,j,rfl⟩:=aN.mp a;obtain⟨i,m,rfl⟩:=aN.mp j;exact h i (by rw[iD] at m;lia) e
theorem Zv6 {v:Nat->Si}{k:Nat}(m:k<6){s:Str}{r:Int}(h:∀i,i<nJ k->(Z0 (v i).k=Z0 s↔i=jJ k)):J6q v (nJ k) (jJ k) s=Q3 ((vL v (nJ k)).map Si.kc) s r:=by
 haveI y:jJ k<nJ k:=(by decide:∀k,k<6->jJ k<nJ k) k m;have j:∀i∈dU 0 (nJ k),i<nJ k:=fun i a=>by rw[iD] at a;omega
 haveI I:((vL v (nJ k)).map Si.kc).filter (fun p=>decide (Z0 p.1≠Z0 s))=((dU 0 (nJ k)).filter fun i=> !cK i (jJ k)).map fun i=>(v i).kc:=by
  simp only[vL,bS,dA];refine congrArg (aF _) (fF fun i a=> ?_);show decide (Z0 (v i).k≠Z0 s)= !cK i (jJ k);cases q:cK i (jJ k) with
  |true=>exact decide_eq_false fun z=>z ((h i (j i a)).mpr (cU q))
  |false=>exact decide_eq_true fun z=>iI q ((h i (j i a)).mp z)
 haveI J:((vL v (nJ k)).map Si.kc).filter (fun p=>decide (Z0 p.1=Z0 s))=((dU 0 (nJ k)).filter fun i=>cK i (jJ k)).map fun i=>(v i).kc:=by
  simp only[vL,bS,dA];refine congrArg (aF _) (fF fun i a=> ?_);show decide (Z0 (v i).k=Z0 s)=cK i (jJ k);cases q:cK i (jJ k) with
  |true=>exact decide_eq_true ((h i (j i a)).mpr (cU q))
  |false=>exact decide_eq_false fun z=>iI q ((h i (j i a)).mp z)
 unfold Q3;rw[if_pos ⟨(v (jJ k)).kc,aL (aL (iD.mpr ⟨bP _,by omega⟩)),(h _ y).mpr rfl⟩,I,J,Jbx k m];rfl
section
variable(w:World)(b c:Bool)(p n0:Nat)(s:Str)(t:Nat)(r:Int)(rt:Nat)(v:Nat->Si)
abbrev Zv7(n:Nat):Prop:=Yu (vW (w2 w b c)) true false (Zf 5) (Ze 5) (Zv2 ⟨p,n0,vL v n,s,t,r,rt⟩) (Znw p n0 (vL v n)) 1 (fun y=>True) (fun y U=>(Z3t (U.w 0).g).map Si.kc=Q3 ((vL v n).map Si.kc) s r) (fun y=>Zv3 p n0 (vL v n))
theorem J14:∀n,n<3->(VOk v n s/\(∀i,i<n->Z0 (v i).k≠Z0 s)/\(n:Int)<r)->Zv7 w b c p n0 s t r rt v n:=
 Znb (k:=2) (p:=fun n=>Zdr s (fun y e=>Z0 e.k≠Z0 s) ((↑(Array.mk ((vL v n).map Si.ref)).size<r)/\True/\((vL v n).map Si.kc++[(s,1)]=Q3 ((vL v n).map Si.kc) s r)) (vL v n) 0) (gk9 w b c) Jfn (fun N T=>by kernel_rfl)
  fun n y ⟨o,h,hr⟩=>Z9f o.s ⟨by simpa[vL] using hr,trivial,by rw[Zc0 h,if_pos hr]⟩ n 0 fun i a=>by rw[dH];exact⟨o.g i a,h i a⟩
theorem J15:∀n,n<3->(VOk v (n+1) s/\(∀i,i<n+1->Z0 (v i).k≠Z0 s)/\¬((n+1:Nat):Int)<r)->Zv7 w b c p n0 s t r rt v (n+1):=
 Znb (k:=2) (p:=fun n=>Zdr s (fun y e=>Z0 e.k≠Z0 s) (¬(↑(Array.mk ((vL v (n+1)).map Si.ref)).size<r)/\Zfm (fun X=>X=Q3 ((vL v (n+1)).map Si.kc) s r) (vL v (n+1)) []) (vL v (n+1)) 0) (gk9 w b c) (fun c n=>Jfp c (n+1)) (fun N T=>by kernel_rfl)
  fun n y ⟨o,h,hr⟩=>Z9f o.s ⟨by simpa[vL] using hr,Zv5 _ _ (by rw[Zc0 h,if_neg hr];rfl)⟩ (n+1) 0 fun i a=>by rw[dH];exact⟨o.g i a,h i a⟩
theorem J16:∀k,k<6->(VOk v (nJ k) s/\(∀i,i<nJ k->(Z0 (v i).k=Z0 s↔i=jJ k)))->Zv7 w b c p n0 s t r rt v (nJ k):=
 Znb (k:=2) (p:=fun k=>Zdr s (fun i e=>isP (jJ k) i (¬Z0 e.k≠Z0 s) (Z0 e.k≠Z0 s)) (Zdr s (fun i e=>isP (jJ k) i (Z0 e.k=Z0 s) (¬Z0 e.k=Z0 s)) (∀_:Ph,True/\(J6q v (nJ k) (jJ k) s=Q3 ((vL v (nJ k)).map Si.kc) s r)) (vL v (nJ k)) 0) (vL v (nJ k)) 0) (gk9 w b c) (fun c k=>Jfo c (nJ k) (jJ k)) (fun N T=>by kernel_rfl)
  fun k j ⟨o,h⟩=>Z9f o.s (Z9f o.s (fun y=>⟨trivial,Zv6 j h⟩) _ 0 fun i a=>by rw[dH];exact⟨o.g i a,Zrd (h i a).mpr fun q z=>q ((h i a).mp z)⟩) _ 0 fun i a=>by rw[dH];exact⟨o.g i a,Zrd (fun q z=>z ((h i a).mpr q)) fun q z=>q ((h i a).mp z)⟩
end
theorem J6r(p n:Nat)(L:List Si)(s:Str)(t:Nat)(r:Int)(rt:Nat)(I:Zfn L s r):
  Yu (vW (w2 w b c)) true false (Zf 5) (Ze 5) (Zv2 ⟨p,n,L,s,t,r,rt⟩) (Znw p n L) 1 (fun u=>True) (fun u U=>(Z3t (U.w 0).g).map Si.kc=Q3 (L.map Si.kc) s r) (fun u=>Zv3 p n L):=by
 haveI gs:=I.1;haveI g:=I.2.1;haveI hd:=I.2.2.1;haveI Y:=I.2.2.2.1;haveI W:=I.2.2.2.2.1;haveI h3:=I.2.2.2.2.2;obtain⟨v,e⟩:=Z4o Jfm (rfl:L.length=L.length);haveI e':L=vL v L.length:=by simp only[vL,<-kU];exact e
 generalize L.length=m at e' Y
 clear e;subst e';have o:VOk v m s:=⟨fun i I=>g _ (aL (iD.mpr ⟨bP _,(Zm [] [_,_] [.n Y8 Yi] (.n Y8 (.a Qs Yi)) rfl I)⟩)),gs⟩;refine Z7 fun Z=> ?_
 by_cases q:∃j,j<m/\Z0 (v j).k=Z0 s
 ·obtain⟨j,hj,ej⟩:=q;obtain⟨k,hk,rfl,rfl⟩:=Jby m (fG Y) j hj;have J:∀i,i<nJ k->(vL v (nJ k))[i]?=some (v i):=fun i I=>by rw[vL,bE,kX I,dH,oK];rfl
  refine Z ?_;refine J16 w b c p n s t r rt v k hk ⟨o,fun i I=>⟨fun z=> ?_,fun z=>z▸ej⟩⟩;have ne:∀a b,a<b->b<nJ k->Z0 (v a).k≠Z0 (v b).k:=fun a b W X=>by
   have:=fA.mp hd a b (bJ.mp (J a (fV W X))).1 (bJ.mp (J b X)).1 W
   rwa[(bJ.mp (J a (fV W X))).2,(bJ.mp (J b X)).2] at this
  rcases pM i (jJ k) with y|y|y
  ·exact absurd (z.trans ej.symm) (ne _ _ y hj)
  ·exact y
  ·exact absurd (ej.trans z.symm) (ne _ _ y I)
 ·have h:∀i,i<m->Z0 (v i).k≠Z0 s:=fun i I z=>q ⟨i,I,z⟩
  by_cases hr:(m:Int)<r
  ·exact Z (J14 w b c p n s t r rt v m (Zm [_] [_] [.z Y8 Jb, .z Jb Z2b] (.n Y8 Z2b) rfl hr h3) ⟨o,h,hr⟩)
  ·obtain⟨m,rfl⟩:∃m',m=m'+1:=⟨m-1,by omega⟩;exact Z (J15 w b c p n s t r rt v m Y ⟨o,h,hr⟩)
def Znx:Zi J6p where
 code:=Zv2
 P i:=Znw i.1 i.2 i.3
 cond i:=some (Zfn i.3 i.4 i.6)
 F i _ U:=Zv3 i.1 i.2 i.3 U
 k:=1
 nn _:=1
 ext c S:=match c with
  | .call _ ⟨[.ref _, .str s t, .int r rt],[]⟩=>(match S with
   |[l]=>(match l.g with
    | .si L=>some ⟨l.a,Z3 l.o,L,s,t,r,rt⟩
    |_=>none)
   |_=>none)
  |_=>none
 d:=Zf 5
 u:=Ze 5
 z:=true
 D:=some fun i y U=>(Z3t (U.w 0).g).map Si.kc=Q3 (i.3.map Si.kc) i.4 i.6
theorem Zre:Za (vW (w2 w b c)) Znx.ctr:=
 Znx.okD (fun i a=>J6r w b c i.1 i.2 i.3 i.4 i.5 i.6 i.7 (a _ rfl))
end

abbrev Zhb:=I7 Nat Nat (List Is) Int Nat Nat Obj
noncomputable def J6s(i:Zhb):Code:= .call (.builtin "list.pop") ⟨[.ref i.1, .int i.4 i.5],[]⟩
def J6t(i:Zhb):List Sl:=[⟨i.1,lst (i.3.map Is.ref) i.2, .is i.3⟩,⟨i.6,i.7, .no⟩]
def J6u(i:Zhb)(U:Ph):Result×List Sl:=(.ok (.ret (.ref (i.3.getD i.4.toNat Zo).a)),[⟨i.1,lst ((i.3.eraseIdx i.4.toNat).map Is.ref) (Z3 (U.w 0).o), .is (i.3.eraseIdx i.4.toNat)⟩,⟨i.6,i.7, .is [i.3.getD i.4.toNat Zo]⟩])
noncomputable def Zv8:List (Nat×Nat):=[(1,0),(2,0),(2,1),(3,0),(3,1),(3,2),(4,0),(4,1),(4,2),(4,3)]
def Jfr(k:Nat):Hs:=match k with
 |0=>Z4 0x110141062e .nil
 |1=>Z4 0x11014120162e .nil
 |2=>Z4 0x12014110162e .nil
 |3=>Z4 0x1101413020262e .nil
 |4=>Z4 0x1201413010262e .nil
 |5=>Z4 0x1301412010262e .nil
 |6=>Z4 0x110141403020362e .nil
 |7=>Z4 0x120141403010362e .nil
 |8=>Z4 0x1301414e3e0362e .nil
 |_=>Z4 0x1401413e3e0362e .nil
theorem J6v(w:World)(i:Zhb)(W:0<=i.4)(a:i.4<i.3.length)(J:i.3.length<=4):J7 (vW w) false false (Zf 0) (Ze 0) (J6s i) (J6t i) (J6u i):=by
 obtain⟨l,n,R,k,Z,Y,co⟩:=i;obtain⟨k,rfl⟩:=bU W;have a:k<R.length:=iJ.mp a;obtain⟨v,e⟩:=Z4o (⟨0,0,0,⟨⟨[]⟩⟩,0⟩:Is) (rfl:R.length=R.length);obtain⟨m,hm,q⟩:=Z3k ((show∀n,n<5->∀k,k<n->(n,k)∈Zv8 by decide) _ (fG J) _ a) (0,0);have I:(Zv8.getD m (0,0)).1=R.length:=congrArg kY q;have j:(Zv8.getD m (0,0)).2=k:=congrArg lA q;rw[e,<-I,<-j];clear q I j;refine Jk Ym (n:=100000) (k:=2) (hs:=Jfr m) fun N T X y=> ?_
 revert m
 exact Z5p (by kernel_rfl)
def Zv9:Zi Zhb where
 code:=J6s
 P:=J6t
 cond i:=some (0<=i.4/\i.4<i.3.length/\i.3.length<=4)
 F i _ U:=J6u i U
 k:=2
 ext c S:=match c with
  | .call _ ⟨[.ref _, .int i ti],[]⟩=>(match S with
   |[r,x]=>(match r.g with
    | .is R=>some ⟨r.a,Z3 r.o,R,i,ti,x.a,x.o⟩
    |_=>none)
   |_=>none)
  |_=>none
 d:=Zf 0
 u:=Ze 0
theorem J6w(w:World):Za (vW w) Zv9.ctr:=
 Zv9.ok (fun i a=>J6v w i (a _ rfl).1 (a _ rfl).2.1 (a _ rfl).2.2)
def GA(P:Params):G:=⟨(G9 P).ctr++[Znx.ctr,Zv9.ctr,Znr.ctr,Zby.ctr],Z0o⟩
theorem gkA:J5 (vW (w2 w b c)) (GA w.params):=
 gA (gk9 w b c).ctr (gC (Zre w b c) (gC (J6w _) (gC (J10 _) (gC (J11 _) (gN (Z01 _))))))
def Z0v(s:Stmt):Expr:=Zgw s
def Zfo(e:Expr)(i:Nat):Expr:=kid e i
def Z4d(e:Expr):Scope:=match e with| .ListComp _ _ s _=>s| .Lambda _ _ s _=>s|_=>Zki
def Jbz(a b:Str):Bool:=Z0t a.cps.toList b.cps.toList
noncomputable def J6x(l:List Str)(n:Str):Bool:=match l with|[]=>false|m::r=>(match Jbz m n with|true=>true|false=>J6x r n)
def Z0w(e:Expr)(q:Str)(code d f:Nat)(cells:List (Str×Nat)):Env:=
 {scope:={Z4d e with names:=(Z4d e).names.map fun p=>match J6x (cells.map (·.1)) p.1 with|true=>(p.1, .cell)|false=>p},locals:=d,globals:=3,cells:=cells,qual:=q,func:=none,code:= .ref code,frame:=some f,builtins:=0}
noncomputable def Zyu(l:Nat):Obj:=⟨.type "list_iterator",none, .fields ⟨[.ref l, .int 0 0]⟩,⟨[]⟩⟩
noncomputable def Qx(n:Nat):Obj:=⟨.type "dict",none, .dict ⟨[]⟩ n,⟨[]⟩⟩
noncomputable def J8(v:Value):Obj:=⟨.type "cell",none, .cell (some v),⟨[]⟩⟩
def Zyv:Expr:=Zfo (Z0v (Z0d (Qm (Y2 26)) 1)) 0
abbrev Zc1:=I7 Nat Nat Nat (List He) Nat Nat (I6 Nat Nat Nat Nat Str Nat)
def Zny(i:Zc1):Code:= .compStart Zyv 0 (.ref i.1) (.ref i.5) (Z0w Zyv (st "_law_refused.<locals>.") 282 i.7.1 i.7.4 [(st "name",i.7.3)])
def Znz(i:Zc1):List Sl:=[⟨i.1,Zyu i.2, .no⟩,⟨i.2,lst (i.4.map He.ref) i.3, .hs i.4⟩,⟨i.5,lst [] i.6, .no⟩,⟨i.7.1,Qx i.7.2, .no⟩,⟨i.7.3,J8 (.str i.7.5 i.7.6), .no⟩]
def Zva(o:Obj):Nat:=match o.data with| .dict es _=>(match es.toList with|e::_=>Z6 e.key|[]=>0)|_=>0
noncomputable def Jfs(o:Obj):Value:=match o.data with| .dict es _=>(match es.toList with|e::_=>e.val|[]=> .none)|_=> .none
noncomputable def Zvb(o:Obj):Int:=match o.data with| .dict es _=>(match es.toList with|e::_=>e.hash|[]=>0)|_=>0
def Jft(a:Str)(o:Obj):Obj:=⟨.type "dict",none, .dict ⟨[⟨Zvb o, .str a (Zva o),Jfs o⟩]⟩ (Z3 o),⟨[]⟩⟩
def Zo0(i:Zc1)(K:List He)(U:Ph):Result×List Sl:=(.ok .next,[⟨i.1,(U.w 0).o, .no⟩,⟨i.2,lst (i.4.map He.ref) i.3, .hs i.4⟩,⟨i.5,lst (K.map He.ref) (Z3 (U.w 2).o), .hs K⟩,⟨i.7.1,Jft (st "pair") (U.w 3).o, .no⟩,⟨i.7.3,J8 (.str i.7.5 i.7.6), .no⟩])
def Zrf(i:Zc1)(U:Ph):Result×List Sl:=(.ok .next,[⟨i.1,(U.w 0).o, .no⟩,⟨i.2,lst (i.4.map He.ref) i.3, .hs i.4⟩,⟨i.5,lst [] (Z3 (U.w 2).o), .no⟩,⟨i.7.1,Qx (Z3 (U.w 3).o), .no⟩,⟨i.7.3,J8 (.str i.7.5 i.7.6), .no⟩])
noncomputable def J6y(o:Obj):Option (Str×Nat):=match o.data with| .cell (some (.str s t))=>some (s,t)|_=>none
def Jc0(c:Bool)(n:Nat):Hs:=hh (match c with|true=>[0,0,1,0,1,0,1,1,2,0,1,1]|false=>[0,1,1,0,1,0,1,0,1,0,1,0,1,1,2,0,1,1])
 (Zfj (fun j=>[4,4,4,2,j,2,j,2,j,0,2,j,0,2,j,1,2,5,1,2,2]) [4,0,3,0,3,3,3,0,1,0,1,0,1,1,2,0,1,1] [0,1,0,1,0,1,1,2,0,1,1]
  (fun m K=>1::m::2::0::3::0::4::2::K.length::K.flatMap (fun j=>[3,j])++[5,0,6,0]) n 1 1 0 [])
theorem J17(it l n:Nat)(L:List He)(acc m d a j f:Nat)(s:Str)(t:Nat)(hs:s∈Z9++Zh)(W:L≠[])(J:Jp L):
  J7 (vW (w2 w b c)) true false (Zf 2) (Ze 2) (Zny ⟨it,l,n,L,acc,m,d,a,j,f,s,t⟩) (Znz ⟨it,l,n,L,acc,m,d,a,j,f,s,t⟩) (Zo0 ⟨it,l,n,L,acc,m,d,a,j,f,s,t⟩ (Zg L (Z0 s))):=by
 obtain⟨g,X⟩:=J;refine Qi.mono (na:=2^L.length) (C:=fun i=>Zg L (Z0 s)=Z2m L i) (F:=fun i=>Zo0 ⟨it,l,n,L,acc,m,d,a,j,f,s,t⟩ (Z2m L i)) ?_ fun i z e=>⟨0,aX,trivial,fun U=>⟨U,by rw[e],by rw[e],rfl,rfl⟩⟩
 revert g
 revert X
 revert W
 revert L
 exact Zh4 Zs fun v=>J67 (k:=fun z=>5) (p:=fun k=>Zh5 (fun e x y=>e.k∈Z9++Zh/\∀_:Ph,s∈Z9++Zh/\∀_:Ph,(Z0 e.k≠Z0 s->x)/\(¬Z0 e.k≠Z0 s->y)) (fun m=>Zg ((aJ (k+1)).map v) (Z0 s)=Z2m ((aJ (k+1)).map v) m/\True) ((aJ (k+1)).map v) 1 0)
  (gk4 _) (fun c k=>Jc0 c (k+1)) (fun N T=>by kernel_rfl) (fun n (g:∀e∈(aJ (n+1)).map v,e.k∈Z9++Zh)=>Zkm _ _ _ (fun e I x y k1 k2=>⟨g e I,fun z=>⟨hs,fun z=>⟨k1,k2⟩⟩⟩) fun i q=>⟨by rwa[dH,oK],trivial⟩)
theorem Zvc(it l n acc m d j a f:Nat)(s:Str)(t:Nat):J7 (vW (w2 w b c)) true false (Zf 2) (Ze 2) (Zny ⟨it,l,n,[],acc,m,d,j,a,f,s,t⟩) (Znz ⟨it,l,n,[],acc,m,d,j,a,f,s,t⟩) (Zrf ⟨it,l,n,[],acc,m,d,j,a,f,s,t⟩):=by
 cases c
 ·exact zN2 (gk4 _) 5 (Z4 0x1c1e10270e0 .nil) (fun y y=>by kernel_rfl) trivial
 ·exact zN2 (gk4 _) 5 (Z4 0x1c1e10204e00 .nil) (fun y y=>by kernel_rfl) trivial
def Zo1:Zi Zc1 where
 code:=Zny
 P:=Znz
 cond i:=some (i.7.5∈Z9++Zh/\Jp i.4)
 na:=2
 C i a:=match a with|0=>i.4=[]|_=>i.4≠[]
 F i a U:=match a with|0=>Zrf i U|_=>Zo0 i (Zg i.4 (Z0 i.7.5)) U
 k:=5
 ext c S:=match c with
  | .compStart _ _ _ _ env=>(match env.frame with
   |some f=>(match S with
    |[it,l,acc,d,ca]=>(match l.g with
     | .hs L=>(match J6y ca.o with
      |some q=>some ⟨it.a,l.a,Z3 l.o,L,acc.a,Z3 acc.o,d.a,Z3 d.o,ca.a,f,q.1,q.2⟩
      |none=>none)
     |_=>none)
    |_=>none)
   |none=>none)
  |_=>none
 d:=Zf 2
 u:=Ze 2
 z:=true
theorem J18:Za (vW (w2 w b c)) Zo1.ctr:=by
 refine Zo1.ok (fun i W=> ?_) (fun i a U y=>by cases a<;>rfl);obtain⟨I,J⟩:=W _ rfl;obtain⟨it,l,n,L,acc,m,d,j,q,f,s,t⟩:=i
 by_cases h0:L=[]
 ·subst h0;exact(Zvc w b c it l n acc m d j q f s t).mono fun y y y=>⟨0,iX,rfl,fun U=>⟨U,rfl,rfl,rfl,rfl⟩⟩
 ·exact(J17 w b c it l n L acc m d j q f s t I h0 J).mono fun y y y=>⟨1,lF,h0,fun U=>⟨U,rfl,rfl,rfl,rfl⟩⟩
abbrev Zo2:=I4 Nat Nat (List Is) Nat
noncomputable def J6z(i:Zo2):Code:= .call (.builtin "list.__getitem__") ⟨[.ref i.1, .ref i.4],[]⟩
def Zvd(i:Zo2):List Sl:=[⟨i.1,lst (i.3.map Is.ref) i.2, .is i.3⟩,⟨i.4,Z6a, .no⟩]
def J70(i:Zo2)(U:Ph):Result×List Sl:=(.ok (.ret (.ref (U.w 0).a)),⟨(U.w 0).a,lst (i.3.map Is.ref) (Z3 (U.w 0).o), .is i.3⟩::Zvd i)
noncomputable def mtO(o:Obj):Obj:=⟨.type "re.Match",o.dict,o.data,o.slots⟩
def Jfu:List Str:=Zh++Zh.map Z0
def Jfv:List Str:=[st "KeyError\x7f",st "OSError\x1f",st "Exit\r",st "E\x0b",st "Lock\x01"]
def Z37(n:Bool):List Str:=match n with|true=>Jfu|false=>Jfv
def Jfw(i:Zdi):Code:= .call (.builtin "re.Pattern.search") ⟨[.ref (Zug i.1), .str i.2 i.3],[]⟩
def Jfx(U:Ph):Result×List Sl:=(.ok (.ret (.ref (U.w 0).a)),[⟨(U.w 0).a,mtO (U.w 0).o, .no⟩])
noncomputable def Z44(s:Str):Str:=⟨⟨s.cps.toList.drop (s.cps.toList.length-1)⟩⟩
noncomputable def Jfy(i:Zdj)(t:Nat):Code:= .call (.builtin "str.__getitem__") ⟨[.str i.1 i.2, .int (-1) t],[]⟩
def Zve:Zi Zo2 where
 code:=J6z
 P:=Zvd
 cond i:=some (i.3.length<=4)
 F i _ U:=J70 i U
 k:=2
 nn _:=1
 ext _ S:=match S with
  |[l,s]=>(match l.g with| .is R=>some ⟨l.a,Z3 l.o,R,s.a⟩|_=>none)
  |_=>none
 d:=Zf 0
 u:=Ze 0
def Jfz(k:Nat):Hs:=match k with
 |0=>Z4 0x1e3e081e .nil
 |1=>Z4 0x1e3e11181e .nil
 |2=>Z4 0x1e3e2111281e .nil
 |3=>Z4 0x1e3e312111381e .nil
 |_=>Z4 0x1e3e41312111481e .nil
theorem J71(w:World)(l n:Nat)(R:List Is)(sl:Nat)(a:R.length<=4):J7 (vW w) false false (Zf 0) (Ze 0) (J6z ⟨l,n,R,sl⟩) (Zvd ⟨l,n,R,sl⟩) (J70 ⟨l,n,R,sl⟩):=by
 revert R
 exact Z1i (⟨0,0,0,⟨⟨[]⟩⟩,0⟩:Is) fun v k j=>Jk Ym (n:=100000) (k:=3) (hs:=Jfz k) fun N T m y=>by revert k;exact Z5p (by kernel_rfl)
theorem J72(w:World):Za (vW w) Zve.ctr:=Zve.ok (fun i a=>J71 w i.1 i.2 i.3 i.4 (a _ rfl))
def Zvf:Zi Zdi where
 code:=Jfw
 P _:=[]
 cond i:=some (i.2∈Z37 i.1)
 F _ _ U:=Jfx U
 k:=0
 nn _:=1
 ext c _:=match c with
  | .call _ ⟨[.ref a, .str s t],[]⟩=>some ⟨cK a 41,s,t⟩
  |_=>none
 d:=Zf 0
 u:=Ze 0
theorem J73(w:World):Za (vW w) Zvf.ctr:=by
 refine Zvf.ok (fun i j=> ?_);obtain⟨n,s,t⟩:=i;have a:s∈Z37 n:=j _ rfl;clear j;obtain⟨k,q,rfl⟩:=Z3k a (st "");clear a;refine Jk Ym (n:=100000) (k:=1) (hs:=Z4 0x10000de .nil) fun N T m y=> ?_
 revert k
 cases n<;>exact Z5p (by kernel_rfl)
abbrev Jg0:=I3 Str Nat Nat
def Zvg:Zi Jg0 where
 code i:=Jfy ⟨i.1,i.2⟩ i.3
 P _:=[]
 cond i:=some (i.1∈Zh)
 F i _ U:=(.ok (.ret (.str (Z44 i.1) (Z6 U.rv))),[])
 k:=0
 ext c _:=match c with
  | .call _ ⟨[.str s t, .int _ u],[]⟩=>some ⟨s,t,u⟩
  |_=>none
 d:=Zf 0
 u:=Ze 0
theorem J74(w:World):Za (vW w) Zvg.ctr:=by
 refine Zvg.ok (fun i j=> ?_);obtain⟨s,t,u⟩:=i;have a:s∈Zh:=j _ rfl;clear j;obtain⟨k,q,rfl⟩:=Z3k a (st "");clear a;refine Jk Ym (n:=100000) (k:=0) (hs:=Zbo .nil) fun N T m y=> ?_
 revert k
 exact Z5p (by kernel_rfl)
def GD(P:Params):G:=⟨(GA P).ctr++[Zo1.ctr,Zve.ctr,Zvf.ctr,Zvg.ctr],Z0o⟩
theorem gkD:J5 (vW (w2 w b c)) (GD w.params):=
 gA (gkA w b c).ctr (gC (J18 w b c) (gC (J72 _) (gC (J73 _) (gC (J74 _) (gN (Z01 _))))))
abbrev Zhc:=I7 Hd (List He) Nat Nat (List Is) Str (I3 Nat Int Nat)
noncomputable def Z0e(i:Zhc):Code:= .call (.ref 283) ⟨[.ref i.1.a, .ref i.3, .str i.6 i.7.1, .int i.7.2 i.7.3],[]⟩
def Z0a(P:Params)(h:Hd)(L:List He)(r n:Nat)(R:List Is):List Sl:=Yc P h L++[⟨r,lst (R.map Is.ref) n, .is R⟩]
def Z0f(P:Params)(h:Hd)(L:List He)(r n:Nat)(R:List Is)(_:Ph):Result×List Sl:=(.ok (.ret (.bool true)),Z0a P h L r n R)
abbrev Zhd:=I3 Nat Nat (List He)
noncomputable def J75(i:Zhd):Code:= .call (.ref 175) ⟨[.ref i.1],[]⟩
def J76(i:Zhd):List Sl:=[⟨i.1,lst (i.3.map He.ref) i.2, .hs i.3⟩]
def Jc1(i:Zhd)(U:Ph):Hd:=⟨(U.w 0).a,(U.w 1).a,i.1,Zva (U.w 1).o,i.2,Zvb (U.w 1).o⟩
def J77(P:Params)(i:Zhd)(U:Ph):Result×List Sl:=(.ok (.ret (.ref (U.w 0).a)),Yc P (Jc1 i U) i.3)
def Z04(L:List He):Prop:=(∀e∈L,e.k∈Z9/\e.v∈Z56)/\L.length<=4
noncomputable def Zvh(g h:Nat->Prop):Nat->Nat->Prop
 |0,_=>True
 |r+1,j=>g j/\∀_:Ph,h j/\∀_:Ph,Zvh g h r (j+1)
theorem J19 {g h:Nat->Prop}:∀(r j:Nat),(∀i,i<r->g (j+i)/\h (j+i))->Zvh g h r j:=by
 intro a
 induction a with
 |zero=>
  intro _ _;exact trivial
 |succ r ih=>
  intro j k;exact⟨(k 0 (eO r)).1,fun y=>⟨(k 0 (eO r)).2,fun y=>ih (j+1) fun i m=>by rw[gW,jE 1 i];exact k (i+1) (kB m)⟩⟩
noncomputable def Zds(b:Nat):List Nat:=[0,b+1,0,0,0,b+1,0,0,0,b+1,0,0,0,0,b+1,b+2,b,0,4]
noncomputable def Zyw:Nat->Nat->Hs
 |0,j=>hh [1,0,3*j+4,0,3*j+5,0,3*j+6,0] .nil
 |r+1,j=>hh (match j with|0=>[]|_=>[3*j+1]) (hh (Zui (3*j+5) (j+1)++Zds (3*j+5)++(3*j+5)::Zds (3*j+5)++[0,3*j+4,0,3*j+4,0,3*j+4,3*j+4,3*j+8,0,3*j+4,3*j+4]) (Zyw r (j+1)))
def Jg1(n:Nat):Hs:=Z4 0x11c2e02e (match n with|0=>Z4 0x147e0 .nil|n+1=>Zyw (n+1) 0)
theorem J78(l n:Nat)(L:List He)(y:Z04 L):J7 (vW (w2 w b c)) true false (Zf 2) (Ze 2) (J75 ⟨l,n,L⟩) (J76 ⟨l,n,L⟩) (J77 w.params ⟨l,n,L⟩):=by
 obtain⟨g,a⟩:=y
 revert L
 intro L g a;obtain⟨v,e⟩:=Z4o Zs (rfl:L.length=L.length);have m:∀i,i<L.length->(v i).k∈J2 true/\(v i).v∈J2 false:=fun i j=>g _ (by rw[e];exact aL (eV.mpr j));rw[e]
 generalize L.length=k at a m
 clear e g;refine Z85 (gk4 _) (n:=100000) (k:=3) (hs:=Jg1 k) fun N T=> ?_;have I:k<5:=fG a;clear a;have q:Zvh (fun i=>(v i).k∈J2 true) (fun i=>(v i).v∈J2 false) k 0:=J19 k 0 fun i j=>by rw[dH];exact m i j
 clear m
 revert k
 cases b<;>cases c<;>exact Zam (by kernel_rfl)
def Zo3(P:Params):Zi Zhd where
 code:=J75
 P:=J76
 cond i:=some (Z04 i.3)
 F i _ U:=J77 P i U
 k:=1
 nn _:=2
 ext _ S:=match S with
  |[l]=>(match l.g with| .hs L=>some ⟨l.a,Z3 l.o,L⟩|_=>none)
  |_=>none
 d:=Zf 2
 u:=Ze 2
 z:=true
theorem Zrg:Za (vW (w2 w b c)) (Zo3 w.params).ctr:=
 (Zo3 w.params).ok (fun i a=>J78 w b c i.1 i.2 i.3 (a _ rfl))
def GE(P:Params):G:=⟨(GD P).ctr++[(Zo3 P).ctr],Z0o⟩
theorem gkE:J5 (vW (w2 w b c)) (GE w.params):=
 gA (gkD w b c).ctr (gC (Zrg w b c) (gN (Z01 _)))
abbrev Zhe:=I6 Nat Nat (List He) Nat Nat He
noncomputable def J79(i:Zhe):Code:= .call (.builtin "list.__add__") ⟨[.ref i.1, .ref i.4],[]⟩
def Zvi(i:Zhe):List Sl:=[⟨i.1,lst (i.3.map He.ref) i.2, .hs i.3⟩,⟨i.4,lst [i.6.ref] i.5, .no⟩,⟨i.6.a,heO i.6, .no⟩]
def J7a(i:Zhe)(U:Ph):Result×List Sl:=(.ok (.ret (.ref (U.w 0).a)),⟨(U.w 0).a,lst ((i.3++[i.6]).map He.ref) (Z3 (U.w 0).o), .hs (i.3++[i.6])⟩::Zvi i)
def Zo4(P:Params):Zi HdI where
 code i:=Zgx i.1
 P i:=Yc P i.1 i.2
 cond i:=some (i.2.length<=5)
 F i _ U:=Zgy P i.1 i.2 U
 k:=3
 nn _:=1
 ext _ S:=(match Z1p S with
  |some (h,L)=>some ⟨h,L⟩
  |none=>none)
 d:=Zf 2
 u:=Ze 2
theorem Zrh:Za (vW (w2 w b c)) (Zo4 w.params).ctr:=
 (Zo4 w.params).ok (fun i a=>Zgz w b c i.1 i.2 (a _ rfl))
def Jg2(k:Nat):Hs:=match k with
 |0=>Z4 0x123e031a8e .nil
 |1=>Z4 0x123e03112a8e .nil
 |2=>Z4 0x123e0321113a8e .nil
 |3=>Z4 0x123e033121114a8e .nil
 |_=>Z4 0x123e03413121115a8e .nil
theorem J7b(w:World)(i:Zhe)(a:i.3.length<=4):J7 (vW w) false false (Zf 0) (Ze 0) (J79 i) (Zvi i) (J7a i):=by
 obtain⟨l,n,L,b,m,e⟩:=i
 revert L
 exact Z1i Zs fun v k j=>Jk Ym (n:=100000) (k:=4) (hs:=Jg2 k) fun N T q y=>by revert k;exact Z5p (by kernel_rfl)
def Zvj:Zi Zhe where
 code:=J79
 P:=Zvi
 cond i:=some (i.3.length<=4)
 F i _ U:=J7a i U
 k:=3
 nn _:=1
 ext _ S:=match S with
  |[l,b,t]=>(match l.g with
   | .hs L=>(match Zdc (t.a,t.o) with
    |some e=>some ⟨l.a,Z3 l.o,L,b.a,Z3 b.o,e⟩
    |none=>none)
   |_=>none)
  |_=>none
 d:=Zf 0
 u:=Ze 0
theorem J7c(w:World):Za (vW w) Zvj.ctr:=Zvj.ok (fun i a=>J7b w i (a _ rfl))
def GF(P:Params):G:=⟨(GE P).ctr++[(Zo4 P).ctr,Zvj.ctr],Z0o⟩
theorem gkF:J5 (vW (w2 w b c)) (GF w.params):=
 gA (gkE w b c).ctr (gC (Zrh w b c) (gC (J7c _) (gN (Z01 _))))
theorem Z73(L:List He)(e:He)(a:(Dt.hs (L.map He.kv)).ok)(j:(Dt.hs [He.kv e]).ok):(Dt.hs (aF He.kv (L++[e]))).ok:=by
 intro p hp;simp only[bB,aG,aP,fE] at hp;rcases hp with hp|hp
 ·exact a p hp
 ·exact j p hp
theorem Zri(h:Hd)(r n:Nat)(R:List Is)(t dt:Nat)(out:List Env)(L:List He)(k1:L.length<=4)(k2:Jp L)(k3:(Dt.hs (aF He.kv L)).ok)(k4:(Dt.is (aF Is.ck R)).ok)(k5:R.length<=4)(k8:Z04 L)(X:Zg L (Z0 (aB "Z"))=L)(y:∀s:Str,(Zg L s).length<=L.length)(kz:aB "Z"∈Z9++Zh)(ky:Z0 (aB "Z")∈Z9)(kx:aB "Z"∈J2 true)(kw:Zb L (Z0 (aB "Z"))=none)(kv:aB "Error"∈Z9++Zh)(ku:Z0 (aB "Error")∈Z9)(kt:aB "Error"∈J2 true)(ks:st "Error	"∈Zh)(kq:st "Error	"∈Z56)(Y:∀s:Str,(Dt.hs (aF He.kv (Zg L s))).ok)(Z:(Dt.hs [(aB "Z",st "Error	")]).ok)(ke:(Dt.hs [(aB "Error",st "Error	")]).ok)(N T:Nat):
  Z5 (rnx 6 (w2 w b c) (GF w.params) (Z0e ⟨h,L,r,n,R,(st "Error\t"),t,11,dt⟩) (Z0a w.params h L r n R) N T none out ((Z4m (.two (Z4 0x101cf6aee4e11 .nil) (J1 (.two (Z4 0x101cf72ee4e .nil) .nil))))) (done 4 (Z0f w.params h L r n R))):=by
 have q:(L.length<=5)/\∀U1:Ph,(R.length<=4)/\∀U2:Ph,(L.length<=5)/\∀U3:Ph,(Z04 L)/\∀a:Ph,(aB "Error"∈Z9++Zh/\Jp L)/\((L≠[]->∀U5:Ph,(LW.st "Error\t"∈Zh)/\∀U6:Ph,(Z15 L (aB "Error") (LW.st "Error\t"))/\∀I:Ph,((Zg L (Z0 (aB "Error"))++[Zk (aB "Error") (a.2.add 1) (LW.st "Error\t") t I]).length<=5)/\∀W:Ph,((Zg L (Z0 (aB "Error"))).length<=4)/\∀U9:Ph,((Dt.hs (aF He.kv (Zg L (Z0 (aB "Error"))++[Zk (aB "Error") (a.2.add 1) (LW.st "Error\t") t I]))).ok/\(Dt.hs (aF He.kv (Zg L (Z0 (aB "Error"))++[He.mk (W.1.add 8) (aB "Error") (a.2.add 1) (LW.st "Error\t") t]))).ok)/\(Dt.hs (aF He.kv (Zg L (Z0 (aB "Error"))++[Zk (aB "Error") (a.2.add 1) (LW.st "Error\t") t I]))=Dt.hs (aF He.kv (Zg L (Z0 (aB "Error"))++[He.mk (W.1.add 8) (aB "Error") (a.2.add 1) (LW.st "Error\t") t])))/\(L.length<=5)/\∀U10:Ph,((Dt.hs (aF He.kv L)).ok/\(Dt.hs (aF He.kv L)).ok)/\(Dt.hs (aF He.kv L)=Dt.hs (aF He.kv L))/\True)/\((L=[]->∀U11:Ph,(LW.st "Error\t"∈Zh)/\∀U12:Ph,(Z15 L (aB "Error") (LW.st "Error\t"))/\∀j:Ph,((Zg L (Z0 (aB "Error"))++[Zk (aB "Error") (a.2.add 1) (LW.st "Error\t") t j]).length<=5)/\∀m:Ph,((Dt.hs (aF He.kv (Zg L (Z0 (aB "Error"))++[Zk (aB "Error") (a.2.add 1) (LW.st "Error\t") t j]))).ok/\(Dt.hs (aF He.kv [He.mk (m.1.add 8) (aB "Error") (a.2.add 1) (LW.st "Error\t") t])).ok)/\(Dt.hs (aF He.kv (Zg L (Z0 (aB "Error"))++[Zk (aB "Error") (a.2.add 1) (LW.st "Error\t") t j]))=Dt.hs (aF He.kv [He.mk (m.1.add 8) (aB "Error") (a.2.add 1) (LW.st "Error\t") t]))/\(L.length<=5)/\∀U15:Ph,((Dt.hs (aF He.kv L)).ok/\(Dt.hs (aF He.kv L)).ok)/\(Dt.hs (aF He.kv L)=Dt.hs (aF He.kv L))/\True)/\True)):=by
  try simp only[X]
  (repeat' (first|exact trivial|assumption|exact Y _|exact Z73 _ _ k3 Z|exact Z73 _ _ (Y _) ke|refine And.intro ?_ ?_|intro _))<;>first|assumption|rfl|exact o3|(rw[X];done)|exact aK (y _) k1|exact aK (y _) (aK k1 (by decide))|exact aK k1 (by decide)|(subst_vars;rfl)|(have J:=y (Z0 (aB "Error"));simp only[aV,bA];exact Zm [] [_,_] [Yl, .n Yi Z4g] (.n Y8 (.n 5)) rfl J k1)|(simp[Zk,He.kv];done)|(subst_vars;simp[Zk,He.kv,Zg];done)|contradiction
 cases b<;>
 exact Zx (by kernel_rfl) q
theorem Zrj(h:Hd)(r n:Nat)(R:List Is)(t dt:Nat)(out:List Env)(L:List He)(k1:L.length<=4)(k2:Jp L)(k3:(Dt.hs (aF He.kv L)).ok)(k4:(Dt.is (aF Is.ck R)).ok)(k5:R.length<=4)(k8:Z04 L)(W:Zg L (Z0 (aB "Z"))=L)(y:∀s:Str,(Zg L s).length<=L.length)(kz:aB "Z"∈Z9++Zh)(ky:Z0 (aB "Z")∈Z9)(kx:aB "Z"∈J2 true)(kw:Zb L (Z0 (aB "Z"))=none)(kv:aB "Error"∈Z9++Zh)(ku:Z0 (aB "Error")∈Z9)(kt:aB "Error"∈J2 true)(ks:st "Error	"∈Zh)(kq:st "Error	"∈Z56)(X:∀s:Str,(Dt.hs (aF He.kv (Zg L s))).ok)(Y:(Dt.hs [(aB "Z",st "Error	")]).ok)(Z:(Dt.hs [(aB "Error",st "Error	")]).ok)(N T:Nat):
  Z5 (rnx 6 (w2 w b c) (GF w.params) (Z0e ⟨h,L,r,n,R,(st "Error\t"),t,12,dt⟩) (Z0a w.params h L r n R) N T none out ((Z4m (.two (Z4 0x101cf6ae14f14fb0ed98e11 .nil) (J1 (.two (Z4 0x101cf72e14f14fb0ed98e .nil) .nil))))) (done 4 (Z0f w.params h L r n R))):=by
 have q:(L.length<=5)/\∀U1:Ph,(R.length<=4)/\∀U2:Ph,(L.length<=5)/\∀U3:Ph,(Z04 L)/\∀a:Ph,(aB "Z"∈Z9++Zh/\Jp L)/\((L≠[]->∀U5:Ph,(LW.st "Error\t"∈Zh)/\∀U6:Ph,(Z15 L (aB "Z") (LW.st "Error\t"))/\∀I:Ph,((L++[Zk (aB "Z") (a.2.add 1) (LW.st "Error\t") t I]).length<=5)/\∀J:Ph,((Zg L (Z0 (aB "Z"))).length<=4)/\∀U9:Ph,((Dt.hs (aF He.kv (L++[Zk (aB "Z") (a.2.add 1) (LW.st "Error\t") t I]))).ok/\(Dt.hs (aF He.kv (Zg L (Z0 (aB "Z"))++[He.mk (J.1.add 8) (aB "Z") (a.2.add 1) (LW.st "Error\t") t]))).ok)/\(Dt.hs (aF He.kv (L++[Zk (aB "Z") (a.2.add 1) (LW.st "Error\t") t I]))=Dt.hs (aF He.kv (Zg L (Z0 (aB "Z"))++[He.mk (J.1.add 8) (aB "Z") (a.2.add 1) (LW.st "Error\t") t])))/\(L.length<=5)/\∀U10:Ph,((Dt.hs (aF He.kv L)).ok/\(Dt.hs (aF He.kv L)).ok)/\(Dt.hs (aF He.kv L)=Dt.hs (aF He.kv L))/\True)/\((L=[]->∀U11:Ph,(LW.st "Error\t"∈Zh)/\∀U12:Ph,(Z15 L (aB "Z") (LW.st "Error\t"))/\∀j:Ph,((L++[Zk (aB "Z") (a.2.add 1) (LW.st "Error\t") t j]).length<=5)/\∀m:Ph,((Dt.hs (aF He.kv (L++[Zk (aB "Z") (a.2.add 1) (LW.st "Error\t") t j]))).ok/\(Dt.hs (aF He.kv [He.mk (m.1.add 8) (aB "Z") (a.2.add 1) (LW.st "Error\t") t])).ok)/\(Dt.hs (aF He.kv (L++[Zk (aB "Z") (a.2.add 1) (LW.st "Error\t") t j]))=Dt.hs (aF He.kv [He.mk (m.1.add 8) (aB "Z") (a.2.add 1) (LW.st "Error\t") t]))/\(L.length<=5)/\∀U15:Ph,((Dt.hs (aF He.kv L)).ok/\(Dt.hs (aF He.kv L)).ok)/\(Dt.hs (aF He.kv L)=Dt.hs (aF He.kv L))/\True)/\True)):=by
  try simp only[W]
  (repeat' (first|exact trivial|assumption|exact X _|exact Z73 _ _ k3 Y|exact Z73 _ _ (X _) Z|refine And.intro ?_ ?_|intro _))<;>first|assumption|rfl|exact o3|(rw[W];done)|exact aK (y _) k1|exact aK (y _) (aK k1 (by decide))|exact aK k1 (by decide)|(subst_vars;rfl)|(have ka':=y (Z0 (aB "Error"));simp only[aV,bA];exact dG k1)|(simp[Zk,He.kv];done)|(subst_vars;simp[Zk,He.kv,Zg];done)|contradiction
 cases b<;>
 exact Zx (by kernel_rfl) q
theorem Zrk(h:Hd)(r n:Nat)(R:List Is)(t dt:Nat)(out:List Env)(L:List He)(k1:L.length<=4)(k2:Jp L)(k3:(Dt.hs (aF He.kv L)).ok)(k4:(Dt.is (aF Is.ck R)).ok)(k5:R.length<=4)(k8:Z04 L)(W:Zg L (Z0 (aB "Z"))=L)(y:∀s:Str,(Zg L s).length<=L.length)(kz:aB "Z"∈Z9++Zh)(ky:Z0 (aB "Z")∈Z9)(kx:aB "Z"∈J2 true)(kw:Zb L (Z0 (aB "Z"))=none)(kv:aB "Error"∈Z9++Zh)(ku:Z0 (aB "Error")∈Z9)(kt:aB "Error"∈J2 true)(ks:st "Error	"∈Zh)(kq:st "Error	"∈Z56)(X:∀s:Str,(Dt.hs (aF He.kv (Zg L s))).ok)(Y:(Dt.hs [(aB "Z",st "Error	")]).ok)(Z:(Dt.hs [(aB "Error",st "Error	")]).ok)(N T:Nat):
  Z5 (rnx 6 (w2 w b c) (GF w.params) (Z0e ⟨h,L,r,n,R,(st "Error\t"),t,13,dt⟩) (Z0a w.params h L r n R) N T none out ((Z4m (.two (Z4 0x110b0ec98e11 (.two (Z4 0x101cf6ae14f14f .nil) .nil)) (J1 (.two (Z4 0x110b0ec98e (.two (Z4 0x101cf72e14f14f .nil) .nil)) .nil))))) (done 4 (Z0f w.params h L r n R))):=by
 have q:(L.length<=5)/\∀U1:Ph,(R.length<=4)/\∀U2:Ph,(L.length<=5)/\∀U3:Ph,(Z04 L)/\∀a:Ph,(aB "Z"∈Z9++Zh/\Jp L)/\((L≠[]->∀U5:Ph,(LW.st "Error\t"∈Zh)/\∀U6:Ph,(Z15 L (aB "Z") (LW.st "Error\t"))/\(¬Z1u L (aB "Z") 1)/\((Z1u L (aB "Z") 0->∀I:Ph,((L++[Zk (aB "Z") (a.2.add 1) (LW.st "Error\t") t I]).length<=5)/\∀J:Ph,((Zg L (Z0 (aB "Z"))).length<=4)/\∀U9:Ph,((Dt.hs (aF He.kv (L++[Zk (aB "Z") (a.2.add 1) (LW.st "Error\t") t I]))).ok/\(Dt.hs (aF He.kv (Zg L (Z0 (aB "Z"))++[He.mk (J.1.add 8) (aB "Z") (a.2.add 1) (LW.st "Error\t") t]))).ok)/\(Dt.hs (aF He.kv (L++[Zk (aB "Z") (a.2.add 1) (LW.st "Error\t") t I]))=Dt.hs (aF He.kv (Zg L (Z0 (aB "Z"))++[He.mk (J.1.add 8) (aB "Z") (a.2.add 1) (LW.st "Error\t") t])))/\(L.length<=5)/\∀U10:Ph,((Dt.hs (aF He.kv L)).ok/\(Dt.hs (aF He.kv L)).ok)/\(Dt.hs (aF He.kv L)=Dt.hs (aF He.kv L))/\True)/\True))/\((L=[]->∀U11:Ph,(LW.st "Error\t"∈Zh)/\∀U12:Ph,(Z15 L (aB "Z") (LW.st "Error\t"))/\(¬Z1u L (aB "Z") 1)/\((Z1u L (aB "Z") 0->∀j:Ph,((L++[Zk (aB "Z") (a.2.add 1) (LW.st "Error\t") t j]).length<=5)/\∀m:Ph,((Dt.hs (aF He.kv (L++[Zk (aB "Z") (a.2.add 1) (LW.st "Error\t") t j]))).ok/\(Dt.hs (aF He.kv [He.mk (m.1.add 8) (aB "Z") (a.2.add 1) (LW.st "Error\t") t])).ok)/\(Dt.hs (aF He.kv (L++[Zk (aB "Z") (a.2.add 1) (LW.st "Error\t") t j]))=Dt.hs (aF He.kv [He.mk (m.1.add 8) (aB "Z") (a.2.add 1) (LW.st "Error\t") t]))/\(L.length<=5)/\∀U15:Ph,((Dt.hs (aF He.kv L)).ok/\(Dt.hs (aF He.kv L)).ok)/\(Dt.hs (aF He.kv L)=Dt.hs (aF He.kv L))/\True)/\True))/\True)):=by
  try simp only[W]
  (repeat' (first|exact trivial|assumption|exact X _|exact Z73 _ _ k3 Y|exact Z73 _ _ (X _) Z|refine And.intro ?_ ?_|intro _))<;>first|assumption|rfl|exact o3|(rw[W];done)|exact aK (y _) k1|exact aK (y _) (aK k1 (by decide))|exact aK k1 (by decide)|(subst_vars;rfl)|(have ka':=y (Z0 (aB "Error"));simp only[aV,bA];exact dG k1)|(simp[Zk,He.kv];done)|(subst_vars;simp[Zk,He.kv,Zg];done)|contradiction
 cases b<;>
 exact Zx (by kernel_rfl) q
theorem Jg3 {w:World}{b c:Bool}{g:G}{d u m k:Nat}{co:Nat->Code}{P:Nat->List Sl}{E:Nat->Ph->Result×List Sl}{p Q:Nat->Prop}(GO:J5 (vW (w2 w b c)) g)(hs:Nat->Hs)
  (h:∀N T out,(aJ m).map (fun n=>W4 fun b c=>rnX (vW (w2 w b c)) g d u (co n) (P n) (hs n) (done k (E n)) N T out)=(aJ m).map fun n=>X4 (fun b c=>rnX (vW (w2 w b c)) g d u (co n) (P n) (hs n) (done k (E n)) N T out) (p n))
  (j:∀n,Q n->p n) (n:Nat) (q:n<m) (a:Q n):J7 (vW (w2 w b c)) true true d u (co n) (P n) (E n):=Qg GO fun N T y out I=>by
 rw[I rfl];haveI e:=congrArg (fun l=>l[n]?) (h N T out);simp only[bE,bE,eM q] at e;exact g4 (f:=fun b c=>rnX (vW (w2 w b c)) g d u (co n) (P n) (hs n) (done k (E n)) N T out) (cW e) (j n a) b c
noncomputable def elQ(a:Prop):List He->Prop
 |[]=>a
 |e::l=>e.k∈J2 true/\∀_:Ph,e.v∈J2 false/\∀_:Ph,elQ a l
theorem J7d {a:Prop}(h:a):∀(l:List He),(∀e∈l,e.k∈J2 true/\e.v∈J2 false)->elQ a l:=by
 intro j
 induction j with
 |nil=>
  intro _;exact h
 |cons e l ih=>
  intro g;exact⟨(g e (.head _)).1,fun y=>⟨(g e (.head _)).2,fun y=>ih fun q m=>g q (.tail _ m)⟩⟩
def Jc2(y:Nat):Hs:=hh ([y+1,y+7,y+7,y+7,0,y+7,0,1,1]++(aJ 3).flatMap (fun z=>[0,1,0,1,1,y+8,1,1,1])++aY 5 (y+5)++Zds (y+5)++(y+5)::Zds (y+5)++[0,y+4,0,y+4,0,y+4,y+4,y+8,0,y+4,y+4,1,0])
 (hh [y+31,y+31,y+31,y+31,0,y+8,0,0,0,y+8,0,0,0,y+8,0,0,0,0,y+8,y+9,0,32,y+7,0,y+8,0,y+9,0,y+32,y+31,y+32,0,y+21,0,1,y+21,0,33,y+20,0,0,0,1,0,5,3,0,0,0,1,y+35,0,y+36,0,0,0,y+36,0,0,0,y+36,0,0,0,0,y+36,y+37,0,32,y+35,0,y+36,0,y+37,0,y+36,5,0,y+33,0,0,1,y+36,0,y+37,0,y+38,0,y+39,0] .nil)
def Zyx(n:Nat):Hs:=Z4m (.two (Z4 0x11c2e02e048e0012f1be124e11 (hh ((aJ (n+1)).flatMap fun j=>(match j with|0=>[]|_=>[3*j+1])++Zui (3*j+5) (j+1)++Zds (3*j+5)++(3*j+5)::Zds (3*j+5)++[0,3*j+4,0,3*j+4,0,3*j+4,3*j+4,3*j+8,0,3*j+4,3*j+4])
 (Jc2 (3*n+3)))) (Y9 .nil))
abbrev dZq:Str:=aB "Z"
abbrev dEq:Str:=st "Error\t"
def D14(L:List He):Prop:=Jp L/\(Dt.hs (L.map He.kv)).ok/\Zg L (Z0 dZq)=L/\Z04 L/\(Dt.hs (L.map He.kv++[(dZq,dEq)])).ok
def Zo5(R:List Is)(t:Nat)(L:List He):Prop:=
 L.length<=5/\∀_:Ph,R.length<=4/\∀_:Ph,L.length<=5/\∀_:Ph,Z04 L/\∀U:Ph,(dZq∈Z9++Zh/\Jp L)/\(L≠[]->∀_:Ph,dEq∈Zh/\∀_:Ph,L.length<=4/\∀_:Ph,
  elQ ((L++[He.mk 0 dZq 0 dEq 0]).length<=5/\∀ψ:Ph,(Zg L (Z0 dZq)).length<=4/\∀_:Ph,((Dt.hs (L.map He.kv++[(dZq,dEq)])).ok/\(Dt.hs ((Zg L (Z0 dZq)++[He.mk (ψ.1.add 8) dZq (U.2.add 1) dEq t]).map He.kv)).ok)/\(Dt.hs (L.map He.kv++[(dZq,dEq)])=Dt.hs ((Zg L (Z0 dZq)++[He.mk (ψ.1.add 8) dZq (U.2.add 1) dEq t]).map He.kv))/\
   L.length<=5/\∀_:Ph,((Dt.hs (L.map He.kv)).ok/\(Dt.hs (L.map He.kv)).ok)/\(Dt.hs (L.map He.kv)=Dt.hs (L.map He.kv))/\True) (L++[He.mk 0 dZq 0 dEq 0]))/\(¬L=[])/\True
theorem J1a {R:List Is}{t:Nat}{L:List He}(k5:R.length<=4)(kz:dZq∈Z9++Zh)(Y:dZq∈J2 true)(ks:dEq∈Zh)(W:dEq∈J2 false)(X:L≠[])(h:D14 L):Zo5 R t L:=by
 have k2:=h.1;have k3:=h.2.1;have I:=h.2.2.1;have m:=h.2.2.2.1;have J:=h.2.2.2.2;have j:=m.2;have q:=cX j;haveI e:∀a b,(Zg L (Z0 dZq)++[He.mk a dZq b dEq t]).map He.kv=L.map He.kv++[(dZq,dEq)]:=fun a b=>by rw[I,bB];rfl
 refine⟨q,fun y=>⟨k5,fun y=>⟨q,fun y=>⟨m,fun U=>⟨⟨kz,k2⟩,fun y y=>⟨ks,fun y=>⟨j,fun y=>J7d ⟨by rw[aV];exact dG j,fun ψ=>⟨by rw[I];exact j,fun y=> ?a⟩⟩ _ fun e he=> ?b⟩⟩,X,trivial⟩⟩⟩⟩⟩
 case a=>
  rw[e];exact⟨⟨J,J⟩,rfl,q,fun y=>⟨⟨k3,k3⟩,rfl,trivial⟩⟩
 case b=>
  rcases aG.mp he with he|he
  ·exact m.1 e he
  ·rw[aM.mp he];exact⟨Y,W⟩
def f14(w:World)(h:Hd)(r n:Nat)(R:List Is)(t dt:Nat)(v:Nat->He)(N T:Nat)(out:List Env)(k:Nat)(b c:Bool):Z8:=rnX (vW (w2 w b c)) (GF w.params) (Zf 6) (Ze 6) (Z0e ⟨h,(aJ (k+1)).map v,r,n,R,dEq,t,14,dt⟩) (Z0a w.params h ((aJ (k+1)).map v) r n R) (Zyx k) (done 4 (Z0f w.params h ((aJ (k+1)).map v) r n R)) N T out
theorem Jg4(w:World)(h:Hd)(r n:Nat)(R:List Is)(t dt:Nat)(v:Nat->He)(N T:Nat)(out:List Env):(aJ 2).map (fun k=>W4 (f14 w h r n R t dt v N T out k))=(aJ 2).map fun k=>X4 (f14 w h r n R t dt v N T out k) (Zo5 R t ((aJ (k+1)).map v)):=by kernel_rfl
theorem Jg5(w:World)(h:Hd)(r n:Nat)(R:List Is)(t dt:Nat)(v:Nat->He)(N T:Nat)(out:List Env):(aJ 2).map (fun k=>W4 (f14 w h r n R t dt v N T out (k+2)))=(aJ 2).map fun k=>X4 (f14 w h r n R t dt v N T out (k+2)) (Zo5 R t ((aJ (k+2+1)).map v)):=by kernel_rfl
theorem r22 {β:Type}{f g:Nat->β}(j:(aJ 2).map f=(aJ 2).map g)(a:(aJ 2).map (fun k=>f (k+2))=(aJ 2).map fun k=>g (k+2)):(aJ 4).map f=(aJ 4).map g:=by
 have e:∀q:Nat->β,(aJ 4).map q=(aJ 2).map q++(aJ 2).map fun k=>q (k+2):=fun y=>rfl;rw[e,e,j,a]
theorem Zo6(h:Hd)(r n:Nat)(R:List Is)(t dt:Nat)(k5:R.length<=4)(kz:dZq∈Z9++Zh)(j:dZq∈J2 true)(ks:dEq∈Zh)(m:dEq∈J2 false):∀L:List He,L≠[]->L.length<=4->D14 L->
  J7 (vW (w2 w b c)) true true (Zf 6) (Ze 6) (Z0e ⟨h,L,r,n,R,dEq,t,14,dt⟩) (Z0a w.params h L r n R) (Z0f w.params h L r n R):=
 Zh4 Zs fun v=>Jg3 (k:=4) (p:=fun k=>Zo5 R t ((aJ (k+1)).map v)) (gkF w b c) Zyx (fun N T out=>r22 (Jg4 w h r n R t dt v N T out) (Jg5 w h r n R t dt v N T out)) fun k a=>J1a k5 kz j ks m (by simp) a
theorem Zo7(h:Hd)(r n:Nat)(R:List Is)(t dt:Nat)(out:List Env)(k2:Jp [])(k3:(Dt.hs (aF He.kv [])).ok)(k4:(Dt.is (aF Is.ck R)).ok)(k5:R.length<=4)(y:Zg [] (Z0 (aB "Z"))=[])(kz:aB "Z"∈Z9++Zh)(Y:aB "Z"∈J2 true)(J:aB "1"∈J2 false)(k8:Z04 [])(ks:st "Error\t"∈Zh)(Z:st "Error\t"∈J2 false)(kp:(Dt.hs (aF He.kv [⟨0,aB "Z",0,st "Error\t",0⟩])).ok)(N T:Nat):
  Z5 (rnx 6 (w2 w b c) (GF w.params) (Z0e ⟨h,[],r,n,R,(st "Error\t"),t,14,dt⟩) (Z0a w.params h [] r n R) N T none out ((Z4 0x1100d4fe (.two (Z4 0x1027fc0e10021f0524f07be23f102120035115f1b3e115f020f1ff20f09080720f0980de8000800088ce014408440404040576e40e1e12f1be124e .nil) .nil))) (done 4 (Z0f w.params h [] r n R))):=by
 have q:(([]:List He).length<=5)/\∀U1:Ph,(R.length<=4)/\∀U2:Ph,(([]:List He).length<=5)/\∀U3:Ph,(Z04 [])/\∀a:Ph,(aB "Z"∈Z9++Zh/\Jp [])/\(¬([]:List He)≠[])/\((([]:List He)=[]->∀W:Ph,(LW.st "Error\t"∈Zh)/\∀j:Ph,(([]:List He).length<=4)/\∀U7:Ph,((He.mk (j.1.add 12) (aB "Z") (a.2.add 1) (LW.st "Error\t") t).k∈J2 true)/\∀X:Ph,((He.mk (j.1.add 12) (aB "Z") (a.2.add 1) (LW.st "Error\t") t).v∈J2 false)/\∀U9:Ph,(([]++[He.mk (j.1.add 12) (aB "Z") (a.2.add 1) (LW.st "Error\t") t]).length<=5)/\∀m:Ph,((Dt.hs (aF He.kv ([]++[He.mk (j.1.add 12) (aB "Z") (a.2.add 1) (LW.st "Error\t") t]))).ok/\(Dt.hs (aF He.kv [He.mk (m.1.add 8) (aB "Z") (a.2.add 1) (LW.st "Error\t") t])).ok)/\(Dt.hs (aF He.kv ([]++[He.mk (j.1.add 12) (aB "Z") (a.2.add 1) (LW.st "Error\t") t]))=Dt.hs (aF He.kv [He.mk (m.1.add 8) (aB "Z") (a.2.add 1) (LW.st "Error\t") t]))/\(([]:List He).length<=5)/\∀I:Ph,((Dt.hs (aF He.kv [])).ok/\(Dt.hs (aF He.kv [])).ok)/\(Dt.hs (aF He.kv [])=Dt.hs (aF He.kv []))/\True)/\True):=by
  try simp only[y]
  (repeat' (first|exact trivial|assumption|exact kd _|refine And.intro ?_ ?_|intro _))<;>first|assumption|rfl|(rw[y];done)|(simp[Zk,He.kv];done)|contradiction|(simp_all;done)
 cases b<;>
 cases c<;>
 exact Zx (by kernel_rfl) q
abbrev Fx:=List Ph->Prop
def ph0:Ph:=⟨0,0, .none,fun y=>Zdb⟩
def Zo8 (Γ:List Fx)(j:Nat)(w:List Ph):Prop:=match j with
 |0=>True
 |j+1=>match Z5i Γ j with|some p=>p w|none=>True
def Zhf(hs:Hs)(f:Nat->Hs->D×D):D×D:=Hs.rec (.nil, .two .nil .nil) (fun n r y=>f n r) (fun y y y y=>(.nil, .two .nil .nil)) hs
abbrev Rl:=List (Prop×List Fx)
def Zo9(R:Rl)(j:Nat):Prop×List Fx:=match Z5i R j with|some r=>r|none=>(True,[])
def brC(R:Rl)(c:Prop)(hs:Hs)(f:List Fx->Hs->D×D):D×D:=Zhf hs fun j hs=>match j with
 |0=>f [fun y=>c] hs
 |j+1=>(.ob (.pr c) (f ((fun y=>c)::(Zo9 R j).2) hs).1, .ob (.pr (Zo9 R j).1) (f ((fun y=>c)::(Zo9 R j).2) hs).2)
def T.ck(R:Rl)(t:T):List Fx->List Ph->Hs->(Hs->D×D)->D×D:=
 T.rec (motive:=fun y=>List Fx->List Ph->Hs->(Hs->D×D)->D×D)
  (fun p Γ w hs k=>Zhf hs fun j hs=>(.ob (.pr p) (k hs).1, .ob (.pr (Zo8 Γ j w)) (k hs).2))
  (fun c y i Γ w hs k=>Zhf hs fun j hs=>(.ob (.pr c) (i Γ w hs k).1, .ob (.pr (Zo8 Γ j w)) (i Γ w hs k).2))
  (fun y i Γ w hs k=>(.all fun U=>(i U Γ (w++[U]) hs k).1, .all fun U=>(i U Γ (w++[U]) hs k).2))
  (fun C y i Γ w hs k=>(.all fun U=>(i U (Γ++[fun y=>C U]) (w++[U]) hs k).1, .all fun U=>(i U (Γ++[fun y=>C U]) (w++[U]) hs k).2))
  (fun c y y i j Γ w hs k=>brC R c hs fun l hs=>i (Γ++l) w hs fun hs=>brC R (¬c) hs fun l hs=>j (Γ++l) w hs k)
  (fun c y y i j Γ w hs k=>brC R c hs fun l hs=>i (Γ++l) w hs fun hs=>j Γ w hs k)
  (fun y y i j Γ w hs k=>i Γ w hs fun hs=>j Γ w hs k) t
def Ya (Γ:List Fx):Prop:=∀p∈Γ,∀w,p w
set_option tactic.hygienic true in theorem Ya.nth {Γ:List Fx}(h:Ya Γ)(w:List Ph):∀j,Zo8 Γ j w
 |0=>trivial
 |j+1=>by
  unfold Zo8;simp only
  split
  ·rename_i p e;exact h p (Z4j e) w
  ·trivial
theorem Ya.app {Γ l:List Fx}(h:Ya Γ)(k:Ya l):Ya (Γ++l):=fun q a=>(aG.mp a).elim (h q) (k q)
theorem Ya.one {p:Prop}(j:p):Ya [fun y=>p]:=fun q a y=>aM.mp a▸j
def Z8d(R:Rl):Prop:=∀r∈R,r.1->Ya r.2
theorem Z6c {hs:Hs}{f:Nat->Hs->D×D}(h:(Zhf hs f).1=(Zhf hs f).2):∃j r,(f j r).1=(f j r).2:=by
 refine Z7 fun a=> ?_;cases hs with
 |nil=>contradiction
 |d n r=>exact a (⟨n,r,h⟩)
 |two=>contradiction
set_option tactic.hygienic true in theorem Z6d {R:Rl}(g:Z8d R){c:Prop}{hs:Hs}{f:List Fx->Hs->D×D}(h:(brC R c hs f).1=(brC R c hs f).2):∃l r,(f l r).1=(f l r).2/\(c->Ya l):=by
 refine Z7 fun k'=> ?_;obtain⟨j,r,e⟩:=Z6c h;cases j with
 |zero=>exact k' (⟨_,r,e,fun hc=> .one hc⟩)
 |succ j=>
  injection e with e1 e2
  injection e1 with e1
  refine k' ?_;refine⟨_,r,e2,fun hc=>(Ya.one hc).app ?_⟩;unfold Zo9 at e1⊢
  split at e1
  ·rename_i q;exact g _ (Z4j q) (e1▸hc)
  ·exact fun _ h=>nomatch h
theorem Zoa {R:Rl}(g:Z8d R):∀(t:T) {Γ:List Fx}{w:List Ph}{hs:Hs}{k:Hs->D×D},(t.ck R Γ w hs k).1=(t.ck R Γ w hs k).2->∃a,(k a).1=(k a).2:=by
 intro t
 induction t with
 |fin p=>intro Γ w hs k h;obtain⟨j,r,e⟩:=Z6c h;injection e with _ e;exact⟨r,e⟩
 |cond c t ih=>intro Γ w hs k h;obtain⟨j,r,e⟩:=Z6c h;injection e with _ e;exact ih e
 |all f ih=>intro Γ w hs k h;injection h with h;exact ih ph0 (congrFun h _)
 |allC C f ih=>intro Γ w hs k h;injection h with h;exact ih ph0 (congrFun h _)
 |two c x y i j=>intro Γ w hs k h;obtain⟨_,_,e,_⟩:=Z6d g h;obtain⟨_,e⟩:=i e;obtain⟨_,_,e,_⟩:=Z6d g e;exact j e
 |alt c x y i j=>intro Γ w hs k h;obtain⟨_,_,e,_⟩:=Z6d g h;obtain⟨_,e⟩:=i e;exact j e
 |both x y i j=>intro Γ w hs k h;obtain⟨_,e⟩:=i h;exact j e
theorem Jc3 {R:Rl}(m:Z8d R):∀(t:T) {Γ:List Fx}{w:List Ph}{hs:Hs}{k:Hs->D×D},(t.ck R Γ w hs k).1=(t.ck R Γ w hs k).2->Ya Γ->t.p:=by
 intro t
 induction t with
 |fin p=>intro Γ w hs k h g;obtain⟨j,r,e⟩:=Z6c h;injection e with e _;injection e with e;exact e▸g.nth w j
 |cond c t ih=>intro Γ w hs k h g;obtain⟨j,r,e⟩:=Z6c h;injection e with e I;injection e with e;exact⟨e▸g.nth w j,ih I g⟩
 |all f ih=>intro Γ w hs k h g;injection h with h;exact fun U=>ih U (congrFun h U) g
 |allC C f ih=>intro Γ w hs k h g;injection h with h;exact fun U a=>ih U (congrFun h U) (g.app (.one a))
 |two c x y i j=>
  intro Γ w hs k h g;obtain⟨l,r,e,q⟩:=Z6d m h;haveI J:=Zoa m x e;haveI I:=bF (J);obtain⟨Y,Z,W,X⟩:=Z6d m I;exact⟨fun a=>i e (g.app (q a)),fun a=>j W (g.app (X a))⟩
 |alt c x y i j=>
  intro Γ w hs k h g;obtain⟨l,r,e,q⟩:=Z6d m h;obtain⟨_,I⟩:=Zoa m x e;exact⟨fun a=>i e (g.app (q a)),j I g⟩
 |both x y i j=>intro Γ w hs k h g;obtain⟨_,e⟩:=Zoa m x h;exact⟨i h g,j e g⟩
noncomputable def ckE(_:Hs):D×D:=(.nil, .nil)
theorem Z25 {r:Z8}{R:Rl}(j:Z8d R) {Γ:List Fx}(g:Ya Γ)(a:Hs)(h:(r.l,(r.t.ck R Γ [] a ckE).1)=(r.r,(r.t.ck R Γ [] a ckE).2)):Z5 r:=by
 injection h with h1 h2
 exact⟨h1,Jc3 j _ h2 g⟩
theorem r0:Z8d []:=fun y h=>nomatch h
theorem rc {c:Prop}{l:List Fx}{R:Rl}(h:c->Ya l)(t:Z8d R):Z8d ((c,l)::R):=fun q a=>(aC.mp a).elim (fun e=>e▸h) (t q)
theorem k0:Ya []:=fun y h=>nomatch h
theorem kc {p:Prop} {Γ:List Fx}(h:p)(t:Ya Γ):Ya ((fun y=>p)::Γ):=fun q a=>(aC.mp a).elim (fun e=>e▸fun y=>h) (t q)
theorem kw {p:Fx} {Γ:List Fx}(h:∀w,p w)(t:Ya Γ):Ya (p::Γ):=fun q a=>(aC.mp a).elim (fun e=>e▸h) (t q)
theorem Zhg:∀o∈Zh,o∈Z9++Zh/\Z0 o∈Z37 true/\o∈Z37 true/\((Z44 o=aB "\t"/\o=st "Error\t")\/(¬Z44 o=aB "\t"/\o∈Z37 false))/\cF o=true:=by
 decide+kernel
theorem Jq:aB "Z"∈Z9++Zh/\aB "1"∈J2 false/\Z0 (aB "Z")∈Z9/\aB "Z"∈J2 true/\aB "Error"∈Z9++Zh/\Z0 (aB "Error")∈Z9/\aB "Error"∈J2 true/\st "Error\t"∈Zh/\st "Error\t"∈Z56/\Z0 (aB "Z")=st "z"/\cF (aB "Z")=true/\cF (st "Error\t")=true/\cF (aB "Error")=true:=by
 decide+kernel
def Zyy(i:Zhc):Prop:=HN i.2/\i.2.length<=4/\(∀e∈i.5,e.k∈Jy)/\i.5.length<=4/\i.6∈Zh/\0<=i.7.2/\i.7.2<15
theorem HN.dt {L:List He}(h:HN L):(Dt.hs (L.map He.kv)).ok:=by
 intro p j;obtain⟨e,a,rfl⟩:=aN.mp j;exact⟨(Zw _ (h e a).1).2.2.2.2.2.2.2.1,(Qw _ (h e a).2).2.2.2.2⟩
theorem Zhh {R:List Is}(h:∀e∈R,e.k∈Jy):(Dt.is (R.map Is.ck)).ok:=by
 intro p a;obtain⟨e,j,rfl⟩:=aN.mp a;exact(Zw _ (h e j)).2.2.2.2.2.2.2.1
theorem HN.noz {L:List He}(h:HN L):Zg L (Z0 (aB "Z"))=L:=by
 unfold Zg;rw[dJ];intro e a;rw[Jq.2.2.2.2.2.2.2.2.2.1]
 simpa using(Zw _ (h e a).1).2.2.2.2.2.2.1
theorem HN.lookz {L:List He}(h:HN L):Zb L (Z0 (aB "Z"))=none:=by
 unfold Zb;rw[fQ];intro e a;rw[Jq.2.2.2.2.2.2.2.2.2.1]
 simpa using(Zw _ (h e a).1).2.2.2.2.2.2.1
theorem HN.new {L:List He}(h:HN L)(j:L.length<=4):Z04 L:=⟨fun e a=>⟨(Zw _ (h e a).1).1,(Qw _ (h e a).2).1⟩,j⟩
abbrev sZ:Str:=aB "Z"
abbrev sE:Str:=aB "Error"
def Z38(L:List He)(R:List Is)(o:Str):List Fx:=let kL:=Dt.hs (L.map He.kv);let m:=Dt.hs ((Zg L (Z0 sZ)).map He.kv);let a:=Dt.hs ((Zg L (Z0 sE)).map He.kv);let j:=Dt.is (R.map Is.ck);
 [fun y=>L.length<=4,fun y=>L.length<=5,fun y=>R.length<=4,fun y=>j.ok/\j.ok,fun y=>j=j,fun y=>kL.ok/\kL.ok,fun y=>kL=kL,fun y=>sZ∈Z9++Zh/\Jp L,fun y=>kL.ok/\m.ok,fun y=>kL=m,fun y=>Z04 L,fun y=>sZ∈J2 true,fun y=>o∈Zh,fun y=>o∈Z9++Zh,fun y=>Z0 o∈Z37 true,fun y=>o∈Z37 true,fun y=>aB "1"∈J2 false,fun y=>sE∈Z9++Zh/\Jp L,fun y=>sE∈Z9++Zh/\Z0 sE∈Z9/\Jp L,fun y=>sE∈J2 true,fun y=>(Zg L (Z0 sE)).length<=5,fun y=>sZ∈Z9++Zh/\Z0 sZ∈Z9/\Jp L,fun y=>¬Zb L (Z0 sZ)≠none,fun y=>a.ok/\a.ok,fun y=>a=a]
theorem Zrl {L:List He}{R:List Is}{o:Str}(j:HN L)(m:L.length<=4)(h3:∀e∈R,e.k∈Jy)(Z:R.length<=4)(J:o∈Zh):Ya (Z38 L R o):=by
 haveI a:=Zhg o J;haveI o1:=a.1;haveI o2:=a.2.1;haveI o3:=a.2.2.1;haveI y:=Jq.1;haveI W:=Jq.2.1;haveI z3:=Jq.2.2.1;haveI z4:=Jq.2.2.2.1;haveI I:=Jq.2.2.2.2.1;haveI z6:=Jq.2.2.2.2.2.1;haveI z7:=Jq.2.2.2.2.2.2.1;haveI k2:=j.ok m;haveI k3:=j.dt;haveI k4:=Zhh h3;haveI k9:=j.noz;haveI kw:=j.lookz;haveI Y:=j.new m;haveI X:∀s:Str,(Zg L s).length<=L.length:=fun s=>bY _ _;haveI q:∀s:Str,(Dt.hs (aF He.kv (Zg L s))).ok:=fun s=>(j.del s).dt;exact kc m (kc (aK m (by decide:4<=5)) (kc Z (kc (And.intro k4 k4) (kc (Eq.refl (Dt.is (R.map Is.ck))) (kc (And.intro k3 k3) (kc (Eq.refl (Dt.hs (L.map He.kv))) (kc (And.intro y k2) (kc (And.intro k3 (q (Z0 (aB "Z")))) (kc (congrArg (fun l=>Dt.hs (l.map He.kv)) k9.symm) (kc Y (kc z4 (kc J (kc o1 (kc o2 (kc o3 (kc W (kc (And.intro I k2) (kc (And.intro I (And.intro z6 k2)) (kc z7 (kc (aK (X (Z0 (aB "Error"))) (aK m (by decide:4<=5))) (kc (And.intro y (And.intro z3 k2)) (kc (not_not_intro kw) (kc (And.intro (q (Z0 (aB "Error"))) (q (Z0 (aB "Error")))) (kc (Eq.refl (Dt.hs ((Zg L (Z0 (aB "Error"))).map He.kv))) k0))))))))))))))))))))))))
noncomputable def Jg6(L:List He):Rl:=[(L=[],[fun y=>(Dt.hs (L.map He.kv)).ok/\(Dt.hs (aF He.kv [])).ok,fun y=>Dt.hs (L.map He.kv)=Dt.hs (aF He.kv []),fun y=>(Dt.hs ((Zg L (Z0 sE)).map He.kv)).ok/\(Dt.hs (aF He.kv [])).ok,fun y=>Dt.hs ((Zg L (Z0 sE)).map He.kv)=Dt.hs (aF He.kv [])])]
theorem Z16(L:List He):Z8d (Jg6 L):=by
 refine rc (fun e=> ?_) r0;subst e;have k:(Dt.hs (aF He.kv [])).ok:=fun y h=>nomatch h;exact kc (And.intro k k) (kc rfl (kc (And.intro k k) (kc rfl k0)))
def hDr:List Hs:=[((Z5l (.two (Z4 0x1b7e060e11 .nil) (J1 (.two (Z4 0x1b7e2060e .nil) .nil))))),((Z5l (.two (Z4 0x180eade1cf1cf10027e1b2e11 .nil) (J1 (.two (Z4 0x180eade1cf1cf102027e1b2e .nil) .nil))))),((Z5l (.two (Z4 0x146e053ec111 .nil) (J1 (.two (Z4 0x146e0253ec1 .nil) .nil))))),((Z5l (.two (Z4 0x1066ec7e11 .nil) (J1 (.two (Z4 0x1066e2c7e .nil) .nil))))),((Z5l (.two (Z4 0x1066eb1e11 .nil) (J1 (.two (Z4 0x1066e2b1e .nil) .nil))))),((Z5l (.two (Z4 0x12ee9fe11 .nil) (J1 (.two (Z4 0x12ee29fe .nil) .nil))))), .nil,((Z5l (.two (Z4 0x146e03de14e49e111 .nil) (J1 (.two (Z4 0x146e023de14e49e1 .nil) .nil))))),((Z5l (.two (Z4 0x146e03de14e110f49e111 .nil) (J1 (.two (Z4 0x146e023de14e110f49e1 .nil) .nil))))),((Z5l (.two (Z4 0x101bf63eb9e100d036e11 .nil) (J1 (.two (Z4 0x101bf63eb9e1020d036e .nil) .nil))))),((Z5l (.two (Z4 0x101bf63eb9e100d036e11 .nil) (J1 (.two (Z4 0x101bf63eb9e1020d036e .nil) .nil)))))]
def hDn:List Hs:=[((Z4m (.two (Z4 0x12ee7de11 .nil) (J1 (.two (Z4 0x12ee27de .nil) .nil))))),((Z4m (.two (Z4 0x1069e8ce1ff10025e445ee11 .nil) (J1 (.two (Z4 0x1069e8ce1ff102025e445ee .nil) .nil))))),((Z4m (.two (Z4 0x11000ef077e11 (.two (Z4 0x12ee00ee1111 .nil) .nil)) (J1 (.two (Z4 0x11000ef077e (.two (Z4 0x12ee200ee1111 .nil) .nil)) .nil)))))]
def jDA:Hs:=Z4 0x10001cf1bf15476110f11f10a915476110f11f0831002ae2ae2ae2ae2ae05be31005be31005be31005be31 .nil
def jDB:Hs:=Z4 0x100020f1ff17fe8e101bf1af17fe8e014fd454001ef1df476984210ff10cb476984210ff0ad4540001ef1df4cae100cb4cae0ad454 .nil
section
variable(w:World)(b c:Bool)(h:Hd)(L:List He)(r n:Nat)(R:List Is)(o:Str)(t dt:Nat)(out:List Env)(N T:Nat)
theorem J7e(F:Ya (Z38 L R o)):∀k,k<11->Z5 (match cK k 6 with
  |true=> .fin True
  |false=>rnx 6 (w2 w true c) (GF w.params) (Z0e ⟨h,L,r,n,R,o,t,Int.ofNat k,dt⟩) (Z0a w.params h L r n R) N T none out (hDr.getD k .nil) (done 4 (Z0f w.params h L r n R))):=
 Z4n (n:=11) (Z25 (Z16 L) F jDA (by kernel_rfl))
theorem J7f(F:Ya (Z38 L R o)):∀k,k<11->Z5 (match cK k 6 with
  |true=> .fin True
  |false=>rnx 6 (w2 w false c) (GF w.params) (Z0e ⟨h,L,r,n,R,o,t,Int.ofNat k,dt⟩) (Z0a w.params h L r n R) N T none out (hDr.getD k .nil) (done 4 (Z0f w.params h L r n R))):=
 Z4n (n:=11) (Z25 (Z16 L) F jDA (by kernel_rfl))
theorem Jc4(F:Ya (Z38 L R o)):∀k,k<11->Z5 (match cK k 6 with
  |true=> .fin True
  |false=>rnx 6 (w2 w b c) (GF w.params) (Z0e ⟨h,L,r,n,R,o,t,Int.ofNat k,dt⟩) (Z0a w.params h L r n R) N T none out (hDr.getD k .nil) (done 4 (Z0f w.params h L r n R))):=by
 cases b
 ·exact J7f w c h L r n R o t dt out N T F
 ·exact J7e w c h L r n R o t dt out N T F
theorem J7g(a:¬Z44 o=aB "\t")(j:o∈Z37 false)(F:Ya (Z38 L R o)):∀k,k<3->Z5 (rnx 6 (w2 w true c) (GF w.params) (Z0e ⟨h,L,r,n,R,o,t,Int.ofNat (11+k),dt⟩) (Z0a w.params h L r n R) N T none out (hDn.getD k .nil) (done 4 (Z0f w.params h L r n R))):=
 Z4n (n:=3) (Z25 (Z16 L) (kc a (kc j F)) jDB (by kernel_rfl))
theorem J7h(a:¬Z44 o=aB "\t")(j:o∈Z37 false)(F:Ya (Z38 L R o)):∀k,k<3->Z5 (rnx 6 (w2 w false c) (GF w.params) (Z0e ⟨h,L,r,n,R,o,t,Int.ofNat (11+k),dt⟩) (Z0a w.params h L r n R) N T none out (hDn.getD k .nil) (done 4 (Z0f w.params h L r n R))):=
 Z4n (n:=3) (Z25 (Z16 L) (kc a (kc j F)) jDB (by kernel_rfl))
theorem Jc5(a:¬Z44 o=aB "\t")(j:o∈Z37 false)(F:Ya (Z38 L R o)):∀k,k<3->Z5 (rnx 6 (w2 w b c) (GF w.params) (Z0e ⟨h,L,r,n,R,o,t,Int.ofNat (11+k),dt⟩) (Z0a w.params h L r n R) N T none out (hDn.getD k .nil) (done 4 (Z0f w.params h L r n R))):=by
 cases b
 ·exact J7h w c h L r n R o t dt out N T a j F
 ·exact J7g w c h L r n R o t dt out N T a j F
end
noncomputable def elG(L:List He):List Fx:=match L with
 |[]=>[fun y=>¬L≠[]]
 |_::_=>(fun y=>¬L=[])::L.flatMap fun e=>[fun y=>e.k∈J2 true,fun y=>e.v∈J2 false]
theorem Zvk {L:List He}(g:∀e∈L,e.k∈J2 true/\e.v∈J2 false):Ya (elG L):=by
 haveI k:∀l:List He,(∀e∈l,e.k∈J2 true/\e.v∈J2 false)->Ya (l.flatMap fun e=>[fun y=>e.k∈J2 true,fun y=>e.v∈J2 false]):=fun l g p j=>by
  obtain⟨e,a,q⟩:=pP.mp j;exact kc (g e a).1 (kc (g e a).2 k0) p q
 cases L with
 |nil=>exact kc (fun z=>z rfl) k0
 |cons x L=>exact kc (fun z=>nomatch z) (k _ g)
def hD6:List Hs:=[((Z4 0x1100a51e31e00 (.two (Z4 0x1c0e023fbae102018f0523f024f023f022f20f024f23f0de23f00023f00023f022f1001df25f522f22f1001ff0522f023f022f021f20f023f22f0de22f00022f00022f021f121f0004031af00021f00121f21f21f114400114441ff141e1ef914ce1df87eee1e32ec1 .nil) .nil))),((Zff (.two (Z4 0x19ae01bf0526f027f026f025f20f027f26f0de26f00026f00026fd7ec14ce20fb7ee857e88878ef0e .nil) (Y9 .nil)))),((Zff (.two (Z4 0x109be1ef0529f02af029f028f20f02af29f0de29f00029f00029fd8e0ff14ce23f0ef7eebdc0dec067ef0e .nil) (Y9 .nil)))),((Zff (.two (Z4 0x109ce21f052cf02df02cf02bf20f02df2cf0de2cf0002cf0002cf03be144428f141e27f12f14ce26f11f7ee52e3b7770b70aef0e .nil) (Y9 .nil)))),((Zff (.two (Z4 0x109de24f052ff030f02ff02ef20f030f2ff0de2ff0002ff0002ffd9e15f14ce29f14f7ee21e48fef0e .nil) (Y9 .nil))))]
def jD6:List Hs:=[Z4 0x1008736587311f211943 .nil,Z4 0x1010dc587a9513f3240b65 .nil,Z4 0x10100ff0ef7a9cb715f543260d87 .nil,Z4 0x10e9e17f765432800ffa9 .nil,Z4 0x10c8e19f98765432a011fcb .nil]
def Zvl:List Hs:=[((Z4 0x1100d4fe (.two (Z4 0x19ae2018f0526f80e20f01ff1ef0de1ef0001ef0001efd7e914ce20f87ee576e40e1e92e .nil) .nil))),((Z4m (.two (Z4 0x109be1bf0529f069e20f022f21f0de21f00021f00021fd8ec14ce23fb7ee857e40857e88878e92e11 .nil) (Y9 .nil)))),((Z4m (.two (Z4 0x109ce1ef052cf07be3be144428f141e27f0ff14ce26f0ef7eebdc0dec000c000c0b40bdc0dec067e92e11 .nil) (Y9 .nil)))),((Z4m (.two (Z4 0x109de21f052ff028f027f026f20f028f27f0de27f00027f00027fd9e12f14ce29f11f7ee0ef1ce00ef4052e3b7770b70ae92e11 .nil) (Y9 .nil)))),((Z4m (.two (Z4 0x1035f034f033f032f32f32f32f32f10024f0532f02bf02af029f20f02bf2af0de2af0002af0002af031f1002cf34f531f31f1002ef0531f032f031f030f20f032f31f0de31f00031f00031f030f130f0004031af00030f00130f30f30f114400114442ef141e2df15f14ce2cf14f7ee11f13f12f0de12f00012f00b4e4021e48fe92e11 .nil) (Y9 .nil))))]
def J7i:List Hs:=[Z4 0x100a9587a9530ff4210f11b0ef565 .nil,Z4 0x10100ff0ef7a9cb7511f326412f0d10f787 .nil,Z4 0x10e9e713f54328614f00ff12f9a9 .nil,Z4 0x10c8e915f765432a816f011f14fbcb .nil,Z4 0x101015f14fd10f0ff12f11fdb17f98765432ca18f013f16fd0efd .nil]
section
variable(w:World)(b c:Bool)(h:Hd)(L:List He)(r n:Nat)(R:List Is)(o:Str)(t dt:Nat)(out:List Env)(N T:Nat)
theorem J7j(a:L.length<=4)(F:Ya (elG L++Z38 L R o)):Z5 (rnx 6 (w2 w true c) (GF w.params) (Z0e ⟨h,L,r,n,R,o,t,6,dt⟩) (Z0a w.params h L r n R) N T none out (hD6.getD L.length .nil) (done 4 (Z0f w.params h L r n R))):=by
 refine Z25 (Z16 L) F (jD6.getD L.length .nil) ?_;clear F;rcases L with _|⟨j,_|⟨I,_|⟨q,_|⟨y,_|⟨m,L⟩⟩⟩⟩⟩
 all_goals first|(simp at a;done)|(cases c<;>kernel_rfl)
theorem J7k(a:L.length<=4)(F:Ya (elG L++Z38 L R o)):Z5 (rnx 6 (w2 w false c) (GF w.params) (Z0e ⟨h,L,r,n,R,o,t,6,dt⟩) (Z0a w.params h L r n R) N T none out (hD6.getD L.length .nil) (done 4 (Z0f w.params h L r n R))):=by
 refine Z25 (Z16 L) F (jD6.getD L.length .nil) ?_;clear F;rcases L with _|⟨j,_|⟨I,_|⟨q,_|⟨y,_|⟨m,L⟩⟩⟩⟩⟩
 all_goals first|(simp at a;done)|(cases c<;>kernel_rfl)
theorem Jc6(a:L.length<=4)(F:Ya (elG L++Z38 L R o)):Z5 (rnx 6 (w2 w b c) (GF w.params) (Z0e ⟨h,L,r,n,R,o,t,6,dt⟩) (Z0a w.params h L r n R) N T none out (hD6.getD L.length .nil) (done 4 (Z0f w.params h L r n R))):=by
 cases b
 ·exact J7k w c h L r n R o t dt out N T a F
 ·exact J7j w c h L r n R o t dt out N T a F
theorem J1b(a:L.length<=4)(F:Ya (elG L++((fun y=>¬Z44 o=aB "\t")::(fun y=>o∈Z37 false)::Z38 L R o))):Z5 (rnx 6 (w2 w true c) (GF w.params) (Z0e ⟨h,L,r,n,R,o,t,14,dt⟩) (Z0a w.params h L r n R) N T none out (Zvl.getD L.length .nil) (done 4 (Z0f w.params h L r n R))):=by
 refine Z25 (Z16 L) F (J7i.getD L.length .nil) ?_;clear F;rcases L with _|⟨j,_|⟨J,_|⟨q,_|⟨I,_|⟨m,L⟩⟩⟩⟩⟩
 all_goals first|(simp at a;done)|(cases c<;>kernel_rfl)
theorem J1c(a:L.length<=4)(F:Ya (elG L++((fun y=>¬Z44 o=aB "\t")::(fun y=>o∈Z37 false)::Z38 L R o))):Z5 (rnx 6 (w2 w false c) (GF w.params) (Z0e ⟨h,L,r,n,R,o,t,14,dt⟩) (Z0a w.params h L r n R) N T none out (Zvl.getD L.length .nil) (done 4 (Z0f w.params h L r n R))):=by
 refine Z25 (Z16 L) F (J7i.getD L.length .nil) ?_;clear F;rcases L with _|⟨j,_|⟨J,_|⟨q,_|⟨I,_|⟨m,L⟩⟩⟩⟩⟩
 all_goals first|(simp at a;done)|(cases c<;>kernel_rfl)
theorem J7l(a:L.length<=4)(F:Ya (elG L++((fun y=>¬Z44 o=aB "\t")::(fun y=>o∈Z37 false)::Z38 L R o))):Z5 (rnx 6 (w2 w b c) (GF w.params) (Z0e ⟨h,L,r,n,R,o,t,14,dt⟩) (Z0a w.params h L r n R) N T none out (Zvl.getD L.length .nil) (done 4 (Z0f w.params h L r n R))):=by
 cases b
 ·exact J1c w c h L r n R o t dt out N T a F
 ·exact J1b w c h L r n R o t dt out N T a F
end
theorem Zrm(i:Zhc)(hi:Zyy i):J7 (vW (w2 w b c)) true true (Zf 6) (Ze 6) (Z0e i) (Z0a w.params i.1 i.2 i.3 i.4 i.5) (Z0f w.params i.1 i.2 i.3 i.4 i.5):=by
 obtain⟨h,L,r,n,R,o,t,d,dt⟩:=i;obtain⟨m,y,X,J,h5,h6,h7⟩:=hi;simp only at m y X J h5 h6 h7;have F:=Zrl m y X J h5;have E:Ya (elG L):=Zvk fun e he=>⟨((m.new y).1 e he).1,((m.new y).1 e he).2⟩;obtain⟨k,rfl⟩:=bU h6;haveI z1:=Jq.1;haveI z2:=Jq.2.1;haveI z3:=Jq.2.2.1;haveI Y:=Jq.2.2.2.1;haveI z5:=Jq.2.2.2.2.1;haveI z6:=Jq.2.2.2.2.2.1;haveI z7:=Jq.2.2.2.2.2.2.1;haveI Z:=Jq.2.2.2.2.2.2.2.1;haveI z9:=Jq.2.2.2.2.2.2.2.2.1;haveI z10:=Jq.2.2.2.2.2.2.2.2.2.1;haveI z11:=Jq.2.2.2.2.2.2.2.2.2.2.1;haveI z12:=Jq.2.2.2.2.2.2.2.2.2.2.2.1;haveI z13:=Jq.2.2.2.2.2.2.2.2.2.2.2.2;have k3:=m.dt;haveI ka:∀s:Str,(Zg L s).length<=L.length:=fun s=>bY _ _;have kd:∀s:Str,(Dt.hs (aF He.kv (Zg L s))).ok:=fun s=>(m.del s).dt;have kp:(Dt.hs [(aB "Z",st "Error\t")]).ok:=fun p hp=>by rw[aM.mp hp];exact⟨z11,z12⟩
 have ke:(Dt.hs [(aB "Error",st "Error\t")]).ok:=fun p hp=>by rw[aM.mp hp];exact⟨z13,z12⟩
 have k15:k<15:=iJ.mp h7;rcases rP k 11 with q|q
 ·by_cases q6:k=6
  ·subst q6;exact Qg (gkF w b c) fun N T W out I=>by rw[I rfl];exact Jc6 w b c h L r n R o t dt out N T y (E.app F)
  ·refine Qg (gkF w b c) (n:=100000) (k:=4) (hs:=hDr.getD k .nil) fun N T W out I=> ?_;rw[I rfl];haveI g:=Jc4 w b c h L r n R o t dt out N T F k q;cases e:cK k 6 with
   |true=>exact absurd (cU e) q6
   |false=>rw[e] at g;exact g
 ·rcases (Zhg o h5).2.2.2.1 with⟨_,rfl⟩|⟨q1,q2⟩
  ·obtain rfl|rfl|rfl|rfl:k=11\/k=12\/k=13\/k=14:=by lia
   ·exact Qg (gkF w b c) fun N T W out I=>by rw[I rfl];exact Zri w b c h r n R t dt out L y (m.ok y) k3 (Zhh X) J (m.new y) m.noz ka z1 z3 Y m.lookz z5 z6 z7 Z z9 kd kp ke N T
   ·exact Qg (gkF w b c) fun N T W out I=>by rw[I rfl];exact Zrj w b c h r n R t dt out L y (m.ok y) k3 (Zhh X) J (m.new y) m.noz ka z1 z3 Y m.lookz z5 z6 z7 Z z9 kd kp ke N T
   ·exact Qg (gkF w b c) fun N T W out I=>by rw[I rfl];exact Zrk w b c h r n R t dt out L y (m.ok y) k3 (Zhh X) J (m.new y) m.noz ka z1 z3 Y m.lookz z5 z6 z7 Z z9 kd kp ke N T
   ·haveI k2:=m.ok y;haveI k4:=Zhh X;haveI k9:=m.noz;haveI k8:=m.new y;clear F E m ka kd
    by_cases h0:L=[]
    ·subst h0;exact Qg (gkF w b c) fun N T W out I=>by rw[I rfl];exact Zo7 w b c h r n R t dt out k2 k3 k4 J k9 z1 Y z2 k8 Z z9 kp N T
    ·exact Zo6 w b c h r n R t dt J z1 Y Z z9 L h0 k8.2 ⟨k2,k3,k9,k8,(by haveI q:=Z73 L ⟨0,aB "Z",0,st "Error\t",0⟩ k3 kp;rw[bB] at q;exact q)⟩
  ·rcases rP k 14 with q'|q'
   ·obtain⟨j,rfl⟩:=Nat.exists_eq_add_of_le q;exact Qg (gkF w b c) (n:=100000) (k:=4) (hs:=hDn.getD j .nil) fun N T W out I=>by rw[I rfl];exact Jc5 w b c h L r n R o t dt out N T q1 q2 F j (Zm [] [_] [.n (.a (.a Z1o Zr) Q4) (.n 14)] (.n Y8 Z2b) rfl q')
   ·obtain rfl:k=14:=(gY (Zm [] [_] [.n Y8 (.n 15)] (.n Zr (.n 14)) rfl k15) (q'));exact Qg (gkF w b c) fun N T W out I=>by rw[I rfl];exact J7l w b c h L r n R o t dt out N T y (E.app (kc q1 (kc q2 F)))
def Zob(P:Params):Zi Zhc where
 code:=Z0e
 P i:=Z0a P i.1 i.2 i.3 i.4 i.5
 cond i:=some (Zyy i)
 F i _ U:=Z0f P i.1 i.2 i.3 i.4 i.5 U
 k:=4
 ext c S:=match c with
  | .call _ ⟨[.ref _, .ref _, .str o t, .int d dt],[]⟩=>(match S with
   |[s0,s1,s2,r]=>(match Z1p [s0,s1,s2] with
    |some (h,L)=>(match r.g with
     | .is R=>some ⟨h,L,r.a,Z3 r.o,R,o,t,d,dt⟩
     |_=>none)
    |none=>none)
   |_=>none)
  |_=>none
 d:=Zf 6
 u:=Ze 6
 z:=true
 xf:=true
theorem J7m:Za (vW (w2 w b c)) (Zob w.params).ctr:=
 (Zob w.params).ok (fun i a=>Zrm w b c i (a _ rfl))
noncomputable def Jh {α:Type}(lt:Nat->Nat->Bool):KasT α->α
 | .ret a=>a
 | .ask i j k=>Jh lt (k (lt i j))
noncomputable def Z74 {α:Type}(n:Nat)(lt:Nat->Nat->Bool):KasT α->Prop
 | .ret _=>True
 | .ask i j k=>i<n/\j<n/\Z74 n lt (k (lt i j))
theorem Z75 {α:Type}{n:Nat}{lt:Nat->Nat->Bool}{a:Nat->Nat->(Bool->Shared->Prop)->Shared->Prop}{Q:α->Shared->Prop}{s:Shared}
  (m:∀i j (C:Bool->Shared->Prop),i<n->j<n->C (lt i j) s->a i j C s):∀(t:KasT α),Z74 n lt t->Q (Jh lt t) s->t.kasWp a Q s
 | .ret _,_,h=>h
 | .ask i j k,h,q=>m i j _ h.1 h.2.1 (Z75 m (k (lt i j)) h.2.2 q)
theorem Z5s(vs:List Value)(n:Nat):bL "list" vs.toArray n=LW.lst vs n:=by
 delta bL LW.lst;rfl
section
variable {prog:Program}{w:World}{A:Around}{E:Value->Shared->Prop}{s:Shared}
theorem Zoc {a:Addr}{n:Nat}{vs:List Value}{κ:qD}{lt:Nat->Nat->Bool}{P:PySem.Fin->Shared->Prop}(ho:s.heap.get? a=some (bL "list" vs.toArray n))(h2:2<=vs.length)(J:vs.length<64)
  (hk:∀h' (Q:qD->Shared->Prop),(∀b o,b≠a->s.heap.get? b=some o->h'.get? b=some o)->Q κ {s with heap:=h'}->aU (cP prog w) A (keyKind' vs.toArray) Q (fun y y=>False) {s with heap:=h'})
  (hc:∀h' i j (C:Bool->Shared->Prop),(∀b o,b≠a->s.heap.get? b=some o->h'.get? b=some o)->i<vs.length->j<vs.length->C (lt i j) {s with heap:=h'}->rD prog w A κ vs i j C {s with heap:=h'})
  (ha:Z74 vs.length lt (cD vs.length))
  (h:∀h' c,(∀b o,b≠a->s.heap.get? b=some o->h'.get? b=some o)->h'.get? a=some (bL "list" ((Jh lt (cD vs.length)).toList.map fun i=>vs.getD i Value.none).toArray c)->P (.done (.ret .none)) {s with heap:=h'}):
  aU (cP prog w) A (Builtin.«list.sort» ⟨[.ref a],[]⟩) P E s:=by
 obtain⟨Z,X⟩:∃Z,(s.heap.update a (bK fun y=>(#[]:Array Value))).get? a=some (bL "list" #[] Z):=⟨_,gI ho fun y=>#[]⟩;have m:∀b o,b≠a->s.heap.get? b=some o->(((s.heap.update a (bK fun y=>(#[]:Array Value))).push (bL "tuple" vs.toArray 0)).push (bL "list" #[] 0)).get? b=some o:=fun b o q e=>
  aQ _ (aQ _ (by rw[dQ _ _ _ _ q];exact e))
 haveI I:(((s.heap.update a (bK fun y=>(#[]:Array Value))).push (bL "tuple" vs.toArray 0)).push (bL "list" #[] 0)).get? a=some (bL "list" #[] Z):=aQ _ (aQ _ X);rw[sF];refine aA (nC ho rfl ?_);refine aA (gK ho rfl ?_ (by rw[dL,bV];lia) (bP _));refine aA (kG X rfl ?_);refine aA (lR ?_ (by show vs.length<=_;rw[bV];lia));refine aA (kM ?_ (bP _));refine eC ?_;show aU (cP prog w) A _ P E {s with heap:=((s.heap.update a (bK fun y=>(#[]:Array Value))).push (bL "tuple" vs.toArray 0)).push (bL "list" #[] 0)}
 generalize ((s.heap.update a (bK fun y=>(#[]:Array Value))).push (bL "tuple" vs.toArray 0)).push (bL "list" #[] 0)=H at m I
 dsimp only;haveI W:¬vs.toArray.size<2:=by rw[dL];exact cQ (h2)
 rw[if_neg W,if_neg W];refine aA (bC (hk H (fun k s'=>k=κ/\s'={s with heap:=H}) m ⟨rfl,rfl⟩) (fun κ' s0 hk0=> ?_) fun y y x=>x.elim);obtain⟨rfl,rfl⟩:=hk0;haveI run:=kat_run (E:=E) (Q:=fun st' s'=>∃p:Array Nat,p.size=vs.length/\arrOf st'=p.map (kas_item (vs.toArray.zip vs.toArray))/\sR st'=none/\(p=Jh lt (cD vs.length)/\s'={s with heap:=H}))
  (ks:=vs) (vs:=vs) (G:=fun p s'=>p=Jh lt (cD vs.length)/\s'={s with heap:=H}) rfl h2 J (fun p' st' s' a1 a2 a3 a4=>⟨p',a1,a2,a3,a4⟩)
  (Z75 (fun i j C hi hj q=>hc H i j C m hi hj q) _ ha ⟨rfl,rfl⟩)
 refine aA (bC run ?_ fun y y e=>e);rintro⟨⟨⟩,st'⟩ s' ⟨p,hp,har,hf,ep,rfl⟩;subst ep;dsimp only;haveI Y:=kat_snds (ks:=vs) (vs:=vs) rfl har;haveI hsz:(jD ((Jh lt (cD vs.length)).toList.map fun i=>vs.getD i Value.none)).size=vs.length:=by simp only[dL,aE,eI,hp]
 rw[Y];obtain⟨c2,hc2⟩:∃c2,(H.update a (bK fun y=>jD ((Jh lt (cD vs.length)).toList.map fun i=>vs.getD i Value.none))).get? a=some (bL "list" (jD ((Jh lt (cD vs.length)).toList.map fun i=>vs.getD i Value.none)) c2):=⟨_,gI I fun y=>_⟩;refine aA (kG I rfl ?_);refine aA (gK I rfl ?_ (bP _) (aK (aT hsz) (by rw[bV];exact Zm [] [_] [.n Y8 Zfx] (.n Zr Zlq) rfl J)));rw[hf];simp only[bne_self_eq_false,cA,if_false];exact aH (h _ c2 (fun b o q e=>by rw[dQ _ _ _ _ q];exact m b o q e) hc2)
theorem Zc2 {l:Addr}{vs out:List Value}{R:Result->Shared->Prop}(hl:s.heap.IsList l vs.toArray)(h64:vs.length<64)
  (hs:∀(B:Around) (P:PySem.Fin->Shared->Prop) (E:Value->Shared->Prop) (H:Heap) (a:Addr),H.get? a=some (bL "list" vs.toArray 0)->(∀b o,s.heap.get? b=some o->b≠a/\H.get? b=some o)->
   (∀h' c,(∀b o,b≠a->H.get? b=some o->h'.get? b=some o)->h'.get? a=some (bL "list" out.toArray c)->P (.done (.ret .none)) {s with heap:=h'})->aU (cP prog w) B (Builtin.«list.sort» ⟨[.ref a],[]⟩) P E {s with heap:=H})
  (hR:∀h' D c,(∀b o,s.heap.get? b=some o->h'.get? b=some o)->s.heap.get? D=none->h'.get? D=some (bL "list" out.toArray c)->R (.ok (.ret (.ref D))) {s with heap:=h'}):
  bR (cP prog w) A (.call (.builtin "sorted") ⟨[.ref l],[]⟩) R s:=by
 refine eH plain_sorted entry_sorted ?_;have body:aU (cP prog w) A.in1 (jO ⟨[.ref l],[]⟩) (fun Y s'=>match Y with
   | .done f=>R (.ok f) s'
   | .again c'=>c'.quiet=true/\bR (cP prog w) A c' R s') (fun e s'=>R (.error e) s') s:=by
  unfold jO;refine aA (m:=checkCount "sorted" 1 1 _) (aH ?_);refine aA (collect_list hl ?_ (by rw[bV];lia));refine aA (kM ?_ (by rw[bV];lia));have I:((s.heap.push (bL "list" #[] 0)).update s.heap.objs.size (bK (·++vs.toArray))).objs.size=s.heap.objs.size+1:=by
   rw[mH,qR]
  haveI J:(((s.heap.push (bL "list" #[] 0)).update s.heap.objs.size (bK (·++vs.toArray))).push (bL "list" vs.toArray 0)).get? (s.heap.objs.size+1)=some (bL "list" vs.toArray 0):=by
   rw[<-I];exact bT _ rfl
  have y:∀b o,s.heap.get? b=some o->(((s.heap.push (bL "list" #[] 0)).update s.heap.objs.size (bK (·++vs.toArray))).push (bL "list" vs.toArray 0)).get? b=some o:=fun b o q=>by
   haveI j:b<s.heap.objs.size:=cV q;rw[jP _ _ _ (by rw[I];exact fH (eF j)),dQ _ _ _ _ (fH j),jP _ _ _ (fH j)];exact q
  have W:∀b o,s.heap.get? b=some o->b≠s.heap.objs.size+1:=fun b o q=>fH (eF (cV q));show aU _ _ _ _ _ {s with heap:=((s.heap.push (bL "list" #[] 0)).update s.heap.objs.size (bK (·++vs.toArray))).push (bL "list" vs.toArray 0)};rw[I];refine aA (eC (iY sS ⟨_,J,rfl⟩ sG ?body (args_list_sort _)))
  case body=>exact hs _ _ _ _ _ J (fun b o q=>⟨W b o q,y b o q⟩) fun h' c q e=>⟨_,rfl,aH (hR h' _ c (fun b o e=>q b o (W b o e) (y b o e)) (oH (gL _)) e)⟩
 simp only[kO,kind_sorted];have X:jW "sorted" ⟨[.ref l],[]⟩:=args_sorted1 _;cases hsig:iR "sorted" with
 |none=>exact aH body
 |some sig=>
  simp only[jW,hsig] at X;haveI Z:fN "sorted" sig ⟨[.ref l],[]⟩=pure ():=X;show aU _ A.in1 (fN "sorted" sig ⟨[.ref l],[]⟩) _ _ s;rw[Z];exact aH body
theorem Zjw {l:Addr}{vs:List Value}{κ:qD}{lt:Nat->Nat->Bool}{R:Result->Shared->Prop}(Z:s.heap.IsList l vs.toArray)(X:2<=vs.length)(I:vs.length<64)
  (hk:∀B h' (Q:qD->Shared->Prop),(∀b o,s.heap.get? b=some o->h'.get? b=some o)->Q κ {s with heap:=h'}->aU (cP prog w) B (keyKind' vs.toArray) Q (fun y y=>False) {s with heap:=h'})
  (hc:∀B h' i j (C:Bool->Shared->Prop),(∀b o,s.heap.get? b=some o->h'.get? b=some o)->i<vs.length->j<vs.length->C (lt i j) {s with heap:=h'}->rD prog w B κ vs i j C {s with heap:=h'})
  (W:Z74 vs.length lt (cD vs.length))
  (hR:∀h' D c,(∀b o,s.heap.get? b=some o->h'.get? b=some o)->s.heap.get? D=none->h'.get? D=some (bL "list" ((Jh lt (cD vs.length)).toList.map fun i=>vs.getD i Value.none).toArray c)->R (.ok (.ret (.ref D))) {s with heap:=h'}):
  bR (cP prog w) A (.call (.builtin "sorted") ⟨[.ref l],[]⟩) R s:=
 Zc2 Z I (fun B P E H a ho m h=>Zoc (s:={s with heap:=H}) (κ:=κ) (lt:=lt) ho X I (fun h' Q q J=>hk _ h' Q (fun b o e=>q b o (m b o e).1 (m b o e).2) J)
  (fun h' i j C q hi Y hC=>hc _ h' i j C (fun b o e=>q b o (m b o e).1 (m b o e).2) hi Y hC) W h) hR
theorem Zrn {vs:List Value}(h:vs.length<2):(vs.toArray.zip vs.toArray).map (·.2)=vs.toArray:=by
 rcases vs with _|⟨a,_|⟨b,l⟩⟩
 ·simp
 ·simp
 ·exact absurd h (oX.mpr (bO 2 l.length))
theorem Zod {a:Addr}{n:Nat}{vs:List Value}{P:PySem.Fin->Shared->Prop}(Y:s.heap.get? a=some (bL "list" vs.toArray n))(Z:vs.length<2)
  (h:∀h' c,(∀b o,b≠a->s.heap.get? b=some o->h'.get? b=some o)->h'.get? a=some (bL "list" vs.toArray c)->P (.done (.ret .none)) {s with heap:=h'}):
  aU (cP prog w) A (Builtin.«list.sort» ⟨[.ref a],[]⟩) P E s:=by
 obtain⟨W,I⟩:∃W,(s.heap.update a (bK fun y=>(#[]:Array Value))).get? a=some (bL "list" #[] W):=⟨_,gI Y fun y=>#[]⟩;haveI m:∀b o,b≠a->s.heap.get? b=some o->(((s.heap.update a (bK fun y=>(#[]:Array Value))).push (bL "tuple" vs.toArray 0)).push (bL "list" #[] 0)).get? b=some o:=fun b o q e=>
  aQ _ (aQ _ (by rw[dQ _ _ _ _ q];exact e))
 haveI j:(((s.heap.update a (bK fun y=>(#[]:Array Value))).push (bL "tuple" vs.toArray 0)).push (bL "list" #[] 0)).get? a=some (bL "list" #[] W):=aQ _ (aQ _ I);rw[sF];refine aA (nC Y rfl ?_);refine aA (gK Y rfl ?_ (by rw[dL,bV];lia) (bP _));refine aA (kG I rfl ?_);refine aA (lR ?_ (by show vs.length<=_;rw[bV];lia));refine aA (kM ?_ (bP _));refine eC ?_;show aU (cP prog w) A _ P E {s with heap:=((s.heap.update a (bK fun y=>(#[]:Array Value))).push (bL "tuple" vs.toArray 0)).push (bL "list" #[] 0)}
 generalize ((s.heap.update a (bK fun y=>(#[]:Array Value))).push (bL "tuple" vs.toArray 0)).push (bL "list" #[] 0)=H at m j
 dsimp only;haveI J:vs.toArray.size<2:=by rw[dL];omega
 rw[if_pos J,if_pos J];refine aA (aH ?_);refine aA (aH ?_);dsimp only;haveI X:(arrOf (rE general' (vs.toArray.zip vs.toArray) #[] 7 none)).map (·.2)=vs.toArray:=by
  exact Zrn Z
 haveI hf:sR (rE general' (vs.toArray.zip vs.toArray) #[] 7 none)=none:=rfl;rw[X];obtain⟨c2,hc2⟩:∃c2,(H.update a (bK fun y=>vs.toArray)).get? a=some (bL "list" vs.toArray c2):=⟨_,gI j fun y=>_⟩;refine aA (kG j rfl ?_);refine aA (gK j rfl ?_ (bP _) (by rw[dL,bV];exact Zm [] [_] [.n Y8 Zfy] (.n Zr Zlq) rfl Z))
 skip
 simp only[bne_self_eq_false,cA,if_false];exact aH (h _ c2 (fun b o q e=>by rw[dQ _ _ _ _ q];exact m b o q e) hc2)
theorem Zhi {l:Addr}{vs:List Value}{R:Result->Shared->Prop}(m:s.heap.IsList l vs.toArray)(j:vs.length<2)
  (q:∀h' D c,(∀b o,s.heap.get? b=some o->h'.get? b=some o)->s.heap.get? D=none->h'.get? D=some (bL "list" vs.toArray c)->R (.ok (.ret (.ref D))) {s with heap:=h'}):
  bR (cP prog w) A (.call (.builtin "sorted") ⟨[.ref l],[]⟩) R s:=
 Zc2 m (fV j (by decide)) (fun B P E H a y I h=>Zod (s:={s with heap:=H}) y j h) q
end
section
theorem St.keptNew {v:V}{B:Zt}{lg:Lg}{s:Shared}(st:St v B lg s){h':Heap}{tk:Nat}(hk:∀b o,s.heap.get? b=some o->h'.get? b=some o)(hb:8<=h'.objs.size)
  {D:Sl} (m:s.heap.get? D.a=none) (W:Ji h' D):
  St v B ⟨aO (h'.objs.size-8) 8,0,tk,0,D::lg.sl⟩ {s with heap:=h',toks:=tk}:=by
 obtain⟨R,s2,J,X,s5⟩:=st.kept (tk:=tk) hk hb;refine⟨⟨R.size,fun x hx=> ?_, ?_,fun x hx=> ?_,R.kt,R.stat,fun x hx=> ?_,R.frame,R.tup,R.nolim,R.big,fun b I=> ?_⟩,s2,J,X,s5⟩
 ·rcases aC.mp hx with rfl|hx
  ·exact W
  ·exact R.slots x hx
 ·show(D.a::lg.sl.map Sl.a).Nodup;rw[bM];refine⟨fun hm=> ?_,R.nodup⟩;obtain⟨y,hy,e⟩:=aN.mp hm;obtain⟨o,q⟩:=(st.rep.slots y hy).there;simp only[e,m] at q;contradiction
 ·rcases aC.mp hx with rfl|hx
  ·cases q:v.kt.get x.a with
   |none=>rfl
   |some o=>rw[st.rep.kt _ _ q] at m;contradiction
  ·exact R.low x hx
 ·rcases aC.mp hx with rfl|hx
  ·exact st.rep.fresh m
  ·exact R.own x hx
 ·haveI j:=R.frs b I;haveI q1:=j.1;haveI Y:=j.2.1;haveI Z:=j.2.2;refine⟨q1,fun y hy=> ?_,Z⟩;rcases aC.mp hy with rfl|hy
  ·intro e;obtain⟨_,_,o,q,_⟩:=st.rep.frs b I;simp only[<-e,m] at q;contradiction
  ·exact Y y hy
open Classical in
def ltB(R:List Is)(i j:Nat):Bool:=decide (ltI (R.getD i Zo) (R.getD j Zo))
open Classical in
def Zoe(R:List Is):List Nat:=(Jh (ltB R) (cD R.length)).toList
def sortI(R:List Is):List Is:=if R.length<2 then R else(Zoe R).map fun i=>R.getD i Zo
theorem Z4t(R:List Is)(i:Nat)(h:i<R.length):(R.map Is.ref).getD i Value.none= .ref (R.getD i Zo).a:=by
 simp only[aI,bE,aS h,aI,aS h];rfl
noncomputable def okT {α:Type}(n:Nat):KasT α->Bool
 | .ret _=>true
 | .ask i j k=>match fJ i n,fJ j n with
  |true,true=>(match okT n (k true) with|true=>okT n (k false)|false=>false)
  |_,_=>false
set_option tactic.hygienic true in theorem Zc3 {α:Type}{n:Nat}{lt:Nat->Nat->Bool}:∀(t:KasT α),okT n t=true->Z74 n lt t
 | .ret _,_=>trivial
 | .ask i j k,h=>by
  dsimp only[okT] at h;refine Z7 fun k'=> ?_
  split at h
  ·rename_i h1 h2
   split at h
   ·rename_i h3;refine k' ?_;refine⟨aW h1,aW h2, ?_⟩;cases lt i j
    ·exact Zc3 (k false) h
    ·exact Zc3 (k true) h3
   ·contradiction
  ·contradiction
noncomputable def Z9g(n:Nat):KasT (Array Nat)->Bool
 | .ret p=>p.toList.all fun i=>fJ i n
 | .ask _ _ k=>match Z9g n (k true) with|true=>Z9g n (k false)|false=>false
set_option tactic.hygienic true in theorem Z76 {n:Nat}{lt:Nat->Nat->Bool}:∀(t:KasT (Array Nat)),Z9g n t=true->∀i∈(Jh lt t).toList,i<n
 | .ret p,h=>fun i hi=>aW (mB.mp h i hi)
 | .ask i j k,h=>by
  dsimp only[Z9g] at h
  split at h
  ·rename_i h1;show∀x∈(Jh lt (k (lt i j))).toList,x<n;cases lt i j
   ·exact Z76 (k false) h
   ·exact Z76 (k true) h1
  ·contradiction
section
variable {prog:Program}{w:World}{A:Around}{E:Value->Shared->Prop}{s:Shared}
theorem J7n {h:Heap}:∀{R:List Is},Y1 h (.is R)->KatTups h (R.map Is.ref) (R.map fun e=>Value.int e.c e.ct):=by
 intro a
 induction a with
 |nil=>
  intro _;exact .nil
 |cons e R ih=>
  intro g;exact .cons (g e (.head _)) rfl rfl rfl (ih fun x j=>g x (.tail _ j))
open Classical in
theorem J1d {x y:Is}{Q:Bool->Shared->Prop}(m:s.heap.get? x.a=some (isO x))(I:s.heap.get? y.a=some (isO y))(h:Q (decide (ltP x.c x.k y.c y.k)) s):
  aU (cP prog w) A (keyLt' (tuples' true) (.ref x.a) (.ref y.a)) Q E s:=by
 refine kat_lt m rfl I rfl ?_;show KatLex prog w A true (decide (2<2)) Q [(.int x.c x.ct, .int y.c y.ct),(.str x.k x.kt, .str y.k y.kt)] 0 s;refine kat_cons (rO ?_)
 by_cases q:x.c=y.c
 ·rw[show(x.c==y.c)=true from by simpa using q];refine kat_yes (kat_cons (wpAny_eqBool_str ?_))
  by_cases q2:x.k=y.k
  ·rw[decide_eq_true q2];refine kat_yes (kat_nil ?_);have:¬ltP x.c x.k y.c y.k:=by
    unfold ltP;rw[q,q2];rintro (z|⟨_,z⟩)
    ·exact jX _ z
    ·exact absurd z (nF _)
   rw[decide_eq_false this] at h;exact h
  ·rw[decide_eq_false q2];refine kat_no ?_;show aU (cP prog w) A (oneLt' false (.str x.k x.kt) (.str y.k y.kt)) Q (fun j j=>False) s;refine kat_one _ _ (nB ?_);show Q _ s;have:decide (x.k.cps.toList<y.k.cps.toList)=decide (ltP x.c x.k y.c y.k):=by
    apply decide_eq_decide.mpr;unfold ltP;exact⟨fun z=> .inr ⟨q,z⟩,fun z=>z.elim (fun z=>absurd (q▸z) (jX _)) fun z=>z.2⟩
   rw[this];exact h
 ·rw[show(x.c==y.c)=false from by simpa using q];refine kat_no ?_;show aU (cP prog w) A (oneLt' true (.int x.c x.ct) (.int y.c y.ct)) Q (fun j j=>False) s;refine oneLt_int ?_;have:decide (x.c<y.c)=decide (ltP x.c x.k y.c y.k):=by
   apply decide_eq_decide.mpr;unfold ltP;exact⟨.inl,fun z=>z.elim id fun z=>absurd z.1 q⟩
  rw[this];exact h
theorem Zkq {R:List Is}(j:2<=R.length)(m:R.length<=4):∀i∈Zoe R,i<R.length:=by
 have a:Z9g R.length (cD R.length)=true:=by
  have:R.length=2\/R.length=3\/R.length=4:=by lia
  rcases this with e|e|e<;>rw[e]<;>kernel_rfl
 exact Z76 _ a
set_option tactic.hygienic true in theorem Zro {R:List Is}(h4:R.length<=4):∀e∈sortI R,e∈R:=by
 intro e he;unfold sortI at he
 split at he
 ·exact he
 ·rename_i q;obtain⟨i,hi,rfl⟩:=aN.mp he;have hlt:=Zkq ((dX q)) h4 i hi;simp only[aI,aS hlt];exact dD hlt
theorem Zvm {l:Addr}{R:List Is}{n:Nat}{P:Result->Shared->Prop}(hl:s.heap.get? l=some (LW.lst (R.map Is.ref) n))(g:Y1 s.heap (.is R))(y:2<=R.length)(W:R.length<=4)
  (hR:∀h' D c,(∀b o,s.heap.get? b=some o->h'.get? b=some o)->s.heap.get? D=none->h'.get? D=some (LW.lst ((sortI R).map Is.ref) c)->P (.ok (.ret (.ref D))) {s with heap:=h'}):
  bR (cP prog w) A (.call (.builtin "sorted") ⟨[.ref l],[]⟩) P s:=by
 have a:(R.map Is.ref).length=R.length:=aE ..;have ok:okT R.length (cD R.length)=true:=by
  have:R.length=2\/R.length=3\/R.length=4:=by lia
  rcases this with e|e|e<;>rw[e]<;>kernel_rfl
 refine Zjw (vs:=R.map Is.ref) (κ:=tuples' true) (lt:=ltB R) ⟨_,hl,rfl,n,rfl⟩ (by rw[a];exact y) (by rw[a];exact Zm [] [_] [.n Zr Z4g] Zlt rfl W) ?_ ?_ (by rw[a];exact Zc3 _ ok) ?_
 ·intro B h' Q m X;have g':Y1 h' (.is R):=fun e Z=>m _ _ (g e Z);refine kat_kind (T:= .type "int") (s:={s with heap:=h'}) (J7n g') (by rw[aE];exact lZ y) (fun v Y=> ?_) rfl X;obtain⟨e,_,rfl⟩:=aN.mp Y;exact Looks.now
 ·intro B h' i j C m q I J;rw[a] at q I;unfold rD;rw[Z4t R i q,Z4t R j I];have gi:∀k,k<R.length->R.getD k Zo∈R:=fun k m=>by
   rw[aI,aS m];exact dD m
  refine J1d (s:={s with heap:=h'}) (m _ _ (g _ (gi i q))) (m _ _ (g _ (gi j I))) ?_;unfold ltB ltI at J;exact J
 ·intro h' D c m hD hd;refine hR h' D c m hD ?_;rw[hd,Z5s]
  congr 2
  rw[a];unfold sortI;rw[if_neg (cQ (y)),bS];refine eN fun i q=> ?_;exact Z4t R i (Zkq y W i q)
theorem Zrp {l:Addr}{R:List Is}{n:Nat}{P:Result->Shared->Prop}(j:s.heap.get? l=some (LW.lst (R.map Is.ref) n))(a:R.length<2)
  (m:∀h' D c,(∀b o,s.heap.get? b=some o->h'.get? b=some o)->s.heap.get? D=none->h'.get? D=some (LW.lst ((sortI R).map Is.ref) c)->P (.ok (.ret (.ref D))) {s with heap:=h'}):
  bR (cP prog w) A (.call (.builtin "sorted") ⟨[.ref l],[]⟩) P s:=by
 refine Zhi (vs:=R.map Is.ref) ⟨_,j,rfl,n,rfl⟩ (by rw[aE];exact a) fun h' D c y q I=>m h' D c y q ?_;simp only[I,Z5s];unfold sortI;rw[if_pos a]
end
end
abbrev Zhj:=I3 Nat Nat (List Is)
noncomputable def J7o(i:Zhj):Code:= .call (.builtin "sorted") ⟨[.ref i.1],[]⟩
def Zof(i:Zhj):List Sl:=[⟨i.1,lst (i.3.map Is.ref) i.2, .is i.3⟩]
def Zog(i:Zhj)(S:List Is)(U:Ph):Result×List Sl:=(.ok (.ret (.ref (U.w 0).a)),⟨(U.w 0).a,lst (S.map Is.ref) (Z3 (U.w 0).o), .is S⟩::Zof i)
theorem J7p(w:World)(i:Zhj)(J:i.3.length<=4):J7 (vW w) false false (Zf 0) (Ze 0) (J7o i) (Zof i) (Zog i (sortI i.3)):=by
 obtain⟨l,n,R⟩:=i;simp only at J;intro A s hh out fr hz ha m;haveI j:=m.old.plain (s:=⟨l,lst (R.map Is.ref) n, .is R⟩) (.head _) rfl;haveI I:=j.1;haveI g:=j.2;haveI q:∀h' D c,(∀b o,s.heap.get? b=some o->h'.get? b=some o)->s.heap.get? D=none->h'.get? D=some (LW.lst ((sortI R).map Is.ref) c)->
   ∃i,i<1/\True/\∃U,(Except.ok (Flow.ret (.ref D)):Result)=(Zog ⟨l,n,R⟩ (sortI R) U).1/\St (vW w) ⟨s,(Zof ⟨l,n,R⟩).map Sl.a,frL false fr⟩ ⟨aO U.n 8,0,U.t,0,(Zog ⟨l,n,R⟩ (sortI R) U).2⟩ {s with heap:=h'}:=fun h' D c W hD hd=>by
  haveI Z:Y1 h' (.is (sortI R)):=fun e Y=>W _ _ (g e (Zro J e Y));haveI st:=m.keptNew (tk:=s.toks) W (Qv m W) (D:=⟨D,lst ((sortI R).map Is.ref) c, .is (sortI R)⟩) hD ⟨hd,Z⟩;exact⟨0,aX,trivial,⟨h'.objs.size-8,s.toks, .none,fun y=>⟨D,lst ((sortI R).map Is.ref) c, .no⟩⟩,rfl,st⟩
 refine Z7 fun X=> ?_
 by_cases h2:R.length<2
 ·exact X (Zrp I h2 q)
 ·exact X (Zvm I g ((dX h2)) J q)
def Zoh:Zi Zhj where
 code:=J7o
 P:=Zof
 cond i:=some (i.3.length<=4)
 F i _ U:=Zog i (sortI i.3) U
 k:=1
 nn _:=1
 ext _ S:=match S with
  |[l]=>(match l.g with
   | .is R=>some ⟨l.a,Z3 l.o,R⟩
   |_=>none)
  |_=>none
 d:=Zf 0
 u:=Ze 0
theorem Zrq(w:World):Za (vW w) Zoh.ctr:=
 Zoh.ok (fun i a=>J7p w i (a _ rfl))
def ltE(e:Expr):Expr:=kid e 0
noncomputable def ltG(e:Expr):Comprehension:=match e with| .ListComp _ (g::_) _ _=>g|_=>⟨e,e,[],0⟩
noncomputable def Zvn(e:Expr):Pos:=match e with| .ListComp _ _ _ p=>p| .Lambda _ _ _ p=>p|_=>⟨0,0,0,0⟩
def Zrr(l:Nat)(w:World)(g:G)(e:Expr)(it:Nat)(acc:Value)(env:Env)(val:Value)(P:List Sl)(N T:Nat)(h:Option Value)(hs:Hs)(K:K Result):Z8:=
 Z6z (Ql (vW w) g 100000) (ltE e) (ltG e) (Z4d e) (Zvn e) (.ref it) acc env val ⟨Zf l,Ze l,h,none⟩ ⟨aO N 8,0,T,0,P⟩ hs K
def Zoi(e:Expr):Prop:=e= .ListComp (ltE e) [ltG e] (Z4d e) (Zvn e)/\(ltG e).is_async=0
theorem Zhk {w:World}{g:G}{lv na:Nat}{kk:Nat->Nat}{C:Nat->Prop}{D:Nat->Ph->Prop}{F:Nat->Ph->Result×List Sl}{hs:Hs}
  {it l k n:Nat} {dd:Option Nat} {ss:Array (Option Value)} {vs:List Value} {gi gl ge:Gd} {rest:List Sl} {val:Value}
  (GO:J5 (vW w) g) {e:Expr} {acc:Value} {env:Env} (a:Zoi e) (Y:Zy gi=true) (X:Zy gl=true) (I:Zy ge=true) (j:∀h,Y1 h gl->Y1 h ge) (q:vs[k]?=some val)
  (h:∀(N T:Nat) (hh:Option Value) (dd:Option Nat) (ss:Array (Option Value)),hh=none->Z5 (Zrr lv w g e it acc env val (⟨it,Yv dd ss l (k+1),ge⟩::⟨l,LW.lst vs n,gl⟩::rest) N T hh hs (Jj na kk C D F))):
  Yu (vW w) true false (Zf lv) (Ze lv) (.compLoop e 0 (.ref it) acc env) (⟨it,Yv dd ss l k,gi⟩::⟨l,LW.lst vs n,gl⟩::rest) na C D F:=by
 haveI m:=a.1;haveI W:=a.2;rw[m];exact Zjt GO W Y X I j q fun N T hh y dd ss J=>h N T hh dd ss (J rfl)
noncomputable def Zhl(o:Obj):List DictEntry:=match o.data with| .dict es _=>es.toList|_=>[]
def Zyz(o:Obj)(i:Nat):Int:=match(Zhl o)[i]? with|some e=>e.hash|none=>0
def Zz0(o:Obj)(i:Nat):Nat:=match(Zhl o)[i]? with|some e=>Z6 e.key|none=>0
def Zl(o:Obj)(i:Nat):Value:=match(Zhl o)[i]? with|some e=>e.val|none=> .none
noncomputable def J7q(o:Obj):List Str->Nat->List DictEntry
 |[],_=>[]
 |n::ns,i=>⟨Zyz o i, .str n (Zz0 o i),Zl o i⟩::J7q o ns (Nat.succ i)
def Z2n(ns:List Str)(o:Obj):Obj:=⟨.type "dict",none, .dict ⟨J7q o ns 0⟩ (Z3 o),⟨[]⟩⟩
noncomputable def Z77(o:Obj):Nat:=match o.data with| .fields vs=>(match vs.toList with|[_, .int x _]=>x.toNat|_=>0)|_=>0
noncomputable def Jf(o:Obj):Str×Nat:=match o.data with| .cell (some (.str s t))=>(s,t)|_=>(⟨⟨[]⟩⟩,0)
noncomputable def Z9h(o:Obj):Int×Nat:=match o.data with| .cell (some (.int s t))=>(s,t)|_=>(0,0)
theorem Zel {α:Type}{L:List α}{k:Nat}{e:α}(h:L[k]?=some e):L.drop k=e::L.drop (k+1):=by
 haveI a:=bJ.mp h;haveI j:=a.1;haveI m:=a.2;simp only[jN j,m]
theorem Zrs {α:Type}{L:List α}{k r:Nat}(h:k+(r+1)=L.length):∃e,L[k]?=some e/\e∈L:=by
 haveI a:k<L.length:=(Zm [] [_,_,_] [.n Za8 lQ7] (.n Y8 lQ7) rfl (aT h));exact⟨L[k],aS a,dD a⟩
theorem Zvo {prog:Program}{w:World}{A:Around}{E:Value->Shared->Prop}{s:Shared}{it l i n:Nat}{dd:Option Nat}{ss:Array (Option Value)}{vs:List Value}{Q:Option Value->Shared->Prop}(hh:A.handled=none)
  (j:s.heap.get? it=some (Yv dd ss l i)) (I:s.heap.get? l=some (LW.lst vs n)) (J:vs[i]?=none)
  (W:∀h' o',rQ it s.heap h'->h'.get? it=some o'->Q none {s with heap:=h'}):aU (cP prog w) A (kH (.ref it)) Q E s:=by
 haveI q:s.heap.IsListIter it l i:=⟨_,j,rfl,rfl⟩;unfold kH;refine aA (kJ (fW (name:=aB "__next__") q.typeIs qS (iY qS q.typeIs entry_listiter_next ?_ (args_listiter_next _))));show aU _ _ (mA (.ref it) 0>>=_) _ _ s;refine aA (eJ j rfl (x:= .ref l) rfl ?_);show aU _ _ (mA (.ref it) 1>>=_) _ _ s;refine aA (eJ j rfl (x:= .int i 0) rfl ?_);show aU _ _ (seqItems? (.ref l)>>=_) _ _ s;refine aA (fX I rfl ?_);haveI y:vs.toArray[i]?=none:=by simpa using J
 simp only[jR];rw[show(⟨vs⟩:Array Value)[i]?=none from y];refine aA (jU (aA (wpAny_setField j rfl (by simp) ?_)));show aU _ _ (newExc (.type "StopIteration") []>>=_) _ _ _;refine aA ?_;simp only[newExc,newTuple];refine aA (iP ?_ (by size_fits));refine aA (m:=sT _ _) (nN (a:=Value.none) (by first|rfl|(simp only[sT];rfl)) ?_);refine iP ?_ (by size_fits);dsimp only[raiseNew];refine aA (wpAny_handled ?_);rw[show A.in1.handled=none from hh];refine aA (aH (wpAny_throw ?_));refine aA (jA (T:="StopIteration") (b:=true) ⟨_,bT _ rfl,rfl⟩ sU ?_);exact aH (W _ _ (((dY ..).extBut.push _).push _) (aQ _ (aQ _ (gB _ j (by rfl)))))
theorem St.endIt {w:World}{B:Zt}{b m t i:Nat}{s:Shared}{it:Nat}{j o':Obj}{gi:Gd}{rest:List Sl}{h':Heap}(st:St (vW w) B ⟨b,m,t,i,⟨it,j,gi⟩::rest⟩ s)(hi:Zy gi=true)(hc:j.cls= .type "list_iterator")(I:rQ it s.heap h')(ho:h'.get? it=some o'):
  St (vW w) B ⟨aO (h'.objs.size-8) 8,0,s.toks,0,⟨it,o', .no⟩::rest⟩ {s with heap:=h'}:=by
 have R:=st.rep;have h0:=(st.old.plain (s:=⟨it,j,gi⟩) (.head _) hi).1;have Y:=R.low ⟨it,j,gi⟩ (.head _);have fx:∀b o,s.heap.get? b=some o->Fix o->h'.get? b=some o:=fun b o e f=>I b o (fun q=>by
  subst q;rw[show s.heap.get? _=some j from h0] at e;cases e;rcases f with f|f<;>rw[hc] at f<;>simp at f) e
 have J:∀a o,(vW w).kt.get a=some o->h'.get? a=some o:=fun a o e=>I a o (fun q=>by subst q;rw[show(vW w).kt.get _=none from Y] at e;cases e) (R.kt a o e);have Z:(vW w).kt.get 310=some Zak:=by kernel_rfl
 have W:8<=h'.objs.size:=by
  have:310<h'.objs.size:=cV (J _ _ Z);exact aK (by decide) this
 have nd:=R.nodup;rw[aP,bM] at nd;refine⟨⟨(bG W).symm,fun y hy=> ?_,R.nodup,fun y hy=> ?_,J,R.stat,fun y hy=> ?_,fun b o e n1 n2=> ?_,fun b o e f=>fx b o (R.tup b o e f) f, ?_,W,fun b hb=> ?_⟩,rfl,st.gens,st.drawn,st.os⟩
 ·rcases aC.mp hy with rfl|hy
  ·exact Je (s:=⟨it,o', .no⟩) (g:= .no) rfl ho trivial
  ·refine(R.slots y (.tail _ hy)).mono (fun o e=>I _ o (fun q=>nd.1 (show it∈rest.map Sl.a by rw[<-q];exact aL (f:=Sl.a) hy)) e) fx
 ·rcases aC.mp hy with rfl|hy
  ·exact Y
  ·exact R.low y (.tail _ hy)
 ·rcases aC.mp hy with rfl|hy
  ·exact R.own ⟨it,j,gi⟩ (.head _)
  ·exact R.own y (.tail _ hy)
 ·refine I b o (fun q=> ?_) (R.frame b o e n1 n2);subst q;rcases R.own ⟨_,j,gi⟩ (.head _) with z|z
  ·rw[show B.s.heap.get? _=none from z] at e;cases e
  ·exact n1 z
 ·obtain⟨os,eo⟩:=R.stat;exact R.nolim.at fun o e=>I _ o (fun q=>by rw[q,show(vW w).kt.get _=none from Y] at eo;cases eo) e
 ·obtain⟨q1,X,o,q3,q4⟩:=R.frs b hb;refine⟨q1,fun y hy=> ?_,o,I b o (fun z=>X ⟨it,j,gi⟩ (.head _) z.symm) q3,q4⟩;rcases aC.mp hy with rfl|hy
  ·exact X ⟨it,j,gi⟩ (.head _)
  ·exact X y (.tail _ hy)
theorem Zjx {w:World}{lv l it k n:Nat}{dd:Option Nat}{ss:Array (Option Value)}{vs:List Value}{gi gl:Gd}{rest:List Sl}{e:Expr}{acc:Value}{env:Env}{C:Nat->Prop}{D:Nat->Ph->Prop}{F:Nat->Ph->Result×List Sl}
  (q:Zoi e) (I:Zy gi=true) (hl:Zy gl=true) (X:vs[k]?=none) (hC:C 0)
  (Z:∀(N T:Nat) (o':Obj),∃U:Ph,U.n=N/\U.t=T/\D 0 U/\F 0 U=(.ok .next,⟨it,o', .no⟩::⟨l,LW.lst vs n,gl⟩::rest)):
  Yu (vW w) true false (Zf lv) (Ze lv) (.compLoop e 0 (.ref it) acc env) (⟨it,Yv dd ss l k,gi⟩::⟨l,LW.lst vs n,gl⟩::rest) 1 C D F:=by
 intro A s hh out fr hz J a;haveI W:=q.1;haveI m:=q.2;rw[W];refine jM ?_;rw[Qf];show aU _ _ ((pZ (.ListComp (ltE e) [ltG e] (Z4d e) (Zvn e)) 0 (.ref it) acc env).onRaise (fun x=>do fI x env;dI x)) _ _ s;refine cH ?_;obtain⟨j,hg⟩:∃j,j=ltG e:=⟨_,rfl⟩;simp only[<-hg] at m⊢;obtain⟨target,Y,ifs,as⟩:=j;simp only at m;subst m;dsimp only[pZ,jY,bne_self_eq_false,cA,if_false];refine aA (bW (aA ?_));refine Zvo (n:=n) (by rw[J.hh];exact hz rfl) (a.old.plain (s:=⟨it,Yv dd ss l k,gi⟩) (.head _) I).1 (a.old.plain (s:=⟨l,LW.lst vs n,gl⟩) (.tail _ (.head _)) hl).1 X fun h' o' hk ho=> ?_;haveI st:=a.endIt I rfl hk ho;refine Z7 fun k'=> ?_;obtain⟨U,e1,e2,hD,y⟩:=Z (h'.objs.size-8) s.toks o';refine k' ?_;refine aH ⟨0,aX,hC,U,hD,by rw[y], ?_⟩;simp only[e1,e2,y];exact st
theorem Zf4 {v:V}{z xf:Bool}{d u na it l k:Nat}{dd:Option Nat}{ss:Array (Option Value)}{gi:Gd}{rest:List Sl}{e:Expr}{acc:Value}{env:Env}{C:Nat->Prop}{D:Nat->Ph->Prop}{F:Nat->Ph->Result×List Sl}
  (y:Zoi e) (Y:Zy gi=true) (h:Yu v z xf d u (.compLoop e 0 (.ref it) acc env) (⟨it,Yv dd ss l k,gi⟩::rest) na C D F):
  Yu v z xf d u (.compStart e 0 (.ref it) acc env) (⟨it,Yv dd ss l k,gi⟩::rest) na C D F:=by
 intro A s hh out fr X I j;haveI a:=h A s hh out fr X I j;haveI J:=y.1;haveI q:=y.2;rw[J] at a⊢;obtain⟨m,Z⟩:∃m,m=ltG e:=⟨_,rfl⟩;rw[<-Z] at q a⊢;obtain⟨target,W,ifs,as⟩:=m;simp only at q;subst q;exact codeAny_compStart_list a (wpAny_pyIter_listiter ⟨_,(j.old.plain (s:=⟨it,Yv dd ss l k,gi⟩) (.head _) Y).1,rfl,rfl⟩ a)
structure LKd(α:Type) where
 v:List α->List Value
 r:α->Value
 g:List α->Gd
 un:Sl->List α
structure LKd.Ok {α:Type}(K:LKd α):Prop where
 elt:∀(L:List α) (k:Nat),(K.v L)[k]?=L[k]?.map K.r
 ex:∀L,Zy (K.g L)=true
 one:∀h L e,e∈L->Y1 h (K.g L)->Y1 h (K.g [e])
 nil:∀h,Y1 h (K.g [])
 un:∀a L n,K.un ⟨a,lst (K.v L) n,K.g L⟩=L
def kHe:LKd He:=⟨fun l=>l.map He.ref,He.ref, .hs,fun s=>J3 s.g⟩
def kSi:LKd Si:=⟨fun l=>l.map Si.ref,Si.ref, .si,fun s=>Z3t s.g⟩
def kIs:LKd Is:=⟨fun l=>l.map Is.ref,Is.ref, .is,fun s=>Zp s.g⟩
def kVl:LKd Value:=⟨fun l=>l,fun v=>v,fun y=> .no,fun s=>Z1 s.o⟩
theorem Zc4:kHe.Ok:=⟨fun y y=>bE ..,fun y=>rfl,fun y y y m g x a=>g x (aM.mp a▸m),fun y y h=>(nomatch h),fun y y y=>rfl⟩
theorem Zrt:kSi.Ok:=⟨fun y y=>bE ..,fun y=>rfl,fun y y y m g x a=>g x (aM.mp a▸m),fun y y h=>(nomatch h),fun y y y=>rfl⟩
theorem Zc5:kIs.Ok:=⟨fun y y=>bE ..,fun y=>rfl,fun y y y m g x a=>g x (aM.mp a▸m),fun y y h=>(nomatch h),fun y y y=>rfl⟩
theorem Z3m:kVl.Ok:=⟨fun y y=>(Option.map_id▸rfl),fun y=>rfl,fun y y y y y=>trivial,fun y=>trivial,fun y y y=>rfl⟩
structure LIx(α β γ:Type) where
 it:Nat
 l:Nat
 n:Nat
 L:List α
 acc:Nat
 m:Nat
 A:List β
 d:Nat
 o:Obj
 f:Nat
 dd:Option Nat
 ss:Array (Option Value)
 k:Nat
 cs:γ
structure Js(α β γ:Type) where
 e:Expr
 q:Str
 fa:Nat
 cn:List Str
 ns:List Str
 X:LKd α
 Y:LKd β
 lv:Nat
 cl:γ->List Sl
 ce:List Sl->γ
 ok:γ->List α->List β->Nat->Prop
 D:γ->List α->List β->Nat->List β->Prop
section
variable {α β γ:Type}(S:Js α β γ)(i:LIx α β γ)
def Js.en:Env:=Z0w S.e S.q S.fa i.d i.f (S.cn.zip ((S.cl i.cs).map Sl.a))
def Js.pL(a:Obj):List Sl:=⟨i.it,Yv i.dd i.ss i.l i.k, .no⟩::⟨i.l,lst (S.X.v i.L) i.n,S.X.g i.L⟩::⟨i.acc,lst (S.Y.v i.A) i.m,S.Y.g i.A⟩::⟨i.d,a, .no⟩::S.cl i.cs
def Js.pS:List Sl:=⟨i.it,Zyu i.l, .no⟩::⟨i.l,lst (S.X.v i.L) i.n,S.X.g i.L⟩::⟨i.acc,lst [] i.m, .no⟩::⟨i.d,Qx (Z3 i.o), .no⟩::S.cl i.cs
def Js.rr(U:Ph)(a:Obj):Result×List Sl:=(.ok .next,⟨i.it,(U.w 0).o, .no⟩::⟨i.l,lst (S.X.v i.L) i.n,S.X.g i.L⟩::⟨i.acc,lst (S.Y.v (S.Y.un (U.w 2))) (Z3 (U.w 2).o),S.Y.g (S.Y.un (U.w 2))⟩::⟨i.d,a, .no⟩::S.cl i.cs)
def Js.r(U:Ph):Result×List Sl:=S.rr i U (Z2n S.ns (U.w 3).o)
def Js.z(U:Ph):Result×List Sl:=S.rr i U (Qx (Z3 (U.w 3).o))
def Js.ext(env:Env)(W:List Sl):Option (LIx α β γ):=match env.frame with
 |some f=>some ⟨(Q0 W 0).a,(Q0 W 1).a,Z3 (Q0 W 1).o,S.X.un (Q0 W 1),(Q0 W 2).a,Z3 (Q0 W 2).o,S.Y.un (Q0 W 2),(Q0 W 3).a,(Q0 W 3).o,f,(Q0 W 0).o.dict,(Q0 W 0).o.slots,Z77 (Q0 W 0).o,S.ce (W.drop 4)⟩
 |none=>none
def Js.dd(U:Ph):Prop:=S.D i.cs i.L i.A i.k (S.Y.un (U.w 2))
def Js.cL:Code:= .compLoop S.e 0 (.ref i.it) (.ref i.acc) (S.en i)
def Js.cS:Code:= .compStart S.e 0 (.ref i.it) (.ref i.acc) (S.en i)
def Js.fL(r:Nat):Zi (LIx α β γ) where
 code:=S.cL
 P i:=S.pL i (Z2n S.ns i.o)
 cond i:=some (S.ok i.cs i.L i.A i.k/\i.k+r=i.L.length/\1<=i.k)
 F i _ U:=S.r i U
 k:=4+S.cn.length
 ext c W:=match c with| .compLoop _ _ _ _ env=>S.ext env W|_=>none
 d:=Zf S.lv
 u:=Ze S.lv
 z:=true
 D:=some fun i y U=>S.dd i U
def Js.fS:Zi (LIx α β γ) where
 code:=S.cS
 P:=S.pS
 cond i:=some (S.ok i.cs i.L i.A i.k/\i.k=0/\i.A=[])
 na:=2
 C i a:=match a with|0=>i.L=[]|_=>i.L≠[]
 F i a U:=match a with|0=>S.z i U|_=>S.r i U
 k:=4+S.cn.length
 ext c W:=match c with| .compStart _ _ _ _ env=>(match S.ext env W with|some i=>some {i with A:=[],dd:=none,ss:=⟨[]⟩,k:=0}|none=>none)|_=>none
 d:=Zf S.lv
 u:=Ze S.lv
 z:=true
 D:=some fun i y U=>S.dd i U
end
theorem Yu.gh {v:V}{z xf:Bool}{d u na:Nat}{c:Code}{P m:List Sl}{C:Nat->Prop}{D:Nat->Ph->Prop}{F:Nat->Ph->Result×List Sl}(h:Yu v z xf d u c P na C D F)(q:m.map Sl.a=P.map Sl.a)
  (k:∀h,(∀s∈m,Ji h s)->∀s∈P,Ji h s):Yu v z xf d u c m na C D F:=by
 intro A s hh out fr J y j;haveI st:=j.adr (k _ j.rep.slots) (fun x I=>by rw[q];exact aL I) (by rw[<-q];exact j.rep.nodup) _ _ rfl rfl;rw[q] at y st⊢;exact h A s hh out fr J y st
def Js.Turn {α β γ:Type}(S:Js α β γ)(w:World)(gc:List Ctr)(hs:Hs):Prop:=
 ∀(r it l n:Nat) (L:List α) (acc m:Nat) (A:List β) (d:Nat) (o:Obj) (f k:Nat) (c:γ) (a:Obj) (e:α) (N T:Nat) (dd:Option Nat) (ss:Array (Option Value)),(a=Qx (Z3 o)\/a=Z2n S.ns o)->S.ok c L A k->k+(r+1)=L.length->L.drop k=e::L.drop (k+1)->e∈L->
  Z5 (Zrr S.lv w ⟨gc++[(S.fL r).ctr],Z0o⟩ S.e it (.ref acc) (S.en ⟨it,l,n,L,acc,m,A,d,o,f,dd,ss,k,c⟩) (S.X.r e) (⟨it,Yv dd ss l (k+1),S.X.g [e]⟩::(S.pL ⟨it,l,n,L,acc,m,A,d,o,f,dd,ss,k,c⟩ a).tail) N T none hs
   (Jj 1 (fun y=>4+S.cn.length) (fun y=>True) (fun y=>S.dd ⟨it,l,n,L,acc,m,A,d,o,f,dd,ss,k,c⟩) (fun y=>S.r ⟨it,l,n,L,acc,m,A,d,o,f,dd,ss,k,c⟩)))
structure Js.Fit {α β γ:Type}(S:Js α β γ)(w:World):Prop where
 lc:Zoi S.e
 X:S.X.Ok
 Y:S.Y.Ok
 fin:∀vs L A,S.ok vs L A L.length->S.D vs L A L.length A
section
variable {α β γ:Type}{S:Js α β γ}{w:World}(H:S.Fit w){gc:List Ctr}{hs:Hs}(GO:∀f∈gc,Za (vW w) f)(tn:S.Turn w gc hs)
include H
theorem Js.Fit.at_end {i:LIx α β γ}(a:i.k=i.L.length)(I:S.ok i.cs i.L i.A i.k){q:Obj}{F:Ph->Result×List Sl}(J:∀U:Ph,(U.w 3).o=i.o->F U=S.rr i U q):
  Yu (vW w) true false (Zf S.lv) (Ze S.lv) (S.cL i) (S.pL i q) 1 (fun y=>True) (fun y=>S.dd i) (fun y=>F):=by
 refine Zjx H.lc rfl (H.X.ex _) (by simp only[H.X.elt,a,List.getElem?_eq_none (cB _)];rfl) trivial fun N T o'=> ?_;refine⟨⟨N,T, .none,fun j=>match j with|0=>⟨0,o', .no⟩|2=>⟨0,lst (S.Y.v i.A) i.m,S.Y.g i.A⟩|_=>⟨0,i.o, .no⟩⟩,rfl,rfl, ?_,(J _ rfl).trans ?_⟩
 ·show S.D _ _ _ _ (S.Y.un ⟨0,lst (S.Y.v i.A) i.m,S.Y.g i.A⟩);rw[H.Y.un,a];exact H.fin _ _ _ (a▸I)
 ·unfold Js.rr;simp only;rw[H.Y.un];rfl
include GO tn
theorem Js.Fit.turn {r:Nat}(I:Za (vW w) (S.fL r).ctr){i:LIx α β γ}{a:Obj}(W:a=Qx (Z3 i.o)\/a=Z2n S.ns i.o)(J:S.ok i.cs i.L i.A i.k)(m:i.k+(r+1)=i.L.length):
  Yu (vW w) true false (Zf S.lv) (Ze S.lv) (S.cL i) (S.pL i a) 1 (fun y=>True) (fun y=>S.dd i) (fun y=>S.r i):=by
 refine Z7 fun k'=> ?_;obtain⟨e,j,q⟩:=Zrs m;refine k' ?_;refine Zhk (g:=⟨gc++[(S.fL r).ctr],Z0o⟩) ⟨fun f Y=> ?_,Z01 _⟩ H.lc rfl (H.X.ex _) (H.X.ex [e]) (fun h=>H.X.one h _ _ q) (by rw[H.X.elt,j];rfl)
  fun N T hh dd ss Z=>by simp only[Z];exact tn r _ _ _ _ _ _ _ _ _ _ _ _ a e N T dd ss W J m (Zel j) q
 rcases aG.mp Y with h|h
 ·exact GO f h
 ·simp only[aM.mp h];exact I
theorem Js.Fit.okL:∀r,Za (vW w) (S.fL r).ctr:=by
 intro j
 induction j with
 |zero=>
  exact(S.fL 0).okD (fun i a=>H.at_end (a _ rfl).2.1 (a _ rfl).1 fun U e=>by unfold Js.r;simp only[e])
 |succ r ih=>
  exact(S.fL (r+1)).okD (fun i a=>H.turn GO tn (ih) (.inr rfl) (a _ rfl).1 (a _ rfl).2.1)
theorem Js.Fit.start(i:LIx α β γ)(Z:∀p,S.fS.cond i=some p->p):Yu (vW w) true false (Zf S.lv) (Ze S.lv) (S.cS i) (S.pS i) 2 (S.fS.C i) (S.fS.dOf i) (S.fS.F i):=by
 obtain⟨J,W,I⟩:=Z _ rfl;obtain⟨it,l,n,L,acc,m,A,d,o,f,dd,ss,k,cs⟩:=i;simp only at W I;subst W I;have j:∀{na:Nat} {C:Nat->Prop} {D:Nat->Ph->Prop} {F:Nat->Ph->Result×List Sl},Yu (vW w) true false (Zf S.lv) (Ze S.lv) (S.cL ⟨it,l,n,L,acc,m,[],d,o,f,none,⟨[]⟩,0,cs⟩) (S.pL ⟨it,l,n,L,acc,m,[],d,o,f,none,⟨[]⟩,0,cs⟩ (Qx (Z3 o))) na C D F->
   Yu (vW w) true false (Zf S.lv) (Ze S.lv) (S.cS ⟨it,l,n,L,acc,m,[],d,o,f,none,⟨[]⟩,0,cs⟩) (S.pS ⟨it,l,n,L,acc,m,[],d,o,f,none,⟨[]⟩,0,cs⟩) na C D F:=fun h=>by
  refine(Zf4 H.lc rfl h).gh rfl fun a hh s hs=> ?_;rcases aC.mp hs with rfl|hs
  ·exact hh _ (.head _)
  rcases aC.mp hs with rfl|hs
  ·exact hh _ (.tail _ (.head _))
  rcases aC.mp hs with rfl|hs
  ·exact Je (s:=⟨acc,lst (S.Y.v []) m,S.Y.g []⟩) (g:=S.Y.g []) (H.Y.ex _) (by
    haveI q:S.Y.v []=[]:=by
     cases e:S.Y.v [] with
     |nil=>rfl
     |cons x r=>have:=H.Y.elt [] 0;simp only[e] at this;contradiction
    rw[q];exact(hh ⟨acc,lst [] m, .no⟩ (.tail _ (.tail _ (.head _)))).1) (H.Y.nil _)
  ·exact hh _ (.tail _ (.tail _ (.tail _ hs)))
 by_cases a:L=[]
 ·cases a;exact(j (H.at_end (i:=⟨it,l,n,[],acc,m,[],d,o,f,none,⟨[]⟩,0,cs⟩) (F:=S.z ⟨it,l,n,[],acc,m,[],d,o,f,none,⟨[]⟩,0,cs⟩) rfl J fun U e=>by unfold Js.z;rw[e])).mono fun y y y=>⟨0,iX,rfl,fun U h=>⟨U,h,rfl,rfl,rfl,rfl⟩⟩
 ·obtain⟨r,X⟩:∃r,0+(r+1)=L.length:=by
   cases L with
   |nil=>exact absurd rfl a
   |cons x L=>exact⟨L.length,by simp only[bQ];exact dH _⟩
  exact(j (H.turn GO tn (i:=⟨it,l,n,L,acc,m,[],d,o,f,none,⟨[]⟩,0,cs⟩) (H.okL GO tn r) (.inl rfl) J X)).mono fun y y y=>⟨1,lF,a,fun U h=>⟨U,h,rfl,rfl,rfl,rfl⟩⟩
theorem Js.Fit.okS:Za (vW w) S.fS.ctr:=
 S.fS.okD (H.start GO tn) (fun y a y y=>by cases a<;>rfl)
end
def Js.Go {α β γ:Type}(S:Js α β γ)(c:γ)(L:List α)(A A':List β)(k r:Nat):Prop:=
 (S.ok c L A' (k+1)/\k+1+r=L.length/\1<=k+1)/\∀U:Ph,S.D c L A' (k+1) (S.Y.un (U.w 2))->True/\S.D c L A k (S.Y.un (U.w 2))
section
variable {α β γ δ:Type}{L:List α}{A A':List β}{k r:Nat}
theorem Js.go {S:Js α β γ}{c:γ}(m:k+(r+1)=L.length)(a:S.ok c L A' (k+1))(j:∀X,S.D c L A' (k+1) X->S.D c L A k X):S.Go c L A A' k r:=
 ⟨⟨a,(Yy [] [_,_,_] [.n Za8 lQ7] [] (.n Zct lQ7) rfl m),bO ..⟩,fun y h=>⟨trivial,j _ h⟩⟩
theorem Z5t {a:β}(h:A.length+(L.length-k)<=500)(j:k+(r+1)=L.length):(A++[a]).length+(L.length-(k+1))<=500:=by
 rw[<-j,nP] at h;rw[<-j,jE r 1,<-gW,nP,aV];exact aK (aT (Nat.add_right_comm _ 1 r)) h
theorem J7r(h:A.length+(L.length-k)<=500):A.length+(L.length-(k+1))<=500:=aK (Nat.add_le_add_left (Nat.sub_le_sub_left (gL k) _) _) h
theorem Z5u(h:A.length+(L.length-k)<=500):A.length<=1000:=(Zm [] [_,_] [.n Zlp (.n 500)] (.n Zr Za5) rfl h)
theorem Zhm {j:β->δ}{m:α->δ}{e:α}(y:L.drop k=e::L.drop (k+1)){a:β}(q:j a=m e)(X:List β)(h:X.map j=(A++[a]).map j++(L.drop (k+1)).map m):X.map j=A.map j++(L.drop k).map m:=by
 simp only[h,y,bB,eD];show _++(j a::_)=_;simp only[q];rfl
theorem Zkr {A:List α}{p:α->Bool}{e:α}(j:L.drop k=e::L.drop (k+1))(a:p e=true)(X:List α)(h:X=A++[e]++(L.drop (k+1)).filter p):X=A++(L.drop k).filter p:=by
 simp only[h,j,bD a,eD];rfl
theorem Zks {A:List α}{p:α->Bool}{e:α}(j:L.drop k=e::L.drop (k+1))(a:¬p e=true)(X:List α)(h:X=A++(L.drop (k+1)).filter p):X=A++(L.drop k).filter p:=by
 simp only[h,j,bH a]
end
set_option tactic.hygienic true in theorem Z05 {A:List Value}{xs:List Int}{x:Int}{t:Nat}(h:Zc A=some xs):Zc (A++[.int x t])=some (xs++[x]):=by
 induction A generalizing xs with
 |nil=>cases h;rfl
 |cons v A ih=>
  cases v with
  |int y u=>
   haveI h':(match Zc A with|some r=>some (y::r)|none=>none)=some xs:=h;refine Z7 fun k'=> ?_
   split at h'
   ·rename_i r q;cases h';have:Zc (A++[.int x t])=some (r++[x]):=ih q;refine k' ?_;show(match Zc (A++[.int x t]) with|some r=>some (y::r)|none=>none)=_;rw[this];rfl
   ·contradiction
  |_=>exact nomatch h
theorem Z6e {L A:List Value}{k:Nat}{a:List Int}{j:Value->Int}{e:Value}(q:Zc A=some a)(W:L.drop k=e::L.drop (k+1)){y:Int}{Y:Nat}(J:j e=y)(X:List Value)
  (h:∃a,Zc (A++[.int y Y])=some a/\Zc X=some (a++(L.drop (k+1)).map j)):∃a,Zc A=some a/\Zc X=some (a++(L.drop k).map j):=by
 refine Z7 fun Z=> ?_;obtain⟨ys,m,I⟩:=h;rw[Z05 q] at m;cases m;exact Z (⟨a,q,I.trans (by simp only[W,eD,<-J];rfl)⟩)
noncomputable def ce0(_:List Sl):Unit:=()
noncomputable def cl0(_:Unit):List Sl:=[]
def clI(c:Nat×Int×Nat):List Sl:=[⟨c.1,J8 (.int c.2.1 c.2.2), .no⟩]
def ceI(W:List Sl):Nat×Int×Nat:=((Q0 W 0).a,(Z9h (Q0 W 0).o).1,(Z9h (Q0 W 0).o).2)
theorem gc1 {v:V}{a:Ctr}(h:Za v a):∀f∈[a],Za v f:=fun y m=>aM.mp m▸h
theorem gcC {v:V}{a:Ctr}{l:List Ctr}(h:Za v a)(t:∀f∈l,Za v f):∀f∈a::l,Za v f:=fun f m=>(aC.mp m).elim (fun e=>e▸h) (t f)
section
def Jc7:Expr:=Z0v (Z0d (Qm (Y2 29)) 2)
open Classical in
noncomputable def Zc6(s g:Str)(e:He):Bool:=decide (¬(g=Z0 e.k\/Z0 s=Z0 e.k))
def Z57(L A:List He)(k:Nat)(s g:Str)(X:List He):Prop:=X=A++(L.drop k).filter (Zc6 s g)
def Z8e(L A:List He)(k:Nat)(s g:Str):Prop:=(s∈Z9++Zh/\∀e∈L,e.k∈Z9++Zh)/\L.length<=4/\A.length+(L.length-k)<=500
abbrev Zz1:=(Nat×Str×Nat)×Nat×Str×Nat
def Zfp:Js He He Zz1 where
 e:=Jc7
 q:=st "_law_many.<locals>."
 fa:=299
 cn:=[st "spelled",st "gone"]
 ns:=[st "pair"]
 X:=kHe
 Y:=kHe
 lv:=2
 cl c:=[⟨c.1.1,J8 (.str c.1.2.1 c.1.2.2), .no⟩,⟨c.2.1,J8 (.str c.2.2.1 c.2.2.2), .no⟩]
 ce W:=(((Q0 W 0).a,(Jf (Q0 W 0).o).1,(Jf (Q0 W 0).o).2),(Q0 W 1).a,(Jf (Q0 W 1).o).1,(Jf (Q0 W 1).o).2)
 ok c L A k:=Z8e L A k c.1.2.1 c.2.2.1
 D c L A k X:=Z57 L A k c.1.2.1 c.2.2.1 X
def Zz2:Zi (LIx He He Zz1):=Zfp.fS
theorem J1e:Zfp.Turn (w2 w b c) [Z14.ctr,Znl.ctr] ((Z4 0x10007115619e11003e444 (.two (Z4 0x147e23e0c1e3010325 .nil) (Z4 0x147e23e0c1e3 .nil)))):=by
 intro r it l n L acc m A d o f k ⟨⟨cs,s,st⟩,W,g,J⟩ ob e N T dd ss hb hi I X Z;have q:(e.k∈Z9++Zh)/\∀U1:Ph,(s∈Z9++Zh)/\∀U2:Ph,((¬(g=Z0 e.k\/Z0 s=Z0 e.k)->(A.length<=1000)/\∀U3:Ph,Zfp.Go ((cs,s,st),W,g,J) L A (A++[e]) k r)/\(¬(¬(g=Z0 e.k\/Z0 s=Z0 e.k))->Zfp.Go ((cs,s,st),W,g,J) L A A k r)):=by
  obtain⟨a,Y,j⟩:=hi;exact⟨a.2 e Z,fun y=>⟨a.1,fun y=>⟨fun q=>⟨Z5u j,fun y=>Js.go I ⟨a,Y,Z5t j I⟩ (Zkr X (decide_eq_true q))⟩,fun q=>Js.go I ⟨a,Y,J7r j⟩ (Zks X fun z=>q (of_decide_eq_true z))⟩⟩⟩
 rcases hb with rfl|rfl<;>exact Zx (by kernel_rfl) q
theorem J1f:Za (vW (w2 w b c)) Zz2.ctr:=
 Js.Fit.okS ⟨⟨by kernel_rfl,by kernel_rfl⟩,Zc4,Zc4,fun y L A y=>by show A=A++(L.drop L.length).filter _;simp⟩ (gcC (Z34 _) (gc1 (Zr7 _))) (J1e w b c)
end
section
def Zhn(s:Stmt):Expr:=Zgw s
def Q8(s:Stmt):List Stmt:=Qm s
def Z6f(s:Stmt):Expr:=Zgw s
def Zru(s:Stmt):List Stmt:=Qm s
def Z8f(e:Expr)(i:Nat):Expr:=kid e i
def Zvp(e:Expr):Expr:=kid e 0
def Zdt(e:Expr):Expr:=kid e 1
def Z1j(e:Expr)(i:Nat):Expr:=kid e i
def Zoj(e:Expr):Expr:=kid e 1
def Zho(i:Nat):Stmt:=Z0d (Q8 (Z0d (Qm (Y2 30)) 1)) i
noncomputable def vS(v:Value):Str:=match v with| .str s _=>s|_=>⟨⟨[]⟩⟩
noncomputable def vI(v:Value):Int:=match v with| .int n _=>n|_=>0
def Jg7:Expr:=Z1j (Zdt (Z8f (Zhn (Z0d (Qm (Y2 29)) 3)) 1)) 0
def Yj(e:He):Int×Str:=(valN e.v,Z0 e.k)
def Zdu(L:List He)(A:List Is)(k:Nat)(X:List Is):Prop:=X.map Is.ck=A.map Is.ck++(L.drop k).map (Yj)
def Z9i(L:List He)(A:List Is)(k:Nat):Prop:=(∀e∈L,e.v∈Yh/\e.k∈Z9++Zh)/\L.length<=4/\A.length+(L.length-k)<=500
def Zvq:Js He Is Unit where
 e:=Jg7
 q:=st "_law_many.<locals>."
 fa:=299
 cn:=[]
 ns:=[st "name",st "value"]
 X:=kHe
 Y:=kIs
 lv:=2
 cl:=cl0
 ce:=ce0
 ok c L A k:=Z9i L A k
 D c L A k X:=Zdu L A k X
def J7s:Zi (LIx He Is Unit):=Zvq.fS
theorem J7t:Zvq.Turn (w2 w b c) [Z14.ctr,Zao.ctr,Zh7.ctr] ((Z4 0x10747e007060514400140063117270056e .nil)):=by
 intro r it l n L acc m A d o f k X ob e N T dd ss Y Z W hd j;have q:(e.v∈Yh)/\∀U1:Ph,(e.k∈Z9++Zh)/\∀J:Ph,(A.length<=1000)/\∀U3:Ph,Zvq.Go X L A (A++[Is.mk (J.1.add 8) (LW.valN e.v) (Z6 U1.rv) (Z0 e.k) (Z6 J.rv)]) k r:=by
  obtain⟨a,h3,I⟩:=Z;exact⟨(a e j).1,fun y=>⟨(a e j).2,fun y=>⟨Z5u I,fun y=>Js.go W ⟨a,h3,Z5t I W⟩ (Zhm hd rfl)⟩⟩⟩
 rcases Y with rfl|rfl<;>cases b<;>exact Zx (by kernel_rfl) q
theorem J7u:Za (vW (w2 w b c)) J7s.ctr:=
 Js.Fit.okS ⟨⟨by kernel_rfl,by kernel_rfl⟩,Zc4,Zc5,fun y L A y=>by show A.map _=A.map _++(L.drop L.length).map _;simp⟩ (gcC (Z34 _) (gcC (Z88 _) (gc1 (Zh8 _)))) (J7t w b c)
def Jg8:Expr:=Zdt (Z8f (Z6f (Zho 5)) 0)
def Zz3(e:Si):Str×Str:=(e.k,Zj e.c)
def Zvr(L:List Si)(A:List He)(k:Nat)(X:List He):Prop:=X.map He.kv=A.map He.kv++(L.drop k).map (Zz3)
def Zok(L:List Si)(A:List He)(k:Nat):Prop:=(∀e∈L,0<=e.c/\e.c<=12)/\L.length<=4/\A.length+(L.length-k)<=500
def Zvs:Js Si He Unit where
 e:=Jg8
 q:=st "_law_run.<locals>."
 fa:=304
 cn:=[]
 ns:=[st "name",st "count"]
 X:=kSi
 Y:=kHe
 lv:=2
 cl:=cl0
 ce:=ce0
 ok c L A k:=Zok L A k
 D c L A k X:=Zvr L A k X
def J7v:Zi (LIx Si He Unit):=Zvs.fS
theorem J7w:Zvs.Turn (w2 w b c) [Znc.ctr,Znl.ctr] ((Z4 0x10747e0070605143001200621700756e .nil)):=by
 intro r it l n L acc m A d o f k X ob e N T dd ss Y Z J hd W;have q:(0<=e.c/\e.c<=12)/\∀I:Ph,(A.length<=1000)/\∀U2:Ph,Zvs.Go X L A (A++[He.mk (I.1.add 8) e.k e.kt (Zj e.c) (Z6 I.rv)]) k r:=by
  obtain⟨a,h3,j⟩:=Z;exact⟨a e W,fun y=>⟨Z5u j,fun y=>Js.go J ⟨a,h3,Z5t j J⟩ (Zhm hd rfl)⟩⟩
 rcases Y with rfl|rfl<;>cases b<;>exact Zx (by kernel_rfl) q
theorem J7x:Za (vW (w2 w b c)) J7v.ctr:=
 Js.Fit.okS ⟨⟨by kernel_rfl,by kernel_rfl⟩,Zrt,Zc4,fun y L A y=>by show A.map _=A.map _++(L.drop L.length).map _;simp⟩ (gcC (Zr5 w b c) (gc1 (Zr7 _))) (J7w w b c)
def Jg9:Expr:=Zvp (Z6f (Zho 7))
open Classical in
noncomputable def Zz4(a:Int)(e:Is):Bool:=decide (a<e.c)
def Zol(L A:List Is)(k:Nat)(a:Int)(X:List Is):Prop:=X=A++(L.drop k).filter (Zz4 a)
def Zz5(L A:List Is)(k:Nat)(a:Int):Prop:=(True)/\L.length<=4/\A.length+(L.length-k)<=500
def Zom:Js Is Is (Nat×Int×Nat) where
 e:=Jg9
 q:=st "_law_run.<locals>."
 fa:=304
 cn:=[st "least"]
 ns:=[st "one"]
 X:=kIs
 Y:=kIs
 lv:=2
 cl:=clI
 ce:=ceI
 ok c L A k:=Zz5 L A k c.2.1
 D c L A k X:=Zol L A k c.2.1 X
def J7y:Zi (LIx Is Is (Nat×Int×Nat)):=Zom.fS
theorem J7z:Zom.Turn (w2 w b c) [Zh7.ctr] ((Z4 0x12511011003e444 (.two (Z4 0x15ae102000214 .nil) (Z4 0x15ae102 .nil)))):=by
 intro r it l n L acc m A d o f k ⟨j,a,I⟩ ob e N T dd ss hb hi W Y he;have q:((a<e.c->(A.length<=1000)/\∀U1:Ph,Zom.Go (j,a,I) L A (A++[e]) k r)/\(¬(a<e.c)->Zom.Go (j,a,I) L A A k r)):=by
  obtain⟨X,Z,J⟩:=hi;exact⟨fun q=>⟨Z5u J,fun y=>Js.go W ⟨X,Z,Z5t J W⟩ (Zkr Y (decide_eq_true q))⟩,fun q=>Js.go W ⟨X,Z,J7r J⟩ (Zks Y fun z=>q (of_decide_eq_true z))⟩
 rcases hb with rfl|rfl<;>exact Zx (by kernel_rfl) q
theorem J80:Za (vW (w2 w b c)) J7y.ctr:=
 Js.Fit.okS ⟨⟨by kernel_rfl,by kernel_rfl⟩,Zc5,Zc5,fun y L A y=>by show A=A++(L.drop L.length).filter _;simp⟩ (gc1 (Zh8 _)) (J7z w b c)
def Jga:Expr:=Z1j (Zdt (Z6f (Zho 7))) 0
noncomputable def Zon(a:Int)(e:Si):Int×Str:=(e.c+a,Z0 e.k)
def Zoo(L:List Si)(A:List Is)(k:Nat)(a:Int)(X:List Is):Prop:=X.map Is.ck=A.map Is.ck++(L.drop k).map (Zon a)
def Zop(L:List Si)(A:List Is)(k:Nat)(a:Int):Prop:=(∀e∈L,e.k∈Z9++Zh)/\L.length<=4/\A.length+(L.length-k)<=500
def Zvt:Js Si Is (Nat×Int×Nat) where
 e:=Jga
 q:=st "_law_run.<locals>."
 fa:=304
 cn:=[st "least"]
 ns:=[st "name",st "count"]
 X:=kSi
 Y:=kIs
 lv:=2
 cl:=clI
 ce:=ceI
 ok c L A k:=Zop L A k c.2.1
 D c L A k X:=Zoo L A k c.2.1 X
def J81:Zi (LIx Si Is (Nat×Int×Nat)):=Zvt.fS
theorem J82:Zvt.Turn (w2 w b c) [Z14.ctr,Zh7.ctr] ((Z4 0x1080747e0080706051430014006211718756e .nil)):=by
 intro r it l n L acc m A d o f k ⟨j,I,X⟩ ob e N T dd ss hb hi Y hd Z;have q:(e.k∈Z9++Zh)/\∀W:Ph,(A.length<=1000)/\∀U2:Ph,Zvt.Go (j,I,X) L A (A++[Is.mk (W.1.add 8) (e.c+I) (T.add 2) (Z0 e.k) (Z6 W.rv)]) k r:=by
  obtain⟨a,h3,J⟩:=hi;exact⟨a e Z,fun y=>⟨Z5u J,fun y=>Js.go Y ⟨a,h3,Z5t J Y⟩ (Zhm hd rfl)⟩⟩
 rcases hb with rfl|rfl<;>cases b<;>exact Zx (by kernel_rfl) q
theorem J83:Za (vW (w2 w b c)) J81.ctr:=
 Js.Fit.okS ⟨⟨by kernel_rfl,by kernel_rfl⟩,Zrt,Zc5,fun y L A y=>by show A.map _=A.map _++(L.drop L.length).map _;simp⟩ (gcC (Z34 _) (gc1 (Zh8 _))) (J82 w b c)
def Jgb:Expr:=Z1j (Zoj (Z1j (Zvp (Z6f (Zho 8))) 0)) 0
def Zoq(e:Value):Int:=valN (vS e)
def Zvu(L A:List Value)(k:Nat)(X:List Value):Prop:=∃a,Zc A=some a/\Zc X=some (a++(L.drop k).map (Zoq))
def Zor(L A:List Value)(k:Nat):Prop:=((∀v∈L,∃x t,v= .str x t)/\∀v∈L,vS v∈Yh)/\L.length<=4/\A.length+(L.length-k)<=500/\(∃a,Zc A=some a)
def Zvv:Js Value Value Unit where
 e:=Jgb
 q:=st "_law_run.<locals>."
 fa:=304
 cn:=[]
 ns:=[st "value"]
 X:=kVl
 Y:=kVl
 lv:=2
 cl:=cl0
 ce:=ce0
 ok c L A k:=Zor L A k
 D c L A k X:=Zvu L A k X
def J84:Zi (LIx Value Value Unit):=Zvv.fS
theorem J85:Zvv.Turn (w2 w b c) [Zao.ctr,Zar.ctr] ((Z4 0x1a9e103022140044 .nil)):=by
 intro r it l n L acc m A d o f k Y ob e N T dd ss Z hi W hd j;obtain⟨⟨X,a⟩,h3,J,xs,I⟩:=hi;obtain⟨x,xt,rfl⟩:=X _ j;have q:(x∈Yh)/\∀U1:Ph,(A.length<=1000)/\∀U2:Ph,Zvv.Go Y L A (A++[Value.int (LW.valN x) (Z6 U1.rv)]) k r:=by
  exact⟨a _ j,fun y=>⟨Z5u J,fun y=>Js.go W ⟨⟨X,a⟩,h3,Z5t J W,_,Z05 I⟩ (Z6e I hd rfl)⟩⟩
 rcases Z with rfl|rfl<;>exact Zx (by kernel_rfl) q
theorem J86:Za (vW (w2 w b c)) J84.ctr:=
 Js.Fit.okS ⟨⟨by kernel_rfl,by kernel_rfl⟩,Z3m,Z3m,fun y L A h=>by obtain⟨j,a⟩:=h.2.2.2;exact⟨j,a,by simpa using a⟩⟩ (gcC (Z88 _) (gc1 (Z8c _))) (J85 w b c)
end
def fBs:Zi Z4p where
 code:=Zuu
 P:=Z89
 cond i:=some (i.3.length<=4)
 F i _ U:=Zuv i (Ju i.3 i.4) U
 k:=2
 ext _ S:=Zfk S
 d:=Zf 1
 u:=Ze 1
 z:=true
theorem Jc8:Za (vW (w2 w b c)) fBs.ctr:=
 fBs.ok (fun i a=>(Zr6 w b c i.1 i.2 i.3 i.4 (a _ rfl)).one fun y h=>h.symm)
noncomputable def Zrv(s:Stmt):List Stmt:=match s with| .If _ _ e _=>e|_=>[]
def Jgc(e:Expr):Expr:=kid e 0
def Z8g(e:Expr)(_:Nat):Expr:=kid e ((J3y e).length-1)
noncomputable def Jgd(e:Expr):Arguments:=match e with| .Lambda a _ _ _=>a|_=>default
def Jge(e:Expr):Expr:=kid e 0
def Jgf(e:Expr):Scope:=Z4d e
def Zhp:Value:= .str (st "law_wb0105_01") 710
structure Cd where
 a:Nat
 t:Nat
 v:Nat->Value
noncomputable def Zos(q:Str)(c:Cd):Obj:=⟨.type "code",none, .fields ⟨[c.v 0, .str q c.t,c.v 2,c.v 3,c.v 4,c.v 5,c.v 6,c.v 7,c.v 8,c.v 9,c.v 10,c.v 11,c.v 12,c.v 13,c.v 14,c.v 15,c.v 16,c.v 17,c.v 18]⟩,⟨[]⟩⟩
noncomputable def Zv(l:List Value):Obj:=⟨.none,none, .fields ⟨l⟩,⟨[]⟩⟩
def Yt(y:Nat)(j m:Int)(q:Str)(c:Cd):Sl:=⟨y,Zv [.int j 0, .int m 0, .ref c.a], .tab [(c.a,Zos q c)]⟩
def J87(q:Str)(e:Expr)(a:List (Str×Nat))(j:Value)(code:Nat):Obj:=
 ⟨.type "function",none, .func {name:=st "<lambda>",qualname:=q,params:=Jgd e,body:= .expr (Jge e),scope:=Jgf e,globals:=3,closure:=a,defaults:= .none,kwdefaults:= .none,doc:= .none,pyModule:=Zhp,annotations:=none,code:= .ref code,closureTuple:=j,builtins:=0},⟨[]⟩⟩
def Jc9:Expr:=Z8g (Zoj (Z1j (Jgc (Z0v (Z0d (Zru (Z0d (Zrv (Z0d (Qm (Y2 29)) 1)) 0)) 1))) 0)) 0
def Zc7:Str:=st "_law_many.<locals>.<lambda>"
noncomputable def Zu(o:Obj):List Value:=match o.data with| .fields vs=>vs.toList|_=>[]
def Yn(g:Gd):Cd:=match g with
 | .tab l=>(match l with
  |p::_=>⟨p.1,Z6 ((Zu p.2).getD 1 .none),fun i=>(Zu p.2).getD i .none⟩
  |[]=>⟨0,0,fun y=> .none⟩)
 |_=>⟨0,0,fun y=> .none⟩
abbrev BrI:=I7 Nat Nat (List Is) Int Nat Nat Cd
def cBr(i:BrI):Code:= .call (.ref 239) ⟨[.ref i.1, .int i.4 i.5],[(st "key", .ref i.6)]⟩
def pBr(i:BrI):List Sl:=[⟨i.1,lst (i.3.map Is.ref) i.2, .is i.3⟩,⟨i.6,J87 Zc7 Jc9 [] .none i.7.a, .no⟩,Yt 297 331 69 Zc7 i.7]
def Jv(L:List Is)(x:Int):Nat:=Y7 (fun i=>¬x<(L.getD i Zo).c) 8 0 L.length
def rBr(i:BrI)(a:Nat)(U:Ph):Result×List Sl:=(.ok (.ret (.int (Int.ofNat a) (Z6 U.rv))),pBr i)
def hBr(n:Nat):Hs:=Z4 0x1e7e0de (Z71 true
 (fun d m=>[d,1,1,d,d,d,d,d,d,d+1,0,d+1,0,d+1,0,0,d+1,0,0,d+1,0,d+2,0,d+2,d+3,1,1,1,0,1,d+2,m,d+2,m,d+2,m,0,d+2,m,0,d+2,m,2])
 (fun d=>[d,d,d,0,d,d,1,d]) (fun d=>[d,1,d,d,0,d,d,1,d]) (fun d a=>hh [a,d,0,d+1,0,d+2,0] .nil) 8 1 0 n)
theorem J88(v:Nat->Is)(x:Int)(k:Nat):Jv ((aJ k).map v) x=Y7 (fun i=>Z1v true (x<(v i).c)) 8 0 k:=Z8a (p:=fun e=>¬x<e.c) rfl fun y=>rfl
theorem Jca(i:BrI)(m:2<=i.3.length)(j:i.3.length<=4):
  J7 (vW (w2 w b c)) true false (Zf 3) (Ze 3) (cBr i) (pBr i) (rBr i (Jv i.3 i.4)):=by
 obtain⟨l,n,L,x,I,q,W⟩:=i;simp only at m j;have X:Qi (vW (w2 w b c)) true false (Zf 3) (Ze 3) (cBr ⟨l,n,L,x,I,q,W⟩) (pBr ⟨l,n,L,x,I,q,W⟩) (L.length+1) (fun a=>Jv L x=a) (rBr ⟨l,n,L,x,I,q,W⟩):=by
  revert L
  intro L m j;obtain⟨v,e⟩:=Z4o Zo (rfl:L.length=L.length);obtain⟨k,J⟩:=Nat.exists_eq_add_of_le' m;rw[J] at e j;rw[e];clear e J m;refine Z3f gkB (n:=100000) (k:=fun y=>3) (hs:=hBr (k+2)) fun N T=> ?_;have J:k<3:=(iH j);clear j
  revert k
  exact J6 (P:=fun k=>Z3s true (fun i=>x<(v i).c) (fun a=>Jv ((aJ (k+2)).map v) x=a) 8 0 (k+2)) (by kernel_rfl) fun k y=>Z4c (J88 v x (k+2))
 exact X.one fun y h=>h.symm
def fBr:Zi BrI where
 code:=cBr
 P:=pBr
 cond i:=some (2<=i.3.length/\i.3.length<=4)
 F i _ U:=rBr i (Jv i.3 i.4) U
 k:=3
 ext c S:=match c with
  | .call _ ⟨[_, .int x xt],_⟩=>(match S with
   |[l,f,t]=>(match l.g with
    | .is L=>some ⟨l.a,Z3 l.o,L,x,xt,f.a,Yn t.g⟩
    |_=>none)
   |_=>none)
  |_=>none
 d:=Zf 3
 u:=Ze 3
 z:=true
theorem Jcb:Za (vW (w2 w b c)) fBr.ctr:=
 fBr.ok (fun i a=>Jca w b c i (a _ rfl).1 (a _ rfl).2)
section
abbrev CK:=List (Int×Str)
def Ys(a b:Int×Str):Prop:=ltP a.1 a.2 b.1 b.2
noncomputable def Jc:Int×Str:=(0,⟨⟨[]⟩⟩)
theorem Z2o(a:Int×Str):¬Ys a a:=by
 rintro (h|⟨_,h⟩)
 ·exact jX _ h
 ·exact nF _ h
theorem Z26 {a b c:Int×Str}(j:Ys a b)(m:Ys b c):Ys a c:=by
 rcases j with j|⟨q,j⟩<;>rcases m with m|⟨y,m⟩
 ·exact .inl (rR j m)
 ·exact .inl (y▸j)
 ·exact .inl (q▸m)
 ·exact .inr ⟨q.trans y,List.lt_trans j m⟩
theorem Z58(a b:Int×Str):Ys a b\/a=b\/Ys b a:=by
 obtain⟨x,s⟩:=a;obtain⟨y,t⟩:=b;rcases Int.lt_trichotomy x y with h|h|h
 ·exact .inl (.inl h)
 ·subst h
  by_cases q:s.cps.toList<t.cps.toList
  ·exact .inl (.inr ⟨rfl,q⟩)
  ·by_cases q2:t.cps.toList<s.cps.toList
   ·exact .inr (.inr (.inr ⟨rfl,q2⟩))
   ·have:s.cps.toList=t.cps.toList:=List.le_antisymm (rS.mp q2) (rS.mp q);exact .inr (.inl (by rw[Z32 this]))
 ·exact .inr (.inr (.inl h))
theorem Zrw {a b:Int×Str}(j:Ys a b)(m:Ys b a):False:=Z2o _ (Z26 j m)
abbrev Z0g(R:CK):Prop:=R.Pairwise Ys
theorem Zrx {A B:CK}(j:Z0g A)(q:Z0g B)(p:A.Perm B):A=B:=
 p.eq_of_pairwise (fun y y y y a m=>(Zrw a m).elim) j q
theorem J89 {j a:Nat}(h:j<a):∃m,(j+a)/2=m/\j<=m/\m<a:=⟨_,rfl,by omega,by omega⟩
theorem Z2p {f:Nat->Prop}{N:Nat}(J:∀i j,i<=j->j<N->f j->f i):∀n I y,I<=y->y<=N->y<=I+n->
  I<=Y7 f n I y/\Y7 f n I y<=y/\(∀i,I<=i->i<Y7 f n I y->f i)/\(∀i,Y7 f n I y<=i->i<y->¬f i):=by
 intro z0_
 induction z0_ with
 |zero=>
  intro I y Z W Y;have:I=y:=gY Z Y;subst this;exact⟨cB _,cB _,fun i a b=>absurd b (cQ a),fun i a b=>absurd a (qE b)⟩
 |succ n ih=>
  intro I y Z W Y;dsimp only[Y7]
  by_cases hl:I<y
  ·obtain⟨m,hm,m1,X⟩:=J89 hl;rw[if_pos hl,hm]
   by_cases hf:f m
   ·rw[if_pos hf];obtain⟨a,b,c,d⟩:=ih (m+1) y X W (Zm [] [_,_,_,_] [.n Zr (.a Yi Zfz), .n Yi Z2y] (.n Zr (.a (.a Z2y Q4) lQ7)) rfl Y m1);refine⟨aK (cX m1) a,b,fun i h h'=> ?_,d⟩
    by_cases q:m+1<=i
    ·exact c i q h'
    ·exact J i m (iH (Nat.lt_of_not_le q)) (aK a (aK b W)) hf
   ·rw[if_neg hf];refine Z7 fun k'=> ?_;obtain⟨a,b,c,d⟩:=ih I m m1 (aK (lY X) W) (Nat.le_of_lt_succ (hI X Y));refine k' ?_;refine⟨a,aK b (lY X),c,fun i h h'=> ?_⟩
    by_cases q:i<m
    ·exact d i h q
    ·exact fun z=>hf (J m i ((dX q)) (aK h' W) z)
  ·rw[if_neg hl];have:I=y:=(gY (Z) ((dX hl)));subst this;exact⟨cB _,cB _,fun i a b=>absurd b (cQ (a)),fun i a b=>absurd a (qE (b))⟩
theorem Z27 {R:CK}{i:Nat}(h:i<R.length):R.getD i Jc=R[i]:=by
 rw[aI,aS h];rfl
theorem Z8h {R:CK}(h:Z0g R){i j:Nat}(m:i<j)(a:j<R.length):Ys (R.getD i Jc) (R.getD j Jc):=by
 simp only[Z27 a,Z27 (fV m a)];exact fA.mp h i j (fV m a) a m
def Z1w(R:CK)(x:Int×Str):Nat:=Y7 (fun i=>Ys (R.getD i Jc) x) 8 0 R.length
def Z78(R:CK)(x:Int×Str):Nat:=Y7 (fun i=>¬Ys x (R.getD i Jc)) 8 0 R.length
def brc(R:CK)(x:Int):Nat:=Y7 (fun i=>¬x<(R.getD i Jc).1) 8 0 R.length
theorem Q9(L:List Is)(i:Nat):(L.map Is.ck).getD i Jc=(L.getD i Zo).ck:=by
 simp only[aI,aI,bE];cases L[i]?<;>rfl
theorem Zkt(L:List Is)(x:Is):Ju L x=Z1w (L.map Is.ck) x.ck:=by
 dsimp only[Ju,Z1w];simp only[aE]
 congr 1
 funext i
 rw[Q9];rfl
theorem J1g(L:List Is)(x:Is):Z4q L x=Z78 (L.map Is.ck) x.ck:=by
 dsimp only[Z4q,Z78];simp only[aE]
 congr 1
 funext i
 simp only[Q9];rfl
theorem J8a(L:List Is)(x:Int):Jv L x=brc (L.map Is.ck) x:=by
 dsimp only[Jv,brc];simp only[aE]
 congr 1
 funext i
 rw[Q9];rfl
theorem Zc8 {R:CK}(h:Z0g R)(W:R.length<=8)(x:Int×Str):Z1w R x<=R.length/\(∀i,i<Z1w R x->Ys (R.getD i Jc) x)/\(∀i,Z1w R x<=i->i<R.length->¬Ys (R.getD i Jc) x):=by
 refine Z7 fun J=> ?_;obtain⟨_,b,c,d⟩:=Z2p (f:=fun i=>Ys (R.getD i Jc) x) (N:=R.length) (fun i j a y m=>by
  rcases hJ a with q|q
  ·exact Z26 (Z8h h q y) m
  ·rw[q];exact m) 8 0 R.length (bP _) (cB _) (by omega)
 refine J ?_;exact⟨b,fun i I=>c i (bP _) I,d⟩
theorem Zot {R:CK}(h:Z0g R)(Y:R.length<=8)(x:Int×Str):Z78 R x<=R.length/\(∀i,i<Z78 R x->¬Ys x (R.getD i Jc))/\(∀i,Z78 R x<=i->i<R.length->Ys x (R.getD i Jc)):=by
 refine Z7 fun X=> ?_;obtain⟨_,b,c,d⟩:=Z2p (f:=fun i=>¬Ys x (R.getD i Jc)) (N:=R.length) (fun i j a J m=>by
  rcases hJ a with q|q
  ·exact fun z=>m (Z26 z (Z8h h q J))
  ·rw[q];exact m) 8 0 R.length (bP _) (cB _) (by omega)
 refine X ?_;exact⟨b,fun i W=>c i (bP _) W,fun i y I=>Z7 fun z=>d i y I z⟩
theorem Zku {R:CK}{x:Int×Str}(m:x∈R):∃j,j<R.length/\R.getD j Jc=x:=by
 refine Z7 fun q=> ?_;obtain⟨j,a,e⟩:=lB.mp m;refine q ?_;exact⟨j,a,by simp only[Z27 a,e]⟩
theorem Zou {R:CK}(h:Z0g R)(X:R.length<=8){x:Int×Str}(W:x∈R):Z1w R x<R.length/\R.getD (Z1w R x) Jc=x:=by
 refine Z7 fun Y=> ?_;obtain⟨j,y,e⟩:=Zku W;haveI m:=Zc8 h X x;haveI a:=m.1;haveI b:=m.2.1;haveI c:=m.2.2;haveI I:¬j<Z1w R x:=fun z=>Z2o x (by have:=b j z;rwa[e] at this);haveI J:¬Z1w R x<j:=fun z=>c _ (cB _) (fV z y) (by haveI q:=Z8h h z y;rwa[e] at q);have:Z1w R x=j:=(gY ((dX I)) ((dX J)));refine Y ?_;rw[this];exact⟨y,e⟩
theorem Zov {R:CK}{j:Nat}(a:j<R.length):R.Perm (R.getD j Jc::R.eraseIdx j):=by
 simp only[Z27 a,List.eraseIdx_eq_take_drop_succ];refine List.Perm.trans ?_ pQ;rw[<-jN a,cT]
theorem Zry {R:CK}(h:Z0g R)(j:Nat):Z0g (R.eraseIdx j):=h.sublist (List.eraseIdx_sublist R j)
theorem Zvw(R:CK)(b:Nat)(x:Int×Str):(R.take b++x::R.drop b).Perm (x::R):=by
 refine List.Perm.trans pQ ?_;rw[cT]
theorem Zjy {R:CK}{b:Nat}{y:Int×Str}(h:y∈R.take b):∃i,i<b/\i<R.length/\R.getD i Jc=y:=by
 refine Z7 fun m=> ?_;obtain⟨i,j,e⟩:=lB.mp h;simp only[mI] at j;haveI a:i<R.length:=by lia
 refine m ?_;refine⟨i,by lia,a, ?_⟩;simp only[Z27 a,<-e,oZ]
theorem Za1 {R:CK}{b:Nat}{y:Int×Str}(h:y∈R.drop b):∃i,b<=i/\i<R.length/\R.getD i Jc=y:=by
 refine Z7 fun m=> ?_;obtain⟨i,j,e⟩:=lB.mp h;simp only[pR] at j;have a:b+i<R.length:=by omega
 refine m ?_;refine⟨b+i,(mR _ _),a, ?_⟩;simp only[Z27 a,<-e,pA]
theorem Zkv {R:CK}(h:Z0g R){b:Nat}{x:Int×Str}(J:∀i,i<b->i<R.length->Ys (R.getD i Jc) x)(q:∀i,b<=i->i<R.length->Ys x (R.getD i Jc)):Z0g (R.take b++x::R.drop b):=by
 refine lC.mpr ⟨h.sublist (List.take_sublist ..),dO.mpr ⟨fun y hy=> ?_,h.sublist (pB ..)⟩,fun a I y hy=> ?_⟩
 ·obtain⟨i,a,b,e⟩:=Za1 hy;rw[<-e];exact q i a b
 ·obtain⟨i,Z,X,e⟩:=Zjy I;have m:Ys a x:=by rw[<-e];exact J i Z X
  rcases aC.mp hy with rfl|hy
  ·exact m
  ·obtain⟨j,Y,W,e'⟩:=Za1 hy;exact Z26 m (by simp only[<-e'];exact q j Y W)
theorem Zvx {R:CK}(h:Z0g R)(W:R.length<=8){x:Int×Str}(J:x∉R):Z0g (R.take (Z1w R x)++x::R.drop (Z1w R x)):=by
 refine Z7 fun Y=> ?_;haveI j:=Zc8 h W x;haveI a:=j.1;haveI b:=j.2.1;haveI c:=j.2.2;refine Y ?_;refine Zkv h (fun i X y=>b i X) fun i I m=> ?_;rcases Z58 x (R.getD i Jc) with q|q|q
 ·exact q
 ·exact absurd (by simp only[q,Z27 m];exact dD m) J
 ·exact absurd q (c i I m)
theorem Zvy {R:CK}(h:Z0g R)(J:R.length<=8){x:Int×Str}(I:x∉R):Z0g (R.take (Z78 R x)++x::R.drop (Z78 R x)):=by
 refine Z7 fun X=> ?_;haveI j:=Zot h J x;haveI a:=j.1;haveI b:=j.2.1;haveI c:=j.2.2;refine X ?_;refine Zkv h (fun i W m=> ?_) fun i y m=>c i y m;rcases Z58 x (R.getD i Jc) with q|q|q
 ·exact absurd q (b i W)
 ·exact absurd (by simp only[q,Z27 m];exact dD m) I
 ·exact q
theorem Zvz {R:CK}(h:Z0g R)(hn:R.length<=8)(X:0<R.length):0<brc R (R.getD 0 Jc).1/\brc R (R.getD 0 Jc).1<=R.length/\∀i,i<brc R (R.getD 0 Jc).1->(R.getD i Jc).1=(R.getD 0 Jc).1:=by
 have I:∀i j,i<=j->j<R.length->(R.getD i Jc).1<=(R.getD j Jc).1:=fun i j a m=>by
  rcases hJ a with q|q
  ·rcases Z8h h q m with z|⟨z,_⟩
   ·exact eQ z
   ·exact cG z
  ·rw[q];exact bX _
 refine Z7 fun Z=> ?_;obtain⟨_,b,c,d⟩:=Z2p (f:=fun i=>¬(R.getD 0 Jc).1<(R.getD i Jc).1) (N:=R.length) (fun i j a m hf=>by
  have:=I i j a m;exact cR (cJ this (cE hf))) 8 0 R.length (bP _) (cB _) (by omega)
 refine Z ?_;refine⟨?_,b,fun i y=> ?_⟩
 ·apply Z7;intro z;haveI Y:Y7 (fun i=>¬(R.getD 0 Jc).1<(R.getD i Jc).1) 8 0 R.length=0:=Nat.eq_zero_of_not_pos z;exact d 0 (by rw[Y];exact cB _) X (jX _)
 ·haveI J:=c i (bP _) y;haveI W:=I 0 i (bP _) (hI y b);exact dC ((cE J)) (W)
theorem Zkw {R:CK}(h:Z0g R){p:Int×Str}(a:p∈R):(R.getD 0 Jc).1<=p.1:=by
 obtain⟨j,m,e⟩:=Zku a;rcases Nat.eq_zero_or_pos j with q|q
 ·rw[<-e,q];exact bX _
 ·rw[<-e];rcases Z8h h q m with z|⟨z,_⟩
  ·exact eQ z
  ·exact cG z
noncomputable def Zhq:Nat->Nat->List (List Nat)
 |0,_=>[[]]
 |n+1,m=>(Zhq n m).flatMap fun l=>(aJ m).map fun k=>k::l
theorem Zw0:∀(l:List Nat)(m:Nat),(∀k∈l,k<m)->l∈Zhq l.length m:=by
 intro a
 induction a with
 |nil=>
  intro _ _;exact .head _
 |cons k l ih=>
  intro m h;show k::l∈(Zhq l.length m).flatMap _;rw[pP];exact⟨l,ih m fun x j=>h x (.tail _ j),aN.mpr ⟨k,eV.mpr (h k (.head _)),rfl⟩⟩
noncomputable def upB(r:List Nat):List Nat->Bool
 |a::b::l=>match dE (r.getD a 0) (r.getD b 0) with|true=>upB r (b::l)|false=>false
 |_=>true
def Jcc(n:Nat):Bool:=(Zhq n n).all fun r=>let p:=(Jh (fun i j=>fJ (r.getD i 0) (r.getD j 0)) (cD n)).toList
 match upB r p with|true=>(aJ n).isPerm p|false=>false
theorem J1h:∀n,2<=n->n<=4->Jcc n=true:=by
 intro n a j;have:n=2\/n=3\/n=4:=by lia
 rcases this with rfl|rfl|rfl<;>decide+kernel
set_option tactic.hygienic true in theorem Zrz {r:List Nat}:∀(p:List Nat),upB r p=true->p.Pairwise fun a b=>r.getD a 0<=r.getD b 0
 |[],_=> .nil
 |[a],_=>jZ _ _
 |a::b::l,h=>by
  dsimp only[upB] at h
  split at h
  ·rename_i q;have ih:=Zrz (b::l) h;refine dO.mpr ⟨fun y hy=> ?_,ih⟩;haveI q:=aW q;rcases aC.mp hy with rfl|hy
   ·exact q
   ·exact aK q ((dO.mp ih).1 y hy)
  ·contradiction
set_option tactic.hygienic true in theorem Z5v {α:Type}{n:Nat}{f g:Nat->Nat->Bool}(h:∀i j,i<n->j<n->f i j=g i j):∀(t:KasT α),okT n t=true->Jh f t=Jh g t
 | .ret _,_=>rfl
 | .ask i j k,q=>by
  dsimp only[okT] at q;refine Z7 fun k'=> ?_
  split at q
  ·rename_i h1 h2
   split at q
   ·rename_i h3;refine k' ?_;show Jh f (k (f i j))=Jh g (k (g i j));rw[h i j (aW h1) (aW h2)];cases g i j
    ·exact Z5v h (k false) q
    ·exact Z5v h (k true) h3
   ·contradiction
  ·contradiction
open Classical in
def Z79(R:CK)(i:Nat):Nat:=((aJ R.length).filter fun k=>decide (Ys (R.getD k Jc) (R.getD i Jc))).length
theorem Zkx {R:CK}{i j:Nat}(m:i<R.length):Ys (R.getD i Jc) (R.getD j Jc)↔Z79 R i<Z79 R j:=by
 classical
 unfold Z79;constructor
 ·intro h;have a:((aJ R.length).filter fun k=>decide (Ys (R.getD k Jc) (R.getD i Jc))).Sublist ((aJ R.length).filter fun k=>decide (Ys (R.getD k Jc) (R.getD j Jc))):=by
   have:((aJ R.length).filter fun k=>decide (Ys (R.getD k Jc) (R.getD i Jc)))=((aJ R.length).filter fun k=>decide (Ys (R.getD k Jc) (R.getD j Jc))).filter fun k=>decide (Ys (R.getD k Jc) (R.getD i Jc)):=by
    simp only[gZ];apply fF;intro k _
    by_cases q:Ys (R.getD k Jc) (R.getD i Jc)
    ·rw[decide_eq_true q,decide_eq_true (Z26 q h)];rfl
    ·rw[decide_eq_false q];rfl
   rw[this];exact dR
  rcases hJ a.length_le with q|q
  ·exact q
  ·exfalso;haveI e:=a.eq_of_length q;have:i∈(aJ R.length).filter fun k=>decide (Ys (R.getD k Jc) (R.getD j Jc)):=cI.mpr ⟨eV.mpr m,decide_eq_true h⟩;rw[<-e] at this;exact Z2o _ (of_decide_eq_true (cI.mp this).2)
 ·intro h;apply Z7;intro n;have:((aJ R.length).filter fun k=>decide (Ys (R.getD k Jc) (R.getD j Jc))).length<=((aJ R.length).filter fun k=>decide (Ys (R.getD k Jc) (R.getD i Jc))).length:=by
   have:((aJ R.length).filter fun k=>decide (Ys (R.getD k Jc) (R.getD j Jc)))=((aJ R.length).filter fun k=>decide (Ys (R.getD k Jc) (R.getD i Jc))).filter fun k=>decide (Ys (R.getD k Jc) (R.getD j Jc)):=by
    simp only[gZ];apply fF;intro k _
    by_cases q:Ys (R.getD k Jc) (R.getD j Jc)
    ·have:Ys (R.getD k Jc) (R.getD i Jc):=by
      rcases Z58 (R.getD i Jc) (R.getD j Jc) with z|z|z
      ·exact absurd z n
      ·simp only[z];exact q
      ·exact Z26 q z
     rw[decide_eq_true q,decide_eq_true this];rfl
    ·rw[decide_eq_false q];rfl
   rw[this];exact bY _ _
  lia
theorem Zow {R:CK}{i:Nat}(a:i<R.length):Z79 R i<R.length:=by
 classical
 unfold Z79;haveI h:=bY (fun k=>decide (Ys (R.getD k Jc) (R.getD i Jc))) (aJ R.length);simp only[dK] at h;rcases hJ h with q|q
 ·exact q
 ·exfalso;have:=dJ.mp (dR.eq_of_length (by rw[q,dK])) i (eV.mpr a);exact Z2o _ (of_decide_eq_true this)
set_option tactic.hygienic true in theorem Zc9 {R:List Is}(h4:R.length<=4)(hd:(R.map Is.ck).Nodup):Z0g ((sortI R).map Is.ck)/\((sortI R).map Is.ck).Perm (R.map Is.ck):=by
 unfold sortI
 by_cases h2:R.length<2
 ·rw[if_pos h2];refine⟨?_,List.Perm.refl _⟩;cases R with
  |nil=>exact .nil
  |cons a R=>
   cases R with
   |nil=>exact jZ _ _
   |cons b R=>exact absurd h2 (oX.mpr (dG (dG (bP _))))
 ·rw[if_neg h2];have h2':2<=R.length:=((dX h2));have hlen:(R.map Is.ck).length=R.length:=aE ..;have okt:okT R.length (cD R.length)=true:=by
   have:R.length=2\/R.length=3\/R.length=4:=by lia
   rcases this with e|e|e<;>rw[e]<;>kernel_rfl
  let r:List Nat:=(aJ R.length).map (Z79 (R.map Is.ck))
  have rl:r.length=R.length:=by show((aJ R.length).map _).length=_;rw[aE,dK]
  have rg:∀i,i<R.length->r.getD i 0=Z79 (R.map Is.ck) i:=fun i hi=>by
   show((aJ R.length).map _).getD i 0=_;rw[aI,bE,eM hi];rfl
  have e1:Jh (ltB R) (cD R.length)=Jh (fun i j=>fJ (r.getD i 0) (r.getD j 0)) (cD R.length):=by
   refine Z5v (n:=R.length) (fun i j hi hj=> ?_) _ okt;show ltB R i j=_;unfold ltB;rw[rg i hi,rg j hj];have hh:=Zkx (R:=R.map Is.ck) (i:=i) (j:=j) (by rw[hlen];exact hi);rw[Q9,Q9] at hh
   classical
   by_cases q:ltI (R.getD i Zo) (R.getD j Zo)
   ·rw[decide_eq_true q];exact(kQ (hh.mp q)).symm
   ·rw[decide_eq_false q];symm;apply pC.mpr;intro z;exact q (hh.mpr (aW z))
  have hr:r∈Zhq R.length R.length:=by
   have:=Zw0 r R.length (fun k hk=>by
    obtain⟨i,hi,e⟩:=aN.mp hk;rw[<-e];have:=Zow (R:=R.map Is.ck) (i:=i) (by rw[hlen];exact eV.mp hi);rw[hlen] at this;exact this)
   rw[rl] at this;exact this
  have gk:=mB.mp (J1h _ h2' h4) r hr;have ep:Zoe R=(Jh (fun i j=>fJ (r.getD i 0) (r.getD j 0)) (cD R.length)).toList:=by unfold Zoe;rw[e1]
  rw[ep]
  revert gk
  generalize (Jh (fun i j=>fJ (r.getD i 0) (r.getD j 0)) (cD R.length)).toList=p
  intro gk;simp only at gk
  split at gk
  ·rename_i up;have perm:(aJ R.length).Perm p:=List.isPerm_iff.mp gk;have q1:((aJ R.length).map fun i=>R.getD i Zo)=R:=by
    apply mD
    ·rw[aE,dK]
    ·intro i a b;rw[mE,lN,aI,aS b];rfl
   have pm:((p.map fun i=>R.getD i Zo).map Is.ck).Perm (R.map Is.ck):=by
    have:=((perm.map fun i=>R.getD i Zo).map Is.ck).symm;rw[q1] at this;exact this
   refine⟨?_,pm⟩;have nd:((p.map fun i=>R.getD i Zo).map Is.ck).Nodup:=pm.nodup_iff.mpr hd;have pw:=Zrz p up;have inp:∀i∈p,i<R.length:=fun i hi=>eV.mp (perm.mem_iff.mpr hi);rw[bS] at nd⊢;have nd':p.Pairwise fun a b=>(R.getD a Zo).ck≠(R.getD b Zo).ck:=jQ.mp nd;refine jQ.mpr ((pw.and nd').imp_of_mem fun {a b} ha hb h=> ?_);obtain⟨h1,h2⟩:=h;rw[rg a (inp a ha),rg b (inp b hb)] at h1;show Ys (R.getD a Zo).ck (R.getD b Zo).ck;rcases Z58 (R.getD a Zo).ck (R.getD b Zo).ck with z|z|z
   ·exact z
   ·exact absurd z h2
   ·have hh:=(Zkx (R:=R.map Is.ck) (i:=b) (j:=a) (by rw[hlen];exact inp b hb)).mp (by rw[Q9,Q9];exact z);lia
  ·cases gk
end
section
abbrev AL:=List (PySem.Str×Int)
noncomputable def Zq(A:AL):List PySem.Str:=A.map (·.1)
noncomputable def Jw(d:Int)(B:AL):AL:=(B.filter fun p=>decide (d<p.2)).map fun p=>(p.1,p.2-d)
noncomputable def Yb(A:AL)(x:PySem.Str):AL:=A.filter fun p=>decide (p.1≠x)
noncomputable def Jz(A:AL)(x:PySem.Str):Int:=match A.find? fun p=>decide (p.1=x) with|some p=>p.2|none=>0
noncomputable def Z00(A:AL):Int:=(A.map (·.2)).sum
def mgS(A:AL)(x:PySem.Str)(room:Nat):AL:=
 if x∈Zq A then Yb A x++[(x,Jz A x+1)] else if A.length<room then A++[(x,1)] else Jw 1 A
def ssS(B:AL)(x:PySem.Str)(room:Nat)(g:PySem.Str)(d:Int):AL:=
 if x∈Zq B then Yb B x++[(x,Jz B x+1)] else if B.length=room+1 then Yb B g++[(x,d+1)] else B++[(x,1)]
structure MS(room:Nat)(d:Int)(A B:AL):Prop where
 na:(Zq A).Nodup
 nb:(Zq B).Nodup
 pa:∀p∈A,1<=p.2
 pb:∀p∈B,1<=p.2
 la:A.length<=room
 lb:B.length<=room+1
 d0:0<=d
 ab:A.Perm (Jw d B)
 nf:B.length<=room->d=0
 fl:B.length=room+1->(∀p∈B,d<=p.2)/\∃p∈B,p.2=d
theorem Yk {A:AL}{x:PySem.Str}:x∈Zq A↔∃c,(x,c)∈A:=by
 unfold Zq;rw[aN];exact⟨fun⟨p,h,e⟩=>⟨p.2,by rw[<-e];exact h⟩,fun⟨c,h⟩=>⟨(x,c),h,rfl⟩⟩
theorem Z02 {d:Int}{B:AL}{x:PySem.Str}{c:Int}:(x,c)∈Jw d B↔(x,c+d)∈B/\0<c:=by
 unfold Jw;rw[aN];constructor
 ·rintro⟨⟨y,b⟩,h,e⟩;obtain⟨j,m⟩:=cI.mp h;injection e with e1 e2
  haveI a:=of_decide_eq_true m;simp only at e1 e2 a;subst e1;exact⟨by rw[show c+d=b by lia];exact j,(Zm [_,_,_] [] [.z Za6 Q5, .z Zcs Jb] (.z Zcr Q5) rfl (cG e2) a)⟩
 ·rintro⟨j,m⟩;exact⟨(x,c+d),cI.mpr ⟨j,decide_eq_true (by show d<c+d;exact Zm [_,_] [] [Zlx] (.z Zcs Z6l) rfl m)⟩,by show(x,c+d-d)=_;congr 1;exact pD _ _⟩
theorem Zdv {A:AL}(n:(Zq A).Nodup){x:PySem.Str}{a b:Int}(q:(x,a)∈A)(y:(x,b)∈A):a=b:=by
 induction A with
 |nil=>cases q
 |cons p A ih=>
  unfold Zq at n;rw[aP,bM] at n;rcases aC.mp q with m|h1<;>rcases aC.mp y with j|h2
  ·simp only[<-m] at j;injection j with _ j;exact j.symm
  ·exact absurd (aN.mpr ⟨_,h2,by rw[<-m]⟩) n.1
  ·exact absurd (aN.mpr ⟨_,h1,by rw[<-j]⟩) n.1
  ·exact ih n.2 h1 h2
set_option tactic.hygienic true in theorem Z3n {A:AL}(n:(Zq A).Nodup){x:PySem.Str}{c:Int}(h:(x,c)∈A):Jz A x=c:=by
 unfold Jz
 split
 ·rename_i p e;haveI h1:=cN e;have h2:p.1=x:=by simpa using iV e
  obtain⟨y,b⟩:=p;simp only at h2;subst h2;exact Zdv n h1 h
 ·rename_i e;rw[fQ] at e;exact absurd (decide_eq_true rfl) (e _ h)
set_option tactic.hygienic true in theorem Qa {A:AL}{x:PySem.Str}(h:x∉Zq A):Jz A x=0:=by
 unfold Jz
 split
 ·rename_i p e;haveI h1:=cN e;haveI h2:p.1=x:=by simpa using iV e
  exact absurd (Yk.mpr ⟨p.2,by rw[<-h2];exact h1⟩) h
 ·rfl
theorem Z9j(d:Int)(A B:AL):Jw d (A++B)=Jw d A++Jw d B:=by
 unfold Jw;simp only[cY,bB]
theorem Zky(d:Int)(B:AL)(x:PySem.Str):Jw d (Yb B x)=Yb (Jw d B) x:=by
 dsimp only[Jw,Yb];simp only[dA,gZ,gZ]
 congr 1
 apply fF;intro p _;exact Bool.and_comm _ _
theorem J1i(d:Int)(h:0<=d)(B:AL):Jw 1 (Jw d B)=Jw (d+1) B:=by
 unfold Jw;simp only[dA,gZ,bS];have:(fun p:PySem.Str×Int=>((fun p:PySem.Str×Int=>decide (1<p.2))∘fun p=>(p.1,p.2-d)) p&&decide (d<p.2))=fun p=>decide (d+1<p.2):=by
  funext p
  show(decide (1<p.2-d)&&decide (d<p.2))=decide (d+1<p.2);rw[<-Bool.decide_and];apply decide_eq_decide.mpr;omega
 rw[this];apply eN;intro p _;show(p.1,p.2-d-1)=(p.1,p.2-(d+1))
 congr 1
 exact Yy [_,_] [] [] [] (.z (.s Za6 Q4) (.s Jb Zcs)) rfl
theorem Zas {A:AL}{x:PySem.Str}(h:x∉Zq A):Yb A x=A:=by
 unfold Yb;rw[dJ];intro p a;apply decide_eq_true;intro e;exact h (Yk.mpr ⟨p.2,by rw[<-e];exact a⟩)
theorem Z0h {A:AL}{x:PySem.Str}{p:PySem.Str×Int}:p∈Yb A x↔p∈A/\p.1≠x:=by
 unfold Yb;rw[cI];simp
theorem Z28 {A:AL}{x y:PySem.Str}:y∈Zq (Yb A x)↔y∈Zq A/\y≠x:=by
 rw[Yk,Yk];exact⟨fun⟨c,h⟩=>⟨⟨c,(Z0h.mp h).1⟩,(Z0h.mp h).2⟩,fun⟨⟨c,h⟩,n⟩=>⟨c,Z0h.mpr ⟨h,n⟩⟩⟩
theorem Z3o {A:AL}(n:(Zq A).Nodup)(x:PySem.Str):(Zq (Yb A x)).Nodup:=by
 unfold Zq Yb at*;exact n.sublist (dR.map _)
theorem Z9k(A B:AL):Zq (A++B)=Zq A++Zq B:=by unfold Zq;simp only[bB]
theorem Z06 {A:AL}(n:(Zq A).Nodup){x:PySem.Str}(h:x∉Zq A)(c:Int):(Zq (A++[(x,c)])).Nodup:=by
 rw[Z9k,hV];refine⟨n,by simp[Zq], ?_⟩;intro a j b q e;have m:b=x:=by simpa[Zq] using q
 exact h (by simp only[<-m,<-e];exact j)
theorem Z59 {B:AL}(n:(Zq B).Nodup)(d:Int):(Zq (Jw d B)).Nodup:=by
 unfold Zq Jw at*;rw[bS];exact n.sublist (dR.map _)
theorem Z6g {A:AL}(n:(Zq A).Nodup){x:PySem.Str}(h:x∈Zq A):(Yb A x).length+1=A.length:=by
 induction A with
 |nil=>contradiction
 |cons p A ih=>
  unfold Zq at n h;rw[aP] at n h;rw[bM] at n;unfold Yb
  by_cases e:p.1=x
  ·rw[bH (by simp[e]),bQ];have:=Zas (A:=A) (x:=x) (fun z=>n.1 (e▸z));unfold Yb at this;rw[this]
  ·rw[bD (by simp[e]),bQ,bQ];have a:x∈Zq A:=(aC.mp h).resolve_left (fun z=>e z.symm);have:=ih n.2 a;unfold Yb at this;exact congrArg _ this
theorem Z7a(d:Int)(B:AL):(Jw d B).length<=B.length:=by
 unfold Jw;rw[aE];exact bY _ _
theorem J8b {B:AL}(h:∀p∈B,1<=p.2):Jw 0 B=B:=by
 unfold Jw;rw[dJ.mpr (fun p a=>decide_eq_true (by have:=h p a;exact this))];rw[show(fun p:PySem.Str×Int=>(p.1,p.2-0))=id from by funext p;show(p.1,p.2-0)=p;rw[Int.sub_zero]];exact List.map_id _
theorem Zs0 {d:Int}{B:AL}(h:(Jw d B).length=B.length):∀p∈B,d<p.2:=by
 unfold Jw at h;rw[aE] at h;have:=dJ.mp (dR.eq_of_length h);exact fun p a=>of_decide_eq_true (this p a)
theorem Zw1 {d:Int}{B:AL}(h:(Jw d B).length<B.length):∃p∈B,p.2<=d:=by
 apply Z7;intro q;have:Jw d B=B.map fun p=>(p.1,p.2-d):=by
  unfold Jw;rw[dJ.mpr (fun p a=>decide_eq_true (by
   apply Z7;intro z;exact q ⟨p,a,((cE z))⟩))]
 rw[this,aE] at h;lia
theorem Zw2 {A B:AL}(h:A.Perm B){x:PySem.Str}:x∈Zq A↔x∈Zq B:=by
 unfold Zq;exact(h.map _).mem_iff
theorem Zkz {room:Nat}{d:Int}{A B:AL}(h:MS room d A B){x g:PySem.Str}(hA:x∉Zq A)(m:B.length=room+1)(hg:(g,d)∈B)(hx:x∉Zq (Yb B g)):
  MS room (if A.length<room then d else d+1) (mgS A x room) (Yb B g++[(x,d+1)]):=by
 obtain⟨na,Y,pa,pb,la,lb,J,ab,nf,fl⟩:=h;have hO25:=fl m;have mn:=hO25.1;haveI gk:g∈Zq B:=Yk.mpr ⟨d,hg⟩;haveI Z:=Z6g Y gk;haveI gd:∀e,d<=e->g∉Zq (Jw e B):=by
  intro e j z;obtain⟨c,hc⟩:=Yk.mp z;obtain⟨h1,h2⟩:=Z02.mp hc;have:=Zdv Y hg h1;lia
 have I:∀e,d<=e->Jw e (Yb B g)=Jw e B:=fun e j=>by rw[Zky,Zas (gd e j)]
 haveI W:(Zq (Yb B g++[(x,d+1)])).Nodup:=Z06 (Z3o Y g) hx _;have lb':(Yb B g++[(x,d+1)]).length=room+1:=by simp only[aV,bA];exact Z.trans m
 have X:∀p∈Yb B g++[(x,d+1)],1<=p.2:=by
  intro p hp;rcases aG.mp hp with hp|hp
  ·exact pb p (Z0h.mp hp).1
  ·rw[aM.mp hp];show 1<=d+1;exact Zm [_] [] [Z6m] Zlv rfl J
 haveI al:=ab.length_eq;unfold mgS;rw[if_neg hA]
 by_cases hl:A.length<room
 ·rw[if_pos hl,if_pos hl];refine⟨Z06 na hA _,W, ?_,X,by simp only[aV,bA];exact hl,by lia,J, ?_,fun z=>by lia,fun q=>⟨?_, ?_⟩⟩
  ·intro p hp;rcases aG.mp hp with hp|hp
   ·exact pa p hp
   ·rw[aM.mp hp];exact bX _
  ·rw[Z9j,I d (bX _)];have:Jw d [(x,d+1)]=[(x,1)]:=by
    unfold Jw;rw[bD (by simp;exact bX _),dB,aP,fE];show[(x,d+1-d)]=_
    congr 2;exact Yy [_] [] [] [] (.z (.s Z10 Jb) Q4) rfl
   simp only[this];exact ab.append_right _
  ·intro p hp;rcases aG.mp hp with hp|hp
   ·exact mn p (Z0h.mp hp).1
   ·rw[aM.mp hp];show d<=d+1;lia
  ·have:(Jw d (Yb B g)).length<(Yb B g).length:=by rw[I d (bX _)];exact Zm [] [_,_,_,_,_] [Yl,Zg2, .n Zfz Z2y, .n Z2y (.a (.w 4) Q4)] (.n Y8 (.w 4)) rfl (aT al.symm) hl (aT m.symm) (aT Z.symm)
   obtain⟨p,hp,j⟩:=Zw1 this;have:=mn p (Z0h.mp hp).1;exact⟨p,aG.mpr (.inl hp),(dC (j) (this))⟩
 ·rw[if_neg hl,if_neg hl];haveI hr:A.length=room:=by lia
  haveI ab1:(Jw 1 A).Perm (Jw (d+1) B):=by
   rw[<-J1i d J];unfold Jw;exact(ab.filter _).map _
  refine⟨Z59 na 1,W, ?_,X,aK (Z7a 1 A) la,by lia,(Zm [_] [] [Z6m] (.z Qs Z10) rfl J), ?_,fun z=>by lia,fun q=>⟨?_,(x,d+1),aG.mpr (.inr (.head _)),rfl⟩⟩
  ·rintro⟨y,c⟩ hp;have:=(Z02.mp hp).2;show 1<=c;exact this
  ·rw[Z9j,I (d+1) (by lia)];have:Jw (d+1) [(x,d+1)]=[]:=by
    unfold Jw;rw[bH (by simp),dB,fE]
   simp only[this,gX];exact ab1
  ·have:(Jw d (Yb B g)).length=(Yb B g).length:=by rw[I d (bX _)];exact Yy [] [_,_,_,_,_] [Yl] [.n Zfz Z2y, .n Zr (.w 4), .n Z2y Z4h] (.n (.w 4) lQ7) rfl hr Z al m
   intro p hp;rcases aG.mp hp with hp|hp
   ·have:=Zs0 this p hp;exact this
   ·rw[aM.mp hp];exact bX _
theorem J1j {room:Nat}{d:Int}{A B:AL}(h:MS room d A B)(x g:PySem.Str)(hg:x∉Zq B->B.length=room+1->(g,d)∈B):
  MS room (if x∈Zq A\/A.length<room then d else d+1) (mgS A x room) (ssS B x room g d):=by
 by_cases hA:x∈Zq A
 ·rw[if_pos (.inl hA)];obtain⟨na,W,pa,Z,la,lb,d0,J,nf,fl⟩:=h;obtain⟨c,hc⟩:=Yk.mp hA;obtain⟨I,c1⟩:=Z02.mp (J.mem_iff.mp hc);have m:x∈Zq B:=Yk.mpr ⟨_,I⟩;dsimp only[mgS,ssS];rw[if_pos hA,if_pos m,Z3n na hc,Z3n W I];have xa:x∉Zq (Yb A x):=fun z=>(Z28.mp z).2 rfl;have xb:x∉Zq (Yb B x):=fun z=>(Z28.mp z).2 rfl;haveI l1:=Z6g na hA;haveI l2:=Z6g W m;have e1:(Yb A x++[(x,c+1)]).length=A.length:=by simp only[aV,bA];lia
  have e2:(Yb B x++[(x,c+d+1)]).length=B.length:=by simp only[aV,bA];lia
  refine⟨Z06 (Z3o na x) xa _,Z06 (Z3o W x) xb _, ?_, ?_,(aK (aT e1) la),(aK (aT e2) lb),d0, ?_,fun z=>nf (aK (aT e2.symm) z),fun z=> ?_⟩
  ·intro p hp;rcases aG.mp hp with hp|hp
   ·exact pa p (Z0h.mp hp).1
   ·rw[aM.mp hp];show 1<=c+1;lia
  ·intro p hp;rcases aG.mp hp with hp|hp
   ·exact Z p (Z0h.mp hp).1
   ·rw[aM.mp hp];show 1<=c+d+1;exact Zm [_,_] [] [Zlx,Zcu] (.z Q4 Za7) rfl c1 d0
  ·rw[Z9j,Zky];have:Jw d [(x,c+d+1)]=[(x,c+1)]:=by
    unfold Jw;rw[bD (by simp;exact Zm [_,_] [] [Zlx] (.z Zcs Za7) rfl c1),dB,aP,fE];show[(x,c+d+1-d)]=_
    congr 2;exact Yy [_,_] [] [] [] (.z (.s Za7 Y3) Z10) rfl
   simp only[this];unfold Yb;exact(J.filter _).append_right _
  ·obtain⟨mn,p,hp,he⟩:=fl ((e2.symm).trans z);refine⟨fun q hq=> ?_,p,aG.mpr (.inl (Z0h.mpr ⟨hp,fun z=> ?_⟩)),he⟩
   ·rcases aG.mp hq with hq|hq
    ·exact mn q (Z0h.mp hq).1
    ·rw[aM.mp hq];show d<=c+d+1;exact Zm [_,_] [] [Zlx] (.z Y3 Za7) rfl c1
   ·obtain⟨y,b⟩:=p;simp only at z he;cases z;have:=Zdv W hp I;lia
 ·haveI ha:=h;obtain⟨na,W,pa,Z,la,lb,d0,J,nf,fl⟩:=h;have hd:(if x∈Zq A\/A.length<room then d else d+1)=if A.length<room then d else d+1:=by
   by_cases q:A.length<room
   ·rw[if_pos (.inr q),if_pos q]
   ·rw[if_neg (fun z=>z.elim hA q),if_neg q]
  rw[hd]
  by_cases m:x∈Zq B
  ·obtain⟨b,I⟩:=Yk.mp m;have b1:b<=d:=by
    apply Z7;intro z;exact hA ((Zw2 J).mpr (Yk.mpr ⟨b-d,Z02.mpr ⟨by rw[show b-d+d=b by lia];exact I,(Zm [_,_] [] [Z6n] (.z Zcr (.s Y3 Jb)) rfl (mS z))⟩⟩))
   have X:B.length=room+1:=by
    apply Z7;intro z;have:=nf (by lia);have:=Z _ I;simp only at this;lia
   have b2:=(fl X).1 _ I;simp only at b2;have:b=d:=(dC (b1) (b2));cases this;unfold ssS;rw[if_pos m,Z3n W I];exact Zkz ha hA X I (fun z=>(Z28.mp z).2 rfl)
  ·unfold ssS;rw[if_neg m]
   by_cases X:B.length=room+1
   ·rw[if_pos X];exact Zkz ha hA X (hg m X) (fun z=>m (Z28.mp z).1)
   ·rw[if_neg X];have e0:=nf (by lia);subst e0;have e1:Jw 0 B=B:=J8b Z;simp only[e1] at J;haveI al:=J.length_eq;haveI nb':=Z06 W m 1;have Y:∀p∈B++[(x,1)],1<=p.2:=by
     intro p hp;rcases aG.mp hp with hp|hp
     ·exact Z p hp
     ·rw[aM.mp hp];exact bX _
    have l1:(B++[(x,(1:Int))]).length=B.length+1:=by simp only[aV,bA]
    unfold mgS;rw[if_neg hA]
    by_cases hl:A.length<room
    ·rw[if_pos hl,if_pos hl];refine⟨Z06 na hA _,nb', ?_,Y,by simp only[aV,bA];exact hl,(Zm [] [_,_,_,_] [.n Zr Z4h, .n Yi lQ7, .n Zfz Z2y] (.n Zr (.a Z2y Q4)) rfl (aT l1) (aT al.symm) hl),bX _, ?_,fun j=>rfl,fun z=>by lia⟩
     ·intro p hp;rcases aG.mp hp with hp|hp
      ·exact pa p hp
      ·rw[aM.mp hp];exact bX _
     ·simp only[J8b Y];exact J.append_right _
    ·rw[if_neg hl,if_neg hl];refine⟨Z59 na 1,nb', ?_,Y,aK (Z7a 1 A) la,(Zm [] [_,_,_,_] [.n Zr Z4h, .n Yi lQ7, .n lQ7 Z2y] (.n Zr (.a Z2y Q4)) rfl (aT l1) (aT al.symm) la),(aR _), ?_,fun z=>by lia,fun j=>⟨Y,(x,1),aG.mpr (.inr (.head _)),rfl⟩⟩
     ·rintro⟨y,c⟩ hp;have:=(Z02.mp hp).2;show 1<=c;exact this
     ·simp only[Z9j];have:Jw (0+1) [(x,(1:Int))]=[]:=by
       unfold Jw;rw[bH (by simp),dB,fE]
      simp only[this,gX];unfold Jw;exact(J.filter _).map _
theorem Zca {A:AL}{x y:PySem.Str}{c:Int}(h:y≠x):Jz (A++[(x,c)]) y=Jz A y:=by
 unfold Jz;rw[pE];have:[(x,c)].find? (fun p=>decide (p.1=y))=none:=by
  rw[fP (by simpa using fun z=>h z.symm)];rfl
 simp only[this,Option.or_none]
theorem Z8i {A:AL}{x:PySem.Str}{c:Int}(h:x∉Zq A):Jz (A++[(x,c)]) x=c:=by
 unfold Jz;rw[pE];have:A.find? (fun p=>decide (p.1=x))=none:=by
  rw[fQ];intro p j z;haveI a:p.1=x:=by simpa using z
  exact h (Yk.mpr ⟨p.2,by rw[<-a];exact j⟩)
 rw[this,Option.none_or,iA (by simp)]
theorem J1k {A:AL}{x y:PySem.Str}(h:y≠x):Jz (Yb A x) y=Jz A y:=by
 induction A with
 |nil=>rfl
 |cons p A ih=>
  unfold Yb Jz at*
  by_cases e:p.1=x
  ·rw[bH (by simp[e]),fP (by simp[e];exact fun z=>h z.symm)];exact ih
  ·rw[bD (by simp[e])]
   by_cases e2:p.1=y
   ·rw[iA (by simp[e2]),iA (by simp[e2])]
   ·rw[fP (by simp[e2]),fP (by simp[e2])];exact ih
theorem Z39 {A:AL}{x:PySem.Str}(n:(Zq A).Nodup)(m:∀p∈A,1<=p.2)(h:x∈Zq A):1<=Jz A x/\(x,Jz A x)∈A:=by
 haveI a:=Yk.mp h;haveI c:=fC (a);haveI j:=bF (a);rw[Z3n n j];exact⟨m _ j,j⟩
theorem Zw3 {A:AL}(n:(Zq A).Nodup)(J:∀p∈A,1<=p.2)(y:PySem.Str):Jz (Jw 1 A) y=if 1<Jz A y then Jz A y-1 else 0:=by
 refine Z7 fun j=> ?_
 by_cases h:y∈Zq A
 ·obtain⟨X,I⟩:=Z39 n J h
  by_cases q:1<Jz A y
  ·refine j ?_;rw[if_pos q];exact Z3n (Z59 n 1) (Z02.mpr ⟨by rw[show Jz A y-1+1=Jz A y by lia];exact I,(Zm [_] [] [.z (.a Q4 Q4) Jb] (.z Zcr (.s Jb Q4)) rfl q)⟩)
  ·refine j ?_;rw[if_neg q];apply Qa;intro z;obtain⟨c,m⟩:=Yk.mp z;obtain⟨W,Y⟩:=Z02.mp m;have:=Zdv n I W;lia
 ·refine j ?_;rw[Qa h,if_neg (cR (by decide))];apply Qa;intro z;obtain⟨c,m⟩:=Yk.mp z;exact h (Yk.mpr ⟨_,(Z02.mp m).1⟩)
theorem Zhr(A B:AL):Z00 (A++B)=Z00 A+Z00 B:=by
 unfold Z00;simp only[bB,List.sum_append]
theorem Zhs {A:AL}(n:(Zq A).Nodup){x:PySem.Str}{c:Int}(h:(x,c)∈A):Z00 (Yb A x)+c=Z00 A:=by
 induction A with
 |nil=>contradiction
 |cons p A ih=>
  unfold Zq at n;rw[aP,bM] at n
  by_cases e:p.1=x
  ·haveI j:p.2=c:=by
    have m:(Zq (p::A)).Nodup:=by unfold Zq;rw[aP,bM];exact n
    exact Zdv m (x:=x) (by rw[<-e];exact .head _) h
   have:Yb (p::A) x=Yb A x:=by unfold Yb;rw[bH (by simp[e])]
   rw[this,Zas (fun z=>n.1 (by simp only[e];exact z))];unfold Z00;simp only[aP,dM,j];exact Int.add_comm _ _
  ·have:Yb (p::A) x=p::Yb A x:=by unfold Yb;rw[bD (by simp[e])]
   rw[this];haveI q:(x,c)∈A:=(aC.mp h).resolve_left (fun z=>e (by rw[<-z]));have:=ih n.2 q;unfold Z00 at*;simp only[aP,dM,aP,dM];exact Yy [_,_,_,_] [] [Zg3] [] (.z (.a (.a lQ9 Jb) Y3) (.a lQ9 Q5)) rfl this
theorem Zs1 {A:AL}(a:∀p∈A,1<=p.2):Z00 (Jw 1 A)+A.length=Z00 A:=by
 induction A with
 |nil=>rfl
 |cons p A ih=>
  haveI m:=a p (.head _);have:=ih fun q j=>a q (.tail _ j)
  by_cases e:1<p.2
  ·have q:Jw 1 (p::A)=(p.1,p.2-1)::Jw 1 A:=by unfold Jw;rw[bD (by simp[e]),aP]
   rw[q];unfold Z00 at*;simp only[aP,dM,aP,dM,bQ];show p.2-1+_+_=_;lia
  ·have q:Jw 1 (p::A)=Jw 1 A:=by unfold Jw;rw[bH (by simp[e])]
   rw[q];unfold Z00 at*;simp only[aP,dM,bQ];lia
structure CS(room:Nat)(d:Int)(A:AL)(n:Int)(f:PySem.Str->Int):Prop where
 tot:n=Z00 A+d*(room+1)
 lo:∀y,Jz A y<=f y
 hi:∀y,f y<=Jz A y+d
theorem J1l {room:Nat}{d:Int}{A:AL}{n:Int}{f f':PySem.Str->Int}(na:(Zq A).Nodup)(W:∀p∈A,1<=p.2)(la:A.length<=room)(d0:0<=d)(h:CS room d A n f)(x:PySem.Str)(X:f' x=f x+1)(Y:∀y,y≠x->f' y=f y):
  CS room (if x∈Zq A\/A.length<room then d else d+1) (mgS A x room) (n+1) f':=by
 obtain⟨J,I,q⟩:=h;unfold mgS
 by_cases hA:x∈Zq A
 ·rw[if_pos hA,if_pos (.inl hA)];haveI j:=Z39 na W hA;haveI h1:=j.1;haveI Z:=j.2;haveI xa:x∉Zq (Yb A x):=fun z=>(Z28.mp z).2 rfl;refine⟨?_,fun y=> ?_,fun y=> ?_⟩
  ·have:=Zhs na Z;simp only[Zhr];show n+1=_+(Jz A x+1+0)+_;exact Yy [_,_,_,_,_] [] [.z Jb Zlr] [.z (.a lQ9 Z2c) Y3] (.z Z10 (.a (.a lQ9 (.a (.a Z2c Q4) Qs)) Q5)) rfl J this
  all_goals
   by_cases e:y=x
   ·subst e;simp only[Z8i xa,X];have:=I y;have:=q y;lia
   ·simp only[Zca e,J1k e,Y y e]
    first|exact I y|exact q y
 ·rw[if_neg hA]
  by_cases hl:A.length<room
  ·rw[if_pos hl,if_pos (.inr hl)];refine⟨?_,fun y=> ?_,fun y=> ?_⟩
   ·simp only[Zhr];show n+1=_+(1+0)+_;exact Yy [_,_,_] [] [.z Jb Zlr] [] (.z Z10 (.a (.a Y3 (.a Q4 Qs)) Q5)) rfl J
   all_goals
    by_cases e:y=x
    ·subst e;simp only[Z8i hA,X];have:=I y;have:=q y;rw[Qa hA] at*;lia
    ·simp only[Zca e,Y y e]
     first|exact I y|exact q y
  ·rw[if_neg hl,if_neg (fun z=>z.elim hA hl)];refine⟨?_,fun y=> ?_,fun y=> ?_⟩
   ·have:=Zs1 W;haveI e:(A.length:Int)=room:=by lia
    simp only[rY];exact Yy [_,_,_,_] [_,_] [.z Jb Zlr, .z Zr Yi] [.z (.a lQ9 Zr) Y3] (.z Z10 (.a lQ9 (.a Q5 (.m 1 Z4h)))) rfl J e this
   all_goals
    rw[Zw3 na W];haveI q1:=I y;haveI q2:=q y
    by_cases e:y=x
    ·subst e;simp only[Qa hA] at*;rw[X];split<;>lia
    ·simp only[Y y e];have:0<=Jz A y:=by
      by_cases z:y∈Zq A
      ·have:=(Z39 na W z).1;exact eQ this
      ·rw[Qa z];exact bX _
     split<;>lia
end
def Jo(L:List He):AL:=L.map fun e=>(Z0 e.k,valN e.v)
def Qh(L:List He)(R:List Is):Prop:=Z0g (R.map Is.ck)/\(R.map Is.ck).Perm (L.map Yj)
structure OkM(L:List He)(R:List Is):Prop where
 hn:HN L
 nd:(Zq (Jo L)).Nodup
 row:Qh L R
 pos:∀e∈L,1<=valN e.v
structure Z1q(L:List He)(room:Int)(s:Str)(L':List He)(R':List Is):Prop where
 ok:OkM L' R'
 len:(L'.length:Int)<=room
 st:∃g d,(Z0 s∉Zq (Jo L)->(L.length:Int)=room->(g,d)∈Jo L/\∀p∈Jo L,d<=p.2)/\Jo L'=ssS (Jo L) (Z0 s) (room.toNat-1) g d
theorem Z1k {L:List He}:Zq (Jo L)=L.map fun e=>Z0 e.k:=by
 dsimp only[Zq,Jo];rw[bS];rfl
theorem Z9l(A B:List He):Jo (A++B)=Jo A++Jo B:=by unfold Jo;rw[bB]
theorem Z4e(L:List He)(n:Str):Jo (Zg L n)=Yb (Jo L) n:=by
 dsimp only[Jo,Zg,Yb];simp only[dA];rfl
theorem Z9m {L:List He}{e:He}(h:e∈L):(Z0 e.k,valN e.v)∈Jo L:=aN.mpr ⟨e,h,rfl⟩
theorem Z0i(L:List He):(Jo L).length=L.length:=aE ..
theorem Z29 {L:List He}{n:Str}:Zb L n=none↔n∉Zq (Jo L):=by
 rw[Z1k];unfold Zb;rw[fQ];constructor
 ·intro h z;obtain⟨e,a,q⟩:=aN.mp z;exact h e a (by simpa using q)
 ·intro h e a q;exact h (aN.mpr ⟨e,a,by simpa using q⟩)
theorem Zem {L:List He}{n:Str}(h:Zb L n≠none):((Zb L n).getD Zs)∈L/\Z0 ((Zb L n).getD Zs).k=n:=by
 cases e:Zb L n with
 |none=>exact absurd e h
 |some x=>
  unfold Zb at e;exact⟨cN e,by simpa using iV e⟩
theorem Zat {L:List He}{n:Str}(h:n∉Zq (Jo L)):Zg L n=L:=by
 unfold Zg;rw[dJ];intro e a;apply decide_eq_true;intro q;exact h (by rw[Z1k];exact aN.mpr ⟨e,a,q⟩)
theorem Zw4 {L:List He}(a:(Zq (Jo L)).Nodup){x:He}(hx:x∈L):L.Perm (x::Zg L (Z0 x.k)):=by
 induction L with
 |nil=>cases hx
 |cons e L ih=>
  rw[Z1k,aP,bM] at a;rcases aC.mp hx with rfl|hx
  ·have:Zg (x::L) (Z0 x.k)=Zg L (Z0 x.k):=by
    unfold Zg;rw[bH (by simp)]
   rw[this,Zat (by rw[Z1k];exact a.1)]
  ·haveI j:Z0 e.k≠Z0 x.k:=fun q=>a.1 (aN.mpr ⟨x,hx,q.symm⟩);have:Zg (e::L) (Z0 x.k)=e::Zg L (Z0 x.k):=by
    unfold Zg;rw[bD (by simpa using j)]
   rw[this];exact((ih (by rw[Z1k];exact a.2) hx).cons e).trans (List.Perm.swap ..)
theorem Za2 {L:List He}(j:(Zq (Jo L)).Nodup):(L.map Yj).Nodup:=by
 rw[Z1k] at j;have:(L.map fun e=>Z0 e.k)=(L.map Yj).map (·.2):=by simp only[bS];rfl
 rw[this] at j;exact rT _ (fun a b h q=>h (by rw[q])) j
theorem Qh.len {L:List He}{R:List Is}(h:Qh L R):R.length=L.length:=by
 have:=h.2.length_eq
 rwa[aE,aE] at this
theorem Qh.nodup {L:List He}{R:List Is}(h:Qh L R)(a:(Zq (Jo L)).Nodup):(R.map Is.ck).Nodup:=h.2.nodup_iff.mpr (Za2 a)
theorem Qh.find {L:List He}{R:List Is}(h:Qh L R){p:Int×Str}(a:p∈R.map Is.ck):∃e∈L,Yj e=p:=aN.mp (h.2.mem_iff.mp a)
theorem Zz6 {R:List Is}{j:Nat}(a:j<R.length):(R.getD j Zo).ck∈R.map Is.ck:=by
 rw[aI,aS a];exact aL (dD a)
theorem Zht {α β:Type}(f:α->β)(l:List α)(j:Nat):(l.eraseIdx j).map f=(l.map f).eraseIdx j:=by
 induction l generalizing j with
 |nil=>rfl
 |cons a l ih=>
  cases j with
  |zero=>rfl
  |succ j=>show f a::(l.eraseIdx j).map f=f a::(l.map f).eraseIdx j;rw[ih]
theorem Zl0 {L:List He}{R:List Is}(h:Qh L R)(I:(Zq (Jo L)).Nodup){x:He}(q:x∈L){j:Nat}(y:j<R.length)(e:(R.getD j Zo).ck=Yj x):Qh (Zg L (Z0 x.k)) (R.eraseIdx j):=by
 unfold Qh;rw[Zht];refine⟨Zry h.1 j, ?_⟩;haveI m:=Zov (R:=R.map Is.ck) (j:=j) (by simp only[aE];exact y);rw[Q9,e] at m;haveI a:=(Zw4 I q).map Yj;simp only[aP] at a;exact List.Perm.cons_inv (m.symm.trans (h.2.trans a))
theorem J1m(R:List Is)(a:Nat)(y:Is):(insI R a y).map Is.ck=(R.map Is.ck).take a++y.ck::(R.map Is.ck).drop a:=by
 unfold insI;simp only[bB,aP,qT,qU]
theorem Zl1 {L:List He}{R:List Is}(h:Qh L R){e:He}(j:Z0 e.k∉Zq (Jo L)){y:Is}(m:y.ck=Yj e):y.ck∉R.map Is.ck:=by
 intro z;obtain⟨x,a,q⟩:=h.find z;simp only[m] at q;have:Z0 x.k=Z0 e.k:=congrArg lA q;exact j (by rw[Z1k];exact aN.mpr ⟨x,a,this⟩)
theorem Zl2 {L:List He}{R:List Is}(h:Qh L R){e:He}{y:Is}(j:y.ck=Yj e){a:Nat}(hs:Z0g ((R.map Is.ck).take a++y.ck::(R.map Is.ck).drop a)):Qh (L++[e]) (insI R a y):=by
 unfold Qh;rw[J1m];refine⟨hs,(Zvw _ _ _).trans ?_⟩;simp only[bB,aP,fE,j];exact(List.Perm.cons _ h.2).trans (List.perm_append_singleton _ _).symm
theorem Zhu {L:List He}{R:List Is}(h:Qh L R)(j:R.length<=8){e:He}(m:Z0 e.k∉Zq (Jo L)){y:Is}(a:y.ck=Yj e):Qh (L++[e]) (insI R (Ju R y) y):=
 Zl2 h a (by rw[Zkt];exact Zvx h.1 (by rw[aE];exact j) (Zl1 h m a))
theorem Zw5 {L:List He}{R:List Is}(h:Qh L R)(j:R.length<=8){e:He}(m:Z0 e.k∉Zq (Jo L)){y:Is}(a:y.ck=Yj e):Qh (L++[e]) (insI R (Z4q R y) y):=
 Zl2 h a (by rw[J1g];exact Zvy h.1 (by rw[aE];exact j) (Zl1 h m a))
theorem Zs2 {L:List He}{R:List Is}(h:HN L)(r:Qh L R):(Dt.is (R.map Is.ck)).ok:=by
 intro p a;obtain⟨e,j,q⟩:=r.find a;rw[<-q];exact(Zw _ (Zw _ (h e j).1).2.2.1).2.2.2.2.2.2.2.1
theorem Z45 {L:List He}(h:HN L):(Dt.hs (L.map He.kv)).ok:=by
 intro p j;obtain⟨e,a,rfl⟩:=aN.mp j;exact⟨(Zw _ (h e a).1).2.2.2.2.2.2.2.1,(Qw _ (h e a).2).2.2.2.2⟩
theorem Z9n {L:List He}{R:List Is}{X:List Is}(j:OkM L R)(J:L.length<=4)(m:Zdu L [] 0 X):
  X.length<=4/\((Dt.is (R.map Is.ck)).ok/\(Dt.is ((sortI X).map Is.ck)).ok)/\Dt.is (R.map Is.ck)=Dt.is ((sortI X).map Is.ck):=by
 haveI m:X.map Is.ck=L.map Yj:=m;have W:X.length=L.length:=by have:=congrArg hN m;rwa[aE,aE] at this
 haveI I:(X.map Is.ck).Nodup:=by rw[m];exact Za2 j.nd
 haveI a:=Zc9 (R:=X) (by lia) I;haveI y:=a.1;haveI q:=a.2;haveI e:=Zrx j.row.1 y (j.row.2.trans ((by rw[m]:(X.map Is.ck).Perm (L.map Yj)).symm.trans q.symm));haveI d:=Zs2 j.hn j.row;exact⟨by lia,⟨d,by rw[<-e];exact d⟩,by rw[e]⟩
theorem Zhv {L:List He}{s g:Str}{X:List He}(h:Z57 L [] 0 s g X):X=L.filter (Zc6 s g):=h
theorem Z7b {L:List He}(h:HN L)(a:L.length<=4):Z9i L [] 0:=
 ⟨fun e j=>⟨(h e j).2,aG.mpr (.inl (Zw _ (h e j).1).1)⟩,a,by simp;exact aK a (by decide)⟩
theorem Z8j {L:List He}(h:HN L)(a:L.length<=4){s g:Str}(hs:s∈Jy):Z8e L [] 0 s g:=
 ⟨⟨aG.mpr (.inl (Zw _ hs).1),fun e j=>aG.mpr (.inl (Zw _ (h e j).1).1)⟩,a,by simp;exact aK a (by decide)⟩
theorem OkM.after {L:List He}{R:List Is}(m:HN L)(W:(Zq (Jo L)).Nodup)(q:∀e∈L,1<=valN e.v){e:He}(J:e.k∈Jy)(y:e.v∈Yh)(a:1<=valN e.v)(I:Z0 e.k∉Zq (Jo L))(j:Qh (L++[e]) R):OkM (L++[e]) R:=by
 refine⟨m.add J y, ?_,j,fun x hx=> ?_⟩
 ·rw[Z9l];exact Z06 W I _
 ·rcases aG.mp hx with hx|hx
  ·exact q x hx
  ·rw[aM.mp hx];exact a
theorem Zs3 {L:List He}(a:(Zq (Jo L)).Nodup)(n:Str):(Zq (Jo (Zg L n))).Nodup:=by rw[Z4e];exact Z3o a n
theorem J1n(L:List He)(n:Str):n∉Zq (Jo (Zg L n)):=by rw[Z4e];exact fun z=>(Z28.mp z).2 rfl
theorem Zhw {L:List He}(a:(Zq (Jo L)).Nodup){n:Str}(h:n∈Zq (Jo L)):(Zg L n).length+1=L.length:=by
 have:=Z6g a h
 rwa[<-Z4e,Z0i,Z0i] at this
theorem Z8k {L:List He}{s:Str}{X:List He}(a:Z57 L [] 0 s (Z0 s) X):X=Zg L (Z0 s):=by
 rw[Zhv a];unfold Zg;apply fF;intro e _;unfold Zc6;apply decide_eq_decide.mpr;constructor
 ·intro h q;exact h (.inl q.symm)
 ·rintro h (q|q)
  ·exact h q.symm
  ·exact h q.symm
theorem Zs4 {L:List He}{s g:Str}{X:List He}(hs:Z0 s∉Zq (Jo L))(j:Z57 L [] 0 s g X):X=Zg L g:=by
 rw[Zhv j];unfold Zg;apply fF;intro e a;unfold Zc6;apply decide_eq_decide.mpr;constructor
 ·intro h q;exact h (.inl q.symm)
 ·rintro h (q|q)
  ·exact h q.symm
  ·exact hs (by rw[Z1k];exact aN.mpr ⟨e,a,q.symm⟩)
theorem Zjz {L:List He}{n:Str}(h:Zb L n≠none):n∈Zq (Jo L):=Z7 fun z=>h (Z29.mpr z)
theorem Zhx {L:List He}{R:List Is}{s:Str}{room:Int}(a:OkM L R)(hs:s∈Jy)(W:L.length<=4)(hr:(L.length:Int)<=room)(hq:Zb L (Z0 s)≠none){v:Int}(hv:v=valN ((Zb L (Z0 s)).getD Zs).v)(hc:v<=11)
  {z y:Is} (hz:z.ck=(v,Z0 s)) (hy:y.ck=(v+1,Z0 s)) {e:He} (q:e.k=s) (m:e.v=Zj (v+1)):
  (0<=Int.ofNat (Ju R z)/\Int.ofNat (Ju R z)<(R.length:Int)/\R.length<=4)/\(R.eraseIdx (Int.ofNat (Ju R z)).toNat).length<=3/\
  Z1q L room s (Zg L (Z0 s)++[e]) (insI (R.eraseIdx (Int.ofNat (Ju R z)).toNat) (Z4q (R.eraseIdx (Int.ofNat (Ju R z)).toNat) y) y):=by
 refine Z7 fun k'=> ?_;obtain⟨I,xk⟩:=Zem hq;have hl:=a.row.len;have v1:=a.pos _ I;rw[<-hv] at v1;have X:=Yq (v+1) (Zm [_] [] [Zg4] (.z Qs Z10) rfl v1) (Zm [_] [] [.z Jb Z1o] (.z Z10 (.n 12)) rfl hc);have e1:Yj ((Zb L (Z0 s)).getD Zs)=(v,Z0 s):=by unfold Yj;rw[<-hv,xk]
 have zm:z.ck∈R.map Is.ck:=by rw[hz];exact a.row.2.mem_iff.mpr (aN.mpr ⟨_,I,e1⟩)
 obtain⟨J,Z⟩:=Zou a.row.1 (by rw[aE];exact Zm [] [_,_] [Yl, .n Yi Z4g] (.n Zr (.n 8)) rfl (aT hl) W) zm;rw[<-Zkt] at J Z;rw[Q9] at Z;rw[aE] at J;have toN:(Int.ofNat (Ju R z)).toNat=Ju R z:=rfl;refine k' ?_;rw[toN];have rd:=Zl0 a.row a.nd I (j:=Ju R z) J (by rw[Z,hz,e1]);rw[xk] at rd;have hm:=Zjz hq;have dl:=Zhw a.nd hm;have Y:=rd.len;have ek:Z0 e.k∉Zq (Jo (Zg L (Z0 s))):=by rw[q];exact J1n _ _
 have hy':y.ck=Yj e:=by unfold Yj;rw[hy,q,m,X.2]
 have rr:=Zw5 rd (Zm [] [_,_,_] [Yl,Zg2, .n lQ7 Z4g] (.n Zr (.n 8)) rfl (aT Y) (aT dl) W) ek hy';refine⟨⟨aR _,iJ.mpr J,(aK (aT hl) W)⟩,(Zm [] [_,_,_] [Yl,Zg2, .n lQ7 Z4g] (.n Zr Z2b) rfl (aT Y) (aT dl) W), ?_, ?_,Z0 s,0,fun z=>absurd hm z, ?_⟩
 ·exact OkM.after (a.hn.del _) (Zs3 a.nd _) (fun x hx=>a.pos x (Z72.mp hx).1) (by rw[q];exact hs) (by rw[m];exact X.1) (by rw[m,X.2];exact Zm [_] [] [Zg4] Zlv rfl v1) ek rr
 ·rw[aV,bA];lia
 ·rw[Z9l,Z4e];unfold ssS;rw[if_pos hm,Z3n a.nd (by have:=Z9m I;rw[xk,<-hv] at this;exact this)]
  congr 1
  show[(Z0 e.k,valN e.v)]=_;rw[q,m,X.2]
theorem Zw6 {L:List He}{R:List Is}{s:Str}{room:Int}(m:OkM L R)(hs:s∈Jy)(hr0:2<=room)(Z:(L.length:Int)<=room)(W:room<=4)(hn:¬(L.length:Int)=room)(Y:Zb L (Z0 s)=none)
  {y:Is} (hy:y.ck=(1,Z0 s)) {e:He} (j:e.k=s) (a:e.v=Zj 1):R.length<=3/\Z1q L room s (L++[e]) (insI R (Ju R y) y):=by
 have hl:=m.row.len;have J:=Z29.mp Y;haveI I:=Yq 1 (aR _) (aR _);haveI X:y.ck=Yj e:=by unfold Yj;simp only[hy,j,a,I.2]
 haveI rr:=Zhu m.row (Zm [_] [_,_] [Yl, .z Yi Jb,Za9] (.n Zr (.n 8)) rfl (aT hl) Z W) (by rw[j];exact J) X;refine⟨by lia, ?_, ?_,Z0 s,0,fun q z=>absurd z hn, ?_⟩
 ·exact OkM.after m.hn m.nd m.pos (by rw[j];exact hs) (by rw[a];exact I.1) (by simp only[a,I.2];exact bX _) (by rw[j];exact J) rr
 ·simp only[aV,bA];lia
 ·rw[Z9l];unfold ssS;rw[if_neg J,if_neg (by rw[Z0i];lia)]
  congr 1
  show[(Z0 e.k,valN e.v)]=_;rw[j,a,I.2]
theorem J1o {L:List He}{R:List Is}{room ch:Int}{a:Is}{R1:List Is}(j:OkM L R)(W:R=a::R1)(hr0:2<=room)(q:room<=4)(hf:(L.length:Int)=room):
  0<Jv R (a.c+1-1)/\0<=ch.fmod (Int.ofNat (Jv R (a.c+1-1)))/\(ch.fmod (Int.ofNat (Jv R (a.c+1-1)))).toNat<R.length/\ch.fmod (Int.ofNat (Jv R (a.c+1-1)))<(R.length:Int)/\(R.getD (ch.fmod (Int.ofNat (Jv R (a.c+1-1)))).toNat Zo).c=a.c/\∀e∈L,a.c<=valN e.v:=by
 haveI Y:=j.row.len;have m:((R.map Is.ck).getD 0 Jc).1=a.c:=by rw[Q9,W];rfl
 haveI I:=Zvz j.row.1 (by rw[aE];exact Zm [_] [_,_] [Yl, .z Yi Jb,Za9] (.n Zr (.n 8)) rfl (aT Y) (cG hf) q) (by rw[aE];lia);rw[m,<-J8a,aE] at I;haveI e2:a.c+1-1=a.c:=(pD _ _);rw[e2];refine Z7 fun k'=> ?_;obtain⟨y,J,b3⟩:=I;have Z:ch.fmod (Int.ofNat (Jv R a.c))=ch % (Jv R a.c:Int):=cM _ (aR _);have f2:=jB ch (b:=(Jv R a.c:Int)) (by lia);have f3:=hU ch (b:=(Jv R a.c:Int)) (iJ.2 y);refine k' ?_;rw[Z];refine⟨y,f2,by lia,(Zm [_] [_,_] [.z Z10 Zr,Yl] (.z Z10 Yi) rfl f3 J), ?_,fun e X=> ?_⟩
 ·have:=b3 (ch % (Jv R a.c:Int)).toNat (by lia);rw[Q9] at this;exact this
 ·have hm:Yj e∈R.map Is.ck:=j.row.2.mem_iff.mpr (aL X);have:=Zkw j.row.1 hm;rw[m] at this;exact this
theorem Zhy {L:List He}{R:List Is}{s:Str}{room:Int}(I:OkM L R)(hs:s∈Jy)(hr0:2<=room)(X:room<=4)(hf:(L.length:Int)=room)(hq:Zb L (Z0 s)=none){j:Nat}(hj:j<R.length){m:Int}(hc:(R.getD j Zo).c=m)(hm:∀e∈L,m<=valN e.v)(h11:m<=11)
  {y:Is} (hy:y.ck=(m+1,Z0 s)) {e:He} (J:e.k=s) (W:e.v=Zj (m+1)):
  (R.getD j Zo).k∈Jy/\Z0 (R.getD j Zo).k=(R.getD j Zo).k/\Z0 s∉Zq (Jo (Zg L (R.getD j Zo).k))/\(R.eraseIdx j).length<=3/\0<=m/\(Zg L (R.getD j Zo).k).length<=3/\
  Z1q L room s (Zg L (R.getD j Zo).k++[e]) (insI (R.eraseIdx j) (Ju (R.eraseIdx j) y) y):=by
 haveI hl:=I.row.len;obtain⟨x,Z,xe⟩:=I.row.find (Zz6 hj);have xk:Z0 x.k=(R.getD j Zo).k:=congrArg lA xe;have xv:valN x.v=m:=(congrArg kY xe).trans hc;haveI a:=Zw _ (I.hn x Z).1;haveI n1:=a.1;haveI n2:=a.2.1;haveI n3:=a.2.2.1;haveI n4:=a.2.2.2.1;haveI n5:=a.2.2.2.2.1;haveI n6:=a.2.2.2.2.2.1;haveI n7:=a.2.2.2.2.2.2.1;haveI n8:=a.2.2.2.2.2.2.2.1;haveI n9:=a.2.2.2.2.2.2.2.2.1;haveI n10:=a.2.2.2.2.2.2.2.2.2;have m1:=I.pos x Z;have nf:=Yq (m+1) (by lia) (Zm [_] [] [.z Jb Z1o] (.z Z10 (.n 12)) rfl h11);have rd:=Zl0 I.row I.nd Z hj xe.symm;rw[xk] at rd;have hm0:=Z29.mp hq;haveI gm:(R.getD j Zo).k∈Zq (Jo L):=by rw[Z1k];exact aN.mpr ⟨x,Z,xk⟩
 haveI dl:=Zhw I.nd gm;haveI hl2:=rd.len;have Y:Z0 s∉Zq (Jo (Zg L (R.getD j Zo).k)):=by rw[Z4e];exact fun z=>hm0 (Z28.mp z).1
 haveI hy':y.ck=Yj e:=by unfold Yj;simp only[hy,J,W,nf.2]
 haveI rr:=Zhu rd (Zm [_] [_,_,_] [Yl,Zg2, .z lQ7 Jb,Za9] (.n Zr (.n 8)) rfl (aT hl2) (aT dl) (cG hf) X) (by rw[J];exact Y) hy';refine⟨by rw[<-xk];exact n3,by rw[<-xk];exact n6,Y,(Zm [_] [_,_,_] [Yl,Zg2, .z lQ7 Jb,Za9] (.n Zr Z2b) rfl (aT hl2) (aT dl) (cG hf) X),by lia,(Zm [_] [_,_] [.n Y8 Yi, .z Yi Jb,Za9] (.n Zr Z2b) rfl (aT dl) (cG hf) X), ?_, ?_,(R.getD j Zo).k,m,fun q q=>⟨?_,fun p hp=> ?_⟩, ?_⟩
 ·exact OkM.after (I.hn.del _) (Zs3 I.nd _) (fun x hx=>I.pos x (Z72.mp hx).1) (by rw[J];exact hs) (by rw[W];exact nf.1) (by simp only[W,nf.2];lia) (by rw[J];exact Y) rr
 ·simp only[aV,bA];lia
 ·have:=Z9m Z;simp only[xk,xv] at this;exact this
 ·obtain⟨e,J,rfl⟩:=aN.mp hp;exact hm e J
 ·rw[Z9l,Z4e];unfold ssS;rw[if_neg hm0,if_pos (by rw[Z0i];lia)]
  congr 1
  show[(Z0 e.k,valN e.v)]=_;rw[J,W,nf.2]
abbrev Z46:=I7 Hd (List He) Nat Nat (List Is) Str (I7 Nat Int Nat Int Nat Obj Gd)
def Z8l(o:Option Cd):Sl:=match o with|none=>⟨297,Zv [], .tab []⟩|some c=>Yt 297 331 69 Zc7 c
def Z07(o:Obj)(g:Gd):Prop:=∃c,o=(Z8l c).o/\g=(Z8l c).g
noncomputable def Zox(i:Z46):Code:= .call (.ref 300) ⟨[.ref i.1.a, .ref i.3, .str i.6 i.7.1, .int i.7.2 i.7.3, .int i.7.4 i.7.5],[]⟩
def Zoy(P:Params)(i:Z46):List Sl:=Yc P i.1 i.2++[⟨i.3,lst (i.5.map Is.ref) i.4, .is i.5⟩,⟨297,i.7.6,i.7.7⟩]
def Zz7(P:Params)(i:Z46)(U:Ph):Result×List Sl:=(.ok (.ret (.bool true)),Yc P (hdN i.1 U 2) (J3 (U.w 2).g)++[⟨i.3,lst ((Zp (U.w 3).g).map Is.ref) (Z3 (U.w 3).o), .is (Zp (U.w 3).g)⟩,⟨297,(U.w 4).o,(U.w 4).g⟩])
def J8c(P:Params)(i:Z46)(U:Ph):Result×List Sl:=(.ok (.ret (.bool true)),Yc P (hdN i.1 U 2) (J3 (U.w 2).g)++[⟨i.3,lst ((Zp (U.w 3).g).map Is.ref) (Z3 (U.w 3).o), .is (Zp (U.w 3).g)⟩,Yt 297 331 69 Zc7 (Yn (U.w 4).g)])
def Zs5(i:Z46):Prop:=OkM i.2 i.5/\i.6∈Jy/\(∀e∈i.2,valN e.v<=11)/\2<=i.7.2/\i.7.2<=4/\(i.2.length:Int)<=i.7.2/\Z07 i.7.6 i.7.7
def Zoz(a b:Prop):Prop:=a/\b
def Jcd(P:Params):G:=⟨(GF P).ctr++[(Zob P).ctr,Zoh.ctr,fBs.ctr,Zz2.ctr,J7s.ctr,fBr.ctr],Z0o⟩
theorem Zcb:J5 (vW (w2 w b c)) (Jcd w.params):=
 gA (gkF w b c).ctr (gC (J7m w b c) (gC (Zrq _) (gC (Jc8 w b c) (gC (J1f w b c) (gC (J7u w b c) (gC (Jcb w b c) (gN (Z01 _))))))))
abbrev Zhz(L:List He)(R:List Is)(s:Str)(t:Nat)(room:Int)(J:Obj)(I:Gd)(j a y m q:Ph):Prop:=∀W:Ph,((Dt.is (aF Is.ck (LW.insI (R.eraseIdx (Int.ofNat (Ju R (Is.mk (a.1.add 8) (LW.valN ((Zb L (Z0 s)).getD Zs).v+1-1) (a.2.add 4) (Z0 s) (Z6 j.rv)))).toNat) (Z4q (R.eraseIdx (Int.ofNat (Ju R (Is.mk (a.1.add 8) (LW.valN ((Zb L (Z0 s)).getD Zs).v+1-1) (a.2.add 4) (Z0 s) (Z6 j.rv)))).toNat) (Is.mk (m.1.add 8) (LW.valN ((Zb L (Z0 s)).getD Zs).v+1) (a.2.add 1) (Z0 s) (Z6 j.rv))) (Is.mk (m.1.add 8) (LW.valN ((Zb L (Z0 s)).getD Zs).v+1) (a.2.add 1) (Z0 s) (Z6 j.rv))))).ok/\(Dt.is (aF Is.ck (LW.sortI (Zp (q.w 2).g)))).ok)/\(Dt.is (aF Is.ck (LW.insI (R.eraseIdx (Int.ofNat (Ju R (Is.mk (a.1.add 8) (LW.valN ((Zb L (Z0 s)).getD Zs).v+1-1) (a.2.add 4) (Z0 s) (Z6 j.rv)))).toNat) (Z4q (R.eraseIdx (Int.ofNat (Ju R (Is.mk (a.1.add 8) (LW.valN ((Zb L (Z0 s)).getD Zs).v+1-1) (a.2.add 4) (Z0 s) (Z6 j.rv)))).toNat) (Is.mk (m.1.add 8) (LW.valN ((Zb L (Z0 s)).getD Zs).v+1) (a.2.add 1) (Z0 s) (Z6 j.rv))) (Is.mk (m.1.add 8) (LW.valN ((Zb L (Z0 s)).getD Zs).v+1) (a.2.add 1) (Z0 s) (Z6 j.rv))))=Dt.is (aF Is.ck (LW.sortI (Zp (q.w 2).g))))/\(True)/\(Zoz (Z1q L room s (Zg L (Z0 s)++[Zk s t (Zj (LW.valN ((Zb L (Z0 s)).getD Zs).v+1)) (Z6 y.rv) m]) (LW.insI (R.eraseIdx (Int.ofNat (Ju R (Is.mk (a.1.add 8) (LW.valN ((Zb L (Z0 s)).getD Zs).v+1-1) (a.2.add 4) (Z0 s) (Z6 j.rv)))).toNat) (Z4q (R.eraseIdx (Int.ofNat (Ju R (Is.mk (a.1.add 8) (LW.valN ((Zb L (Z0 s)).getD Zs).v+1-1) (a.2.add 4) (Z0 s) (Z6 j.rv)))).toNat) (Is.mk (m.1.add 8) (LW.valN ((Zb L (Z0 s)).getD Zs).v+1) (a.2.add 1) (Z0 s) (Z6 j.rv))) (Is.mk (m.1.add 8) (LW.valN ((Zb L (Z0 s)).getD Zs).v+1) (a.2.add 1) (Z0 s) (Z6 j.rv)))) (Z07 J I))
abbrev Zi0(L:List He)(R:List Is)(s:Str)(t:Nat)(room:Int)(J:Obj)(q:Gd)(y I a j:Ph):Prop:=∀W:Ph,(Z9i (Zg L (Z0 s)++[Zk s t (Zj (LW.valN ((Zb L (Z0 s)).getD Zs).v+1)) (Z6 a.rv) j]) [] 0/\0=0/\([]:List Is)=[])/\((Zg L (Z0 s)++[Zk s t (Zj (LW.valN ((Zb L (Z0 s)).getD Zs).v+1)) (Z6 a.rv) j]≠[]->∀m:Ph,(Zdu (Zg L (Z0 s)++[Zk s t (Zj (LW.valN ((Zb L (Z0 s)).getD Zs).v+1)) (Z6 a.rv) j]) [] 0 (Zp (m.w 2).g))->((Zp (m.w 2).g).length<=4)/\Zhz L R s t room J q y I a j m)/\(¬Zg L (Z0 s)++[Zk s t (Zj (LW.valN ((Zb L (Z0 s)).getD Zs).v+1)) (Z6 a.rv) j]=[])/\True)
abbrev Zi1(L:List He)(R:List Is)(s:Str)(t:Nat)(room:Int)(W:Obj)(y:Gd)(I J a m q:Ph):Prop:=∀j:Ph,((J3 (q.w 2).g).length<=4)/\∀X:Ph,((Dt.hs (aF He.kv (Zg L (Z0 s)++[Zk s t (Zj (LW.valN ((Zb L (Z0 s)).getD Zs).v+1)) (Z6 a.rv) m]))).ok/\(Dt.hs (aF He.kv (J3 (q.w 2).g++[He.mk (j.1.add 8) s t (Zj (LW.valN ((Zb L (Z0 s)).getD Zs).v+1)) (Z6 j.rv)]))).ok)/\(Dt.hs (aF He.kv (Zg L (Z0 s)++[Zk s t (Zj (LW.valN ((Zb L (Z0 s)).getD Zs).v+1)) (Z6 a.rv) m]))=Dt.hs (aF He.kv (J3 (q.w 2).g++[He.mk (j.1.add 8) s t (Zj (LW.valN ((Zb L (Z0 s)).getD Zs).v+1)) (Z6 j.rv)])))/\((Zg L (Z0 s)++[Zk s t (Zj (LW.valN ((Zb L (Z0 s)).getD Zs).v+1)) (Z6 a.rv) m]).length<=5)/\Zi0 L R s t room W y I J a m
abbrev Zi2(L:List He)(R:List Is)(s:Str)(t:Nat)(room:Int)(J:Obj)(q:Gd)(y I a j:Ph):Prop:=∀X:Ph,(Z8e L [] 0 s (Z0 s)/\0=0/\([]:List He)=[])/\((L≠[]->∀m:Ph,(Z57 L [] 0 s (Z0 s) (J3 (m.w 2).g))->((Zg L (Z0 s)++[Zk s t (Zj (LW.valN ((Zb L (Z0 s)).getD Zs).v+1)) (Z6 a.rv) j]).length<=5)/\∀W:Ph,(0<=LW.valN ((Zb L (Z0 s)).getD Zs).v+1/\LW.valN ((Zb L (Z0 s)).getD Zs).v+1<=12)/\Zi1 L R s t room J q y I a j m)/\(¬L=[])/\True)
abbrev Zi3(L:List He)(R:List Is)(s:Str)(t:Nat)(room:Int)(I:Obj)(y:Gd)(j a:Ph):Prop:=∀J:Ph,(0<=LW.valN ((Zb L (Z0 s)).getD Zs).v+1/\LW.valN ((Zb L (Z0 s)).getD Zs).v+1<=12)/\∀m:Ph,(Z15 L s (Zj (LW.valN ((Zb L (Z0 s)).getD Zs).v+1)))/\∀q:Ph,((R.eraseIdx (Int.ofNat (Ju R (Is.mk (a.1.add 8) (LW.valN ((Zb L (Z0 s)).getD Zs).v+1-1) (a.2.add 4) (Z0 s) (Z6 j.rv)))).toNat).length<=3)/\Zi2 L R s t room I y j a m q
abbrev Zi4(L:List He)(R:List Is)(s:Str)(t:Nat)(room:Int)(q:Obj)(m:Gd)(j:Ph):Prop:=∀I:Ph,((Dt.hs (aF He.kv L)).ok/\(Dt.hs (aF He.kv L)).ok)/\(¬Dt.hs (aF He.kv L)≠Dt.hs (aF He.kv L))/\(((Zb L (Z0 s)).getD Zs).v∈Yh)/\∀a:Ph,(R.length<=4)/\∀y:Ph,(0<=Int.ofNat (Ju R (Is.mk (a.1.add 8) (LW.valN ((Zb L (Z0 s)).getD Zs).v+1-1) (a.2.add 4) (Z0 s) (Z6 j.rv)))/\Int.ofNat (Ju R (Is.mk (a.1.add 8) (LW.valN ((Zb L (Z0 s)).getD Zs).v+1-1) (a.2.add 4) (Z0 s) (Z6 j.rv)))< ↑R.length/\R.length<=4)/\Zi3 L R s t room q m j a
abbrev Zi5(L:List He)(R:List Is)(s:Str)(t:Nat)(room:Int)(J:Obj)(I:Gd)(m q y a:Ph):Prop:=∀W:Ph,(Z9i (L++[Zk s t (Zj 1) (Z6 q.rv) y]) [] 0/\0=0/\([]:List Is)=[])/\((L++[Zk s t (Zj 1) (Z6 q.rv) y]≠[]->∀j:Ph,(Zdu (L++[Zk s t (Zj 1) (Z6 q.rv) y]) [] 0 (Zp (j.w 2).g))->((Zp (j.w 2).g).length<=4)/\∀X:Ph,((Dt.is (aF Is.ck (LW.insI R (Ju R (Is.mk (a.1.add 8) 1 m.2 (Z0 s) (Z6 a.rv))) (Is.mk (a.1.add 8) 1 m.2 (Z0 s) (Z6 a.rv))))).ok/\(Dt.is (aF Is.ck (LW.sortI (Zp (j.w 2).g)))).ok)/\(Dt.is (aF Is.ck (LW.insI R (Ju R (Is.mk (a.1.add 8) 1 m.2 (Z0 s) (Z6 a.rv))) (Is.mk (a.1.add 8) 1 m.2 (Z0 s) (Z6 a.rv))))=Dt.is (aF Is.ck (LW.sortI (Zp (j.w 2).g))))/\(True)/\(Zoz (Z1q L room s (L++[Zk s t (Zj 1) (Z6 q.rv) y]) (LW.insI R (Ju R (Is.mk (a.1.add 8) 1 m.2 (Z0 s) (Z6 a.rv))) (Is.mk (a.1.add 8) 1 m.2 (Z0 s) (Z6 a.rv)))) (Z07 J I)))/\(¬L++[Zk s t (Zj 1) (Z6 q.rv) y]=[])/\True)
abbrev Zi6(L:List He)(R:List Is)(s:Str)(t:Nat)(room:Int)(W:Obj)(y:Gd)(I m q J j:Ph):Prop:=∀a:Ph,((J3 (j.w 2).g).length<=4)/\∀X:Ph,((Dt.hs (aF He.kv (L++[Zk s t (Zj 1) (Z6 m.rv) q]))).ok/\(Dt.hs (aF He.kv (J3 (j.w 2).g++[He.mk (a.1.add 8) s t (Zj 1) (Z6 a.rv)]))).ok)/\(Dt.hs (aF He.kv (L++[Zk s t (Zj 1) (Z6 m.rv) q]))=Dt.hs (aF He.kv (J3 (j.w 2).g++[He.mk (a.1.add 8) s t (Zj 1) (Z6 a.rv)])))/\((L++[Zk s t (Zj 1) (Z6 m.rv) q]).length<=5)/\Zi5 L R s t room W y I m q J
abbrev Zi7(L:List He)(R:List Is)(s:Str)(t:Nat)(room:Int)(Y:Obj)(X:Gd)(q j:Ph):Prop:=∀m:Ph,((0:Int)<=1/\(1:Int)<=12)/\∀U7:Ph,(s∈Z9++Zh)/\∀a:Ph,(R.length<=3)/\∀U9:Ph,(Z8e L [] 0 s (Z0 s)/\0=0/\([]:List He)=[])/\((L≠[]->∀W:Ph,(Z57 L [] 0 s (Z0 s) (J3 (W.w 2).g))->((L++[Zk s t (Zj 1) (Z6 j.rv) m]).length<=5)/\∀U11:Ph,((0:Int)<=1/\(1:Int)<=12)/\Zi6 L R s t room Y X q j m a W)/\((L=[]->∀I:Ph,(Z57 L [] 0 s (Z0 s) (J3 (I.w 2).g))->((L++[Zk s t (Zj 1) (Z6 j.rv) m]).length<=5)/\∀U18:Ph,((0:Int)<=1/\(1:Int)<=12)/\∀y:Ph,((J3 (I.w 2).g).length<=4)/\∀U20:Ph,((Dt.hs (aF He.kv (L++[Zk s t (Zj 1) (Z6 j.rv) m]))).ok/\(Dt.hs (aF He.kv (J3 (I.w 2).g++[He.mk (y.1.add 8) s t (Zj 1) (Z6 y.rv)]))).ok)/\(Dt.hs (aF He.kv (L++[Zk s t (Zj 1) (Z6 j.rv) m]))=Dt.hs (aF He.kv (J3 (I.w 2).g++[He.mk (y.1.add 8) s t (Zj 1) (Z6 y.rv)])))/\((L++[Zk s t (Zj 1) (Z6 j.rv) m]).length<=5)/\∀Z:Ph,(Z9i (L++[Zk s t (Zj 1) (Z6 j.rv) m]) [] 0/\0=0/\([]:List Is)=[])/\((L++[Zk s t (Zj 1) (Z6 j.rv) m]≠[]->∀J:Ph,(Zdu (L++[Zk s t (Zj 1) (Z6 j.rv) m]) [] 0 (Zp (J.w 2).g))->((Zp (J.w 2).g).length<=4)/\∀U23:Ph,((Dt.is (aF Is.ck (LW.insI R (Ju R (Is.mk (a.1.add 8) 1 q.2 (Z0 s) (Z6 a.rv))) (Is.mk (a.1.add 8) 1 q.2 (Z0 s) (Z6 a.rv))))).ok/\(Dt.is (aF Is.ck (LW.sortI (Zp (J.w 2).g)))).ok)/\(Dt.is (aF Is.ck (LW.insI R (Ju R (Is.mk (a.1.add 8) 1 q.2 (Z0 s) (Z6 a.rv))) (Is.mk (a.1.add 8) 1 q.2 (Z0 s) (Z6 a.rv))))=Dt.is (aF Is.ck (LW.sortI (Zp (J.w 2).g))))/\(True)/\(Zoz (Z1q L room s (L++[Zk s t (Zj 1) (Z6 j.rv) m]) (LW.insI R (Ju R (Is.mk (a.1.add 8) 1 q.2 (Z0 s) (Z6 a.rv))) (Is.mk (a.1.add 8) 1 q.2 (Z0 s) (Z6 a.rv)))) (Z07 Y X)))/\(¬L++[Zk s t (Zj 1) (Z6 j.rv) m]=[])/\True))/\True))
abbrev Zen(w:World)(c:Bool)(L:List He)(a:Is)(R:List Is)(s:Str)(t:Nat)(room:Int)(ch:Int)(Y:Nat):Prop:=(L.length<=5)/\∀U1:Ph,(s∈Z9++Zh/\Z0 s∈Z9/\Jp L)/\(¬Zb L (Z0 s)≠none)/\((Zb L (Z0 s)=none->∀U2:Ph,(s∈Z9++Zh)/\∀U3:Ph,((aF Is.ref (a::R)).length<=5/\Zy (Gd.is (a::R))=true)/\∀W:Ph,(Int.ofNat (aF Is.ref (a::R)).length=room)/\(2<=(a::R).length/\(a::R).length<=4)/\∀X:Ph,(Z99 Operator.Mod (Value.int ch Y) (Value.int (Int.ofNat (Jv (a::R) (a.c+1-1))) (Z6 X.rv)))/\(0<=ch.fmod (Int.ofNat (Jv (a::R) (a.c+1-1)))/\ch.fmod (Int.ofNat (Jv (a::R) (a.c+1-1)))< ↑(a::R).length/\(a::R).length<=4)/\∀U6:Ph,(((a::R).getD (ch.fmod (Int.ofNat (Jv (a::R) (a.c+1-1)))).toNat Zo).k∈Z9)/\∀U7:Ph,(J9 ((a::R).getD (ch.fmod (Int.ofNat (Jv (a::R) (a.c+1-1)))).toNat Zo).k∈Z9++Zh/\Z0 (J9 ((a::R).getD (ch.fmod (Int.ofNat (Jv (a::R) (a.c+1-1)))).toNat Zo).k)∈Z9/\Jp L)/\∀U8:Ph,(0<=a.c+1/\a.c+1<=12)/\∀q:Ph,(Z15 (Zg L (Z0 (J9 ((a::R).getD (ch.fmod (Int.ofNat (Jv (a::R) (a.c+1-1)))).toNat Zo).k))) s (Zj (a.c+1)))/\(¬Z1u (Zg L (Z0 (J9 ((a::R).getD (ch.fmod (Int.ofNat (Jv (a::R) (a.c+1-1)))).toNat Zo).k))) s 1)/\((Z1u (Zg L (Z0 (J9 ((a::R).getD (ch.fmod (Int.ofNat (Jv (a::R) (a.c+1-1)))).toNat Zo).k))) s 0->∀m:Ph,(0<=a.c+1/\a.c+1<=12)/\∀U11:Ph,(¬Zj (a.c+1)≠Zj (a.c+1))/\(s∈Z9++Zh)/\∀j:Ph,(((a::R).eraseIdx (ch.fmod (Int.ofNat (Jv (a::R) (a.c+1-1)))).toNat).length<=3)/\∀U13:Ph,(Z8e L [] 0 s ((a::R).getD (ch.fmod (Int.ofNat (Jv (a::R) (a.c+1-1)))).toNat Zo).k/\0=0/\([]:List He)=[])/\((L≠[]->∀J:Ph,(Z57 L [] 0 s ((a::R).getD (ch.fmod (Int.ofNat (Jv (a::R) (a.c+1-1)))).toNat Zo).k (J3 (J.w 2).g))->((Zg L (Z0 (J9 ((a::R).getD (ch.fmod (Int.ofNat (Jv (a::R) (a.c+1-1)))).toNat Zo).k))++[Zk s t (Zj (a.c+1)) (Z6 q.rv) m]).length<=5)/\∀Z:Ph,(0<=a.c+1/\a.c+1<=12)/\∀y:Ph,((J3 (J.w 2).g).length<=4)/\∀U17:Ph,((Dt.hs (aF He.kv (Zg L (Z0 (J9 ((a::R).getD (ch.fmod (Int.ofNat (Jv (a::R) (a.c+1-1)))).toNat Zo).k))++[Zk s t (Zj (a.c+1)) (Z6 q.rv) m]))).ok/\(Dt.hs (aF He.kv (J3 (J.w 2).g++[He.mk (y.1.add 8) s t (Zj (a.c+1)) (Z6 y.rv)]))).ok)/\(Dt.hs (aF He.kv (Zg L (Z0 (J9 ((a::R).getD (ch.fmod (Int.ofNat (Jv (a::R) (a.c+1-1)))).toNat Zo).k))++[Zk s t (Zj (a.c+1)) (Z6 q.rv) m]))=Dt.hs (aF He.kv (J3 (J.w 2).g++[He.mk (y.1.add 8) s t (Zj (a.c+1)) (Z6 y.rv)])))/\((Zg L (Z0 (J9 ((a::R).getD (ch.fmod (Int.ofNat (Jv (a::R) (a.c+1-1)))).toNat Zo).k))++[Zk s t (Zj (a.c+1)) (Z6 q.rv) m]).length<=5)/\∀U18:Ph,(Z9i (Zg L (Z0 (J9 ((a::R).getD (ch.fmod (Int.ofNat (Jv (a::R) (a.c+1-1)))).toNat Zo).k))++[Zk s t (Zj (a.c+1)) (Z6 q.rv) m]) [] 0/\0=0/\([]:List Is)=[])/\((Zg L (Z0 (J9 ((a::R).getD (ch.fmod (Int.ofNat (Jv (a::R) (a.c+1-1)))).toNat Zo).k))++[Zk s t (Zj (a.c+1)) (Z6 q.rv) m]≠[]->∀I:Ph,(Zdu (Zg L (Z0 (J9 ((a::R).getD (ch.fmod (Int.ofNat (Jv (a::R) (a.c+1-1)))).toNat Zo).k))++[Zk s t (Zj (a.c+1)) (Z6 q.rv) m]) [] 0 (Zp (I.w 2).g))->((Zp (I.w 2).g).length<=4)/\∀U20:Ph,((Dt.is (aF Is.ck (LW.insI ((a::R).eraseIdx (ch.fmod (Int.ofNat (Jv (a::R) (a.c+1-1)))).toNat) (Ju ((a::R).eraseIdx (ch.fmod (Int.ofNat (Jv (a::R) (a.c+1-1)))).toNat) (Is.mk (j.1.add 8) (a.c+1) (W.2.add 3) (Z0 s) (Z6 j.rv))) (Is.mk (j.1.add 8) (a.c+1) (W.2.add 3) (Z0 s) (Z6 j.rv))))).ok/\(Dt.is (aF Is.ck (LW.sortI (Zp (I.w 2).g)))).ok)/\(Dt.is (aF Is.ck (LW.insI ((a::R).eraseIdx (ch.fmod (Int.ofNat (Jv (a::R) (a.c+1-1)))).toNat) (Ju ((a::R).eraseIdx (ch.fmod (Int.ofNat (Jv (a::R) (a.c+1-1)))).toNat) (Is.mk (j.1.add 8) (a.c+1) (W.2.add 3) (Z0 s) (Z6 j.rv))) (Is.mk (j.1.add 8) (a.c+1) (W.2.add 3) (Z0 s) (Z6 j.rv))))=Dt.is (aF Is.ck (LW.sortI (Zp (I.w 2).g))))/\(True)/\(Z1q L room s (Zg L (Z0 (J9 ((a::R).getD (ch.fmod (Int.ofNat (Jv (a::R) (a.c+1-1)))).toNat Zo).k))++[Zk s t (Zj (a.c+1)) (Z6 q.rv) m]) (LW.insI ((a::R).eraseIdx (ch.fmod (Int.ofNat (Jv (a::R) (a.c+1-1)))).toNat) (Ju ((a::R).eraseIdx (ch.fmod (Int.ofNat (Jv (a::R) (a.c+1-1)))).toNat) (Is.mk (j.1.add 8) (a.c+1) (W.2.add 3) (Z0 s) (Z6 j.rv))) (Is.mk (j.1.add 8) (a.c+1) (W.2.add 3) (Z0 s) (Z6 j.rv)))))/\(¬Zg L (Z0 (J9 ((a::R).getD (ch.fmod (Int.ofNat (Jv (a::R) (a.c+1-1)))).toNat Zo).k))++[Zk s t (Zj (a.c+1)) (Z6 q.rv) m]=[])/\True))/\(¬L=[])/\True))/\True))/\True)
theorem Zeo(w:World)(c:Bool)(L:List He)(j:Is)(R:List Is)(s:Str)(t:Nat)(room ch:Int)(ct:Nat)(Y:OkM L (j::R))(hs:s∈Jy)(h11:∀e∈L,valN e.v<=11)(hr0:2<=room)(hr4:room<=4)(hr:(L.length:Int)<=room)(hq:Zb L (Z0 s)=none)(Z:(L.length:Int)=room):Zen w c L j R s t room ch ct:=by
  have h4:L.length<=4:=(Zm [_] [_] [.z Zr Jb,Za9] (.n Zr Z4g) rfl (cG Z) hr4);have hl:=Y.row.len;haveI I:=Zw _ hs;haveI n1:=I.1;haveI n2:=I.2.1;haveI n3:=I.2.2.1;haveI n4:=I.2.2.2.1;haveI n5:=I.2.2.2.2.1;haveI n6:=I.2.2.2.2.2.1;haveI n7:=I.2.2.2.2.2.2.1;haveI n8:=I.2.2.2.2.2.2.2.1;haveI n9:=I.2.2.2.2.2.2.2.2.1;haveI n10:=I.2.2.2.2.2.2.2.2.2;have sg:s∈Z9++Zh:=aG.mpr (.inl n1);have hk:=Y.hn.ok h4;have hne:L≠[]:=fun z=>by rw[z] at Z;simp at Z;lia
  obtain⟨b1,b2,b3,b4,b5,b6⟩:=J1o (ch:=ch) Y rfl hr0 hr4 Z;have l2:2<=(j::R).length/\(j::R).length<=4:=by lia
  have c11:j.c<=11:=by
   cases L with
   |nil=>exact absurd rfl hne
   |cons x L=>exact cJ (b6 x (.head _)) (h11 x (.head _))
  obtain⟨k1,k2,k3,k4,k5,k6,_⟩:=Zhy Y hs hr0 hr4 Z hq b3 b5 b6 c11 (y:=⟨0,j.c+1,0,Z0 s,0⟩) rfl (e:=⟨0,s,0,Zj (j.c+1),0⟩) rfl rfl;have key:∀(U9 X W:Ph) (t4:Nat),Z1q L room s (Zg L ((j::R).getD (ch.fmod (Int.ofNat (Jv (j::R) (j.c+1-1)))).toNat Zo).k++[Zk s t (Zj (j.c+1)) (Z6 U9.rv) X]) (insI ((j::R).eraseIdx (ch.fmod (Int.ofNat (Jv (j::R) (j.c+1-1)))).toNat) (Ju ((j::R).eraseIdx (ch.fmod (Int.ofNat (Jv (j::R) (j.c+1-1)))).toNat) (Is.mk (W.1.add 8) (j.c+1) t4 (Z0 s) (Z6 W.rv))) (Is.mk (W.1.add 8) (j.c+1) t4 (Z0 s) (Z6 W.rv))):=fun U9 X W t4=>(Zhy Y hs hr0 hr4 Z hq b3 b5 b6 c11 rfl rfl rfl).2.2.2.2.2.2;haveI m:=Zw _ k1;haveI m1:=m.1;haveI m2:=m.2.1;haveI m3:=m.2.2.1;haveI m4:=m.2.2.2.1;haveI m5:=m.2.2.2.2.1;haveI m6:=m.2.2.2.2.2.1;haveI m7:=m.2.2.2.2.2.2.1;haveI m8:=m.2.2.2.2.2.2.2.1;haveI m9:=m.2.2.2.2.2.2.2.2.1;haveI m10:=m.2.2.2.2.2.2.2.2.2;have nf:=Yq (j.c+1) (by lia) (by lia);have nr:(0:Int)<=j.c+1/\j.c+1<=12:=⟨by lia,by lia⟩;haveI eG:Z0 (J9 ((j::R).getD (ch.fmod (Int.ofNat (Jv (j::R) (j.c+1-1)))).toNat Zo).k)=((j::R).getD (ch.fmod (Int.ofNat (Jv (j::R) (j.c+1-1)))).toNat Zo).k:=m5.trans k2;unfold Zen;rw[eG];rw[k2] at m2;haveI hk1:=(Y.hn.del ((j::R).getD (ch.fmod (Int.ofNat (Jv (j::R) (j.c+1-1)))).toNat Zo).k).ok (show(Zg L ((j::R).getD (ch.fmod (Int.ofNat (Jv (j::R) (j.c+1-1)))).toNat Zo).k).length<=4 by lia);haveI lk:Zb (Zg L ((j::R).getD (ch.fmod (Int.ofNat (Jv (j::R) (j.c+1-1)))).toNat Zo).k) (Z0 s)=none:=Z29.mpr k3;refine⟨(cX h4),fun U1=>⟨⟨sg,n2,hk⟩,fun z=>z hq,⟨fun q U2=>⟨sg,fun U3=>⟨⟨by rw[aE];exact Zm [] [_,_] [Yl, .n Yi Z4g] (.n Zr (.n 5)) rfl (aT hl) h4,rfl⟩,fun U4=>⟨by rw[aE,hl];exact Z,l2,fun U5=>⟨?_,⟨b2,b4,l2.2⟩,fun U6=>⟨m1,fun U7=>⟨⟨aG.mpr (.inl (Zw _ m4).1),m2,hk⟩,fun U8=>⟨nr,fun U9=>⟨⟨n1,n2,(Qw _ nf.1).1,hk1⟩,fun z=>z lk,⟨fun q X=>⟨nr,fun U11=>⟨fun z=>z rfl,sg,fun W=>⟨k4,fun U13=>⟨⟨Z8j Y.hn h4 hs,rfl,rfl⟩,⟨fun q U14 D=> ?_,⟨hne,trivial⟩⟩⟩⟩⟩⟩,trivial⟩⟩⟩⟩⟩⟩⟩⟩⟩,trivial⟩⟩⟩
  ·show Int.ofNat _≠0;intro z;have z':Jv (j::R) (j.c+1-1)=0:=mM z;lia
  ·have q4:=key U9 X W (U4.2.add 3);have eX:=Zs4 (Z29.mp hq) D;have ekv:(Zg L ((j::R).getD (ch.fmod (Int.ofNat (Jv (j::R) (j.c+1-1)))).toNat Zo).k++[Zk s t (Zj (j.c+1)) (Z6 U9.rv) X]).length<=4:=by simp only[aV,bA];exact dG k6
   have em:∀(a kt vt:Nat),(Zg L ((j::R).getD (ch.fmod (Int.ofNat (Jv (j::R) (j.c+1-1)))).toNat Zo).k++[Zk s t (Zj (j.c+1)) (Z6 U9.rv) X]).map He.kv=(J3 (U14.w 2).g++[He.mk a s kt (Zj (j.c+1)) vt]).map He.kv:=fun q q q=>by simp only[eX,bB,bB];rfl
   refine⟨(cX ekv),fun U15=>⟨nr,fun U16=>⟨by rw[eX];lia,fun U17=>⟨⟨Z45 q4.ok.hn,by rw[<-em];exact Z45 q4.ok.hn⟩,by rw[<-em],(cX ekv),fun U18=>⟨⟨Z7b q4.ok.hn ekv,rfl,rfl⟩,⟨fun q U19 D2=> ?_,⟨fun z=>by simp at z,trivial⟩⟩⟩⟩⟩⟩⟩;haveI J:=Z9n q4.ok ekv D2;haveI f1:=J.1;haveI f2:=J.2.1;haveI f3:=J.2.2;exact⟨f1,fun U20=>⟨f2,f3,trivial,q4⟩⟩
theorem J1p(i:Z46)(hi:Zs5 i):Yu (vW (w2 w b c)) true false (Zf 5) (Ze 5) (Zox i) (Zoy w.params i) 1 (fun q=>True) (fun q U=>Zoz (Z1q i.2 i.7.2 i.6 (J3 (U.w 2).g) (Zp (U.w 3).g)) (Z07 (U.w 4).o (U.w 4).g)) (fun q=>Zz7 w.params i):=by
 obtain⟨h,L,r,n,R,s,t,room,rt,ch,ct,tO,tG⟩:=i;obtain⟨J,hs,h11,hr0,hr4,hr,ht⟩:=hi;simp only at J hs h11 hr0 hr4 hr ht;refine Z7 fun k'=> ?_
 by_cases hq:Zb L (Z0 s)=none
 ·by_cases hf:(L.length:Int)=room
  ·obtain⟨o,rfl,rfl⟩:=ht
   match R,J with
   |[],J=>exact absurd J.row.len (by simp only[mV];lia)
   |e1::R,J=>
    have key:Yu (vW (w2 w b c)) true false (Zf 5) (Ze 5) (Zox ⟨h,L,r,n,e1::R,s,t,room,rt,ch,ct,(Z8l o).o,(Z8l o).g⟩) (Zoy w.params ⟨h,L,r,n,e1::R,s,t,room,rt,ch,ct,(Z8l o).o,(Z8l o).g⟩) 1 (fun q=>True) (fun q U=>Z1q L room s (J3 (U.w 2).g) (Zp (U.w 3).g)) (fun q=>J8c w.params ⟨h,L,r,n,e1::R,s,t,room,rt,ch,ct,(Z8l o).o,(Z8l o).g⟩):=by
     cases o with
     |none=>
      exact zD4 (Zcb w b c) (fun q=>5) (Z4 0x11061e3000 (.two (Z4 0x110011fa2ec011f0ff000ef11fc9e011fa2e0ef0de10f010f3d0ffdd0d1e12f18f20116bf13f00012f27f00dedee0d0185ce (.two (Z4 0x11011f012f048e10fd2e0ef000ef00ef11f00014f13f0210ff10f10f0411f10f00 (.two (Z4 0x118ee63e20f01af19f0de19f00019f00019f18f0018f73e15f0014f15f016f84e20f016f15f0de15f00015f0084e11114f14f (.two (Z4 0x1021f020f80e0c6e20fbee .nil) (Y9 .nil))) (Y9 .nil))) .nil)) .nil)) (fun q q=>by kernel_rfl) (Zeo w c L e1 R s t room ch ct J hs h11 hr0 hr4 hr hq hf)
     |some cd=>
      exact zD4 (Zcb w b c) (fun q=>5) (Z4 0x11061e3000 (.two (Z4 0x1100b0a09c011f9008ba0dea000a00bdeb0a090ef0dea0a379770d1ec18f20d000c27f00ded0185ce (.two (Z4 0x110b0c048ead2e800808b0000ef13f0219aa0411fa00 (.two (Z4 0x118ee014f013f012f20f014f13f0de13f00013f00013f12f0012f73e0ff000ef0ffa2e00ef20f01ce00ef1110ef0ef (.two (Z4 0x101bf63e017f0c6e1afbee .nil) (Y9 .nil))) (Y9 .nil))) .nil)) .nil)) (fun q q=>by kernel_rfl) (Zeo w c L e1 R s t room ch ct J hs h11 hr0 hr4 hr hq hf)
    refine k' ?_;exact key.mono fun q q q=>⟨0,aX,trivial,fun U hD=>⟨{U with w:=fun j=>match j with|4=>Yt 297 331 69 Zc7 (Yn (U.w 4).g)|j=>U.w j},⟨hD,some (Yn (U.w 4).g),rfl,rfl⟩,rfl,rfl,rfl,rfl⟩⟩
  ·have h4:L.length<=4:=by lia
   have hl:=J.row.len;obtain⟨n1,n2,n3,n4,n5,n6,n7,n8,n9,n10⟩:=Zw _ hs;have sg:s∈Z9++Zh:=aG.mpr (.inl n1);have hk:=J.hn.ok h4;have hm:=Z29.mp hq;have nf:=Yq 1 (by lia) (by lia);have key:∀(m I W:Ph) (t3:Nat),R.length<=3/\Z1q L room s (L++[Zk s t (Zj 1) (Z6 m.rv) I]) (insI R (Ju R (Is.mk (W.1.add 8) 1 t3 (Z0 s) (Z6 W.rv))) (Is.mk (W.1.add 8) 1 t3 (Z0 s) (Z6 W.rv))):=fun m I W t3=>Zw6 J hs hr0 hr hr4 hf hq rfl rfl rfl;refine k' ?_;exact zD4 (Zcb w b c) (fun q=>5) (Z4 0x11061e3000 (.two (Z4 0x110bde8c011f800757e480ba800ede (.two (Z4 0x110a0b048e9d2e700707a000d13f0218990111f900 (.two (Z4 0x112ce11dd (.two (Z4 0x163e017f016f0c6e19fbee .nil) (Y9 .nil))) (J1 (.two (Z4 0x112cedd (.two (Z4 0x163e017f016f0c6e19fbee .nil) (Y9 .nil))) .nil)))) .nil)) .nil)) (p:=(L.length<=5)/\∀U1:Ph,(s∈Z9++Zh/\Z0 s∈Z9/\Jp L)/\(¬Zb L (Z0 s)≠none)/\((Zb L (Z0 s)=none->∀U2:Ph,(s∈Z9++Zh)/\∀U3:Ph,((aF Is.ref R).length<=5/\Zy (Gd.is R)=true)/\∀U4:Ph,(¬Int.ofNat (aF Is.ref R).length=room)/\((0:Int)<=1/\(1:Int)<=12)/\∀m:Ph,(Z15 L s (Zj 1))/\(¬Z1u L s 1)/\((Z1u L s 0->Zi7 L R s t room tO tG U3 m)/\True))/\True)) (fun q q=>by kernel_rfl) (by
     have fin:∀(m I W Z:Ph) (t3:Nat) (X:List He),X=L->(L++[Zk s t (Zj 1) (Z6 m.rv) I]).length<=4/\X.length<=4/\((Dt.hs (aF He.kv (L++[Zk s t (Zj 1) (Z6 m.rv) I]))).ok/\(Dt.hs (aF He.kv (X++[He.mk (Z.1.add 8) s t (Zj 1) (Z6 Z.rv)]))).ok)/\Dt.hs (aF He.kv (L++[Zk s t (Zj 1) (Z6 m.rv) I]))=Dt.hs (aF He.kv (X++[He.mk (Z.1.add 8) s t (Zj 1) (Z6 Z.rv)])):=fun m I W Z t3 X eX=>by
      have Y:=(key m I W t3).2;rw[eX];have em:(L++[Zk s t (Zj 1) (Z6 m.rv) I]).map He.kv=(L++[He.mk (Z.1.add 8) s t (Zj 1) (Z6 Z.rv)]).map He.kv:=by rw[bB,bB];rfl
      have l4:=Y.len;exact⟨by lia,by lia,⟨Z45 Y.ok.hn,by rw[<-em];exact Z45 Y.ok.hn⟩,by rw[em]⟩
     refine⟨by lia,fun U1=>⟨⟨sg,n2,hk⟩,fun z=>z hq,⟨fun q U2=>⟨sg,fun U3=>⟨⟨by rw[aE];lia,rfl⟩,fun U4=>⟨fun z=>hf (by rw[<-z,aE,hl];rfl),⟨by lia,by lia⟩,fun m=>⟨⟨n1,n2,(Qw _ nf.1).1,hk⟩,fun z=>z hq,⟨fun q I=>⟨⟨by lia,by lia⟩,fun U7=>⟨sg,fun W=>⟨(key m I W 0).1,fun U9=>⟨⟨Z8j J.hn h4 hs,rfl,rfl⟩,⟨fun q U10 D=> ?_,⟨fun q U17 D=> ?_,trivial⟩⟩⟩⟩⟩⟩,trivial⟩⟩⟩⟩⟩,trivial⟩⟩⟩
     ·have eX:J3 (U10.w 2).g=L:=by rw[Z8k D];exact Zat hm
      have Y:=(key m I W U3.2).2;obtain⟨g1,g2,g3,g4⟩:=fin m I W m 0 _ eX;refine⟨by lia,fun φA=>⟨⟨by lia,by lia⟩,fun φB=>⟨g2,fun φC=>⟨(fin m I W φB 0 _ eX).2.2.1,(fin m I W φB 0 _ eX).2.2.2,by lia,fun φD=>⟨⟨Z7b Y.ok.hn g1,rfl,rfl⟩,⟨fun q φE D2=> ?_,⟨fun z=>by simp at z,trivial⟩⟩⟩⟩⟩⟩⟩;obtain⟨f1,f2,f3⟩:=Z9n Y.ok g1 D2;exact⟨f1,fun φF=>⟨f2,f3,trivial,Y,ht⟩⟩
     ·have eX:J3 (U17.w 2).g=L:=by rw[Z8k D];exact Zat hm
      have Y:=(key m I W U3.2).2;obtain⟨g1,g2,g3,g4⟩:=fin m I W m 0 _ eX;refine⟨by lia,fun φA=>⟨⟨by lia,by lia⟩,fun φB=>⟨g2,fun φC=>⟨(fin m I W φB 0 _ eX).2.2.1,(fin m I W φB 0 _ eX).2.2.2,by lia,fun φD=>⟨⟨Z7b Y.ok.hn g1,rfl,rfl⟩,⟨fun q φE D2=> ?_,⟨fun z=>by simp at z,trivial⟩⟩⟩⟩⟩⟩⟩;obtain⟨f1,f2,f3⟩:=Z9n Y.ok g1 D2;exact⟨f1,fun φF=>⟨f2,f3,trivial,Y,ht⟩⟩)
 ·have h4:L.length<=4:=by lia
  have hl:=J.row.len;obtain⟨n1,n2,n3,n4,n5,n6,n7,n8,n9,n10⟩:=Zw _ hs;have sg:s∈Z9++Zh:=aG.mpr (.inl n1);have hk:=J.hn.ok h4;obtain⟨xm,xk⟩:=Zem hq;have x11:=h11 _ xm;have x1:=J.pos _ xm;have xf:=(J.hn _ xm).2;have nf:=Yq (valN ((Zb L (Z0 s)).getD Zs).v+1) (by lia) (by lia);have lz:∀t1 t2 t3:Nat,(Is.mk t1 (valN ((Zb L (Z0 s)).getD Zs).v+1-1) t2 (Z0 s) t3).ck=(valN ((Zb L (Z0 s)).getD Zs).v,Z0 s):=fun q q q=>by show(valN ((Zb L (Z0 s)).getD Zs).v+1-1,Z0 s)=_;rw[show valN ((Zb L (Z0 s)).getD Zs).v+1-1=valN ((Zb L (Z0 s)).getD Zs).v from by lia]
  have lu:Zb L (Z0 (J9 (Z0 s)))=Zb L (Z0 s):=by rw[n10]
  refine k' ?_;exact zD4 (Zcb w b c) (fun q=>5) (Z4 0x1161e3000 (.two (Z4 0x11bde8c032657eede (.two (Z4 0x110c0d048ebd2e900909c0000ff14f09bb00c0b0a0ff0deb0b9a11fa000ded18f000d24f0719900d0d0d0d0999110f9002005059bde820f057e48 (.two (Z4 0x118ee84e013f20f015f14f0de14f00014f00014f13f0013f73e10f000ff10f011fa2e20f011fc9e1110ff0ff (.two (Z4 0x1d0e63e0c6e1bfbee .nil) (Y9 .nil))) (Y9 .nil))) (Y9 .nil))) (Y9 .nil))) (p:=(L.length<=5)/\∀U1:Ph,(s∈Z9++Zh/\Z0 s∈Z9/\Jp L)/\((Zb L (Z0 s)≠none->∀U2:Ph,(s∈Z9++Zh)/\∀U3:Ph,(Z0 s∈Z9)/\∀U4:Ph,(Z15 L (J9 (Z0 s)) (aB "0"))/\((Z1u L (J9 (Z0 s)) 1->∀m:Ph,(¬((Zb L (Z0 (J9 (Z0 s)))).getD Zs).v≠((Zb L (Z0 s)).getD Zs).v)/\(L.length<=5)/\Zi4 L R s t room tO tG U3)/\(¬Z1u L (J9 (Z0 s)) 0)/\True))/\(¬Zb L (Z0 s)=none)/\True)) (fun q q=>by kernel_rfl) (by
    refine⟨by lia,fun U1=>⟨⟨sg,n2,hk⟩,⟨fun q U2=>⟨sg,fun U3=>⟨n2,fun U4=>⟨⟨(Zw _ n9).1,(Zw _ n9).2.1,(Qw _ (show aB "0"∈Yh by decide+kernel)).1,hk⟩,⟨fun q m=>⟨fun z=>z (by rw[lu]),by lia,fun I=>⟨⟨Z45 J.hn,Z45 J.hn⟩,fun z=>z rfl,xf,fun U7=>⟨by lia,fun W=> ?_⟩⟩⟩, ?_⟩⟩⟩⟩, ?_⟩⟩⟩
    ·obtain⟨q1,q2,q3⟩:=Zhx J hs h4 hr hq rfl x11 (lz (U7.1.add 8) (U7.2.add 4) (Z6 U3.rv)) (y:=⟨0,valN ((Zb L (Z0 s)).getD Zs).v+1,0,Z0 s,0⟩) rfl (e:=⟨0,s,0,Zj (valN ((Zb L (Z0 s)).getD Zs).v+1),0⟩) rfl rfl;refine⟨q1,fun U9=>⟨⟨by lia,by lia⟩,fun U10=>⟨⟨n1,n2,(Qw _ nf.1).1,hk⟩,fun U11=>⟨q2,fun Z=>⟨⟨Z8j J.hn h4 hs,rfl,rfl⟩,⟨fun q U13 D=> ?_, ?_⟩⟩⟩⟩⟩⟩
     ·obtain⟨_,_,Y⟩:=Zhx J hs h4 hr hq rfl x11 (lz (U7.1.add 8) (U7.2.add 4) (Z6 U3.rv)) (y:=Is.mk (U11.1.add 8) (valN ((Zb L (Z0 s)).getD Zs).v+1) (U7.2.add 1) (Z0 s) (Z6 U3.rv)) rfl (e:=Zk s t (Zj (valN ((Zb L (Z0 s)).getD Zs).v+1)) (Z6 U10.rv) U11) rfl rfl;have ekv:(Zg L (Z0 s)++[Zk s t (Zj (valN ((Zb L (Z0 s)).getD Zs).v+1)) (Z6 U10.rv) U11]).length<=4:=by have:=Y.len;lia
      have eX:=Z8k D;have em:∀(a kt vt:Nat),(Zg L (Z0 s)++[Zk s t (Zj (valN ((Zb L (Z0 s)).getD Zs).v+1)) (Z6 U10.rv) U11]).map He.kv=(J3 (U13.w 2).g++[He.mk a s kt (Zj (valN ((Zb L (Z0 s)).getD Zs).v+1)) vt]).map He.kv:=fun q q q=>by rw[eX,bB,bB];rfl
      refine⟨by lia,fun U14=>⟨⟨by lia,by lia⟩,fun U15=>⟨?_,fun U16=>⟨⟨Z45 Y.ok.hn, ?_⟩, ?_,by lia,fun U17=>⟨⟨Z7b Y.ok.hn ekv,rfl,rfl⟩,⟨fun q U18 D2=> ?_, ?_⟩⟩⟩⟩⟩⟩
      ·rw[eX];have:=Zh6 L (Z0 s);lia
      ·rw[<-em];exact Z45 Y.ok.hn
      ·rw[<-em]
      ·obtain⟨f1,f2,f3⟩:=Z9n Y.ok ekv D2;exact⟨f1,fun U19=>⟨f2,f3,trivial,Y,ht⟩⟩
      ·exact⟨fun z=>by simp at z,trivial⟩
     ·refine⟨fun z=> ?_,trivial⟩;rw[z] at xm;cases xm
    ·exact⟨fun z=>hq (by rw[<-lu];exact z),trivial⟩
    ·exact⟨hq,trivial⟩)
def Jce(P:Params):Zi Z46 where
 code:=Zox
 P:=Zoy P
 cond i:=some (Zs5 i)
 F i _ U:=Zz7 P i U
 k:=5
 ext c S:=match c with
  | .call _ ⟨[.ref _, .ref _, .str s t, .int room rt, .int ch ct],[]⟩=>(match S with
   |[s0,s1,s2,r,tb]=>(match Z1p [s0,s1,s2] with
    |some (h,L)=>(match r.g with
     | .is R=>some ⟨h,L,r.a,Z3 r.o,R,s,t,room,rt,ch,ct,tb.o,tb.g⟩
     |_=>none)
    |none=>none)
   |_=>none)
  |_=>none
 d:=Zf 5
 u:=Ze 5
 z:=true
 D:=some fun i y U=>Z1q i.2 i.7.2 i.6 (J3 (U.w 2).g) (Zp (U.w 3).g)/\Z07 (U.w 4).o (U.w 4).g
def J8d:Expr:=Zvp (Z6f (Z0d (Zru (Zho 2)) 0))
abbrev Z7c:=I7 Nat Nat Nat Nat Hd (List He) (I7 Nat Nat (List Is) Nat Str Nat (I5 Nat Nat Nat Nat Nat))
def Jcf(i:Z7c):Env:=Z0w J8d (st "_law_run.<locals>.") 304 i.3 i.4 [(st "spelled",i.7.4),(st "row",i.7.7.1),(st "many",i.7.7.2)]
noncomputable def rgO(a b c:Int):Obj:=⟨.type "range_iterator",none, .fields ⟨[.int a 0, .int b 0, .int c 0]⟩,⟨[]⟩⟩
def Jcg(P:Params)(i:Z7c)(n:Nat):List Sl:=Yc P i.5 i.6++[⟨i.7.1,lst (i.7.3.map Is.ref) n, .is i.7.3⟩,⟨i.7.4,J8 (.str i.7.5 i.7.6), .no⟩,⟨i.7.7.1,J8 (.ref i.7.1), .no⟩,⟨i.7.7.2,J8 (.ref i.5.a), .no⟩]
def J8e(P:Params)(i:Z7c):List Sl:=[⟨i.1,rgO 0 15 1, .no⟩,⟨i.2,lst [] i.7.7.4, .no⟩,⟨i.3,Qx i.7.7.5, .no⟩]++Jcg P i i.7.2
def Jch:List Str:=[st "door"]
def J8f(P:Params)(i:Z7c)(U:Ph):Result×List Sl:=(.ok .next,[⟨i.1,(U.w 0).o, .no⟩,⟨i.2,lst [] (Z3 (U.w 1).o), .no⟩,⟨i.3,Z2n Jch (U.w 2).o, .no⟩]++Yc P (hdN i.5 U 5) i.6++[⟨i.7.1,lst (i.7.3.map Is.ref) (Z3 (U.w 6).o), .is i.7.3⟩,⟨i.7.4,J8 (.str i.7.5 i.7.6), .no⟩,⟨i.7.7.1,J8 (.ref i.7.1), .no⟩,⟨i.7.7.2,J8 (.ref i.5.a), .no⟩])
def J8g(i:Z7c):Code:= .compStart J8d 0 (.ref i.1) (.ref i.2) (Jcf i)
def Zz8(i:Z7c):Prop:=HN i.6/\i.6.length<=4/\(∀e∈i.7.3,e.k∈Jy)/\i.7.3.length<=4/\i.7.5∈Zh
def Zz(L:List He)(R:List Is)(o:Str)(d:Int):Prop:=HN L/\L.length<=4/\(∀e∈R,e.k∈Jy)/\R.length<=4/\o∈Zh/\0<=d/\d<15
def Zp0(P:Params):Zi Zhc:={Zob P with cond:=fun i=>some (Zz i.2 i.5 i.6 i.7.2)}
theorem J1q:Za (vW (w2 w b c)) (Zp0 w.params).ctr:=
 (Zp0 w.params).ok (fun i a=>Zrm w b c i (a _ rfl))
def Jgg(P:Params):G:=⟨[(Zp0 P).ctr],Z0o⟩
theorem Zp1:J5 (vW (w2 w b c)) (Jgg w.params):=
 ⟨fun x a=>by simp only[aM.mp a];exact J1q w b c,Z01 _⟩
theorem J8h(i:Z7c)(hi:Zz8 i):J7 (vW (w2 w b c)) true true (Zf 7) (Ze 7) (J8g i) (J8e w.params i) (J8f w.params i):=by
 obtain⟨it,acc,d,f,h,L,r,n,R,cs,s,st,cr,cm,u0,u1,u2⟩:=i;obtain⟨h1,h2,h3,h4,h5⟩:=hi;cases c
 ·cases b
  ·exact zX (Zp1 w _ _) 10 (Z4 0x158e1010110 .nil) (p:=(Zz L R s 0)/\∀U1:Ph,∀U2:Ph,(Zz L R s (0+1))/\∀U3:Ph,∀U4:Ph,(Zz L R s (0+1+1))/\∀U5:Ph,∀U6:Ph,(Zz L R s (0+1+1+1))/\∀U7:Ph,∀U8:Ph,(Zz L R s (0+1+1+1+1))/\∀U9:Ph,∀U10:Ph,(Zz L R s (0+1+1+1+1+1))/\∀q:Ph,∀U12:Ph,(Zz L R s (0+1+1+1+1+1+1))/\∀U13:Ph,∀U14:Ph,(Zz L R s (0+1+1+1+1+1+1+1))/\∀U15:Ph,∀X:Ph,(Zz L R s (0+1+1+1+1+1+1+1+1))/\∀j:Ph,∀U18:Ph,(Zz L R s (0+1+1+1+1+1+1+1+1+1))/\∀U19:Ph,∀U20:Ph,(Zz L R s (0+1+1+1+1+1+1+1+1+1+1))/\∀W:Ph,∀I:Ph,(Zz L R s (0+1+1+1+1+1+1+1+1+1+1+1))/\∀Y:Ph,∀m:Ph,(Zz L R s (0+1+1+1+1+1+1+1+1+1+1+1+1))/\∀U25:Ph,∀Z:Ph,(Zz L R s (0+1+1+1+1+1+1+1+1+1+1+1+1+1))/\∀U27:Ph,∀J:Ph,(Zz L R s (0+1+1+1+1+1+1+1+1+1+1+1+1+1+1))/\∀U29:Ph,∀a:Ph,True) (fun y y y=>by kernel_rfl) (by(repeat' (first|assumption|exact trivial|refine And.intro ?_ ?_|intro _))<;>decide)
  ·exact zX (Zp1 w _ _) 10 (Z4 0x158e1010110 .nil) (p:=(Zz L R s 0)/\∀U1:Ph,∀U2:Ph,(Zz L R s (0+1))/\∀U3:Ph,∀U4:Ph,(Zz L R s (0+1+1))/\∀U5:Ph,∀U6:Ph,(Zz L R s (0+1+1+1))/\∀U7:Ph,∀U8:Ph,(Zz L R s (0+1+1+1+1))/\∀U9:Ph,∀U10:Ph,(Zz L R s (0+1+1+1+1+1))/\∀q:Ph,∀U12:Ph,(Zz L R s (0+1+1+1+1+1+1))/\∀U13:Ph,∀U14:Ph,(Zz L R s (0+1+1+1+1+1+1+1))/\∀U15:Ph,∀X:Ph,(Zz L R s (0+1+1+1+1+1+1+1+1))/\∀j:Ph,∀U18:Ph,(Zz L R s (0+1+1+1+1+1+1+1+1+1))/\∀U19:Ph,∀U20:Ph,(Zz L R s (0+1+1+1+1+1+1+1+1+1+1))/\∀W:Ph,∀I:Ph,(Zz L R s (0+1+1+1+1+1+1+1+1+1+1+1))/\∀Y:Ph,∀m:Ph,(Zz L R s (0+1+1+1+1+1+1+1+1+1+1+1+1))/\∀U25:Ph,∀Z:Ph,(Zz L R s (0+1+1+1+1+1+1+1+1+1+1+1+1+1))/\∀U27:Ph,∀J:Ph,(Zz L R s (0+1+1+1+1+1+1+1+1+1+1+1+1+1+1))/\∀U29:Ph,∀a:Ph,True) (fun y y y=>by kernel_rfl) (by(repeat' (first|assumption|exact trivial|refine And.intro ?_ ?_|intro _))<;>decide)
 ·exact zX (Zp1 w _ _) 10 (Z4 0x158e0 .nil) (p:=(Zz L R s 0)/\∀U1:Ph,∀U2:Ph,(Zz L R s (0+1))/\∀U3:Ph,∀U4:Ph,(Zz L R s (0+1+1))/\∀U5:Ph,∀U6:Ph,(Zz L R s (0+1+1+1))/\∀U7:Ph,∀U8:Ph,(Zz L R s (0+1+1+1+1))/\∀U9:Ph,∀U10:Ph,(Zz L R s (0+1+1+1+1+1))/\∀q:Ph,∀U12:Ph,(Zz L R s (0+1+1+1+1+1+1))/\∀U13:Ph,∀U14:Ph,(Zz L R s (0+1+1+1+1+1+1+1))/\∀U15:Ph,∀X:Ph,(Zz L R s (0+1+1+1+1+1+1+1+1))/\∀j:Ph,∀U18:Ph,(Zz L R s (0+1+1+1+1+1+1+1+1+1))/\∀U19:Ph,∀U20:Ph,(Zz L R s (0+1+1+1+1+1+1+1+1+1+1))/\∀W:Ph,∀I:Ph,(Zz L R s (0+1+1+1+1+1+1+1+1+1+1+1))/\∀Y:Ph,∀m:Ph,(Zz L R s (0+1+1+1+1+1+1+1+1+1+1+1+1))/\∀U25:Ph,∀Z:Ph,(Zz L R s (0+1+1+1+1+1+1+1+1+1+1+1+1+1))/\∀U27:Ph,∀J:Ph,(Zz L R s (0+1+1+1+1+1+1+1+1+1+1+1+1+1+1))/\∀U29:Ph,∀a:Ph,True) (fun y y y=>by kernel_rfl) (by(repeat' (first|assumption|exact trivial|refine And.intro ?_ ?_|intro _))<;>decide)
def Jgh(P:Params):Zi Z7c where
 code:=J8g
 P:=J8e P
 cond i:=some (Zz8 i)
 F i _ U:=J8f P i U
 k:=10
 ext c S:=match c with
  | .compStart _ _ _ _ env=>(match env.frame with
   |some f=>(match S with
    |[it,acc,d,s0,s1,s2,r,cs,cr,cm]=>(match Z1p [s0,s1,s2] with
     |some (h,L)=>(match r.g with
      | .is R=>some ⟨it.a,acc.a,d.a,f,h,L,r.a,Z3 r.o,R,cs.a,(Jf cs.o).1,(Jf cs.o).2,cr.a,cm.a,0,Z3 acc.o,Z3 d.o⟩
      |_=>none)
     |none=>none)
    |_=>none)
   |none=>none)
  |_=>none
 d:=Zf 7
 u:=Ze 7
 z:=true
 xf:=true
noncomputable def Qj(vs:List Value):Obj:=⟨.type "tuple",none, .seq ⟨vs⟩ 0,⟨[]⟩⟩
abbrev TgI:=I4 Nat (List Value) Int Nat
noncomputable def cTg(i:TgI):Code:= .call (.builtin "tuple.__getitem__") ⟨[.ref i.1, .int i.3 i.4],[]⟩
def pTg(i:TgI):List Sl:=[⟨i.1,Qj i.2, .no⟩]
def rTg(i:TgI)(k:Nat)(_:Ph):Result×List Sl:=(.ok (.ret (i.2.getD k .none)),pTg i)
abbrev SgI:=I4 Str Nat Int Nat
noncomputable def cSg(i:SgI):Code:= .call (.builtin "str.__getitem__") ⟨[.str i.1 i.2, .int i.3 i.4],[]⟩
noncomputable def chS(s:Str)(k:Nat):Str:=⟨⟨[s.cps.toList.getD k 0]⟩⟩
def rSg(i:SgI)(k:Nat)(U:Ph):Result×List Sl:=(.ok (.ret (.str (chS i.1 k) (Z6 U.rv))),[])
def Zi8:Str:=st "\x7f\x1f\t\r\x0b\x01"
def Z5w:Str:=st "abcdef"
theorem Zz9 {x:Int}{n:Nat}(j:0<=x)(a:x<n):∃k:Nat,k<n/\x=(k:Int):=⟨x.toNat,by omega,by omega⟩
theorem Jci(w:World)(i:TgI)(hl:i.2.length=5\/i.2.length=6)(q:0<=i.3)(j:i.3<i.2.length):Qi (vW w) false false (Zf 0) (Ze 0) (cTg i) (pTg i) 6 (fun k=>i.3=(k:Int)) (rTg i):=by
 obtain⟨a,vs,x,m⟩:=i;simp only at hl q j;obtain⟨k,J,rfl⟩:=Zz9 q j;have I:J7 (vW w) false false (Zf 0) (Ze 0) (cTg ⟨a,vs,(k:Int),m⟩) (pTg ⟨a,vs,(k:Int),m⟩) (rTg ⟨a,vs,(k:Int),m⟩ k):=by
  refine Jk Ym (n:=100000) (k:=1) (hs:=Z4 0x148e10 .nil) fun N T W y=> ?_;clear q j;rcases hl with hl|hl
  all_goals
   rw[hl] at J;obtain⟨v,rfl⟩:=Z4o Value.none hl;clear hl
   revert k
   exact J6 (P:=fun y=>True) (by kernel_rfl) (fun y y=>trivial)
 exact I.mono fun y y y=>⟨k,by rcases hl with hl|hl<;>lia,rfl,fun U=>⟨U,rfl,rfl,rfl,rfl⟩⟩
def fTg:Zi TgI where
 code:=cTg
 P:=pTg
 cond i:=some ((i.2.length=5\/i.2.length=6)/\0<=i.3/\i.3<i.2.length)
 na:=6
 C i k:=i.3=(k:Int)
 F i k U:=rTg i k U
 k:=1
 ext c S:=match c with
  | .call _ ⟨[.ref _, .int x xt],[]⟩=>(match S with
   |[s]=>some ⟨s.a,Z1 s.o,x,xt⟩
   |_=>none)
  |_=>none
 d:=Zf 0
 u:=Ze 0
theorem Jcj(w:World):Za (vW w) fTg.ctr:=
 fTg.ok (fun i a=>Jci w i (a _ rfl).1 (a _ rfl).2.1 (a _ rfl).2.2)
theorem Zza(w:World)(i:SgI)(m:i.1=Zi8\/i.1=Z5w)(j:0<=i.3)(a:i.3<6):Qi (vW w) false false (Zf 0) (Ze 0) (cSg i) [] 6 (fun k=>i.3=(k:Int)) (rSg i):=by
 obtain⟨s,t,x,q⟩:=i;simp only at m j a;obtain⟨k,J,rfl⟩:=Zz9 (n:=6) j a;have I:J7 (vW w) false false (Zf 0) (Ze 0) (cSg ⟨s,t,(k:Int),q⟩) [] (rSg ⟨s,t,(k:Int),q⟩ k):=by
  refine Jk Ym (n:=100000) (k:=0) (hs:=Zbo .nil) fun N T W y=> ?_;clear j a;rcases m with rfl|rfl
  all_goals
   revert k
   exact J6 (P:=fun y=>True) (by kernel_rfl) (fun y y=>trivial)
 exact I.mono fun y y y=>⟨k,J,rfl,fun U=>⟨U,rfl,rfl,rfl,rfl⟩⟩
def fSg:Zi SgI where
 code:=cSg
 P _:=[]
 cond i:=some ((i.1=Zi8\/i.1=Z5w)/\0<=i.3/\i.3<6)
 na:=6
 C i k:=i.3=(k:Int)
 F i k U:=rSg i k U
 k:=0
 ext c _:=match c with
  | .call _ ⟨[.str s t, .int x xt],[]⟩=>some ⟨s,t,x,xt⟩
  |_=>none
 d:=Zf 0
 u:=Ze 0
theorem Jck(w:World):Za (vW w) fSg.ctr:=
 fSg.ok (fun i a=>Zza w i (a _ rfl).1 (a _ rfl).2.1 (a _ rfl).2.2)
def Zw7:Zi SgI where
 code:=cSg
 P _:=[]
 cond i:=some ((i.1=Zi8\/i.1=Z5w)/\0<=i.3/\i.3<6)
 F i _ U:=rSg i i.3.toNat U
 k:=0
 ext c _:=match c with
  | .call _ ⟨[.str s t, .int x xt],[]⟩=>some ⟨s,t,x,xt⟩
  |_=>none
 d:=Zf 0
 u:=Ze 0
theorem J8i(w:World):Za (vW w) Zw7.ctr:=
 Zw7.ok (fun i a=>(Zza w i (a _ rfl).1 (a _ rfl).2.1 (a _ rfl).2.2).one fun k (h:i.3=(k:Int))=>by lia)
def Zw8:List (Str×Str):=[(st "KeyError",st "KeyError"),(st "lib.core.KEYERROR: a.b: c",st "KEYERROR"),(st "x.keyerror\ny.Z: w",st "keyerror"),(st "a.b.KeyError:\nq.r",st "KeyError"),(st "a.KeyError\x7f: z",st "KeyError\x7f"),(st "OSError",st "OSError"),(st "lib.core.OSERROR: a.b: c",st "OSERROR"),(st "x.oserror\ny.Z: w",st "oserror"),(st "a.b.OSError:\nq.r",st "OSError"),(st "a.OSError\x1f: z",st "OSError\x1f"),(st "Error",st "Error"),(st "lib.core.ERROR: a.b: c",st "ERROR"),(st "x.error\ny.Z: w",st "error"),(st "a.b.Error:\nq.r",st "Error"),(st "a.Error\t: z",st "Error\t"),(st "Exit",st "Exit"),(st "lib.core.EXIT: a.b: c",st "EXIT"),(st "x.exit\ny.Z: w",st "exit"),(st "a.b.Exit:\nq.r",st "Exit"),(st "a.Exit\r: z",st "Exit\r"),(st "E",st "E"),(st "lib.core.E: a.b: c",st "E"),(st "x.e\ny.Z: w",st "e"),(st "a.b.E:\nq.r",st "E"),(st "a.E\x0b: z",st "E\x0b"),(st "Lock",st "Lock"),(st "lib.core.LOCK: a.b: c",st "LOCK"),(st "x.lock\ny.Z: w",st "lock"),(st "a.b.Lock:\nq.r",st "Lock"),(st "a.Lock\x01: z",st "Lock\x01")]
def Z4u(k:Nat):Str:=(Zw8.getD k (st "",st "")).1
def Yd(k:Nat):Str:=(Zw8.getD k (st "",st "")).2
noncomputable def Yw(x:Int):Nat:=(5*(x % 6)+x/6 % 5).toNat
abbrev MsI:=I2 Int Nat
noncomputable def cMs(i:MsI):Code:= .call (.ref 278) ⟨[.int i.1 i.2],[]⟩
def msO(k:Nat)(o:Obj):Obj:=Qj [.str (Z4u k) (Z6 ((Z1 o).getD 0 .none)), .str (Yd k) (Z6 ((Z1 o).getD 1 .none))]
def rMs(k:Nat)(U:Ph):Result×List Sl:=(.ok (.ret (.ref (U.w 0).a)),[⟨(U.w 0).a,msO k (U.w 0).o, .no⟩])
def gMs:G:=⟨[fTg.ctr,fSg.ctr],[]⟩
theorem Jgi(w:World):J5 (vW w) gMs:=
 gC (Jcj w) (gC (Jck w) Ym)
theorem Zl3(x:Int):∃i j:Nat,x % 6=i/\x/6 % 5=j/\i<6/\j<5/\Yw x=5*i+j:=by
 obtain⟨i,a⟩:=bU (jB x (b:=6) (by decide));obtain⟨j,m⟩:=bU (jB (x/6) (b:=5) (by decide));exact⟨i,j,a,m,iJ.1 (a▸hU x (by decide)),iJ.1 (m▸hU (x/6) (by decide)),by unfold Yw;rw[a,m];rfl⟩
theorem k5 {i j:Nat}(h:j<5):(5*i+j)/5=i/\(5*i+j) % 5=j:=⟨by rw[Nat.mul_add_div (by decide),Nat.div_eq_of_lt h,nX],by rw[Nat.mul_add_mod,Nat.mod_eq_of_lt h]⟩
theorem J8j {x:Int}{i j:Nat}(m:dN x 6=i)(a:dN (cZ x 6) 5=j):Yw x=5*i+j:=by
 rw[cM _ (by decide)] at m a;rw[dS _ (by decide)] at a;unfold Yw;rw[m,a];rfl
theorem Jcl(i:MsI):J7 (vW (w2 w b c)) true false (Zf 1) (Ze 1) (cMs i) [] (rMs (Yw i.1)):=
 Qi.one (na:=30) (C:=fun a=>Yw i.1=a) (F:=rMs) (Jez (Jgi _) (fun q=>1) (Z4 0x110011111201c6e (.two (Z4 0x11b5e (.two (Zde (.two (Z4 0x1011df0 .nil) (J1 (.two (Z4 0x1021cf0 .nil) (J1 (.two (Z4 0x1081bf0 .nil) (J1 (.two (Z4 0x1091af0 .nil) (J1 (.two (Z4 0x10319f0 .nil) .nil)))))))))) (Z4 0x100de .nil))) (J1 (.two (Z4 0x110b5e (.two (Zde (.two (Z4 0x10118f0 .nil) (J1 (.two (Z4 0x10217f0 .nil) (J1 (.two (Z4 0x10816f0 .nil) (J1 (.two (Z4 0x10915f0 .nil) (J1 (.two (Z4 0x10314f0 .nil) .nil)))))))))) (Z4 0x10de .nil))) (J1 (.two (Z4 0x1100b5e (.two (Zde (.two (Z4 0x10113f0 .nil) (J1 (.two (Z4 0x10212f0 .nil) (J1 (.two (Z4 0x10811f0 .nil) (J1 (.two (Z4 0x10910f0 .nil) (J1 (.two (Z4 0x1030ff0 .nil) .nil)))))))))) (Z4 0x1000 .nil))) (J1 (.two (Z4 0x1c6eb5e (.two (Zde (.two (Z4 0x1010ef0 .nil) (J1 (.two (Z4 0x102d0 .nil) (J1 (.two (Z4 0x108c0 .nil) (J1 (.two (Z4 0x109b0 .nil) (J1 (.two (Z4 0x103a0 .nil) .nil)))))))))) (Zbo .nil))) (J1 (.two (Z4 0x110deb5e (.two (Zde (.two (Z4 0x10190 .nil) (J1 (.two (Z4 0x10280 .nil) (J1 (.two (Z4 0x10870 .nil) (J1 (.two (Z4 0x10960 .nil) (J1 (.two (Z4 0x10350 .nil) .nil)))))))))) (Y9 .nil))) (J1 (.two (Z4 0x1100deb5e (.two (Zde (.two (Z4 0x10140 .nil) (J1 (.two (Z4 0x10230 .nil) (J1 (.two (Z4 0x10820 .nil) (J1 (.two (Z4 0x10910 .nil) (J1 (.two (Z4 0x10300 .nil) .nil)))))))))) .nil)) .nil)))))))))))) (p:=fun N T=>(([Value.str (aB "KeyError") (T.add 1),Value.str (aB "OSError") (T.add 2),Value.str (aB "Error") (T.add 3),Value.str (aB "Exit") (T.add 4),Value.str (aB "E") (T.add 5),Value.str (aB "Lock") (T.add 6)].length=5\/(6:Nat)=6)/\0<=i.1.fmod 6/\i.1.fmod 6<((6:Nat):Int))/\
   Zal (fun a=>i.1.fmod 6=(a:Int)) (fun a=>some (∀_:Ph,((aB "\x7f\x1f\t\x0d\x0b\x01"=Zi8\/aB "\x7f\x1f\t\x0d\x0b\x01"=Z5w)/\0<=i.1.fmod 6/\i.1.fmod 6<6)/\
    Zal (fun b=>i.1.fmod 6=(b:Int)) (fun b=>match cK a b with
     |true=>some (∀U:Ph,(((5:Nat)=5\/[Value.ref (U.1.add 14),Value.ref (U.1.add 8),Value.ref (U.1.add 9),Value.ref (U.1.add 15),Value.ref (U.1.add 16)].length=6)/\0<=(i.1.fdiv 6).fmod 5/\(i.1.fdiv 6).fmod 5<((5:Nat):Int))/\
      Zal (fun d=>(i.1.fdiv 6).fmod 5=(d:Int)) (fun d=>match cK d 5 with|true=>none|false=>some (∀_:Ph,Yw i.1=5*a+d/\True)) 6)
     |false=>none) 6)) 6) (fun q q=>by kernel_rfl) (by
    have j:0<=i.1.fmod 6/\i.1.fmod 6<6:=by rw[cM _ (by decide)];lia
    have J:0<=(i.1.fdiv 6).fmod 5/\(i.1.fdiv 6).fmod 5<5:=by rw[cM _ (by decide)];lia
    intro N T;refine⟨⟨.inr rfl,j⟩,Zdg fun a q m q=>⟨⟨.inl rfl,j⟩,Zdg fun b q=> ?_⟩⟩;cases z:cK a b with
    |false=>exact fun W=>iI z (mM (m.symm.trans W))
    |true=>
     refine fun q U=>⟨⟨.inl rfl,J⟩,Zdg fun d q=> ?_⟩;cases y:cK d 5 with
     |true=>exact fun I=>by have:=cU y;lia
     |false=>exact fun I q=>⟨J8j m I,trivial⟩)) fun q h=>h.symm
def fMs:Zi MsI where
 code:=cMs
 P _:=[]
 cond _:=none
 F i _ U:=rMs (Yw i.1) U
 k:=0
 nn _:=1
 ext c _:=match c with
  | .call _ ⟨[.int x xt],[]⟩=>some ⟨x,xt⟩
  |_=>none
 d:=Zf 1
 u:=Ze 1
 z:=true
theorem Jcm:Za (vW (w2 w b c)) fMs.ctr:=
 fMs.ok (fun i y=>Jcl w b c i)
theorem Zp2 {w:World}{T:String}{name:Str}{id:String}{b:gT}{self:Value}{rest:List Value}{n:Int}(j:Slot T name id)(I:∀s:Shared,s.TypeIs self T)(q:lQ oO id=some b)(m:jW id ⟨self::rest,[]⟩)(g:sV (b ⟨self::rest,[]⟩) (.int n)):
  J7 (vW w) false false (Zf 0) (Ze 0) (.call (.builtin id) ⟨self::rest,[]⟩) [] (fun U=>(.ok (.ret (.int n (Z6 U.rv))),[])):=by
 intro A s hh out fr J W a;refine Yo j (I s) q m g.meets ?_;haveI st:=a.kept (h':=s.heap) (tk:=s.toks+1) (fun y y e=>e) a.rep.big;exact⟨0,aX,trivial,⟨s.heap.objs.size-8,s.toks+1, .int n s.toks,fun y=>⟨0,LW.lst [] 0, .no⟩⟩,rfl,st⟩
theorem Jcn {w:World}{T:String}{name:Str}{id:String}{b:gT}{self:Value}{rest:List Value}{x:Value}(j:Slot T name id)(I:∀s:Shared,s.TypeIs self T)(q:lQ oO id=some b)(m:jW id ⟨self::rest,[]⟩)(g:sV (b ⟨self::rest,[]⟩) (.val x)):
  J7 (vW w) false false (Zf 0) (Ze 0) (.call (.builtin id) ⟨self::rest,[]⟩) [] (fun y=>(.ok (.ret x),[])):=by
 intro A s hh out fr J W a;refine Yo j (I s) q m g.meets ?_;haveI st:=a.kept (h':=s.heap) (tk:=s.toks) (fun y y e=>e) a.rep.big;exact⟨0,aX,trivial,⟨s.heap.objs.size-8,s.toks, .none,fun y=>⟨0,LW.lst [] 0, .no⟩⟩,rfl,st⟩
noncomputable def Zp3:Nat->Nat->Nat
 |0,_=>0
 |f+1,n=>match n with
  |0=>0
  |m+1=>Nat.succ (Zp3 f (gG (Nat.succ m) 2))
theorem J1r:∀(f n:Nat),n<2^f->Zp3 f n=if n=0 then 0 else n.log2+1:=by
 intro a
 induction a with
 |zero=>
  intro n h;have:n=0:=by lia
  subst this;rfl
 |succ f ih=>
  intro j;cases j with
  |zero=>
   intro _;exact rfl
  |succ m=>
   intro h;haveI y:(m+1)/2<2^f:=by simp only[Nat.pow_succ] at h;lia
   show Nat.succ (Zp3 f ((m+1)/2))=_;rw[ih _ y,if_neg (Nat.succ_ne_zero m),Nat.log2_def (m+1)]
   by_cases q:m=0
   ·subst q;rfl
   ·rw[if_neg (by lia),if_pos (by lia)]
def blN(x:Int):Nat:=match fJ x.natAbs 18446744073709551616 with|true=>Zp3 64 x.natAbs|false=>gE x
set_option tactic.hygienic true in theorem Zs6(x:Int):gE x=blN x:=by
 unfold blN
 split
 ·rename_i q;rw[J1r _ _ (show x.natAbs<2^64 from aW q)];unfold gE
  by_cases h:x=0
  ·subst h;rfl
  ·rw[if_neg (by simpa using h),if_neg (by lia)]
 ·rfl
abbrev BlI:=I2 Int Nat
noncomputable def cBl(i:BlI):Code:= .call (.builtin "int.bit_length") ⟨[.int i.1 i.2],[]⟩
def fBl:Zi BlI where
 code:=cBl
 P _:=[]
 cond _:=none
 F i _ U:=(.ok (.ret (.int (Int.ofNat (blN i.1)) (Z6 U.rv))),[])
 k:=0
 ext c _:=match c with| .call _ ⟨[.int x t],[]⟩=>some ⟨x,t⟩|_=>none
 d:=Zf 0
 u:=Ze 0
theorem Zzb(w:World):Za (vW w) fBl.ctr:=by
 refine fBl.ok (fun i y=> ?_);haveI g:=AutoIntG2.int_bit_length_int_0 i.1 i.2;rw[Zs6] at g;exact Zp2 F.slot_int_bit_length (fun y=>rfl) F.entry_int_bit_length (F.args_int_bit_length_1 _) g
abbrev DmI:=I4 Int Nat Int Nat
noncomputable def cDm(i:DmI):Code:= .call (.builtin "divmod") ⟨[.int i.1 i.2, .int i.3 i.4],[]⟩
def Z8m(o:Obj)(k:Nat):Nat:=Z6 ((Z1 o).getD k .none)
def Zi9(i:DmI)(U:Ph):Result×List Sl:=(.ok (.ret (.ref (U.w 0).a)),[⟨(U.w 0).a,Yf (.int (Z.divQ i.1 i.3) (Z8m (U.w 0).o 0)) (.int (Z.modQ i.1 i.3) (Z8m (U.w 0).o 1)), .no⟩])
def rDm(i:DmI)(U:Ph):Result×List Sl:=(.ok (.ret (.ref (U.w 0).a)),[⟨(U.w 0).a,Yf (.int (cZ i.1 i.3) (Z8m (U.w 0).o 0)) (.int (dN i.1 i.3) (Z8m (U.w 0).o 1)), .no⟩])
theorem Jco(w:World)(a:Int)(t u N T:Nat)(j:Option Value):
  Z5 (rn 0 w ⟨[],[]⟩ (cDm ⟨a,t,2,u⟩) [] N T j ((Zfe .nil)) (done 1 (Zi9 ⟨a,t,2,u⟩))):=by
 exact Zx (by kernel_rfl) trivial
theorem Jcp(w:World)(a:Int)(t u N T:Nat)(j:Option Value):
  Z5 (rn 0 w ⟨[],[]⟩ (cDm ⟨a,t,3,u⟩) [] N T j ((Zfe .nil)) (done 1 (Zi9 ⟨a,t,3,u⟩))):=by
 exact Zx (by kernel_rfl) trivial
theorem Jcq(w:World)(a:Int)(t u N T:Nat)(j:Option Value):
  Z5 (rn 0 w ⟨[],[]⟩ (cDm ⟨a,t,4,u⟩) [] N T j ((Zfe .nil)) (done 1 (Zi9 ⟨a,t,4,u⟩))):=by
 exact Zx (by kernel_rfl) trivial
theorem Jcr(w:World)(i:DmI)(m:i.3=2\/i.3=3\/i.3=4):J7 (vW w) false false (Zf 0) (Ze 0) (cDm i) [] (rDm i):=by
 obtain⟨a,t,b,u⟩:=i;have e:rDm ⟨a,t,b,u⟩=Zi9 ⟨a,t,b,u⟩:=by delta rDm Zi9;rw[<-Z.divQ_eq,<-Z.modQ_eq]
 simp only[e];rcases m with rfl|rfl|rfl
 ·exact Jk Ym fun N T j y=>Jco w a t u N T j
 ·exact Jk Ym fun N T j y=>Jcp w a t u N T j
 ·exact Jk Ym fun N T j y=>Jcq w a t u N T j
def fDm:Zi DmI where
 code:=cDm
 P _:=[]
 cond i:=some (i.3=2\/i.3=3\/i.3=4)
 F i _ U:=rDm i U
 k:=0
 nn _:=1
 ext c _:=match c with| .call _ ⟨[.int a t, .int b u],[]⟩=>some ⟨a,t,b,u⟩|_=>none
 d:=Zf 0
 u:=Ze 0
theorem Jcs(w:World):Za (vW w) fDm.ctr:=fDm.ok (fun i a=>Jcr w i (a _ rfl))
def Z3v:Str:=st "_int2digits.<locals>.inner"
def Z2q:Str:=st "_digits2int.<locals>.inner"
def Zp4(o:Option (Cd×Cd)):Sl:=match o with|none=>⟨195,Zv [], .tab []⟩|some c=>Yt 195 133 4 Z3v c.1
def Zp5(o:Option (Cd×Cd)):Sl:=match o with|none=>⟨202,Zv [], .tab []⟩|some c=>Yt 202 148 4 Z2q c.2
def Z0p(o1:Obj)(g1:Gd)(o2:Obj)(g2:Gd):Prop:=∃o,o1=(Zp4 o).o/\g1=(Zp4 o).g/\o2=(Zp5 o).o/\g2=(Zp5 o).g
abbrev DpI:=I7 Int Nat Int Nat Obj Gd (I2 Obj Gd)
noncomputable def cDp(i:DpI):Code:= .call (.ref 214) ⟨[.int i.1 i.2, .int i.3 i.4],[]⟩
noncomputable def cDv(i:DpI):Code:= .call (.ref 221) ⟨[.int i.1 i.2, .int i.3 i.4],[]⟩
noncomputable def pDp(i:DpI):List Sl:=[⟨195,i.5,i.6⟩,⟨202,i.7.1,i.7.2⟩]
def Zw9(x y:Int)(U:Ph):Result×List Sl:=(.ok (.ret (.ref (U.w 0).a)),[⟨(U.w 0).a,Yf (.int x (Z8m (U.w 0).o 0)) (.int y (Z8m (U.w 0).o 1)), .no⟩,Yt 195 133 4 Z3v (Yn (U.w 1).g),Yt 202 148 4 Z2q (Yn (U.w 2).g)])
def rDp(i:DpI)(U:Ph):Result×List Sl:=Zw9 (cZ i.1 i.3) (dN i.1 i.3) U
noncomputable def abL:List (Int×Int):=[(0,2),(2,2),(4,2),(6,2),(8,2),(10,2),(0,3),(3,3),(6,3),(9,3),(0,4),(4,4),(8,4)]
def Z2r(a b:Int):Prop:=(a,b)∈abL
def gDp:G:=⟨[fBl.ctr,fDm.ctr],[]⟩
theorem J8k(w:World):J5 (vW w) gDp:=
 gC (Zzb w) (gC (Jcs w) Ym)
noncomputable def dpL:List Nat:=[0,1,2,2,2,2,0,1,2,2,0,1,2]
def J8l(k:Nat):Hs:=match dpL.getD k 0 with
 |0=>Z4 0x10216bf21f012f16bf20f08ce10f088ef1e20f20f020f01af8de13f13f0b6e444013f070e1a0a0a0de10f0010f10f0ff0ff0ff0ffc10ef71e .nil
 |1=>Z4 0x10316bf28f019f16bf27f0026f26f26f26fdfec45e210115fb3e00b00915f015fb3e15ff1e26f26f026f020f8de19f19f09990909999019f0182e17f7777017f17f17f17f17f40e12f12f112f112f93e11c70e1b0b0b0de11f0011f11f10f10f10f10fdce10ef71e .nil
 |_=>Z4 0x10516bf31f022f16bf30f002ff2ff2ff2ff11df01df01df1df1df10ef45e430322b121cf01cfade1d45eebecde00b0091af0cde1aff1e2df2df02df027f8de20f20f054e0ef0ef020f01b0b0b0ccc0c01efcccc01ef1ef1ef1ef1ef40e19f19f119f119f19f019f19f6613f682e19f77770f2e40e14f14f114f114f14f014f14f110ef70e1d0d0d0de13f0013f13fbbe0ff74e65e119e03e3cce1cefe03e0ef22e83e10ef71e .nil
def J8m(k:Nat):Hs:=match dpL.getD k 0 with
 |0=>Z4 0x184e0e0e13fa0a0a0aaf3e14f8dedd0b6e4440d070e1404040dea00aa9999618550de904411ee .nil
 |1=>Z4 0x1d0e001af1af1af1af88e10f1645e11bf101a6e0050030ff0a6e0fff3e1af8de13f13f09990909999013f0182e11f777707fe40ecc1c1cc0cc11670e1505050deb00bbaaaa7b6e4174bea10a3e .nil
 |_=>Z4 0x1025f024f00bae1d3e845e124f30322512dfe745e123fcce411156fe122f101cee00500314f0cee14ff3e21f8de1af1af054e0ef0ef01af01b0b0b0ccc0c018fcccc018fb9e40e13f13f113f1dee13f66d682e13f7777e0e13f13f40e0ef0ef10ef194e0ef11870e1707070ded00ddcccc96c3ec97e4bebcce16efe03e822e103ea10a3e .nil
def qDp(k:Nat):Prop:=match dpL.getD k 0 with
 |0=>∀_ _:Ph,True
 |1=>∀_ _ _:Ph,((abL.getD k (0,0)).2=2\/(abL.getD k (0,0)).2=3\/(abL.getD k (0,0)).2=4)/\∀_:Ph,True
 |_=>∀_ _ _:Ph,((abL.getD k (0,0)).2=2\/(abL.getD k (0,0)).2=3\/(abL.getD k (0,0)).2=4)/\∀_ _:Ph,((abL.getD k (0,0)).2=2\/(abL.getD k (0,0)).2=3\/(abL.getD k (0,0)).2=4)/\∀_:Ph,True
theorem Z6h(k:Nat)(h:k<13):qDp k:=by
 haveI c:∀k,k<13->(abL.getD k (0,0)).2=2\/(abL.getD k (0,0)).2=3\/(abL.getD k (0,0)).2=4:=by decide+kernel
 unfold qDp
 split
 ·exact fun y y=>trivial
 ·exact fun y y y=>⟨c k h,fun y=>trivial⟩
 ·exact fun y y y=>⟨c k h,fun y y=>⟨c k h,fun y=>trivial⟩⟩
def dpI(t u:Nat)(o:Option (Cd×Cd))(k:Nat):DpI:=⟨(abL.getD k (0,0)).1,t,(abL.getD k (0,0)).2,u,(Zp4 o).o,(Zp4 o).g,(Zp5 o).o,(Zp5 o).g⟩
def dpR(w:World)(b c:Bool)(t u:Nat)(o:Option (Cd×Cd))(N T k:Nat):Z8:=rn 3 (w2 w b c) gDp (cDp (dpI t u o k)) (pDp (dpI t u o k)) N T none (match o with|none=>J8l k|some _=>J8m k) (done 3 (rDp (dpI t u o k)))
theorem Zp6 {p:Nat->Prop}{a m:Nat}(q:∀k,k<a->p k)(y:∀j,j<m->p (j+a))(k:Nat)(I:k<a+m):p k:=if h:k<a then q k h else bG (dX h)▸y (k-a) (by lia)
theorem Jgj(t u N T:Nat):∀k,k<4->Z5 (dpR w b c t u none N T k):=J6 (P:=fun k=>qDp k) (by cases b<;>kernel_rfl) fun k a=>Z6h _ (by lia)
theorem Jgk(t u N T:Nat):∀k,k<4->Z5 (dpR w b c t u none N T (k+4)):=J6 (P:=fun k=>qDp (k+4)) (by cases b<;>kernel_rfl) fun k a=>Z6h _ (by lia)
theorem Jgl(t u N T:Nat):∀k,k<5->Z5 (dpR w b c t u none N T (k+8)):=J6 (P:=fun k=>qDp (k+8)) (by cases b<;>kernel_rfl) fun k a=>Z6h _ (by lia)
theorem Jgm(t u:Nat)(a:Cd×Cd)(N T:Nat):∀k,k<4->Z5 (dpR w b c t u (some a) N T k):=J6 (P:=fun k=>qDp k) (by cases b<;>kernel_rfl) fun k j=>Z6h _ (by lia)
theorem Jgn(t u:Nat)(a:Cd×Cd)(N T:Nat):∀k,k<4->Z5 (dpR w b c t u (some a) N T (k+4)):=J6 (P:=fun k=>qDp (k+4)) (by cases b<;>kernel_rfl) fun k j=>Z6h _ (by lia)
theorem Jgo(t u:Nat)(a:Cd×Cd)(N T:Nat):∀k,k<5->Z5 (dpR w b c t u (some a) N T (k+8)):=J6 (P:=fun k=>qDp (k+8)) (by cases b<;>kernel_rfl) fun k j=>Z6h _ (by lia)
theorem Jct(i:DpI)(h:Z2r i.1 i.3)(j:Z0p i.5 i.6 i.7.1 i.7.2):J7 (vW (w2 w b c)) true false (Zf 3) (Ze 3) (cDp i) (pDp i) (rDp i):=by
 obtain⟨x,t,y,u,o1,g1,o2,g2⟩:=i;obtain⟨o,rfl,rfl,rfl,rfl⟩:=j;obtain⟨k,a,e⟩:=Z3k h (0,0);obtain rfl:(abL.getD k (0,0)).1=x:=by rw[show abL.getD k (0,0)=(x,y) from e]
 obtain rfl:(abL.getD k (0,0)).2=y:=congrArg lA e;clear e h;cases o with
 |none=>exact Z85 (J8k _) (n:=100000) (k:=3) (hs:=J8l k) fun N T=>Zp6 (Zp6 (Jgj w b c t u N T) (Jgk w b c t u N T)) (Jgl w b c t u N T) k a
 |some cc=>exact Z85 (J8k _) (n:=100000) (k:=3) (hs:=J8m k) fun N T=>Zp6 (Zp6 (Jgm w b c t u cc N T) (Jgn w b c t u cc N T)) (Jgo w b c t u cc N T) k a
def fDp:Zi DpI where
 code:=cDp
 P:=pDp
 cond i:=some (Z2r i.1 i.3/\Z0p i.5 i.6 i.7.1 i.7.2)
 F i _ U:=rDp i U
 k:=2
 nn _:=1
 ext c S:=match c with
  | .call _ ⟨[.int a t, .int b u],[]⟩=>(match S with
   |[s1,s2]=>some ⟨a,t,b,u,s1.o,s1.g,s2.o,s2.g⟩
   |_=>none)
  |_=>none
 d:=Zf 3
 u:=Ze 3
 z:=true
theorem Jcu:Za (vW (w2 w b c)) fDp.ctr:=
 fDp.ok (fun i a=>Jct w b c i (a _ rfl).1 (a _ rfl).2)
def gDv:G:=⟨[fDp.ctr],[]⟩
theorem Zwa:J5 (vW (w2 w b c)) gDv:=⟨fun x a=>by simp only[aM.mp a];exact Jcu w b c,fun y a=>absurd a aD⟩
noncomputable def bN(x:Int):Int:=gD x
theorem Z5a(x:Int):bN x=-x-1:=by
 delta bN gD;cases x<;>simp[Int.negSucc_eq]<;>omega
theorem Zzc(x:Int):bN (bN x)=x:=by simp only[Z5a,Z5a];lia
theorem Z3a {a b:Int}(h:Z2r a b):0<=a/\2<=b:=(show∀p∈abL,0<=p.1/\2<=p.2 by decide) (a,b) h
def Zau(a b:Int):Prop:=Z2r a b\/Z2r (bN a) b\/Z2r (bN (-a)) (-b)
theorem dvN {a b:Int}(h:Z2r (bN a) b):bN (cZ (bN a) b)=cZ a b/\dF b (bN (dN (bN a) b))=dN a b:=by
 haveI k:bN (cZ (bN a) b)=cZ (bN (bN a)) b/\dF b (bN (dN (bN a) b))=dN (bN (bN a)) b:=
  (show∀p∈abL,bN (cZ p.1 p.2)=cZ (bN p.1) p.2/\dF p.2 (bN (dN p.1 p.2))=dN (bN p.1) p.2 by decide) (bN a,b) h
 rwa[Zzc] at k
theorem dvM {a b:Int}(h:Z2r (bN (-a)) (-b)):bN (cZ (bN (fU a)) (fU b))=cZ a b/\fU (dF (fU b) (bN (dN (bN (fU a)) (fU b))))=dN a b:=by
 haveI k:bN (cZ (bN (-a)) (-b))=cZ (-(bN (bN (-a)))) (-(-b))/\fU (dF (-b) (bN (dN (bN (-a)) (-b))))=dN (-(bN (bN (-a)))) (-(-b)):=
  (show∀p∈abL,bN (cZ p.1 p.2)=cZ (-(bN p.1)) (-p.2)/\fU (dF p.2 (bN (dN p.1 p.2)))=dN (-(bN p.1)) (-p.2) by decide) (bN (-a),-b) h
 simp only[Zzc,sH,sH] at k;exact k
theorem Jcv(i:DpI)(h:Zau i.1 i.3)(a:Z0p i.5 i.6 i.7.1 i.7.2):J7 (vW (w2 w b c)) true false (Zf 4) (Ze 4) (cDv i) (pDp i) (rDp i):=by
 obtain⟨x,t,y,u,o1,g1,o2,g2⟩:=i;simp only at h a;rcases h with h|h|h
 ·have q:=Z3a h;have j:0<y:=(by omega);have q:=Z3a h;exact zN2 (Zwa w b c) 3 (Z4 0x1030200e3e10110414141019e00 .nil) (p:=(¬y=0)/\(¬y<0)/\(¬x<0)/\(Z2r x y/\Z0p o1 g1 o2 g2)/\∀I:Ph,True) (fun z z=>by kernel_rfl) (by refine⟨?_, ?_, ?_,⟨h,a⟩,fun z=>trivial⟩<;>lia)
 ·have q:=Z3a h;have e:=Z5a x;have r:rDp ⟨x,t,y,u,o1,g1,o2,g2⟩=Zw9 (bN (cZ (bN x) y)) (dF y (bN (dN (bN x) y))):=by rw[(dvN h).1,(dvN h).2];rfl
  rw[r];have m:x<0:=(by omega);have j:0<y:=(by omega);have q:=Z3a h;have e:=Z5a x;exact zN2 (Zwa w b c) 3 (Z4 0x108070011661f7e0302a0e19e00 .nil) (p:=(¬y=0)/\(¬y<0)/\(x<0)/\(¬y=0)/\(¬y<0)/\(¬gD x<0)/\(Z2r (gD x) y/\Z0p o1 g1 o2 g2)/\∀I:Ph,True) (fun z z=>by kernel_rfl) (by refine⟨?_, ?_,m, ?_, ?_, ?_,⟨h,a⟩,fun z=>trivial⟩<;>first|lia|(show¬bN x<0;lia))
 ·have q:=Z3a h;have e:=Z5a (-x);have r:rDp ⟨x,t,y,u,o1,g1,o2,g2⟩=Zw9 (bN (cZ (bN (fU x)) (fU y))) (fU (dF (fU y) (bN (dN (bN (fU x)) (fU y))))):=by rw[(dvM h).1,(dvM h).2];rfl
  rw[r];have m:0<x:=(by omega);have j:y<0:=(by omega);have h:Z2r (bN (-x)) (-y):=h;have q:=Z3a h;have e:=Z5a (-x);have J:fU y=-y:=rfl;have W:fU x=-x:=rfl;exact zN2 (Zwa w b c) 3 (Z4 0x10d0c001bbbbbb100e11661f7e0403a0e11110de19e3141019e00 .nil) (p:=(¬y=0)/\(y<0)/\(¬-y=0)/\(¬-y<0)/\(-x<0)/\(¬-y=0)/\(¬-y<0)/\(¬gD (-x)<0)/\(Z2r (gD (-x)) (-y)/\Z0p o1 g1 o2 g2)/\∀I:Ph,True) (fun z z=>by kernel_rfl) (by refine⟨?_,j, ?_, ?_, ?_, ?_, ?_, ?_,⟨h,a⟩,fun z=>trivial⟩<;>first|lia|(show¬bN (-x)<0;lia))
def fDv:Zi DpI:={fDp with
 code:=cDv
 cond:=fun i=>some (Zau i.1 i.3/\Z0p i.5 i.6 i.7.1 i.7.2)
 d:=Zf 4
 u:=Ze 4}
theorem Zzd:Za (vW (w2 w b c)) fDv.ctr:=
 fDv.ok (fun i a=>Jcv w b c i (a _ rfl).1 (a _ rfl).2)
noncomputable def Jx(K:KC):AL:=K.map fun p=>(Z0 p.1,p.2)
structure OkK(K:KC):Prop where
 nd:(Zq (Jx K)).Nodup
 nm:∀p∈K,p.1∈Jy
 pos:∀p∈K,1<=p.2
def Ye(K:KC):KV:=K.map fun p=>(p.1,Zj p.2)
theorem Z4f {K:KC}:Zq (Jx K)=K.map fun p=>Z0 p.1:=by dsimp only[Zq,Jx];rw[bS];rfl
theorem Z9o(K:KC):(Jx K).length=K.length:=aE ..
theorem Z1l {K:KC}{n:Str}:n∈Zq (Jx K)↔∃p∈K,Z0 p.1=n:=by rw[Z4f,aN]
theorem Zl4(A B:KC):Jx (A++B)=Jx A++Jx B:=by unfold Jx;rw[bB]
theorem J1s(K:KC)(n:Str):Jx (K.filter fun p=>decide (Z0 p.1≠n))=Yb (Jx K) n:=by
 dsimp only[Jx,Yb];simp only[dA];rfl
theorem Zia {K:KC}(a:(Zq (Jx K)).Nodup){p:Str×Int}(hp:p∈K):(K.filter fun q=>decide (Z0 q.1=Z0 p.1))=[p]:=by
 induction K with
 |nil=>cases hp
 |cons q K ih=>
  rw[Z4f,aP,bM] at a;rcases aC.mp hp with rfl|hp
  ·rw[bD (by simp)]
   congr 1
   rw[List.filter_eq_nil_iff];intro r m z;exact a.1 (aN.mpr ⟨r,m,by simpa using z⟩)
  ·haveI j:Z0 q.1≠Z0 p.1:=fun z=>a.1 (aN.mpr ⟨p,hp,z.symm⟩);rw[bH (by simpa using j)];exact ih (by rw[Z4f];exact a.2) hp
theorem Zcc {K:KC}{p:Str×Int}(a:p∈K):(Z0 p.1,p.2)∈Jx K:=aN.mpr ⟨p,a,rfl⟩
theorem Z47 {K:KC}(m:OkK K){s:Str}{r:Int}{p:Str×Int}(j:p∈K)(e:Z0 p.1=Z0 s):Q3 K s r=(K.filter fun p=>decide (Z0 p.1≠Z0 s))++[(s,p.2+1)]:=by
 unfold Q3;rw[if_pos ⟨p,j,e⟩]
 congr 2
 rw[show(K.filter fun q=>decide (Z0 q.1=Z0 s))=[p] from by rw[<-e];exact Zia m.nd j];show(s,1+(p.2+0))=_
 congr 1
 exact Yy [_] [] [] [] (.z (.a Q4 (.a Jb Qs)) Z10) rfl
theorem J1t {K:KC}(a:OkK K){s:Str}{r:Int}(y:0<=r):Jx (Q3 K s r)=mgS (Jx K) (Z0 s) r.toNat:=by
 refine Z7 fun m=> ?_
 by_cases h:Z0 s∈Zq (Jx K)
 ·obtain⟨p,j,e⟩:=Z1l.mp h;refine m ?_;rw[Z47 a j e,Zl4,J1s];unfold mgS;rw[if_pos h,Z3n a.nd (by have:=Zcc j;rw[e] at this;exact this)];rfl
 ·have h':¬∃p∈K,Z0 p.1=Z0 s:=fun z=>h (Z1l.mpr z);refine m ?_;unfold Q3 mgS;rw[if_neg h',if_neg h,Z9o]
  by_cases q:(K.length:Int)<r
  ·rw[if_pos q,if_pos (by lia),Zl4];rfl
  ·rw[if_neg q,if_neg (by lia)];unfold Jx Jw;rw[bS,dA,bS];rfl
theorem J1u {K:KC}(m:OkK K){s:Str}{r:Int}(I:0<=r)(hs:s∈Jy)(y:(Zq (Jx (Q3 K s r))).Nodup):OkK (Q3 K s r):=by
 refine⟨y, ?_, ?_⟩<;>intro p hp
 ·by_cases h:Z0 s∈Zq (Jx K)
  ·obtain⟨q,j,e⟩:=Z1l.mp h;rw[Z47 m j e] at hp;rcases aG.mp hp with hp|hp
   ·exact m.nm p (cI.mp hp).1
   ·rw[aM.mp hp];exact hs
  ·have h':¬∃p∈K,Z0 p.1=Z0 s:=fun z=>h (Z1l.mpr z);unfold Q3 at hp;rw[if_neg h'] at hp
   split at hp
   ·rcases aG.mp hp with hp|hp
    ·exact m.nm p hp
    ·rw[aM.mp hp];exact hs
   ·obtain⟨q,j,rfl⟩:=aN.mp hp;exact m.nm q (cI.mp j).1
 ·by_cases h:Z0 s∈Zq (Jx K)
  ·obtain⟨q,j,e⟩:=Z1l.mp h;rw[Z47 m j e] at hp;rcases aG.mp hp with hp|hp
   ·exact m.pos p (cI.mp hp).1
   ·rw[aM.mp hp];have:=m.pos q j;show 1<=q.2+1;exact Zm [_] [] [Zg4] Zlv rfl this
  ·have h':¬∃p∈K,Z0 p.1=Z0 s:=fun z=>h (Z1l.mpr z);unfold Q3 at hp;rw[if_neg h'] at hp
   split at hp
   ·rcases aG.mp hp with hp|hp
    ·exact m.pos p hp
    ·rw[aM.mp hp];exact bX _
   ·obtain⟨q,j,rfl⟩:=aN.mp hp;have:=of_decide_eq_true (cI.mp j).2;show 1<=q.2-1;exact Zm [_] [] [.z (.a Q4 Q4) Jb] (.z Q4 (.s Jb Q4)) rfl this
theorem Zs7(K:KC)(f:Str->Bool):Ye (K.filter fun p=>f p.1)=(Ye K).filter fun p=>f p.1:=by
 unfold Ye;simp only[dA];rfl
theorem Zs8(A B:KC):Ye (A++B)=Ye A++Ye B:=by unfold Ye;simp only[bB]
theorem Zwb:∀(K:KC)(D:KV),(K.map fun p=>Z0 p.1).Nodup->(∀p∈K,p.1∈Jy/\1<=p.2/\p.2<=11)->(∀p∈K,∀q∈D,Z0 q.1≠Z0 p.1)->
  (Ye K).foldl Z36 (Ye K++D)=D++Ye ((K.filter fun p=>decide (1<p.2)).map fun p=>(p.1,p.2-1)):=by
 intro Z
 induction Z with
 |nil=>
  intro D _ _ _;simp[Ye]
 |cons p K ih=>
  intro D m X W;rw[aP,bM] at m;obtain⟨h1,h2,h3⟩:=X p (.head _);haveI a:=Zw _ h1;haveI n1:=a.1;haveI n2:=a.2.1;haveI n3:=a.2.2.1;haveI n4:=a.2.2.2.1;haveI n5:=a.2.2.2.2.1;haveI n6:=a.2.2.2.2.2.1;haveI n7:=a.2.2.2.2.2.2.1;haveI n8:=a.2.2.2.2.2.2.2.1;haveI n9:=a.2.2.2.2.2.2.2.2.1;haveI n10:=a.2.2.2.2.2.2.2.2.2;haveI Y:=Yq p.2 (eQ h2) (cJ h3 (by decide));haveI rest:Z3u (Ye (p::K)++D) (Z0 p.1)=Ye K++D:=by
   dsimp only[Z3u,Ye];rw[aP,pK,bH (by simp),cY]
   congr 1
   ·rw[dJ];intro q I;refine Z7 fun k'=> ?_;obtain⟨x,j,rfl⟩:=aN.mp I;refine k' ?_;apply decide_eq_true;intro z;exact m.1 (aN.mpr ⟨x,j,z⟩)
   ·rw[dJ];intro q I;exact decide_eq_true (W p (.head _) q I)
  haveI J:(Ye (p::K)).foldl Z36 (Ye (p::K)++D)=(Ye K).foldl Z36 (Z36 (Ye (p::K)++D) (p.1,Zj p.2)):=rfl;simp only[J];dsimp only[Z36]
  by_cases q:p.2=1
  ·have e:Zj p.2=st "1":=by rw[q];decide+kernel
   rw[if_pos e];show(Ye K).foldl Z36 (Z3u _ (Z0 (J9 p.1)))=_;rw[n5,rest,ih D m.2 (fun x j=>X x (.tail _ j)) (fun x j=>W x (.tail _ j)),bH (by simp[q])]
  ·have e:Zj p.2≠st "1":=fun z=>q (by rw[<-Y.2,z];exact Zr8.2);rw[if_neg e];show(Ye K).foldl Z36 (Z3u _ (Z0 p.1)++[(p.1,Zj (valN (Zj p.2)-1))])=_;rw[rest,Y.2,eD,ih (D++[(p.1,Zj (p.2-1))]) m.2 (fun x j=>X x (.tail _ j)) ?_,bD (by simp;lia),aP,eD]
   ·rfl
   ·intro x j y hy;rcases aG.mp hy with hy|hy
    ·exact W x (.tail _ j) y hy
    ·rw[aM.mp hy];intro z;exact m.1 (aN.mpr ⟨x,j,z.symm⟩)
theorem Zib {α β:Type}(f:α->β)(p:β->Bool):∀l:List α,(l.map f).find? p=(l.find? fun x=>p (f x)).map f:=by
 intro j
 induction j with
 |nil=>
  exact rfl
 |cons a l ih=>
  simp only[aP,mW,mW];cases p (f a)
  ·exact ih
  ·rfl
theorem Zwc {K:KC}(m:OkK K)(I:∀p∈K,p.2<=11){s:Str}{r:Int}:Z20 (Ye K) s r=Ye (Q3 K s r):=by
 haveI el:Zfl (Ye K) (Z0 s)=(K.find? fun p=>decide (Z0 p.1=Z0 s)).map fun p=>(p.1,Zj p.2):=Zib _ _ K;unfold Z20;rw[el];refine Z7 fun X=> ?_
 by_cases h:Z0 s∈Zq (Jx K)
 ·obtain⟨p,a,e⟩:=Z1l.mp h;have J:(K.find? fun p=>decide (Z0 p.1=Z0 s))=some p:=by
   cases q:K.find? fun p=>decide (Z0 p.1=Z0 s) with
   |none=>
    rw[fQ] at q;exact absurd (decide_eq_true e) (q p a)
   |some y=>
    have Z:=cN q;have y2:Z0 y.1=Z0 s:=by simpa using iV q
    have:=Zia m.nd a;have W:y∈K.filter fun q=>decide (Z0 q.1=Z0 p.1):=cI.mpr ⟨Z,decide_eq_true (y2.trans e.symm)⟩;rw[this] at W;rw[aM.mp W]
  refine X ?_;rw[J,Z47 m a e,Zs8,Zs7 K fun n=>decide (Z0 n≠Z0 s)];have Y:=Yq p.2 (by have:=m.pos p a;exact eQ this) (by have:=I p a;exact cJ this (by decide));show Z3u (Ye K) (Z0 s)++[(s,Zj (valN (Zj p.2)+1))]=_;rw[Y.2];rfl
 ·have h':¬∃p∈K,Z0 p.1=Z0 s:=fun z=>h (Z1l.mpr z);have J:(K.find? fun p=>decide (Z0 p.1=Z0 s))=none:=by
   rw[fQ];intro p a z;exact h' ⟨p,a,by simpa using z⟩
  refine X ?_;rw[J];unfold Q3;rw[if_neg h'];have lk:(Ye K).length=K.length:=aE ..;show(if((Ye K).length:Int)<r then _ else _)=_;rw[lk]
  by_cases q:(K.length:Int)<r
  ·rw[if_pos q,if_pos q,Zs8]
   congr 1
  ·rw[if_neg q,if_neg q];have:=Zwb K [] (by rw[<-Z4f];exact m.nd) (fun p a=>⟨m.nm p a,m.pos p a,I p a⟩) (fun j j j h=>absurd h aD);rw[gX,List.nil_append] at this;exact this
theorem Zcd {prog:Program}{w:World}{A:Around}{s:Shared}{id:String}{b:gT}{args:List Value}{R:Result->Shared->Prop}(X:builtinKind id=none)(J:plainId id=true)
  (W:lQ oO id=some b) (m:jW id ⟨args,[]⟩)
  (Y:aU (cP prog w) A.in1 (b ⟨args,[]⟩) (fun a s'=>∃v,a= .done (.ret v)/\R (.ok (.ret v)) s') (fun e s'=>R (.error e) s') s):bR (cP prog w) A (.call (.builtin id) ⟨args,[]⟩) R s:=by
 refine eH J W ?_;have j:=bC Y (Q':=fun a s'=>match a with
   | .done f=>R (.ok f) s'
   | .again c'=>c'.quiet=true/\bR (cP prog w) A c' R s')
  (fun a s' h'=>by obtain⟨v,rfl,I⟩:=h';exact I) fun y y h'=>h'
 simp only[kO,X];cases hsig:iR id with
 |none=>exact aH j
 |some sig=>
  simp only[jW,hsig] at m;haveI q:fN id sig ⟨args,[]⟩=pure ():=m;show aU _ A.in1 (fN id sig ⟨args,[]⟩) _ _ s;rw[q];exact aH j
theorem Zwd {prog:Program}{w:World}{A:Around}{s:Shared}{x:Str}{t:Nat}{R:Result->Shared->Prop}(a:¬(x.length:Int)≥2^63)
  (h:R (.ok (.ret (.int x.length (s.toks+1)))) {s with toks:=s.toks+1+1}):bR (cP prog w) A (.call (.builtin "len") ⟨[.str x t],[]⟩) R s:=by
 refine Zcd kind_len plain_len entry_len (args_len1 _) ?_;unfold pT;refine aA (m:=oneArg "len" _) (aH ?_);refine aA (m:=callSpecial? (.str x t) (aB "__len__")) (fW (name:=aB "__len__") (typeIs_str s x t) F.slot_str_len (call_gives F.slot_str_len (typeIs_str s x t) F.entry_str_len (F.args_str_len_1 _) (gives_str_len x t) ?_));show aU _ _ _ _ _ {s with toks:=s.toks+1};refine aA (eC (aH ?_));refine aA (kF ?_);show aU _ _ (if(x.length:Int)<0 then _ else _) _ _ _;rw[if_neg (cR (aR _))];show aU _ _ (if(x.length:Int)≥2^63 then _ else _) _ _ _;rw[if_neg a];exact aA (qC (aH ⟨_,rfl,h⟩))
abbrev LsI:=I2 Str Nat
noncomputable def cLs(i:LsI):Code:= .call (.builtin "len") ⟨[.str i.1 i.2],[]⟩
def fLs:Zi LsI where
 code:=cLs
 P _:=[]
 cond i:=some (i.1.cps.toList.length<=1000)
 F i _ U:=(.ok (.ret (.int (Int.ofNat i.1.cps.toList.length) (Z6 U.rv))),[])
 k:=0
 ext c _:=match c with| .call _ ⟨[.str s t],[]⟩=>some ⟨s,t⟩|_=>none
 d:=Zf 0
 u:=Ze 0
theorem Z9p(w:World):Za (vW w) fLs.ctr:=by
 refine fLs.ok (fun i j=> ?_);have m:=j _ rfl;intro A s hh out fr I q a;have e:i.1.length=i.1.cps.toList.length:=by
  show i.1.cps.size=_;simp
 refine Zwd (by rw[e];lia) ?_;haveI st:=a.kept (h':=s.heap) (tk:=s.toks+1+1) (fun y y e=>e) a.rep.big;exact⟨0,aX,trivial,⟨s.heap.objs.size-8,s.toks+1+1, .int i.1.length (s.toks+1),fun y=>⟨0,LW.lst [] 0, .no⟩⟩,by rw[e];rfl,st⟩
set_option tactic.hygienic true in theorem Zce:∀{vs:List Value}{xs:List Int},Zc vs=some xs->∃l,Z4s vs=some l/\l.map (·.1)=xs:=by
 intro z0_
 induction z0_ with
 |nil=>
  intro xs e;cases e;exact⟨[],rfl,rfl⟩
 |cons v vs ih=>
  intro xs e;cases v with
  |int x t=>
   haveI e':(match Zc vs with|some r=>some (x::r)|none=>none)=some xs:=e
   split at e'
   ·rename_i r q;cases e';obtain⟨l,h1,h2⟩:=ih q;refine⟨(x,t)::l, ?_,by rw[aP,h2]⟩;show(match Z4s vs with|some r=>some ((x,t)::r)|none=>none)=_;rw[h1]
   ·contradiction
  |_=>exact nomatch e
theorem Zs9 {vs:List Value}{j:List Int}(e:Zc vs=some j):Y6 vs=j.sum:=by
 haveI a:=Zce e;haveI l:=fC (a);haveI m:=(bF (a)).1;haveI q:=(bF (a)).2;simp only[(Z5r m).2,q]
def Zcf:Zi Zha where
 code:=J6j
 P:=Zno
 cond i:=some (∃j,Zc i.3=some j)
 F i _ U:=(.ok (.ret (.int (Y6 i.3) (Z6 U.rv))),Zno i)
 k:=1
 ext _ S:=match S with
  |[l]=>some ⟨l.a,Z3 l.o,Z1 l.o⟩
  |_=>none
 d:=Zf 0
 u:=Ze 0
 z:=true
theorem Zdw(w:World):Za (vW w) Zcf.ctr:=by
 refine Zcf.ok (fun i hc=> ?_);obtain⟨ys,m⟩:=hc _ rfl;obtain⟨l,n,vs⟩:=i;simp only at m;intro A s hh out fr hz X a;haveI hA:A.handled=none:=X.hh.trans (hz rfl);haveI I:s.heap.get? l=some (LW.lst vs n):=(a.rep.slots ⟨l,LW.lst vs n, .no⟩ (.head _)).plain rfl;refine Z7 fun k'=> ?_;obtain⟨J,e,_⟩:=Zce m;obtain⟨W,Z⟩:=Z5r e;have Y:s.heap.IsList l (jF J.toArray):=⟨_,I,rfl,n,by
  show Data.seq ⟨vs⟩ n=Data.seq (jF J.toArray) n;rw[show vs=_ from W];simp[jF]⟩
 refine k' ?_;refine Zh9 hA Y fun h' tk j q=> ?_;have st:=a.kept (tk:=tk) q (Qv a q);refine⟨0,aX,trivial,⟨h'.objs.size-8,tk, .int 0 j,fun y=>Zdb⟩, ?_,st⟩;show _=(Except.ok (Flow.ret (.int (Y6 vs) j)):Result);rw[show Y6 vs=_ from Z]
 congr 3
 rw[preSum_eq,iC (by simp)]
section
noncomputable def Qd(x:Int):Bool:=decide (x/6 % 5≠4)
def Zav(x:Int):Nat:=Z5w.cps.toList.getD (x % 6).toNat 0
def nmI(x:Int):Str:=Z0 (Yd (Yw x))
def Z8n(ns:List Int)(y:Str):Int:=(((ns.filter Qd).filter fun x=>decide (nmI x=y)).length:Nat)
def Z2s(R:List Is)(room:Int):Int:=if room<(R.length:Int) then(R.getD 0 Zo).c else 0
structure Z21(ns:List Int)(room:Int)(F M:List He)(R:List Is)(S:List Si)(tp:Str):Prop where
 r1:1<=room
 r3:room<=3
 kc:OkK (S.map Si.kc)
 fk:F.map He.kv=Ye (S.map Si.kc)
 om:OkM M R
 ms:∃d,MS room.toNat d (Jx (S.map Si.kc)) (Jo M)/\CS room.toNat d (Jx (S.map Si.kc)) ((ns.filter Qd).length:Nat) (Z8n ns)
 tp:tp.cps.toList=(ns.filter Qd).map Zav
theorem Z4v(x:Int):Yw x<30/\((Yw x % 5:Nat):Int)=x/6 % 5:=by
 obtain⟨i,j,y,q,m,a,e⟩:=Zl3 x;rw[e,q,(k5 a).2];exact⟨hI (Nat.add_lt_add_left a _) (Nat.mul_le_mul_left 5 m),rfl⟩
theorem Zep:∀k,k<30->(k % 5≠4->Yd k∈Jy)/\(k % 5=4->Yd k∈Zh):=by decide+kernel
theorem Zeq {x:Int}(h:Qd x=true):Yd (Yw x)∈Jy:=by
 obtain⟨a,j⟩:=Z4v x;have m:=of_decide_eq_true h;exact(Zep _ a).1 (by lia)
theorem Zwe {x:Int}(h:Qd x=false):Yd (Yw x)∈Zh:=by
 obtain⟨a,j⟩:=Z4v x;have m:x/6 % 5=4:=by
  apply Z7;intro z;rw[show Qd x=true from decide_eq_true z] at h;contradiction
 exact(Zep _ a).2 (Yy [_] [_] [.z Zr Jb,Za9] [] (.n Zr Z4g) rfl j m)
theorem Z3g {A:AL}(h:∀p∈A,1<=p.2):0<=Z00 A:=by
 induction A with
 |nil=>exact bX _
 |cons p A ih=>
  have:=ih fun q a=>h q (.tail _ a);have:=h p (.head _);show 0<=p.2+(A.map (·.2)).sum;unfold Z00 at*;lia
theorem Z9q {A:AL}(n:(Zq A).Nodup)(h:∀p∈A,1<=p.2){x:Str}{c:Int}(a:(x,c)∈A):c<=Z00 A:=by
 have:=Zhs n a;have:=Z3g (A:=Yb A x) fun p a=>h p (Z0h.mp a).1;lia
theorem Zsa {d:Int}{r:Nat}(h:0<=d):d<=d*((r:Int)+1):=by
 have:d*1<=d*((r:Int)+1):=iU (Zm [] [_] [] (.z Q4 Y8) rfl) h;lia
theorem Zic {room:Nat}{d n:Int}{A B:AL}{f:Str->Int}(m:MS room d A B)(c:CS room d A n f):(∀p∈A,p.2<=n)/\∀p∈B,p.2<=n:=by
 have y:=Zsa (r:=room) m.d0;have I:=Z3g m.pa;have j:=c.tot;refine⟨fun p a=> ?_,fun p a=> ?_⟩
 ·have:=Z9q m.na m.pa (x:=p.1) (c:=p.2) a;have:=m.d0;lia
 ·by_cases q:d<p.2
  ·have:(p.1,p.2-d)∈A:=m.ab.mem_iff.mpr (Z02.mpr ⟨by rw[show p.2-d+d=p.2 by lia];exact a,(Zm [_,_] [] [Z6n] (.z Zcr (.s Y3 Jb)) rfl q)⟩);have:=Z9q m.na m.pa this;exact Zm [_,_,_,_,_] [] [Zg3, .z (.s lQ9 Z2c) Jb, .z Z2c Y3] (.z lQ9 Q5) rfl (cG j.symm) this y
  ·exact Zm [_,_,_,_,_] [] [Zg3, .z lQ9 Z2c,Z6m, .z Z2c Y3] (.z lQ9 Q5) rfl (cG j.symm) (cE q) I y
theorem Zid {room:Int}{d:Int}{A:AL}{M:List He}{R:List Is}(r1:1<=room)(m:MS room.toNat d A (Jo M))(a:Qh M R):d=Z2s R room:=by
 haveI hl:=a.len;unfold Z2s;haveI lb:=m.lb;rw[Z0i] at lb
 by_cases q:room<(R.length:Int)
 ·rw[if_pos q];obtain⟨lo,p,Y,e⟩:=m.fl (by rw[Z0i];lia);haveI X:0<R.length:=by lia
  haveI h0:=Zz6 X;obtain⟨x,Z,ex⟩:=a.find h0;haveI I:=lo _ (Z9m Z);haveI J:valN x.v=(R.getD 0 Zo).c:=congrArg kY ex;obtain⟨y,hy,W⟩:=aN.mp Y;haveI hm:Yj y∈R.map Is.ck:=a.2.mem_iff.mpr (aL hy);haveI j:=Zkw a.1 hm;rw[Q9] at j;haveI e2:(Yj y).1=p.2:=by rw[<-W];rfl
  simp only[e2,e] at j;haveI h3:(R.getD 0 Zo).ck.1=(R.getD 0 Zo).c:=rfl;rw[h3] at j;simp only at I;exact dC (Zm [_,_,_] [] [Z5h, .z Q5 Jb] (.z Q5 Y3) rfl (cG J) I) (j)
 ·rw[if_neg q];exact m.nf (by rw[Z0i];lia)
theorem Zl5 {d r:Int}(j:0<=d)(a:r=2\/r=3\/r=4)(h:d*r<=10):Z2r (d*r) r/\cZ (d*r) r=d/\dN (d*r) r=0:=by
 refine⟨?_, ?_, ?_⟩
 ·obtain⟨n,rfl⟩:=bU j;exact(show∀n:Nat,n<6->∀r:Int,r=2\/r=3\/r=4->(n:Int)*r<=10->((n:Int)*r,r)∈abL from fun n m r a=>by
   have k:∀n:Nat,n<6->∀r∈[(2:Int),3,4],(n:Int)*r<=10->((n:Int)*r,r)∈abL:=by decide
   exact k n m r (by rcases a with rfl|rfl|rfl<;>decide)) n (by rcases a with rfl|rfl|rfl<;>lia) r a h
 ·rw[dS _ (by lia)];exact Int.mul_ediv_cancel _ (by lia)
 ·rw[cM _ (by lia)];exact Int.mul_emod_left _ _
theorem Zaw {F:List He}{K:KC}(h:F.map He.kv=Ye K)(m:OkK K)(I:∀p∈K,p.2<=12):HN F/\(∀e∈F,1<=valN e.v)/\F.length=K.length/\(F.map fun e=>valN e.v)=K.map (·.2)/\(F.map fun e=>Z0 e.k)=K.map fun p=>Z0 p.1:=by
 haveI J:∀e∈F,∃p∈K,e.k=p.1/\e.v=Zj p.2:=fun e y=>by
  have:e.kv∈Ye K:=by rw[<-h];exact aL y
  obtain⟨p,a,q⟩:=aN.mp this;exact⟨p,a,(congrArg kY q).symm,(congrArg lA q).symm⟩
 refine⟨fun e y=> ?_,fun e y=> ?_, ?_, ?_, ?_⟩
 ·obtain⟨p,a,j,W⟩:=J e y;have:=m.pos p a;have:=I p a;simp only[j,W];exact⟨m.nm p a,(Yq p.2 (by lia) (by lia)).1⟩
 ·obtain⟨p,a,j,W⟩:=J e y;have:=m.pos p a;have:=I p a;simp only[W,(Yq p.2 (by lia) (by lia)).2];exact m.pos p a
 ·have:=congrArg hN h;unfold Ye at this
  rwa[aE,aE] at this
 ·have j:(F.map fun e=>valN e.v)=(F.map He.kv).map fun p=>valN p.2:=by rw[bS];rfl
  rw[j,h];unfold Ye;rw[bS];apply eN;intro p a;have:=m.pos p a;have:=I p a;exact(Yq p.2 (by lia) (by lia)).2
 ·have j:(F.map fun e=>Z0 e.k)=(F.map He.kv).map fun p=>Z0 p.1:=by rw[bS];rfl
  rw[j,h];unfold Ye;rw[bS];rfl
theorem Zsb {M:List He}{R:List Is}{S:List Si}{room:Nat}{d:Int}(m:MS room d (Jx (S.map Si.kc)) (Jo M))(y:OkM M R)(h4:S.length<=4){X Y:List Is}(J:Zol R [] 0 d X)(q:Zoo S [] 0 d Y):
  Y.length<=4/\((Dt.is (X.map Is.ck)).ok/\(Dt.is ((sortI Y).map Is.ck)).ok)/\Dt.is (X.map Is.ck)=Dt.is ((sortI Y).map Is.ck):=by
 haveI J:X=R.filter (Zz4 d):=J;haveI q:Y.map Is.ck=S.map (Zon d):=q;have ly:Y.length=S.length:=by have:=congrArg hN q;rwa[aE,aE] at this
 have I:X.map Is.ck=(R.map Is.ck).filter fun p=>decide (d<p.1):=by
  simp only[J,dA];rfl
 have sx:Z0g (X.map Is.ck):=by rw[I];exact y.row.1.sublist dR
 haveI p1:(X.map Is.ck).Perm ((M.map Yj).filter fun p=>decide (d<p.1)):=by rw[I];exact y.row.2.filter _
 haveI e2:((M.map Yj).filter fun p=>decide (d<p.1))=((Jo M).filter fun p=>decide (d<p.2)).map fun p=>(p.2,p.1):=by
  unfold Jo;simp only[dA,dA,bS];rfl
 haveI e3:(Jw d (Jo M)).map (fun p=>(p.2+d,p.1))=((Jo M).filter fun p=>decide (d<p.2)).map fun p=>(p.2,p.1):=by
  unfold Jw;rw[bS];apply eN;intro p _;show(p.2-d+d,p.1)=_;rw[show p.2-d+d=p.2 by lia]
 haveI e4:S.map (Zon d)=(Jx (S.map Si.kc)).map fun p=>(p.2+d,p.1):=by
  unfold Jx;rw[bS,bS];rfl
 have py:(Y.map Is.ck).Perm (X.map Is.ck):=by
  rw[q,e4];refine(m.ab.map _).trans ?_;rw[e3,<-e2];exact p1.symm
 haveI nx:(X.map Is.ck).Nodup:=rU (R:=Ys) (S:=fun a b=>a≠b) (fun {a b} (h:Ys a b) (e:a=b)=>Z2o b (by rw[e] at h;exact h)) sx;haveI ny:(Y.map Is.ck).Nodup:=py.nodup_iff.mpr nx;haveI j:=Zc9 (R:=Y) (by lia) ny;haveI s1:=j.1;haveI s2:=j.2;haveI e:=Zrx sx s1 (py.symm.trans s2.symm);haveI Z:(Dt.is (X.map Is.ck)).ok:=by
  intro p W;rw[I] at W;exact Zs2 y.hn y.row p (cI.mp W).1
 exact⟨by lia,⟨Z,by rw[<-e];exact Z⟩,by rw[e]⟩
structure Zze(ns:List Int)(x room:Int)(M:List He)(tp1:Str)(S1:List Si)(F1:List He):Prop where
 fl:F1.length<=3
 cnt:Zok S1 [] 0
 dtf:(Dt.hs (F1.map He.kv)).ok
 cnts:∀X,Zvr S1 [] 0 X->X.map He.kv=F1.map He.kv
 vls:Zor (F1.map He.vV) [] 0
 emp:F1.map He.vV=[]↔S1=[]
 lif:∀m,Zop S1 [] 0 m
 beh:∀M1 R1,Z1q M (room+1) (Yd (Yw x)) M1 R1->R1≠[]/\R1.length<=4/\Z21 (ns++[x]) room F1 M1 R1 S1 tp1/\
  (∀X Y,Zol R1 [] 0 (Z2s R1 room) X->Zoo S1 [] 0 (Z2s R1 room) Y->Y.length<=4/\((Dt.is (X.map Is.ck)).ok/\(Dt.is ((sortI Y).map Is.ck)).ok)/\Dt.is (X.map Is.ck)=Dt.is ((sortI Y).map Is.ck))/\
  ∀vs,Zvu (F1.map He.vV) [] 0 vs->(∃xs,Zc vs=some xs)/\Z2r ((tp1.cps.toList.length:Int)-Y6 vs) (room+1)/\cZ ((tp1.cps.toList.length:Int)-Y6 vs) (room+1)=Z2s R1 room/\dN ((tp1.cps.toList.length:Int)-Y6 vs) (room+1)=0
theorem Zie {r:Int}(h:1<=r):((r.toNat:Nat):Int)=r:=Int.toNat_of_nonneg (cJ (by decide) h)
theorem J1v {r:Int}(h:1<=r):(r+1).toNat-1=r.toNat:=by
 obtain⟨n,rfl⟩:=bU (cJ (by decide) h);rfl
theorem Zif {r:Int}{n:Nat}(h:1<=r)(q:n=r.toNat+1):(n:Int)=r+1:=by
 rw[q];exact congrArg (fun z:Int=>z+1) (Zie h)
set_option tactic.hygienic true in theorem Zsc {ns:List Int}{room:Int}{F M:List He}{R:List Is}{S:List Si}{tp:Str}(inv:Z21 ns room F M R S tp)(hl:ns.length<10){x:Int}(hg:Qd x=true){tp1:Str}(htp:tp1.cps.toList=tp.cps.toList++[Zav x]):
  Zfn S (Yd (Yw x)) room/\(Zbz F (Yd (Yw x))/\1<=room)/\(OkM M R/\(∀e∈M,valN e.v<=11)/\(M.length:Int)<=room+1)/\
  ∀S1 F1,S1.map Si.kc=Q3 (S.map Si.kc) (Yd (Yw x)) room->F1.map He.kv=Z20 (F.map He.kv) (Yd (Yw x)) room->Zze ns x room M tp1 S1 F1:=by
 refine Z7 fun k'=> ?_;obtain⟨r1,r3,kc,fk,om,⟨d,ms,cs⟩,ht⟩:=inv;have hs:=Zeq hg;obtain⟨b1,b2⟩:=Zic ms cs;have hn:((ns.filter Qd).length:Int)<=9:=by
  have:=bY Qd ns;exact Zm [] [_,_] [Yl, .n Z4h lQ8] (.z Zr (.n 9)) rfl this hl
 have sl:(S.map Si.kc).length<=3:=by have:=ms.la;rw[Z9o] at this;lia
 have c9:∀p∈S.map Si.kc,p.2<=9:=fun p hp=>cJ (b1 (Z0 p.1,p.2) (Zcc hp)) hn;obtain⟨f1,f2,f3,f4,f5⟩:=Zaw fk kc (fun p hp=>by have:=c9 p hp;lia);have mb:∀e∈M,valN e.v<=9:=fun e he=>cJ (b2 _ (Z9m he)) hn;have ml:(M.length:Int)<=room+1:=by have:=ms.lb;rw[Z0i] at this;lia
 have nK:(S.map fun e=>Z0 e.k).Nodup:=by
  have:=kc.nd;rw[Z4f,bS] at this;exact this
 refine k' ?_;refine⟨⟨aG.mpr (.inl (Zw _ hs).1),fun e he=>aG.mpr (.inl (Zw _ (kc.nm _ (aL he))).1),jQ.mp nK,by rwa[aE] at sl,r1,r3⟩,⟨⟨hs,f1,by rw[f3];exact sl,fun e he=>⟨f2 e he, ?_⟩, ?_⟩,r1⟩,⟨om,fun e he=>by have:=mb e he;exact cJ this (by decide),ml⟩,fun S1 F1 e1 e2=> ?_⟩
 ·have:valN e.v∈(S.map Si.kc).map (·.2):=by rw[<-f4];exact aL he
  obtain⟨p,hp,q⟩:=aN.mp this;have:=c9 p hp;exact Zm [_,_] [] [Z5h, .z Y3 (.n 9)] Zlw rfl (cG q.symm) this
 ·have:(F.map fun e=>Z0 e.k).Nodup:=by rw[f5,<-Z4f];exact kc.nd
  exact jQ.mp this
 ·rw[fk,Zwc kc (fun p hp=>by have:=c9 p hp;exact cJ this (by decide))] at e2;rw[<-e1] at e2
  let d1:=if nmI x∈Zq (Jx (S.map Si.kc))\/(Jx (S.map Si.kc)).length<room.toNat then d else d+1
  have eA:Jx (S1.map Si.kc)=mgS (Jx (S.map Si.kc)) (nmI x) room.toNat:=by rw[e1];exact J1t kc (by lia)
  have cs1:CS room.toNat d1 (Jx (S1.map Si.kc)) (((ns++[x]).filter Qd).length:Nat) (Z8n (ns++[x])):=by
   have:=J1l (f':=Z8n (ns++[x])) ms.na ms.pa ms.la ms.d0 cs (nmI x) ?_ ?_
   ·rw[eA];haveI e3:((((ns++[x]).filter Qd).length:Nat):Int)=((ns.filter Qd).length:Nat)+1:=by
     simp only[cY,aV,bD hg,dB,bA];lia
    simp only[e3];exact this
   ·unfold Z8n;rw[cY,bD hg,dB,cY,aV,bD (by simp),dB,bA];lia
   ·intro y hy;unfold Z8n;rw[cY,bD hg,dB,cY,aV,bH (by simpa using fun z=>hy z.symm),dB,mV];lia
  haveI mstep:∀M1 R1,Z1q M (room+1) (Yd (Yw x)) M1 R1->MS room.toNat d1 (Jx (S1.map Si.kc)) (Jo M1):=fun M1 R1 o=>by
   obtain⟨om1,ol,g,d',hgd,ea⟩:=o;haveI rt:=J1v r1;rw[rt] at ea;haveI ke:ssS (Jo M) (Z0 (Yd (Yw x))) room.toNat g d'=ssS (Jo M) (nmI x) room.toNat g d:=by
    unfold ssS
    by_cases q:nmI x∈Zq (Jo M)
    ·rw[if_pos (show Z0 (Yd (Yw x))∈Zq (Jo M) from q),if_pos q];rfl
    ·rw[if_neg (show¬Z0 (Yd (Yw x))∈Zq (Jo M) from q),if_neg q]
     by_cases q2:(Jo M).length=room.toNat+1
     ·haveI q3:(M.length:Int)=room+1:=Zif r1 (Z0i M▸q2);refine Z7 fun k'=> ?_;obtain⟨h1,h2⟩:=hgd q q3;obtain⟨lo,p,hp,e⟩:=ms.fl q2;have h3:=h2 p hp;have h4:=lo _ h1;simp only at h4;have:d'=d:=by lia
      refine k' ?_;rw[this];rfl
     ·simp only[if_neg q2,if_neg q2];rfl
   simp only[ea,ke,eA];refine J1j ms (nmI x) g fun q q2=> ?_;haveI q3:(M.length:Int)=room+1:=Zif r1 (Z0i M▸q2);obtain⟨h1,h2⟩:=hgd q q3;obtain⟨lo,p,hp,e⟩:=ms.fl q2;haveI h3:=h2 p hp;haveI h4:=lo _ h1;simp only at h4;have:d'=d:=by lia
   rw[<-this];exact h1
  haveI ndA:(Zq (Jx (S1.map Si.kc))).Nodup:=by
   rw[eA];unfold mgS
   split
   ·exact Z06 (Z3o ms.na _) (fun z=>(Z28.mp z).2 rfl) _
   ·split
    ·rename_i h _;exact Z06 ms.na h _
    ·exact Z59 ms.na 1
  have kc1:OkK (S1.map Si.kc):=by rw[e1] at ndA⊢;exact J1u kc (by lia) hs ndA
  have hn1:((((ns++[x]).filter Qd).length:Nat):Int)<=10:=by
   have:=bY Qd (ns++[x]);simp only[aV,bA] at this;exact Zm [] [_,_] [.n Zr Z4h, .n Z4h lQ8] (.z Zr lQ8) rfl this hl
  have d10:0<=d1:=by
   haveI h0:=ms.d0;have hd:d1=d\/d1=d+1:=by
    show(if _ then d else d+1)=d\/(if _ then d else d+1)=d+1
    split
    ·exact .inl rfl
    ·exact .inr rfl
   generalize d1=e at hd
   lia
  haveI s1n:=Z3g (A:=Jx (S1.map Si.kc)) (fun p hp=>by
   obtain⟨q,hq,rfl⟩:=aN.mp hp;exact kc1.pos q hq)
  have c10:∀p∈S1.map Si.kc,p.2<=10:=fun p hp=>by
   have:=Z9q kc1.nd (fun p hp=>by
    obtain⟨q,hq,rfl⟩:=aN.mp hp;exact kc1.pos q hq) (Zcc hp)
   have:=Zsa (r:=room.toNat) d10;have:=cs1.tot;lia
  have l3:(S1.map Si.kc).length<=3:=by
   rw[<-Z9o,eA];haveI h1:=ms.la;unfold mgS
   split
   ·rename_i h;have:=Z6g ms.na h;simp only[aV,bA];lia
   ·split
    ·simp only[aV,bA];lia
    ·have:=Z7a 1 (Jx (S.map Si.kc));lia
  have ls:S1.length<=3:=by rwa[aE] at l3
  obtain⟨g1,g2,g3,g4,g5⟩:=Zaw e2 kc1 (fun p hp=>by have:=c10 p hp;exact cJ this (by decide));have lf:F1.length<=3:=(aK (aT g3) l3);refine⟨lf,⟨fun e he=> ?_,by lia,by simp;lia⟩,Z45 g1,fun X hX=> ?_,⟨⟨fun v hv=> ?_,fun v hv=> ?_⟩,by rw[aE];exact cX lf,by simp;exact aK lf (by decide),⟨[],rfl⟩⟩, ?_,fun m=>⟨fun e he=>aG.mpr (.inl (Zw _ (kc1.nm _ (aL he))).1),by lia,by simp;lia⟩,fun M1 R1 o=> ?_⟩
  ·haveI h1:=kc1.pos _ (aL he);haveI h2:=c10 _ (aL he);exact⟨cJ (aR _) h1,cJ h2 (aR _)⟩
  ·haveI hX:X.map He.kv=S1.map Zz3:=hX;simp only[hX,e2];unfold Ye;rw[bS];rfl
  ·obtain⟨e,he,rfl⟩:=aN.mp hv;exact⟨_,_,rfl⟩
  ·obtain⟨e,he,rfl⟩:=aN.mp hv;exact(g1 e he).2
  ·rw[List.map_eq_nil_iff];constructor
   ·intro z;rw[z] at g3;rw[aE] at g3;exact fO g3.symm
   ·intro z;rw[z] at g3;exact fO g3
  ·have m1:=mstep M1 R1 o;have ol:=o.len;have rl:=o.ok.row.len;have le:=Zid r1 m1 o.ok.row;have tl:tp1.cps.toList.length=((ns++[x]).filter Qd).length:=by
    simp only[htp,ht,cY,bD hg,dB,aV,aV,aE];rfl
   refine⟨fun z=> ?_,(Zm [_] [_,_] [Yl, .z Yi Z10, .z Jb Z2b] (.n Zr Z4g) rfl (aT rl) ol r3),⟨r1,r3,kc1,e2,o.ok,⟨d1,m1,cs1⟩, ?_⟩, ?_,fun vs hv=> ?_⟩
   ·
    have hne:nmI x∈Zq (Jo M1):=by
     refine Z7 fun k'=> ?_;obtain⟨_,_,g,d',_,ea⟩:=o;refine k' ?_;rw[ea];unfold ssS
     split
     ·rw[Z9k];exact aG.mpr (.inr (.head _))
     ·split
      ·rw[Z9k];exact aG.mpr (.inr (.head _))
      ·rw[Z9k];exact aG.mpr (.inr (.head _))
    rw[z] at rl;have:M1=[]:=fO rl.symm;rw[this] at hne;exact nomatch hne
   ·simp only[htp,ht,cY,bD hg,dB,bB];rfl
   ·rw[<-le];exact fun X Y hX hY=>Zsb m1 o.ok (by lia) hX hY
   ·refine Z7 fun k'=> ?_;obtain⟨xs,ex,ev⟩:=hv;cases ex;have ev:Zc vs=some ((F1.map He.vV).map Zoq):=ev;have e3:(F1.map He.vV).map Zoq=F1.map fun e=>valN e.v:=by rw[bS];rfl
    rw[e3,g4] at ev;have e4:Y6 vs=Z00 (Jx (S1.map Si.kc)):=by
     rw[Zs9 ev];unfold Z00 Jx;simp only[bS];rfl
    have tot:=cs1.tot;rw[Zie r1] at tot;have e5:(tp1.cps.toList.length:Int)-Y6 vs=d1*(room+1):=by rw[e4,tl];exact Yy [_,_] [_] [.z Zr Z6l] [] (.z (.s Zr Jb) Y3) rfl tot
    obtain⟨a1,a2,a3⟩:=Zl5 d10 (show room+1=2\/room+1=3\/room+1=4 by lia) (Zm [_,_] [_] [.z Z6l Zr,Z6m,Zg5] (.z Y3 lQ8) rfl (cG tot.symm) s1n hn1);refine k' ?_;rw[e5,<-le];exact⟨⟨_,ev⟩,a1,a2,a3⟩
open PySem PySem.W PySem.W.X PySem.Spec PySem.Calls PyProof.Rows
theorem Z7d(x:Int):(x.fdiv 6).fmod 5=x/6 % 5/\x.fmod 6=x % 6:=by
 rw[cM _ (by decide),dS _ (by lia),cM _ (by lia)];exact⟨rfl,rfl⟩
theorem J8n {x:Int}(h:Qd x=false):(x.fdiv 6).fmod 5=4:=by
 rw[(Z7d x).1];apply Z7;intro z;rw[show Qd x=true from decide_eq_true z] at h;contradiction
theorem J1w {x:Int}(h:Qd x=true):¬(x.fdiv 6).fmod 5=4:=by
 rw[(Z7d x).1];exact of_decide_eq_true h
theorem Z21.odd {ns:List Int}{room:Int}{F M:List He}{R:List Is}{S:List Si}{a:Str}(j:Z21 ns room F M R S a){x:Int}(h:Qd x=false):Z21 (ns++[x]) room F M R S a:=by
 obtain⟨W,m,kc,q,I,J,y⟩:=j;haveI e:(ns++[x]).filter Qd=ns.filter Qd:=by
  rw[cY,bH (by rw[h];exact jH),dB,gX]
 refine⟨W,m,kc,q,I, ?_,by rw[e];exact y⟩;unfold Z8n;rw[e];exact J
theorem Z21.small {ns:List Int}{room:Int}{F M:List He}{R:List Is}{S:List Si}{I:Str}(a:Z21 ns room F M R S I):HN M/\M.length<=4/\(∀e∈R,e.k∈Jy)/\R.length<=4:=by
 refine Z7 fun W=> ?_;obtain⟨d,y,_⟩:=a.ms;have J:=y.lb;have X:=a.r3;have Y:=a.om.row.len;rw[Z0i] at J;refine W ?_;refine⟨a.om.hn,by lia,fun e j=> ?_,by lia⟩;obtain⟨x,m,q⟩:=a.om.row.find (aL (f:=Is.ck) j);have:Z0 x.k=e.k:=congrArg lA q;simp only[<-this];exact(Zw _ (a.om.hn x m).1).2.2.1
end
abbrev R0I:=I6 Nat Nat (List Is) Nat Nat Obj
noncomputable def cR0(i:R0I):Code:= .call (.builtin "list.__getitem__") ⟨[.ref i.1, .int 0 i.4],[]⟩
def pR0(i:R0I):List Sl:=[⟨i.1,lst (i.3.map Is.ref) i.2, .is i.3⟩,⟨i.5,i.6, .no⟩]
def rR0(i:R0I)(_:Ph):Result×List Sl:=(.ok (.ret (.ref (i.3.getD 0 Zo).a)),[⟨i.1,lst (i.3.map Is.ref) i.2, .is i.3⟩,⟨i.5,i.6, .is [i.3.getD 0 Zo]⟩])
theorem Jgp(w:World)(l n t a:Nat)(co:Obj)(e:Is)(R:List Is)(N T:Nat)(j:Option Value):
  Z5 (rn 0 w ⟨[],[]⟩ (cR0 ⟨l,n,e::R,t,a,co⟩) (pR0 ⟨l,n,e::R,t,a,co⟩) N T j ((Z4 0x11014c6e148e .nil)) (done 2 (rR0 ⟨l,n,e::R,t,a,co⟩))):=by
 exact Zx (by kernel_rfl) trivial
theorem Jcw(w:World)(i:R0I)(h:i.3≠[]):J7 (vW w) false false (Zf 0) (Ze 0) (cR0 i) (pR0 i) (rR0 i):=by
 obtain⟨l,n,R,t,a,co⟩:=i
 match R,h with
 |[],h=>exact absurd rfl h
 |e::R,_=>exact Jk Ym fun N T j y=>Jgp w l n t a co e R N T j
def fR0:Zi R0I where
 code:=cR0
 P:=pR0
 cond i:=some (i.3≠[])
 F i _ U:=rR0 i U
 k:=2
 ext c S:=match c with
  | .call _ ⟨[_, .int _ t],[]⟩=>(match S with
   |[l,x]=>(match l.g with
    | .is R=>some ⟨l.a,Z3 l.o,R,t,x.a,x.o⟩
    |_=>none)
   |_=>none)
  |_=>none
 d:=Zf 0
 u:=Ze 0
theorem Zzf(w:World):Za (vW w) fR0.ctr:=fR0.ok (fun i a=>Jcw w i (a _ rfl))
noncomputable def Zwf(i:Zdj):Code:= .call (.ref 271) ⟨[.str i.1 i.2],[]⟩
def Z8o(m:Str):Str:=match Zw8.find? (fun p=>p.1==m) with|some p=>p.2|none=>m
def Zwg(s:Str)(U:Ph):Result×List Sl:=(.ok (.ret (.str s (Z6 U.rv))),[])
theorem Z8p:∀k,k<30->Z8o (Z4u k)=Yd k:=by decide+kernel
def J8o:List Hs:=[((Z4 0x119e05585e485e354ee .nil)),((Z4 0x1ace55585e354ee .nil)),((Z4 0x1ace85e355554ee .nil)),((Z4 0x1ace55585e355554ee .nil)),((Z4 0x1ace55585e354ee .nil))]
theorem J8p(i:Zdj)(a:∃k,k<30/\i.1=Z4u k):J7 (vW (w2 w b c)) true false (Zf 1) (Ze 1) (Zwf i) [] (Zwg (Z8o i.1)):=by
 obtain⟨s,t⟩:=i;obtain⟨k,a,rfl⟩:=a;simp only;rw[Z8p k a];exact Z85 Ym (n:=100000) (k:=0) (hs:=J8o.getD (k % 5) .nil) fun N T=>by
  refine J6 (n:=30) (P:=fun y=>True) (k:=k) (f:=fun k=>(Ql (vW (w2 w b c)) ⟨[],[]⟩ 100000).cd (Zwf ⟨Z4u k,t⟩) ⟨Zf 1,Ze 1,none,none⟩ ⟨aO N 8,0,T,0,[]⟩ (J8o.getD (k % 5) .nil) (done 0 (Zwg (Yd k)))) ?_ (fun y y=>trivial) a;cases b<;>kernel_rfl
def Zwh:Zi Zdj where
 code:=Zwf
 P _:=[]
 cond i:=some (∃k,k<30/\i.1=Z4u k)
 F i _ U:=Zwg (Z8o i.1) U
 k:=0
 ext c _:=match c with
  | .call _ ⟨[.str s t],[]⟩=>some ⟨s,t⟩
  |_=>none
 d:=Zf 1
 u:=Ze 1
 z:=true
theorem J8q:Za (vW (w2 w b c)) Zwh.ctr:=
 Zwh.ok (fun i a=>J8p w b c i (a _ rfl))
section
open PySem.F PySem.SeqAt PyProof.V
noncomputable def Zp7(o:Obj):Option (Int×Nat×Int×Nat):=match o.data with
 | .seq vs _=>(match vs.toList with
  |[.int x t, .int y u]=>some (x,t,y,u)
  |_=>none)
 |_=>none
def ipO(p:Int×Nat×Int×Nat):Obj:=Yf (.int p.1 p.2.1) (.int p.2.2.1 p.2.2.2)
noncomputable def Qr(p:Int×Nat×Int×Nat):Int×Int:=(p.1,p.2.2.1)
noncomputable def Z17(p:Int×Int):PyData:= .tuple [.int p.1, .int p.2]
def Zp8:Cmp:=fun x j a b lg hs R=>match dE x.u 9000 with
 |true=>Z4k lg hs fun p hs=>Z4k lg hs fun q hs=>(match Zp7 p.2 with
  |some e1=>(match Zp7 q.2 with
   |some e2=>Z8.ob (.val a) (.val (.ref p.1)) (Z8.ob (.val b) (.val (.ref q.1)) (Z8.ob (.obj p.2) (.obj (ipO e1)) (Z8.ob (.obj q.2) (.obj (ipO e2)) (match j with
    | .Eq=>Z3r (Qr e1=Qr e2) lg hs R
    | .NotEq=>Z3r (Qr e1≠Qr e2) lg hs R
    |_=>Zd "eqT: operator"))))
   |none=>Zd "eqT: right")
  |none=>Zd "eqT: left")
 |false=>Zd "eqT: room"
theorem Z7e {h:Heap}{a:Nat}{e:Int×Nat×Int×Nat}(g:h.get? a=some (ipO e)):Reads h (.ref a) (Z17 (Qr e)) []:=by
 haveI q:ReadsAll h [Value.int e.1 e.2.1, .int e.2.2.1 e.2.2.2] [.int e.1, .int e.2.2.1] []:= .cons (as:=[]) (.int _ _) (.cons (as:=[]) (.int _ _) .nil);exact Reads.tuple g rfl rfl q
theorem Z5b(p:Int×Int):shaped (Z17 p)=true:=by
 show(dZ (Z17 p)&&decide (fB (Z17 p)<=64))=true;simp only[fM];exact⟨by simp[dZ,eB,Z17],decide_eq_true (by simp[Z17,fB,eY])⟩
theorem Zsd(p q:Int×Int):noMix (Z17 p) (Z17 q)=true:=by simp[noMix,noMixAll,Z17]
open Classical in
theorem Z9r(p q:Int×Int):PySem.Spec.same (Z17 p) (Z17 q)=decide (p=q):=by
 obtain⟨a,b⟩:=p;obtain⟨c,d⟩:=q;dsimp only[Z17,PySem.Spec.same,PySem.Spec.sameAll]
 by_cases h1:a=c<;>by_cases h2:b=d<;>simp[h1,h2]
set_option tactic.hygienic true in theorem Zse(v:V):Z1t v Zp8:=by
 intro s0 op a b x lg hs R E A s hg hst ha;unfold Zp8 at hg;refine Z7 fun k'=> ?_
 split at hg
 ·rename_i hu;haveI hu':A.units+64<qA:=by
   haveI h1:=aW hu;haveI h2:=ha.units;show _<9900;exact Zm [] [_,_] [Yl,Zg1] Zlu rfl h2 h1
  obtain⟨p,hs1,hp,hg⟩:=Z0k hst.old hg;obtain⟨q,hs2,hq,hg⟩:=Z0k hst.old hg
  split at hg
  ·rename_i e1 q1
   split at hg
   ·rename_i e2 q2;obtain⟨ea,hg1⟩:=J0 hg;obtain⟨eb,hg2⟩:=J0 hg1;obtain⟨eo1,hg3⟩:=J0 hg2;obtain⟨eo2,hg4⟩:=J0 hg3;clear hg hg1 hg2 hg3;injection ea with ea;injection eb with eb;injection eo1 with eo1;injection eo2 with eo2
    subst ea eb;rw[eo1] at hp;rw[eo2] at hq;haveI r1:=Z7e hp;haveI r2:=Z7e hq
    split at hg4
    ·obtain⟨h1,h2,ht,hf⟩:=Qt hg4;refine k' ?_;refine oL r1 r2 (Z5b _) (Z5b _) hu' (Zsd _ _) ?_;rw[Z9r];refine⟨_,rfl, ?_⟩
     by_cases c:Qr e1=Qr e2
     ·simp only[c,decide_true];exact⟨lg,h1,ht c,hst⟩
     ·simp only[c,decide_false];exact⟨lg,h2,hf c,hst⟩
    ·obtain⟨h1,h2,ht,hf⟩:=Qt hg4;refine k' ?_;refine mG r1 r2 (Z5b _) (Z5b _) hu' (Zsd _ _) ?_;rw[Z9r];refine⟨_,rfl, ?_⟩
     by_cases c:Qr e1=Qr e2
     ·simp only[c,decide_true,iQ];exact⟨lg,h2,hf (fun n=>n c),hst⟩
     ·simp only[c,decide_false,iB];exact⟨lg,h1,ht c,hst⟩
    ·exact Z2 hg4
   ·exact Z2 hg
  ·exact Z2 hg
 ·exact Z2 hg
def Zfq:List Cmp:=[fEq,fLt,fIn,Zp8]
theorem Zig(v:V):∀f∈Zfq,Z1t v f:=by
 intro f a;simp only[Zfq,aC,aD,or_false] at a;rcases a with rfl|rfl|rfl|rfl
 ·exact Zne v
 ·exact Znf v
 ·exact Zng v
 ·exact Zse v
end
def FnF(v:V)(z:Bool)(d u:Nat)(env:Env)(c:Code)(P:List Sl)(na:Nat)(C:Nat->Prop)(D:Nat->Ph->Prop)(F:Nat->Ph->Result×List Sl):Prop:=
 ∀(A:Around) (s:Shared) (hh:Option Value) (out:List Env) (fr:List Nat),(z=true->hh=none)->Jn ⟨s,P.map Sl.a,fr⟩ ⟨d,u,hh,some ([env],out)⟩ A->St v ⟨s,P.map Sl.a,fr⟩ ⟨s.heap.objs.size,0,s.toks,0,P⟩ s->
  bR (M v) A c (fun r s'=>∃i,i<na/\C i/\∃U,D i U/\r=(F i U).1/\St v ⟨s,P.map Sl.a,fr⟩ ⟨aO U.n 8,0,U.t,0,(F i U).2⟩ s') s
theorem FnF.mono {v:V}{z:Bool}{d u:Nat}{env:Env}{c:Code}{P:List Sl}{na j:Nat}{C y:Nat->Prop}{D I:Nat->Ph->Prop}{F m:Nat->Ph->Result×List Sl}(h:FnF v z d u env c P na C D F)
  (k:∀i,i<na->C i->∃a,a<j/\y a/\∀U,D i U->∃φ',I a φ'/\(F i U).1=(m a φ').1/\(F i U).2=(m a φ').2/\φ'.n=U.n/\φ'.t=U.t):FnF v z d u env c P j y I m:=by
 intro A s hh out fr hz Y X;refine cC (h A s hh out fr hz Y X) fun r s' ⟨i,hi,hc,U,hd,e,st⟩=> ?_;refine Z7 fun k'=> ?_;obtain⟨a,W,J,q⟩:=k i hi hc;obtain⟨φ',e0,e1,e2,e3,Z⟩:=q U hd;refine k' ?_;exact⟨a,W,J,φ',e0,e.trans e1,by simp only[<-e2,e3,Z];exact st⟩
structure Qb(ι:Type) where
 code:ι->Code
 P:ι->List Sl
 cond:ι->Option Prop
 na:Nat:=1
 C:ι->Nat->Prop:=fun y y=>True
 F:ι->Nat->Ph->Result×List Sl
 D:ι->Nat->Ph->Prop
 k:Nat
 nn:Nat->Nat:=fun y=>0
 ext:Code->List Sl->Option ι
 kf:ι->Env
 d:Nat
 u:Nat
 z:Bool:=false
noncomputable def Zwi(e:Env):Code:= .forLoop default .none [] [] e
def Qb.contIn {ι:Type}(f:Qb ι)(i:ι)(lg:Lg)(j:List Nat)(R:K Result)(a:Nat)(hs:Hs)(U:Ph):Z8:=
 R (f.F i a U).1 ⟨aO U.n 8,0,U.t,0,(f.F i a U).2.take (f.nn a)++Z2g lg.sl j ((f.F i a U).2.drop (f.nn a))⟩ hs
def Qb.cont {ι:Type}(f:Qb ι)(i:ι)(lg:Lg)(j:List Nat)(R:K Result)(a:Nat)(hs:Hs):Z8:=Z8.allC (f.D i a) (f.contIn i lg j R a hs)
def Qb.run {ι:Type}(f:Qb ι)(i:ι)(lg:Lg)(a:List Nat)(R:K Result)(hs:Hs):Z8:=match f.na with
 |1=>f.cont i lg a R 0 hs
 |n=>Zbm (f.C i) (f.cont i lg a R) lg n hs
def Qb.frS {ι:Type}(f:Qb ι)(i:ι)(x:Cx)(k:Z8):Z8:=match x.fr with
 |some p=>(match p.1 with
  |[e]=>Z8.ob (.code (Zwi e)) (.code (Zwi (f.kf i))) k
  |_=>Zd "contract: frames")
 |none=>Zd "contract: no frames"
def Qb.one {ι:Type}(f:Qb ι)(i:ι)(x:Cx)(c:Code)(W:List Sl)(k:Z8):Z8:=match Yz (hhB f.z x.hh) (Yz (dE x.d f.d) (dE x.u f.u)) with
 |true=>Z8.ob (.code c) (.code (f.code i)) (Z53 W (f.P i) (Z8.condO (f.cond i) (f.frS i x k)))
 |false=>Zd "contract: room"
def Qb.ctr {ι:Type}(f:Qb ι):Ctr:=fun x c lg hs R=>
 Z55 .none lg f.k hs fun a W hs=>match Z09 a with
  |true=>(match f.ext c W with
    |some i=>f.one i x c W (f.run i lg a R hs)
    |none=>Zd "contract: another call")
  |false=>Zd "contract: twice"
theorem Qb.frS_of {ι:Type}{f:Qb ι}{i:ι}{x:Cx}{k:Z8}(a:Z5 (f.frS i x k)):(∃out,x.fr=some ([f.kf i],out))/\Z5 k:=by
 unfold Qb.frS at a;refine Z7 fun m=> ?_;cases hx:x.fr with
 |none=>rw[hx] at a;exact Z2 a
 |some p=>
  rw[hx] at a;obtain⟨l,out⟩:=p;cases l with
  |nil=>exact Z2 a
  |cons e l=>cases l with
   |nil=>
    obtain⟨j,a⟩:=J0 a;injection j with j
    unfold Zwi at j;injection j with _ _ _ _ j
    exact m ⟨⟨out,j▸hx⟩,a⟩
   |cons=>exact Z2 a
set_option tactic.hygienic true in theorem Qb.run_of {ι:Type}{f:Qb ι}{i:ι}{lg:Lg}{js:List Nat}{R:K Result}{hs:Hs}(hg:Z5 (f.run i lg js R hs)){a:Nat}(hlt:a<f.na)(hca:f.C i a):∃hs',Z5 (f.cont i lg js R a hs'):=by
 unfold Qb.run at hg
 split at hg
 ·rename_i q;rw[q] at hlt;exact⟨_,qP.mp hlt▸hg⟩
 ·exact Zbn _ hg a hlt hca
theorem Qb.one_of {ι:Type}{f:Qb ι}{i:ι}{x:Cx}{c:Code}{W:List Sl}{k:Z8}(a:Z5 (f.one i x c W k)):hhB f.z x.hh=true/\x.d<=f.d/\x.u<=f.u/\c=f.code i/\W=f.P i/\(∀p,f.cond i=some p->p)/\(∃out,x.fr=some ([f.kf i],out))/\Z5 k:=by
 refine Z7 fun y=> ?_;obtain⟨j,a⟩:=tt a;obtain⟨m,a⟩:=J0 a;injection m with m
 obtain⟨q,a⟩:=Z0m a;obtain⟨I,a⟩:=Zbj a;rw[Qn,Qn,Z.ble_iff,Z.ble_iff] at j;exact y ⟨j.1,j.2.1,j.2.2,m,q,I,Qb.frS_of a⟩
theorem Qb.okF {ι:Type}{v:V}(f:Qb ι)(hf:∀i,(∀p,f.cond i=some p->p)->FnF v f.z f.d f.u (f.kf i) (f.code i) (f.P i) f.na (f.C i) (f.D i) (f.F i))(ha:∀i a U,a<f.na->((f.F i a U).2.drop (f.nn a)).map Sl.a=(f.P i).map Sl.a:=by intros;exact rfl):Za v f.ctr:=by
 intro B c x lg hs R A s j m Y;refine Z7 fun k'=> ?_;obtain⟨idx,W,S,hs',eS,eW,hW,j⟩:=Z0n m.old f.k j;obtain⟨hd,j⟩:=tt j;cases ei:f.ext c W with
 |none=>rw[ei] at j;exact Z2 j
 |some i=>
  rw[ei] at j;obtain⟨hz,h1,h2,rfl,rfl,hc,⟨out,hx⟩,j⟩:=Qb.one_of j;obtain⟨a1,a2,a3⟩:=Y.fr _ hx;haveI J:=Z33 eS eW;have I:∀b∈out.filterMap (·.frame),b∈B.fr:=fun b I=>by
   obtain⟨env,X,e⟩:=eU.mp I;obtain⟨_,L,b2,e'⟩:=a3 env X;exact cW (e'.symm.trans e)▸b2
  have G:Gv v B lg s (f.P i) (out.filterMap (·.frame)):=⟨m,hW,by rw[eW];exact Z1f m.rep.nodup eS hd,fun y hy=>aN.mp (J y hy),fun b h=>by
   obtain⟨c1,c2,o,c3,c4,c5,_⟩:=m.rep.frs b (I b h);refine⟨c1,fun z hz q=> ?_,⟨o,c3,c4,c5⟩, .inl (I b h)⟩;obtain⟨w,hw,e3⟩:=aN.mp (J z hz);exact c2 w hw (by rw[e3,q])⟩
  refine k' (cC (hf i hc A s x.hh out _ (Zqw hz) ⟨aK Y.depth h1,aK Y.units h2,Y.hh,fun p' e=> ?_⟩ G.start) ?_)
  ·cases e;exact⟨a1,a2,fun env X=>(a3 env X).imp_right fun⟨L,_,e⟩=>⟨L,eU.mpr ⟨env,X,e⟩,e⟩⟩
  ·rintro r s' ⟨a,Z,hca,U,hdφ,rfl,st'⟩;obtain⟨hs'',hg4⟩:=Qb.run_of j Z hca;haveI hpa:=ha i a U Z;exact⟨_,hs'',Zeb hg4 U hdφ,G.fin st' hpa (Gv.put_a hpa eS eW) fun y hy=>(G.put hpa eS eW hy).elim (st'.rep.slots y) fun q=>G.same st' (.inr q) (.inl fun hm=>(m.rep.frs _ (I _ hm)).2.1 y q.1 rfl)⟩
section
variable {v:V}{g:G}{z:Bool}{d u nn na:Nat}{kk:Nat->Nat}{C:Nat->Prop}{D:Nat->Ph->Prop}{F:Nat->Ph->Result×List Sl}{hs:Hs}
variable {it l k n:Nat}{dd:Option Nat}{ss:Array (Option Value)}{vs:List Value}{gi gl ge:Gd}{rest:List Sl}{val:Value}
theorem Zp9(GO:J5 v g){env:Env}{c:Code}{P:List Sl}
  (h:∀(N T:Nat) (hh:Option Value) (out:List Env),(z=true->hh=none)->Z5 ((Ql v g nn).cd c ⟨d,u,hh,some ([env],out)⟩ ⟨aO N 8,0,T,0,P⟩ hs (Jj na kk C D F))):FnF v z d u env c P na C D F:=by
 intro A s hh out fr q m a;haveI j:=h (s.heap.objs.size-8) s.toks hh out q;rw[show aO (s.heap.objs.size-8) 8=s.heap.objs.size from bG a.rep.big] at j;exact cC ((Z13 GO nn).cd _ c _ _ hs _ A s j a m) fun r s' h=>Z2l h
theorem Z2t(GO:J5 v g){target:Expr}{body orelse:List Stmt}{env:Env}(Z:Zy gi=true)(Y:Zy gl=true)(X:Zy ge=true)(q:∀h,Y1 h gl->Y1 h ge)(W:vs[k]?=some val)
  (h:∀(N T:Nat) (hh:Option Value) (out:List Env) (dd:Option Nat) (ss:Array (Option Value)),(z=true->hh=none)->Z5 (Z4b (Ql v g nn) target (.ref it) body orelse env val ⟨d,u,hh,some ([env],out)⟩ ⟨aO N 8,0,T,0,⟨it,Yv dd ss l (k+1),ge⟩::⟨l,LW.lst vs n,gl⟩::rest⟩ hs (Jj na kk C D F))):
  FnF v z d u env (.forLoop target (.ref it) body orelse env) (⟨it,Yv dd ss l k,gi⟩::⟨l,LW.lst vs n,gl⟩::rest) na C D F:=by
 intro A s hh out fr hz J a;haveI I:=Zh3 (R:=Jj na kk C D F) (target:=target) (it:= .ref it) (body:=body) (orelse:=orelse) (env:=env) (val:=val) (Z13 GO nn) (s:=s) J fun Q E hQ=>Z87 (ge:=ge) a Z Y X q W fun y j s' st'=> ?_
 ·exact cC I fun r s' h=>Z2l h
 ·haveI m:=h (s.heap.objs.size-8) s.toks hh out y j hz;rw[show aO (s.heap.objs.size-8) 8=s.heap.objs.size from bG a.rep.big] at m;exact hQ s' ⟨_,hs,m,st'⟩
end
def Zpa:Stmt:=Z0d (Qm (Y2 30)) 1
def Z4w(s:Stmt):Expr:=match s with| .For t _ _ _ _=>t|_=>Z0v s
def J8r(f a cs j cm:Nat):Env:={scope:=(Y5 (st "_law_run") (st "_law_run") (Y2 30) 3 .none .none .none Zhp (.ref 304) .none 0).scope,locals:=f,globals:=3,cells:=[(st "least",a),(st "spelled",cs),(st "row",j),(st "many",cm)],qual:=st "_law_run.<locals>.",func:=some 305,code:= .ref 304,frame:=some f,builtins:=0}
noncomputable def frE(o:Obj):List (Str×Value)->Nat->List DictEntry
 |[],_=>[]
 |p::r,i=>⟨Zyz o i, .str p.1 (Zz0 o i),p.2⟩::frE o r (Nat.succ i)
def frO(o:Obj)(a:List (Str×Value)):Obj:=⟨.type "frame",none, .dict ⟨frE o a 0⟩ (Z3 o),o.slots⟩
noncomputable def ceO(v:Option Value):Obj:=⟨.type "cell",none, .cell v,⟨[]⟩⟩
noncomputable def ceV(o:Obj):Option Value:=match o.data with| .cell v=>v|_=>none
structure Yr where
 it:Nat
 l:Nat
 n:Nat
 vs:List Value
 k:Nat
 dd:Option Nat
 ss:Array (Option Value)
 f:Nat
 fo:Obj
 hF:Hd
 F:List He
 p:Nat
 np:Nat
 S:List Si
 cl:Nat
 lv:Option Value
 cs:Nat
 sv:Option Value
 cr:Nat
 r:Nat
 nr:Nat
 R:List Is
 cm:Nat
 hM:Hd
 M:List He
 room:Int
 rt:Nat
 tp:Str
 tt:Nat
 nx:Int
 nt:Nat
 mx:Str
 mt:Nat
 v1:List Value
 g1:Gd
 v2:List Value
 g2:Gd
 v3:List Value
 g3:Gd
noncomputable def Yr.e(i:Yr):Yr:={i with tp:=⟨⟨[]⟩⟩}
theorem Yr.e_eq {i:Yr}(h:i.tp=⟨⟨[]⟩⟩):i=i.e:=by
 cases i;cases h;rfl
def J8s(l:Nat)(room:Int)(rt a p:Nat)(j:Str)(tt:Nat):List (Str×Value):=[(st "numbers", .ref l),(st "room", .int room rt),(st "few", .ref a),(st "pairs", .ref p),(st "tape", .str j tt)]
def J8t(l:Nat)(room:Int)(rt a p:Nat)(y:Str)(tt:Nat)(m:Int)(I:Nat)(j:Str)(q:Nat):List (Str×Value):=J8s l room rt a p y tt++[(st "number", .int m I),(st "message", .str j q)]
def enR(i:Yr):Env:=J8r i.f i.cl i.cs i.cr i.cm
def Zfr(P:Params)(i:Yr)(j:Obj):List Sl:=[⟨i.it,Yv i.dd i.ss i.l i.k, .no⟩,⟨i.l,lst i.vs i.n, .no⟩,⟨i.f,j, .no⟩]++Yc P i.hF i.F++[⟨i.p,lst (i.S.map Si.ref) i.np, .si i.S⟩,⟨i.cl,ceO i.lv, .no⟩,⟨i.cs,ceO i.sv, .no⟩,⟨i.cr,J8 (.ref i.r), .no⟩,⟨i.r,lst (i.R.map Is.ref) i.nr, .is i.R⟩,⟨i.cm,J8 (.ref i.hM.a), .no⟩]++Yc P i.hM i.M++[⟨195,Zv i.v1,i.g1⟩,⟨202,Zv i.v2,i.g2⟩,⟨297,Zv i.v3,i.g3⟩]
def fo5(i:Yr):Obj:=frO i.fo (J8s i.l i.room i.rt i.hF.a i.p i.tp i.tt)
def fo7(i:Yr):Obj:=frO i.fo (J8t i.l i.room i.rt i.hF.a i.p i.tp i.tt i.nx i.nt i.mx i.mt)
def Zwj(i:Yr):Code:= .forLoop (Z4w Zpa) (.ref i.it) (Q8 Zpa) [] (enR i)
def Z8q(P:Params)(i:Yr)(U:Ph):Result×List Sl:=(.ok .next,[⟨i.it,(U.w 0).o, .no⟩,⟨i.l,lst i.vs i.n, .no⟩,⟨i.f,frO (U.w 2).o (J8t i.l i.room i.rt i.hF.a (Jey (Zl (U.w 2).o 3)) (vS (Zl (U.w 2).o 4)) (Z6 (Zl (U.w 2).o 4)) (vI (Zl (U.w 2).o 5)) (Z6 (Zl (U.w 2).o 5)) (vS (Zl (U.w 2).o 6)) (Z6 (Zl (U.w 2).o 6))), .no⟩]++Yc P (hdN i.hF U 5) (J3 (U.w 5).g)++[⟨i.p,lst (i.S.map Si.ref) (Z3 (U.w 6).o), .si i.S⟩,⟨i.cl,ceO (ceV (U.w 7).o), .no⟩,⟨i.cs,ceO (ceV (U.w 8).o), .no⟩,⟨i.cr,J8 (.ref i.r), .no⟩,⟨i.r,lst ((Zp (U.w 10).g).map Is.ref) (Z3 (U.w 10).o), .is (Zp (U.w 10).g)⟩,⟨i.cm,J8 (.ref i.hM.a), .no⟩]++Yc P (hdN i.hM U 14) (J3 (U.w 14).g)++[⟨195,Zv (Zu (U.w 15).o),(U.w 15).g⟩,⟨202,Zv (Zu (U.w 16).o),(U.w 16).g⟩,⟨297,Zv (Zu (U.w 17).o),(U.w 17).g⟩])
def Zl6(L:List He)(R:List Is)(s:Str)(room:Int)(o:Obj)(g:Gd):Prop:=OkM L R/\s∈Jy/\(∀e∈L,valN e.v<=11)/\2<=room/\room<=4/\(L.length:Int)<=room/\Z07 o g
def J8u(P:Params)(i:Z46)(U:Ph):Result×List Sl:=(.ok (.ret (.bool true)),Yc P (hdN i.1 U 2) (J3 (U.w 2).g)++[⟨i.3,lst ((Zp (U.w 3).g).map Is.ref) (Z3 (U.w 3).o), .is (Zp (U.w 3).g)⟩,⟨297,Zv (Zu (U.w 4).o),(U.w 4).g⟩])
def Zih(P:Params):Zi Z46:={Jce P with
 cond:=fun i=>some (Zl6 i.2 i.5 i.6 i.7.2 i.7.6 i.7.7)
 F:=fun i y U=>J8u P i U
 D:=some fun i y U=>Z1q i.2 i.7.2 i.6 (J3 (U.w 2).g) (Zp (U.w 3).g)/\Z07 (Zv (Zu (U.w 4).o)) (U.w 4).g}
def Zsf(L:List He)(R:List Is)(s:Str):Prop:=HN L/\L.length<=4/\(∀e∈R,e.k∈Jy)/\R.length<=4/\s∈Zh
def Zpb(P:Params):Zi Z7c:={Jgh P with cond:=fun i=>some (Zsf i.6 i.7.3 i.7.5)}
theorem J1x:Za (vW (w2 w b c)) (Zpb w.params).ctr:=
 (Zpb w.params).ok (fun i a=>J8h w b c i (a _ rfl))
theorem Zcg {o:Obj}{g:Gd}(h:Z07 o g):o=Zv (Zu o):=by
 obtain⟨c,rfl,_⟩:=h;cases c<;>rfl
theorem Zwk:Za (vW (w2 w b c)) (Zih w.params).ctr:=
 (Zih w.params).okD (fun i q=>(J1p w b c i (q _ rfl)).mono fun a m I=>⟨a,m,trivial,fun U j=>⟨U,⟨j.1,by rw[<-Zcg j.2];exact j.2⟩,rfl,by
  show _++[_,_]=_++[_,_];rw[Zcg j.2];rfl,rfl,rfl⟩⟩) (fun y y y y=>rfl)
def Z8r(vs:List Value)(k r:Nat)(room:Int)(F M:List He)(R:List Is)(S:List Si)(a:Str)(v1:List Value)(g1:Gd)(v2:List Value)(g2:Gd)(v3:List Value)(g3:Gd):Prop:=
 ∃ns:List Int,Zc vs=some ns/\ns.length=10/\k+r=10/\Z21 (ns.take k) room F M R S a/\Z0p (Zv v1) g1 (Zv v2) g2/\Z07 (Zv v3) g3
def Zch(vs:List Value)(room:Int)(F M:List He)(R:List Is)(a:Str)(v1:List Value)(g1:Gd)(v2:List Value)(g2:Gd)(v3:List Value)(g3:Gd):Prop:=
 ∃(ns:List Int) (S:List Si),Zc vs=some ns/\Z21 ns room F M R S a/\Z0p (Zv v1) g1 (Zv v2) g2/\Z07 (Zv v3) g3
def Z1m(vs:List Value)(room:Int)(U:Ph):Prop:=Zch vs room (J3 (U.w 5).g) (J3 (U.w 14).g) (Zp (U.w 10).g) (vS (Zl (U.w 2).o 4)) (Zu (U.w 15).o) (U.w 15).g (Zu (U.w 16).o) (U.w 16).g (Zu (U.w 17).o) (U.w 17).g
def Zsg(env:Env)(S:List Sl):Option Yr:=match env.frame with
 |some f=>(match S with
   |[it,l,fr,f0,f1,f2,p,cl,cs,cr,r,cm,m0,m1,m2,t1,t2,t3]=>(match Z1p [f0,f1,f2] with
    |some (hF,F)=>(match Z1p [m0,m1,m2] with
     |some (hM,M)=>(match p.g with
      | .si S=>(match r.g with
       | .is R=>some ⟨it.a,l.a,Z3 l.o,Z1 l.o,Z77 it.o,it.o.dict,it.o.slots,f,fr.o,hF,F,p.a,Z3 p.o,S,cl.a,ceV cl.o,cs.a,ceV cs.o,cr.a,r.a,Z3 r.o,R,cm.a,hM,M,vI (Zl fr.o 1),Z6 (Zl fr.o 1),vS (Zl fr.o 4),Z6 (Zl fr.o 4),vI (Zl fr.o 5),Z6 (Zl fr.o 5),vS (Zl fr.o 6),Z6 (Zl fr.o 6),Zu t1.o,t1.g,Zu t2.o,t2.g,Zu t3.o,t3.g⟩
       |_=>none)
      |_=>none)
     |none=>none)
    |none=>none)
   |_=>none)
 |none=>none
def Zci(P:Params)(r:Nat):Qb Yr where
 code:=Zwj
 P i:=Zfr P i (fo7 i)
 cond i:=some (Z8r i.vs i.k r i.room i.F i.M i.R i.S i.tp i.v1 i.g1 i.v2 i.g2 i.v3 i.g3)
 F i _ U:=Z8q P i U
 D i _ U:=Z1m i.vs i.room U
 k:=18
 ext c S:=match c with| .forLoop _ _ _ _ env=>Zsg env S|_=>none
 kf:=enR
 d:=Zf 8
 u:=Ze 8
 z:=true
def Z7f(P:Params)(r:Nat):G:=⟨[fMs.ctr,Zwh.ctr,(Zpb P).ctr,Zw7.ctr,Znx.ctr,(Znv P).ctr,(Zo4 P).ctr,J7v.ctr,Zdm.ctr,Zdn.ctr,fR0.ctr,Zdm.ctr,J7y.ctr,J81.ctr,Zoh.ctr,(Zbs P).ctr,J84.ctr,Zcf.ctr,fDv.ctr,(Zci P r).ctr,(Zih P).ctr,fLs.ctr],Zfq⟩
def Zcj(w:World)(g:G)(i:Yr)(a:Obj)(x:Int)(j:Nat)(out:List Env)(N T:Nat)(hs:Hs)(K:K Result):Z8:=
 Z4b (Ql (vW w) g 100000) (Z4w Zpa) (.ref i.it) (Q8 Zpa) [] (enR i) (.int x j) ⟨Zf 8,Ze 8,none,some ([enR i],out)⟩ ⟨aO N 8,0,T,0,⟨i.it,Yv i.dd i.ss i.l (i.k+1), .no⟩::(Zfr w.params i a).tail⟩ hs K
def TuH(i:Yr)(x:Int)(rr:Nat)(a:List Int):Prop:=Z21 (a.take i.k) i.room i.F i.M i.R i.S i.tp/\Zc i.vs=some a/\a.length=10/\i.k+(rr+1)=10/\a.take (i.k+1)=a.take i.k++[x]/\Z0p (Zv i.v1) i.g1 (Zv i.v2) i.g2/\Z07 (Zv i.v3) i.g3
abbrev Z8s(vs:List Value)(k:Nat)(F:List He)(S:List Si)(R:List Is)(M:List He)(room:Int)(j:Str)(v1:List Value)(g1:Gd)(v2:List Value)(g2:Gd)(v3:List Value)(g3:Gd)(x:Int)(rr:Nat):Prop:=∀q:Ph,(∃k,k<30/\Z4u (Yw x)=Z4u k)/\∀m:Ph,(¬Z8o (Z4u (Yw x))≠Yd (Yw x))/\((x.fdiv 6).fmod 5=4)/\(Zsf M R (Yd (Yw x)))/\∀I:Ph,∀y:Ph,((Dt.ii []).ok/\(Dt.ii []).ok)/\(¬Dt.ii []≠Dt.ii [])/\(Z8r vs (k.add 1) rr room F M R S j v1 g1 v2 g2 v3 g3)/\∀a:Ph,(Z1m vs room a)->(True)/\(Z1m vs room a)
theorem Zer(vs:List Value)(k:Nat)(F:List He)(S:List Si)(R:List Is)(M:List He)(room:Int)(I:Str)(v1:List Value)(g1:Gd)(v2:List Value)(g2:Gd)(v3:List Value)(g3:Gd)(x:Int)(rr:Nat)(ns a:List Int)(j:Z21 ns room F M R S I)(W:Zc vs=some a)(y:a.length=10)(hk:k+(rr+1)=10)(ens:ns=a.take k)(q:a.take (k+1)=ns++[x])(t2:Z0p (Zv v1) g1 (Zv v2) g2)(Y:Z07 (Zv v3) g3)(m:Qd x=false):Z8s vs k F S R M room I v1 g1 v2 g2 v3 g3 x rr:=by
  haveI s1:=j.small.1;haveI X:=j.small.2.1;haveI Z:=j.small.2.2.1;haveI s4:=j.small.2.2.2;haveI J:=j.odd m;rw[<-q] at J;exact fun U1=>⟨⟨Yw x,(Z4v x).1,rfl⟩,fun U2=>⟨fun z=>z (Z8p _ (Z4v x).1),J8n m,⟨s1,X,Z,s4,Zwe m⟩,fun U3 U4=>⟨⟨trivial,trivial⟩,fun z=>z rfl,⟨a,W,y,by show k+1+rr=10;exact Yy [] [_,_] [.n Za8 lQ8] [] (.n Zct lQ8) rfl hk,J,t2,Y⟩,fun U5 h=>⟨trivial,h⟩⟩⟩⟩
theorem Zwl(i:Yr)(x:Int)(j:Nat)(out:List Env)(rr:Nat)(a:List Int)(h:TuH i x rr a)(m:Qd x=false)(N T:Nat):
  Z5 (Zcj (w2 w b c) (Z7f w.params rr) i (fo7 i) x j out N T ((Z4 0x1038e10f43e0038e10f43e14f200025111a013f011f010f012f016f84e048e231104e04e1000de317ae .nil)) (Jj 1 (fun y=>18) (fun y=>True) (fun y U=>Z1m i.vs i.room U) (fun y=>Z8q w.params i))):=by
 cases b<;>
 cases c<;>
 exact Zx (p:=Z8s i.vs i.k i.F i.S i.R i.M i.room i.tp i.v1 i.g1 i.v2 i.g2 i.v3 i.g3 x rr) (by kernel_rfl) (Zer i.vs i.k i.F i.S i.R i.M i.room i.tp i.v1 i.g1 i.v2 i.g2 i.v3 i.g3 x rr _ a h.1 h.2.1 h.2.2.1 h.2.2.2.1 rfl h.2.2.2.2.1 h.2.2.2.2.2.1 h.2.2.2.2.2.2 m)
theorem Zwm(i:Yr)(x:Int)(j:Nat)(out:List Env)(rr:Nat)(a:List Int)(h:TuH i x rr a)(m:Qd x=false)(N T:Nat):
  Z5 (Zcj (w2 w b c) (Z7f w.params rr) i (fo5 i) x j out N T ((Z4 0x1038e10f43e0038e10f43e14f200025111a013f011f010f012f016f84e048e231104e04e1000de317ae .nil)) (Jj 1 (fun y=>18) (fun y=>True) (fun y U=>Z1m i.vs i.room U) (fun y=>Z8q w.params i))):=by
 cases b<;>
 cases c<;>
 exact Zx (p:=Z8s i.vs i.k i.F i.S i.R i.M i.room i.tp i.v1 i.g1 i.v2 i.g2 i.v3 i.g3 x rr) (by kernel_rfl) (Zer i.vs i.k i.F i.S i.R i.M i.room i.tp i.v1 i.g1 i.v2 i.g2 i.v3 i.g3 x rr _ a h.1 h.2.1 h.2.2.1 h.2.2.2.1 rfl h.2.2.2.2.1 h.2.2.2.2.2.1 h.2.2.2.2.2.2 m)
def emp {α:Type}(e:Bool)(L:List α):Prop:=match e with|false=>L≠[]|true=>L=[]
def Zpc {α:Type}(e:Bool)(L:List α)(X:Prop):Prop:=match e with
 |false=>(L≠[]->X)/\(¬L=[])/\True
 |true=>(¬L≠[])/\(L=[]->X)/\True
theorem Zdx {α:Type}{e:Bool}{L:List α}{X:Prop}(h:emp e L)(x:X):Zpc e L X:=by
 cases e with
 |false=>exact⟨fun y=>x,h,trivial⟩
 |true=>exact⟨fun z=>z h,fun y=>x,trivial⟩
section
variable(c:Str)(x:Int)(vs:List Value)(k rr:Nat)(room:Int)(v1:List Value)(g1:Gd)(v2:List Value)(g2:Gd)(v3:List Value)(g3:Gd)(M:List He)(R:List Is)(e:Bool)(S1:List Si)(F1:List He)
def tgL(y:Ph)(m:Int)(X:Nat):Prop:=
 (Zz5 (Zp (y.w 3).g) [] 0 m/\0=0/\([]:List Is)=[])/\Zpc false (Zp (y.w 3).g) (∀J:Ph,Zol (Zp (y.w 3).g) [] 0 m (Zp (J.w 2).g)->(Zop S1 [] 0 m/\0=0/\([]:List Is)=[])/\
  Zpc e S1 (∀I:Ph,Zoo S1 [] 0 m (Zp (I.w 2).g)->(Zp (I.w 2).g).length<=4/\∀_:Ph,((Dt.is (aF Is.ck (Zp (J.w 2).g))).ok/\(Dt.is (aF Is.ck (LW.sortI (Zp (I.w 2).g)))).ok)/\(¬Dt.is (aF Is.ck (Zp (J.w 2).g))≠Dt.is (aF Is.ck (LW.sortI (Zp (I.w 2).g))))/\
   c.cps.toList.length<=1000/\∀_:Ph,F1.length<=3/\∀_:Ph,(Zor (aF He.vV F1) [] 0/\0=0/\([]:List Value)=[])/\
   Zpc e (aF He.vV F1) (∀q:Ph,Zvu (aF He.vV F1) [] 0 (Z1 (q.w 2).o)->(∃Y,Zc (Z1 (q.w 2).o)=some Y)/\∀_:Ph,(Zau (Int.ofNat c.cps.toList.length-Y6 (Z1 (q.w 2).o)) (room+1)/\Z0p (Zv v1) g1 (Zv v2) g2)/\
    ∀j:Ph,(¬Qr ((Int.ofNat c.cps.toList.length-Y6 (Z1 (q.w 2).o)).fdiv (room+1),Z8m (j.w 0).o 0,(Int.ofNat c.cps.toList.length-Y6 (Z1 (q.w 2).o)).fmod (room+1),Z8m (j.w 0).o 1)≠Qr (m,X,0,j.2))/\
     Z8r vs (k.add 1) rr room F1 (J3 (y.w 2).g) (Zp (y.w 3).g) S1 c [Value.int 133 0,Value.int 4 0,Value.ref (Yn (j.w 1).g).a] (Yt 195 133 4 Z3v (Yn (j.w 1).g)).g [Value.int 148 0,Value.int 4 0,Value.ref (Yn (j.w 2).g).a] (Yt 202 148 4 Z2q (Yn (j.w 2).g)).g (Zu (y.w 4).o) (y.w 4).g/\
     ∀W:Ph,Z1m vs room W->True/\Z1m vs room W)))
def tgC:Prop:=∀j:Ph,Zvr S1 [] 0 (J3 (j.w 2).g)->((Dt.hs (aF He.kv F1)).ok/\(Dt.hs (aF He.kv (J3 (j.w 2).g))).ok)/\(¬Dt.hs (aF He.kv F1)≠Dt.hs (aF He.kv (J3 (j.w 2).g)))/\Zl6 M R (Yd (Yw x)) (room+1) (Zv v3) g3/\
 ∀a:Ph,(Z1q M (room+1) (Yd (Yw x)) (J3 (a.w 2).g) (Zp (a.w 3).g)/\Z07 (Obj.mk Value.none none (Data.fields (Array.mk (Zu (a.w 4).o))) (Array.mk [])) (a.w 4).3)->((aF Is.ref (Zp (a.w 3).g)).length<=5/\Zy (Gd.is (Zp (a.w 3).g))=true)/\
  ∀m:Ph,(room<Int.ofNat (aF Is.ref (Zp (a.w 3).g)).length->(Zp (a.w 3).g≠[])/\∀_:Ph,tgL c vs k rr room v1 g1 v2 g2 e S1 F1 a ((Zp (a.w 3).g).getD 0 Zo).c ((Zp (a.w 3).g).getD 0 Zo).ct)/\
   (¬room<Int.ofNat (aF Is.ref (Zp (a.w 3).g)).length->tgL c vs k rr room v1 g1 v2 g2 e S1 F1 a 0 m.2)
def tgT(S:List Si)(F:List He)(m:Ph->Prop->Prop):Prop:=∀_:Ph,(∃k,k<30/\Z4u (Yw x)=Z4u k)/\∀_:Ph,(¬Z8o (Z4u (Yw x))≠Yd (Yw x))/\(¬(x.fdiv 6).fmod 5=4)/\((aB "abcdef"=Zi8\/aB "abcdef"=Z5w)/\0<=x.fmod 6/\x.fmod 6<6)/\
 ∀q:Ph,m q (Zfn S (Yd (Yw x)) room/\∀a:Ph,aF Si.kc (Z3t (a.w 0).g)=Q3 (aF Si.kc S) (Yd (Yw x)) room->(Zbz F (Yd (Yw x))/\1<=room)/\
  ∀j:Ph,aF He.kv (J3 (j.w 2).g)=Z20 (aF He.kv F) (Yd (Yw x)) room->(J3 (j.w 2).g).length<=5/\∀_:Ph,(Zok (Z3t (a.w 0).g) [] 0/\0=0/\([]:List He)=[])/\
   (Z3t (a.w 0).g≠[]->tgC c x vs k rr room v1 g1 v2 g2 v3 g3 M R false (Z3t (a.w 0).g) (J3 (j.w 2).g))/\
   (Z3t (a.w 0).g=[]->tgC c x vs k rr room v1 g1 v2 g2 v3 g3 M R true (Z3t (a.w 0).g) (J3 (j.w 2).g))/\True)
end
theorem Z8t {ns I:List Int}{room x:Int}{F M:List He}{R:List Is}{S:List Si}{Y c:Str}{vs v1 v2 v3:List Value}{g1 g2 g3:Gd}{k rr:Nat}(W:Z21 ns room F M R S Y)(hv:Zc vs=some I)(h10:I.length=10)(hk:k+(rr+1)=10)(ens:ns=I.take k)(ens1:I.take (k+1)=ns++[x])(t2:Z0p (Zv v1) g1 (Zv v2) g2)(t3:Z07 (Zv v3) g3)(hg:Qd x=true)
  (htp:c.cps.toList=Y.cps.toList++[Zav x]) {pre:Ph->Prop->Prop} (hp:Y.cps.toList.length<=9->∀U X,X->pre U X):tgT c x vs k rr room v1 g1 v2 g2 v3 g3 M R S F pre:=by
 have hl:ns.length<10:=by rw[ens];have:=List.length_take_le k I;exact Zm [] [_,_,_] [Yl, .n (.a Yi Zfz) lQ8] (.n Y8 lQ8) rfl this (aT hk)
 haveI h6:=jB x (b:=6) (by lia);haveI h7:=hU x (b:=6) (aR _);have Z:Y.cps.toList.length<=9:=by
  rw[W.tp,aE];have:=bY Qd ns;exact Zm [] [_,_] [Yl, .n Z4h lQ8] (.n Zr (.n 9)) rfl this hl
 haveI hl1:c.cps.toList.length<=1000:=by simp only[htp,aV,bA];exact Zm [] [_] [.n Zr (.n 9)] Ztj rfl Z
 obtain⟨a1,a2,⟨a3,a4,a5⟩,key⟩:=Zsc W hl hg htp;haveI hgn:=Zeq hg;haveI r1:=W.r1;haveI r3:=W.r3;haveI C:∀e S1 F1,Zze ns x room M c S1 F1->emp e S1->tgC c x vs k rr room v1 g1 v2 g2 v3 g3 M R e S1 F1:=by
  intro e S1 F1 T he U7 D7;have ec:=T.cnts _ D7;haveI hv':emp e (F1.map He.vV):=by
   cases e with
   |false=>exact fun z=>he (T.emp.mp z)
   |true=>exact T.emp.mpr he
  refine⟨⟨T.dtf,by rw[ec];exact T.dtf⟩,fun z=>z (by rw[ec]),⟨a3,hgn,a4,(Zm [_] [] [Zg4] (.z Zfy Z10) rfl r1),(Zm [_] [] [.z Jb Z2b] (.z Z10 Z4g) rfl r3),a5,t3⟩,fun U8 O=> ?_⟩;obtain⟨b1,b2,b3,b4,b5⟩:=T.beh _ _ O.1;rw[<-ens1] at b3;have Lf:∀m mt,Z2s (Zp (U8.w 3).g) room=m->tgL c vs k rr room v1 g1 v2 g2 e S1 F1 U8 m mt:=by
   rintro m mt rfl;refine⟨⟨⟨trivial,b2,by simp;exact aK b2 (by decide)⟩,rfl,rfl⟩,Zdx b1 fun U11 D11=>⟨⟨T.lif _,rfl,rfl⟩,Zdx he fun U12 D12=> ?_⟩⟩;haveI q:=b4 _ _ D11 D12;haveI c1:=q.1;haveI c2:=q.2.1;haveI c3:=q.2.2;refine⟨c1,fun y=>⟨c2,fun z=>z c3,hl1,fun y=>⟨T.fl,fun y=>⟨⟨T.vls,rfl,rfl⟩,Zdx hv' fun U16 D16=> ?_⟩⟩⟩⟩;haveI j:=b5 _ D16;haveI d1:=j.1;haveI d2:=j.2.1;haveI d3:=j.2.2.1;haveI d4:=j.2.2.2;refine⟨d1,fun y=>⟨⟨.inl d2,t2⟩,fun U18=>⟨fun z=>z ?_,⟨I,hv,h10,by show k+1+rr=10;exact Yy [] [_,_] [.n Za8 lQ8] [] (.n Zct lQ8) rfl hk,b3,⟨some (Yn (U18.w 1).g,Yn (U18.w 2).g),rfl,rfl,rfl,rfl⟩,O.2⟩,fun y h=>⟨trivial,h⟩⟩⟩⟩;show(cZ ((c.cps.toList.length:Int)-Y6 (Z1 (U16.w 2).o)) (room+1),dN ((c.cps.toList.length:Int)-Y6 (Z1 (U16.w 2).o)) (room+1))=(Z2s (Zp (U8.w 3).g) room,0);simp only[d3,d4]
  refine⟨⟨by rw[aE];exact cX b2,rfl⟩,fun U9=>⟨fun J=>⟨b1,fun y=>Lf _ _ ?_⟩,fun J=>Lf _ _ ?_⟩⟩
  ·rw[aE] at J;exact if_pos J
  ·rw[aE] at J;exact if_neg J
 refine fun y=>⟨⟨Yw x,(Z4v x).1,rfl⟩,fun y=>⟨fun z=>z (Z8p _ (Z4v x).1),J1w hg,⟨.inr rfl,by rw[(Z7d x).2];exact h6,by rw[(Z7d x).2];exact h7⟩,fun U3=>hp Z _ _ ⟨a1,fun U4 e1=>⟨a2,fun U5 e2=> ?_⟩⟩⟩⟩;haveI T:=key _ _ e1 e2;exact⟨aK T.fl (by decide),fun y=>⟨⟨T.cnt,rfl,rfl⟩,C false _ _ T,C true _ _ T,trivial⟩⟩
theorem Zwn(w:World)(b c:Bool)(i:Yr)(x:Int)(I:Nat)(out:List Env)(rr:Nat)(j:List Int)(h:TuH i.e x rr j)(J:Qd x=true)(N T:Nat):
  Z5 (let a:= .two (Zuf (.two (Zmn (.two (Zmo .nil) (Y9 .nil))) (Y9 .nil))) (Y9 .nil);let m:= .two (Zmp (.two (Zmq (.two (Zmr .nil) .nil)) .nil)) (Y9 .nil);Zcj (w2 w b c) (Z7f w.params rr) i.e (fo7 i.e) x I out N T ((Z4 0x150e0de4177417ae (.two (Z4 0x15de03e (.two (Zdf a) (Z9c a))) (J1 (.two (Z4 0x15de11 (.two (Zdf m) (Z9c m))) .nil))))) (Jj 1 (fun y=>18) (fun y=>True) (fun y U=>Z1m i.vs i.room U) (fun y=>Z8q w.params i.e))):=by
 have q:tgT (chS (aB "abcdef") (x.fmod 6).toNat) x i.vs i.k rr i.room i.v1 i.g1 i.v2 i.g2 i.v3 i.g3 i.M i.R i.S i.F fun y X=>X:=
  Z8t h.1 h.2.1 h.2.2.1 h.2.2.2.1 rfl h.2.2.2.2.1 h.2.2.2.2.2.1 h.2.2.2.2.2.2 J (by rw[(Z7d x).2];rfl) fun y y y h=>h
 cases b<;>
 cases c<;>
 exact Zx (by kernel_rfl) q
theorem Zwo(w:World)(b c:Bool)(i:Yr)(x:Int)(W:Nat)(out:List Env)(rr:Nat)(m:List Int)(h:TuH i x rr m)(Y:Qd x=true)(J:i.tp.cps.toList≠[])(N T:Nat):
  Z5 (let a:= .two (Zuf (.two (Zmn (.two (Zmo .nil) (Y9 .nil))) (Y9 .nil))) (Y9 .nil);let I:= .two (Zmp (.two (Zmq (.two (Zmr .nil) .nil)) .nil)) (Y9 .nil);Zcj (w2 w b c) (Z7f w.params rr) i (fo7 i) x W out N T ((Z4 0x150e024177417ae (.two (Z4 0x15de03e (.two (Zdf a) (Z9c a))) (J1 (.two (Z4 0x15de11 (.two (Zdf I) (Z9c I))) .nil))))) (Jj 1 (fun y=>18) (fun y=>True) (fun y U=>Z1m i.vs i.room U) (fun y=>Z8q w.params i))):=by
 have q:tgT ⟨⟨i.tp.cps.toList.append (chS (aB "abcdef") (x.fmod 6).toNat).cps.toList⟩⟩ x i.vs i.k rr i.room i.v1 i.g1 i.v2 i.g2 i.v3 i.g3 i.M i.R i.S i.F fun U X=>Z99 .Add (.str i.tp i.tt) (.str (chS (aB "abcdef") (x.fmod 6).toNat) (Z6 U.rv))/\X:=
  Z8t h.1 h.2.1 h.2.2.1 h.2.2.2.1 rfl h.2.2.2.2.1 h.2.2.2.2.2.1 h.2.2.2.2.2.2 Y (by rw[(Z7d x).2];rfl) fun j y y h=>⟨⟨by show i.tp.cps.size≠0;intro z;exact J (fO (by rw[eI];exact z)),by show(1:Nat)≠0;decide,by show i.tp.cps.size+1<=1000000;rw[<-eI];exact Zm [] [_] [.n Zr (.n 9)] (.n Y8 (.n 1000000)) rfl j⟩,h⟩
 cases b<;>
 cases c<;>
 exact Zx (by kernel_rfl) q
theorem Zwp(w:World)(b c:Bool)(i:Yr)(x:Int)(I:Nat)(out:List Env)(rr:Nat)(j:List Int)(h:TuH i.e x rr j)(J:Qd x=true)(N T:Nat):
  Z5 (let a:= .two (Zuf (.two (Zmn (.two (Zmo .nil) (Y9 .nil))) (Y9 .nil))) (Y9 .nil);let m:= .two (Zmp (.two (Zmq (.two (Zmr .nil) .nil)) .nil)) (Y9 .nil);Zcj (w2 w b c) (Z7f w.params rr) i.e (fo5 i.e) x I out N T ((Z4 0x150e0de4177417ae (.two (Z4 0x15de03e (.two (Zdf a) (Z9c a))) (J1 (.two (Z4 0x15de11 (.two (Zdf m) (Z9c m))) .nil))))) (Jj 1 (fun y=>18) (fun y=>True) (fun y U=>Z1m i.vs i.room U) (fun y=>Z8q w.params i.e))):=by
 have q:tgT (chS (aB "abcdef") (x.fmod 6).toNat) x i.vs i.k rr i.room i.v1 i.g1 i.v2 i.g2 i.v3 i.g3 i.M i.R i.S i.F fun y X=>X:=
  Z8t h.1 h.2.1 h.2.2.1 h.2.2.2.1 rfl h.2.2.2.2.1 h.2.2.2.2.2.1 h.2.2.2.2.2.2 J (by rw[(Z7d x).2];rfl) fun y y y h=>h
 cases b<;>
 cases c<;>
 exact Zx (by kernel_rfl) q
noncomputable def ten(x:Nat->Int)(t:Nat->Nat):List Value:=(aJ 10).map fun j=> .int (x j) (t j)
noncomputable def Yr.t(i:Yr)(x:Nat->Int)(t:Nat->Nat):Yr:={i with vs:=ten x t,k:=10}
theorem Yr.t_eq {i:Yr}{x:Nat->Int}{t:Nat->Nat}(h:i.vs=ten x t)(k:i.k=10):i=i.t x t:=by
 cases i;cases h;cases k;rfl
theorem Zsh(i:Yr)(out:List Env)(x:Nat->Int)(t:Nat->Nat)(a:Zch (ten x t) i.room i.F i.M i.R i.tp i.v1 i.g1 i.v2 i.g2 i.v3 i.g3)(N T:Nat):
  Z5 ((Ql (vW (w2 w b c)) ⟨[],[]⟩ 100000).cd (Zwj (i.t x t)) ⟨Zf 8,Ze 8,none,some ([enR (i.t x t)],out)⟩ ⟨aO N 8,0,T,0,Zfr w.params (i.t x t) (fo7 (i.t x t))⟩ ((Z4 0x1013fb4e010f43e080747e0302001a4e0 .nil)) (Jj 1 (fun y=>18) (fun y=>True) (fun y U=>Z1m (ten x t) i.room U) (fun y=>Z8q w.params (i.t x t)))):=by
 have q:(True)/\Zch (ten x t) i.room i.F i.M i.R i.tp i.v1 i.g1 i.v2 i.g2 i.v3 i.g3:=⟨trivial,a⟩;exact Zx (by kernel_rfl) q
theorem Zsi(r:Nat)(h:Za (vW (w2 w b c)) (Zci w.params r).ctr):J5 (vW (w2 w b c)) (Z7f w.params r):=
 gC (Jcm w b c) (gC (J8q w b c) (gC (J1x w b c) (gC (J8i _) (gC (Zre w b c) (gC (Zrc w b c) (gC (Zrh w b c) (gC (J7x w b c) (gC (Zbu _) (gC (Zbv _) (gC (Zzf _) (gC (Zbu _) (gC (J80 w b c) (gC (J83 w b c) (gC (Zrq _) (gC (Zdl w b c) (gC (J86 w b c) (gC (Zdw _) (gC (Zzd w b c) (gC h (gC (Zwk w b c) (gC (Z9p _) (gN (Zig _)))))))))))))))))))))))
set_option tactic.hygienic true in theorem Z3b:∀{vs:List Value}{ns:List Int},Zc vs=some ns->vs.length=ns.length:=by
 intro z0_
 induction z0_ with
 |nil=>
  intro ns e;cases e;rfl
 |cons v vs ih=>
  intro ns e;cases v with
  |int x t=>
   haveI e':(match Zc vs with|some r=>some (x::r)|none=>none)=some ns:=e
   split at e'
   ·rename_i r q;cases e';simp only[bQ,bQ,ih q]
   ·contradiction
  |_=>exact nomatch e
set_option tactic.hygienic true in theorem Z18 {v:Value}{vs:List Value}{ns:List Int}(e:Zc (v::vs)=some ns):∃x t r,v= .int x t/\Zc vs=some r/\ns=x::r:=by
 cases v with
 |int x t=>
  haveI e':(match Zc vs with|some r=>some (x::r)|none=>none)=some ns:=e;refine Z7 fun k'=> ?_
  split at e'
  ·rename_i r q;cases e';exact k' (⟨x,t,r,rfl,q,rfl⟩)
  ·cases e'
 |_=>exact nomatch e
theorem Zii:∀{vs:List Value}{ns:List Int}{k:Nat},Zc vs=some ns->k<ns.length->∃x J,vs[k]?=some (.int x J)/\ns[k]?=some x:=by
 intro a
 induction a with
 |nil=>
  intro ns k e h;cases e;exact absurd h (fY k)
 |cons v vs ih=>
  intro ns k e h;refine Z7 fun j=> ?_;obtain⟨x,t,r,rfl,q,rfl⟩:=Z18 e;cases k with
  |zero=>exact j (⟨x,t,rfl,rfl⟩)
  |succ k=>
   obtain⟨y,u,m,I⟩:=ih q (nY h);exact j (⟨y,u,by rw[fK];exact m,by rw[fK];exact I⟩)
theorem Zpd {ns:List Int}{k:Nat}{x:Int}(h:ns[k]?=some x):ns.take (k+1)=ns.take k++[x]:=by
 simp only[pF,h];rfl
theorem Zsj {vs:List Value}{ns:List Int}{n:Nat}(e:Zc vs=some ns)(h:ns.length=n):∃(x:Nat->Int)(t:Nat->Nat),vs=(aJ n).map fun j=> .int (x j) (t j):=by
 refine⟨fun j=>vI (vs.getD j .none),fun j=>Z6 (vs.getD j .none),mD (by simp only[aE,dK,Z3b e,h]) fun i a y=> ?_⟩;refine Z7 fun m=> ?_;obtain⟨x,t,q,_⟩:=Zii e (k:=i) (by rw[<-Z3b e];exact a);have d:vs.getD i .none= .int x t:=by rw[aI,q];rfl
 refine m ?_;rw[mE,lN];show vs[i]= .int (vI (vs.getD i .none)) (Z6 (vs.getD i .none));rw[d];exact(bJ.mp q).2
theorem Zsk {w:World}{b c:Bool}{rr:Nat}{i:Yr}(GO:J5 (vW (w2 w b c)) (Z7f w.params rr)){a:List Int}(m:Zc i.vs=some a)(q:a.length=10)(W:i.k+(rr+1)=10)(y:Z21 (a.take i.k) i.room i.F i.M i.R i.S i.tp)(t2:Z0p (Zv i.v1) i.g1 (Zv i.v2) i.g2)(X:Z07 (Zv i.v3) i.g3):
  ∃x j,i.vs[i.k]?=some (.int x j)/\TuH i x rr a:=by
 obtain⟨x,j,I,J⟩:=Zii m (show i.k<a.length by lia);exact⟨x,j,I,y,m,q,W,Zpd J,t2,X⟩
theorem J1y:∀r,Za (vW (w2 w b c)) (Zci w.params r).ctr:=by
 intro z0_
 induction z0_ with
 |zero=>
  refine(Zci w.params 0).okF (fun i hc=> ?_);obtain⟨a,X,I,W,J,t2,t3⟩:=hc _ rfl;have W:i.k=10:=W;have hd:Zch i.vs i.room i.F i.M i.R i.tp i.v1 i.g1 i.v2 i.g2 i.v3 i.g3:=⟨a,i.S,X,(iC (by lia):a.take i.k=a)▸J,t2,t3⟩;obtain⟨x,t,e⟩:=Zsj X I;rw[Yr.t_eq e W];rw[e] at hd;exact Zp9 Ym fun N T hh out q=>by rw[q rfl];exact Zsh w b c i out x t hd N T
 |succ rr ih=>
  have Z:=Zsi w b c rr (ih);refine(Zci w.params (rr+1)).okF (fun i hc=> ?_);obtain⟨a,X,I,W,J,t2,t3⟩:=hc _ rfl;obtain⟨x,xt,Y,h⟩:=Zsk Z X I W J t2 t3;cases hg:Qd x with
  |false=>exact Z2t Z rfl rfl rfl (ge:= .no) (fun y y=>trivial) Y fun N T hh out m j q=>by rw[q rfl];exact Zwl w b c {i with dd:=m,ss:=j} x xt out rr a h hg N T
  |true=>
   by_cases ht:i.tp.cps.toList=[]
   ·have e:=Yr.e_eq (Z32 ht);rw[e] at h Y⊢;exact Z2t Z rfl rfl rfl (ge:= .no) (fun y y=>trivial) Y fun N T hh out m j q=>by rw[q rfl];exact Zwn w b c {i with dd:=m,ss:=j} x xt out rr a h hg N T
   ·exact Z2t Z rfl rfl rfl (ge:= .no) (fun y y=>trivial) Y fun N T hh out m j q=>by rw[q rfl];exact Zwo w b c {i with dd:=m,ss:=j} x xt out rr a h hg ht N T
def Zpe(P:Params):Qb Yr where
 code:=Zwj
 P i:=Zfr P i (fo5 i)
 cond i:=some (i.k=0/\Z8r i.vs 0 10 i.room i.F i.M i.R i.S i.tp i.v1 i.g1 i.v2 i.g2 i.v3 i.g3)
 F i _ U:=Z8q P i U
 D i _ U:=Z1m i.vs i.room U
 k:=18
 ext c S:=match c with| .forLoop _ _ _ _ env=>Zsg env S|_=>none
 kf:=enR
 d:=Zf 8
 u:=Ze 8
 z:=true
theorem J1z:Za (vW (w2 w b c)) (Zpe w.params).ctr:=by
 have W:=Zsi w b c 9 (J1y w b c 9);refine(Zpe w.params).okF (fun i hc=> ?_);obtain⟨J,q,hv,Y,hk,m,t2,t3⟩:=hc _ rfl;rw[<-J] at m;have e:=Yr.e_eq (Z32 (by rw[m.tp,J];rfl:i.tp.cps.toList=[]));obtain⟨x,Z,I,h⟩:=Zsk W hv Y (by rw[J]) m t2 t3;cases hg:Qd x with
 |false=>exact Z2t W rfl rfl rfl (ge:= .no) (fun y y=>trivial) I fun N T hh out j a X=>by rw[X rfl];exact Zwm w b c {i with dd:=j,ss:=a} x Z out 9 q h hg N T
 |true=>
  rw[e] at h I⊢;exact Z2t W rfl rfl rfl (ge:= .no) (fun y y=>trivial) I fun N T hh out j a X=>by rw[X rfl];exact Zwp w b c {i with dd:=j,ss:=a} x Z out 9 q h hg N T
abbrev LrI:=I7 Nat Nat (List Value) Int Nat (List Value) (I5 Gd (List Value) Gd (List Value) Gd)
noncomputable def cLr(i:LrI):Code:= .call (.ref 305) ⟨[.ref i.1, .int i.4 i.5],[]⟩
def pLr(i:LrI):List Sl:=[⟨i.1,lst i.3 i.2, .no⟩,⟨195,Zv i.6,i.7.1⟩,⟨202,Zv i.7.2,i.7.3⟩,⟨297,Zv i.7.4,i.7.5⟩]
def J8v(U:Ph)(j:Nat):Hd:=⟨(U.w j).a,(U.w (aO j 1)).a,(U.w (aO j 2)).a,Zva (U.w (aO j 1)).o,Z3 (U.w (aO j 2)).o,Zvb (U.w (aO j 1)).o⟩
def J8w(o:Obj)(k:Nat):Value:= .str (vS ((Z1 o).getD k .none)) (Z6 ((Z1 o).getD k .none))
def J8x(o:Obj)(k:Nat):Value:= .int (vI ((Z1 o).getD k .none)) (Z6 ((Z1 o).getD k .none))
def rLr(P:Params)(i:LrI)(U:Ph):Result×List Sl:=(.ok (.ret (.ref (U.w 0).a)),[⟨(U.w 0).a,Qj [.ref (U.w 1).a, .ref (U.w 4).a,J8w (U.w 0).o 2,J8x (U.w 0).o 3], .no⟩]++Yc P (J8v U 1) (J3 (U.w 3).g)++Yc P (J8v U 4) (J3 (U.w 6).g)++[⟨i.1,lst i.3 i.2, .no⟩,⟨195,Zv (Zu (U.w 8).o),(U.w 8).g⟩,⟨202,Zv (Zu (U.w 9).o),(U.w 9).g⟩,⟨297,Zv (Zu (U.w 10).o),(U.w 10).g⟩])
def Zpf(vs:List Value)(room:Int)(F M:List He)(a:Str)(m:Int)(v1:List Value)(g1:Gd)(v2:List Value)(g2:Gd)(v3:List Value)(g3:Gd):Prop:=
 ∃R,Zch vs room F M R a v1 g1 v2 g2 v3 g3/\m=Z2s R room
def dLr(vs:List Value)(room:Int)(U:Ph):Prop:=Zpf vs room (J3 (U.w 3).g) (J3 (U.w 6).g) (vS ((Z1 (U.w 0).o).getD 2 .none)) (vI ((Z1 (U.w 0).o).getD 3 .none)) (Zu (U.w 8).o) (U.w 8).g (Zu (U.w 9).o) (U.w 9).g (Zu (U.w 10).o) (U.w 10).g
def Zij(vs:List Value)(room:Int)(v1:List Value)(g1:Gd)(v2:List Value)(g2:Gd)(v3:List Value)(g3:Gd):Prop:=
 ∃ns:List Int,Zc vs=some ns/\ns.length=10/\1<=room/\room<=3/\Z0p (Zv v1) g1 (Zv v2) g2/\Z07 (Zv v3) g3
def gLr(P:Params):G:=⟨[(Zo3 P).ctr,(Zpe P).ctr,Zdn.ctr,fR0.ctr],Zfq⟩
theorem Jgq:J5 (vW (w2 w b c)) (gLr w.params):=
 gC (Zrg w b c) (gC (J1z w b c) (gC (Zbv _) (gC (Zzf _) (gN (Zig _)))))
theorem J20 {room:Int}(q:1<=room)(j:room<=3):Z21 [] room [] [] [] [] ⟨⟨[]⟩⟩:=by
 refine⟨q,j,⟨gJ,fun y h=>absurd h aD,fun y h=>absurd h aD⟩,rfl,⟨fun y h=>absurd h aD,gJ,⟨List.Pairwise.nil,List.Perm.nil⟩,fun y h=>absurd h aD⟩,⟨0,⟨gJ,gJ,fun y h=>absurd h aD,fun y h=>absurd h aD,bP _,bP _,bX _,List.Perm.nil,fun y=>rfl,fun h=>by simp[Jo] at h⟩,⟨?_,fun y=> ?_,fun y=> ?_⟩⟩,rfl⟩
 ·show(0:Int)=0+0*_;exact Yy [] [_] [] [] (.z Qs (.a Qs (.m 0 Y8))) rfl
 ·exact bX _
 ·exact bX _
abbrev Zsl(vs:List Value)(room:Int)(a:Ph):Prop:=∀j:Ph,((room<Int.ofNat (aF Is.ref (Zp (a.w 10).g)).length->(Zp (a.w 10).g≠[])/\∀m:Ph,(True)/\(Zpf vs room (J3 (a.w 5).g) (J3 (a.w 14).g) (vS (Zl (a.w 2).o 4)) ((Zp (a.w 10).g).getD 0 Zo).c (Zu (a.w 15).o) (a.w 15).g (Zu (a.w 16).o) (a.w 16).g (Zu (a.w 17).o) (a.w 17).g))/\(¬(room<Int.ofNat (aF Is.ref (Zp (a.w 10).g)).length)->(True)/\(Zpf vs room (J3 (a.w 5).g) (J3 (a.w 14).g) (vS (Zl (a.w 2).o 4)) 0 (Zu (a.w 15).o) (a.w 15).g (Zu (a.w 16).o) (a.w 16).g (Zu (a.w 17).o) (a.w 17).g)))
theorem Jgr(l n:Nat)(vs:List Value)(room:Int)(rt:Nat)(v1:List Value)(g1:Gd)(v2:List Value)(g2:Gd)(v3:List Value)(g3:Gd)(out:List Env)(Z:Zij vs room v1 g1 v2 g2 v3 g3)(N T:Nat):
  Z5 ((Ql (vW (w2 w b c)) (gLr w.params) 100000).cd (cLr (⟨l,n,vs,room,rt,v1,g1,v2,g2,v3,g3⟩:LrI)) ⟨320,Ze 9,none,frB true out⟩ ⟨aO N 8,0,T,0,pLr (⟨l,n,vs,room,rt,v1,g1,v2,g2,v3,g3⟩:LrI)⟩ ((Z4 0x1212f06310f0012f11f12f84e013f090807010f04600ff00ef0d0350c0b0a011f012f0021093e7fe0ff0ff10f10f11f11f1a4ea4ea4e00ee3e0de2010de5555000 (.two (Z4 0x1d4e0ded1e6407070710f .nil) (Z4 0x1d4e000 .nil)))) (Jj 1 (fun y=>11) (fun y=>True) (fun y U=>dLr vs room U) (fun y=>rLr w.params (⟨l,n,vs,room,rt,v1,g1,v2,g2,v3,g3⟩:LrI)))):=by
 have q:(Z04 [])/\∀X:Ph,(Z04 [])/\∀W:Ph,(Z77 (Obj.mk (Value.type gO) none (Data.fields #[Value.ref l,dP 0]) #[])=0/\Z8r vs 0 10 room [] [] [] [] (aB "") v1 g1 v2 g2 v3 g3)/\∀a:Ph,(Z1m vs room a)->((aF Is.ref (Zp (a.w 10).g)).length<=5/\Zy (Gd.is (Zp (a.w 10).g))=true)/\Zsl vs room a:=by
  obtain⟨ns,J,j,Y,I,t2,t3⟩:=Z;have m:Z04 []:=⟨fun y h=>absurd h aD,by decide⟩;refine⟨m,fun X=>⟨m,fun W=>⟨⟨rfl,ns,J,j,rfl,J20 Y I,t2,t3⟩,fun a D=> ?_⟩⟩⟩;have sm:(Zp (a.w 10).g).length<=4:=by
   obtain⟨_,_,_,i,_⟩:=D;exact i.small.2.2.2
  refine⟨⟨by rw[aE];exact cX sm,rfl⟩,fun U4=>⟨fun h=> ?_,fun h=> ?_⟩⟩
  ·rw[aE] at h;refine⟨fun z=> ?_,fun U5=>⟨trivial,Zp (a.w 10).g,D, ?_⟩⟩
   ·rw[z] at h;have h:room<0:=h;lia
   ·exact(if_pos h).symm
  ·rw[aE] at h;exact⟨trivial,Zp (a.w 10).g,D,by exact(if_neg h).symm⟩
 cases b<;>
 cases c<;>
 exact Zx (by kernel_rfl) q
theorem Jcx(i:LrI)(a:Zij i.3 i.4 i.6 i.7.1 i.7.2 i.7.3 i.7.4 i.7.5):Yu (vW (w2 w b c)) true true 320 (Ze 9) (cLr i) (pLr i) 1 (fun y=>True) (fun y U=>dLr i.3 i.4 U) (fun y=>rLr w.params i):=by
 obtain⟨l,n,vs,room,rt,v1,g1,v2,g2,v3,g3⟩:=i;exact Zbl (Jgq w b c) fun N T m out j=>by rw[j rfl];exact Jgr w b c l n vs room rt v1 g1 v2 g2 v3 g3 out a N T
def fLr(P:Params):Zi LrI where
 code:=cLr
 P:=pLr
 cond i:=some (Zij i.3 i.4 i.6 i.7.1 i.7.2 i.7.3 i.7.4 i.7.5)
 F i _ U:=rLr P i U
 k:=4
 nn _:=7
 ext c S:=match c with
  | .call _ ⟨[.ref _, .int room rt],[]⟩=>(match S with
   |[l,t1,t2,t3]=>some ⟨l.a,Z3 l.o,Z1 l.o,room,rt,Zu t1.o,t1.g,Zu t2.o,t2.g,Zu t3.o,t3.g⟩
   |_=>none)
  |_=>none
 d:=320
 u:=Ze 9
 z:=true
 xf:=true
 D:=some fun i y U=>dLr i.3 i.4 U
theorem Jcy:Za (vW (w2 w b c)) (fLr w.params).ctr:=
 (fLr w.params).okD (fun i a=>Jcx w b c i (a _ rfl))
theorem Z0j(h:Heap):h.get? h.objs.size=none:=by
 cases q:h.get? h.objs.size with
 |none=>rfl
 |some o=>exact absurd (cV q) (jS _)
noncomputable def slO(a b c:Value):Obj:=⟨.type "slice",none, .fields ⟨[a,b,c]⟩,⟨[]⟩⟩
noncomputable def Z08(v:Value):Option Int:=match v with| .int x _=>some x|_=>none
def Qu(v:Value):Prop:=v= .none\/∃x t,v= .int x t
theorem Z8u {v:Value}(h:Qu v):IsPart v (Z08 v):=by
 rcases h with rfl|⟨x,t,rfl⟩
 ·exact .none
 ·exact .int x t
def Q6(vs:List Value)(a b c:Value):List Value:=(rV ⟨vs⟩ (Z08 a) (Z08 b) (Z08 c)).toList
theorem Zck {prog:Program}{w:World}{A:Around}{s:Shared}{l sl:Addr}{vs:List Value}{n:Nat}{a b c:Value}{R:Result->Shared->Prop}(J:s.heap.get? l=some (LW.lst vs n))(hs:s.heap.get? sl=some (slO a b c))
  (pa:Qu a) (Z:Qu b) (I:Qu c) (X:Z08 c≠some 0) (Y:vs.length<=1000)
  (h:R (.ok (.ret (.ref s.heap.objs.size))) {s with heap:=s.heap.push (LW.lst (Q6 vs a b c) 0)}):bR (cP prog w) A (.call (.builtin "list.__getitem__") ⟨[.ref l, .ref sl],[]⟩) R s:=by
 haveI W:s.TypeIs (.ref sl) "slice":=⟨_,hs,rfl⟩;haveI q:(slO a b c).data= .fields #[a,b,c]:=rfl;haveI y:(⟨vs⟩:Array Value).size<=qB:=by simp only[bV];show vs.length<=_;exact aK Y (by decide)
 refine Z6b F.slot_list_getitem (s:=s) ⟨_,J,rfl⟩ F.entry_list_getitem (F.args_list_getitem_2 _ _) ?_;show aU _ _ (iL (.ref sl)>>=_) _ _ s;refine aA ?_;unfold iL
 refine aA (wpAny_specialOf W slice_no_index ?_);dsimp only[Option.isNone_none,if_true];refine aH ?_;show aU _ _ (typeOf (.ref sl)>>=_) _ _ s;refine aA (wpAny_typeOf W ?_);rw[if_neg (by decide),listSliceParts_eq];haveI j:¬((rawPart (Z08 c)==dP 0)=true):=by
  rcases I with rfl|⟨x,t,rfl⟩
  ·exact jH
  ·intro hh;exact X (by rw[show x=0 by simpa[rawPart,dP,Z08] using hh];rfl)
 refine aA (aA (eJ hs q (x:=c) rfl (aA (nZ (Z8u I) ?_))));rw[if_neg j];refine aA (eJ hs q (x:=a) rfl (aA (nZ (Z8u pa) ?_)));refine aA (eJ hs q (x:=b) rfl (aA (nZ (Z8u Z) (aH ?_))));refine aA (m:=jI (.ref l)) ?_;unfold jI;refine aA (fX J (items:=⟨vs⟩) rfl (aH ?_));refine aA (nN (sliceIndices_raw (Z08 a) (Z08 b) (Z08 c) (⟨vs⟩:Array Value).size X) ?_);exact aA (iP (aH ⟨_,rfl,h⟩) (aK (slicePick_size_le ⟨vs⟩ _ _ _) y))
abbrev Zwq:=I7 Nat Nat (List Value) Gd Nat Value (I2 Value Value)
noncomputable def Jgs(i:Zwq):Code:= .call (.builtin "list.__getitem__") ⟨[.ref i.1, .ref i.5],[]⟩
def J8y(i:Zwq):List Sl:=[⟨i.1,LW.lst i.3 i.2,i.4⟩,⟨i.5,slO i.6 i.7.1 i.7.2, .no⟩]
def Z1n(o:Obj)(k:Nat):Value:=(Zu o).getD k .none
def Zpg:Zi Zwq where
 code:=Jgs
 P:=J8y
 cond i:=some (i.4= .no/\Qu i.6/\Qu i.7.1/\Qu i.7.2/\Z08 i.7.2≠some 0/\i.3.length<=1000)
 F i _ U:=(.ok (.ret (.ref (U.w 0).a)),⟨(U.w 0).a,LW.lst (Z1 (U.w 0).o) (Z3 (U.w 0).o), .no⟩::J8y i)
 k:=2
 nn _:=1
 ext _ S:=match S with
  |[l,x]=>some ⟨l.a,Z3 l.o,Z1 l.o,l.g,x.a,Z1n x.o 0,Z1n x.o 1,Z1n x.o 2⟩
  |_=>none
 d:=Zf 0
 u:=Ze 0
 D:=some fun i y U=>Z1 (U.w 0).o=Q6 i.3 i.6 i.7.1 i.7.2
theorem Zsm(w:World):Za (vW w) Zpg.ctr:=by
 refine Zpg.okD (fun i hc=> ?_);haveI j:=hc _ rfl;haveI q:=j.1;haveI X:=j.2.1;haveI pb:=j.2.2.1;haveI W:=j.2.2.2.1;haveI h0:=j.2.2.2.2.1;haveI Z:=j.2.2.2.2.2;obtain⟨l,n,vs,g,sl,a,b,c⟩:=i;simp only at q X pb W h0 Z;subst q;intro A s hh out fr _ hA m;haveI Y:=(m.rep.slots ⟨l,LW.lst vs n, .no⟩ (.head _)).plain rfl;haveI J:=(m.rep.slots ⟨sl,slO a b c, .no⟩ (.tail _ (.head _))).plain rfl;refine Zck Y J X pb W h0 Z ?_;have hk:∀I o,s.heap.get? I=some o->(s.heap.push (LW.lst (Q6 vs a b c) 0)).get? I=some o:=fun I o e=>aQ _ e;haveI st:=m.keptNew (tk:=s.toks) hk (Qv m hk) (D:=⟨s.heap.objs.size,LW.lst (Q6 vs a b c) 0, .no⟩) (Z0j s.heap) ⟨bT _ rfl,trivial⟩;exact⟨0,aX,trivial,⟨(s.heap.push (LW.lst (Q6 vs a b c) 0)).objs.size-8,s.toks, .none,fun y=>⟨s.heap.objs.size,LW.lst (Q6 vs a b c) 0, .no⟩⟩,rfl,rfl,st⟩
section
open PySem.F PySem.SeqAt PyProof.V Builtin Builtin.Str
theorem Jcz {w:World}{T:String}{name:Str}{id:String}{b:gT}{self:Value}{rest:List Value}{x:Str}{m:Made}(j:Slot T name id)(J:∀s:Shared,s.TypeIs self T)(I:lQ oO id=some b)(q:jW id ⟨self::rest,[]⟩)(g:sV (b ⟨self::rest,[]⟩) m)(Y:m= .str x\/∃t,m= .val (.str x t))(X:x.length<=qB):
  J7 (vW w) false false (Zf 0) (Ze 0) (.call (.builtin id) ⟨self::rest,[]⟩) [] (fun U=>(.ok (.ret (.str x (Z6 U.rv))),[])):=by
 intro A s hh out fr hz Z a;refine Z7 fun W=> ?_;rcases Y with rfl|⟨t,rfl⟩
 ·refine W ?_;refine Yo j (J s) I q g.meets ?_;haveI st:=a.kept (h':=s.heap) (tk:=s.toks+1) (fun y y e=>e) a.rep.big;exact⟨X,0,aX,trivial,⟨s.heap.objs.size-8,s.toks+1, .str x s.toks,fun y=>⟨0,LW.lst [] 0, .no⟩⟩,rfl,st⟩
 ·refine W ?_;refine Yo j (J s) I q g.meets ?_;haveI st:=a.kept (h':=s.heap) (tk:=s.toks) (fun y y e=>e) a.rep.big;exact⟨0,aX,trivial,⟨s.heap.objs.size-8,s.toks, .str x t,fun y=>⟨0,LW.lst [] 0, .no⟩⟩,rfl,st⟩
noncomputable def Z3c(x:Str)(n:Int):Str:=if n<1 then Str.empty else if(n==1||x.length==0)=true then x else⟨(aY n.toNat x.cps).foldl (·++·) #[]⟩
abbrev J8z:=I4 Str Nat Int Nat
noncomputable def Jgt(i:J8z):Code:= .call (.builtin "str.__mul__") ⟨[.str i.1 i.2, .int i.3 i.4],[]⟩
def Zwr:Zi J8z where
 code:=Jgt
 P _:=[]
 cond i:=some (i.1.length<=100/\0<=i.3/\i.3<=100/\(Z3c i.1 i.3).length<=100000)
 F i _ U:=(.ok (.ret (.str (Z3c i.1 i.3) (Z6 U.rv))),[])
 k:=0
 ext c _:=match c with| .call _ ⟨[.str x t, .int n u],[]⟩=>some ⟨x,t,n,u⟩|_=>none
 d:=Zf 0
 u:=Ze 0
theorem J90(w:World):Za (vW w) Zwr.ctr:=by
 refine Zwr.ok (fun i W=> ?_);obtain⟨x,t,n,u⟩:=i;refine Z7 fun Y=> ?_;obtain⟨j,J,X,I⟩:=W _ rfl;simp only at j J X I;refine Y ?_;refine Jcz (T:="str") F.slot_str_mul (fun y=>rfl) F.entry_str_mul (F.args_str_mul_2 _ _) (gives_str_mul x n t u (by simp;lia) (fun a y=> ?_) (fun a y=> ?_)) ?_ (by simp only[bV];show(Z3c x n).length<=_;exact aK I (by decide))
 ·haveI q:=Int.ediv_le_ediv (c:=(2:Int)^63-1) (a:=100) (b:=100) (by lia) (bX _);have:(100:Int)<=(2^63-1)/n:=by
   rw[oA ((cE a))];lia
  exact cR (Zm [_] [_] [.z (.n 100) Jb, .n Zr (.n 100)] (.z Zr Jb) rfl this j)
 ·have:x.length*n.toNat<=100*100:=nM j (by lia);simp only[tooLong];haveI e:=bV;simp;exact Zm [] [_,_] [.n Zr (.m 100 (.n 100)),Zg6] Zg0 rfl this (aT e.symm)
 ·show(if n<1 then Made.str Str.empty else _)=_\/_;dsimp only[Z3c]
  by_cases a:n<1
  ·rw[if_pos a,if_pos a];exact .inl rfl
  ·rw[if_neg a,if_neg a]
   by_cases b:(n==1||x.length==0)=true
   ·rw[if_pos b,if_pos b];exact .inr ⟨t,rfl⟩
   ·rw[if_neg b,if_neg b];exact .inl rfl
noncomputable def Z3w(x y:Str):Int:=(occurrences x y 0 x.length (x.length+1)).length
abbrev TcI:=I4 Str Nat Str Nat
noncomputable def Jgu(i:TcI):Code:= .call (.builtin "str.count") ⟨[.str i.1 i.2, .str i.3 i.4],[]⟩
def Zik:Zi TcI where
 code:=Jgu
 P _:=[]
 cond _:=none
 F i _ U:=(.ok (.ret (.int (Z3w i.1 i.3) (Z6 U.rv))),[])
 k:=0
 ext c _:=match c with| .call _ ⟨[.str x t, .str y u],[]⟩=>some ⟨x,t,y,u⟩|_=>none
 d:=Zf 0
 u:=Ze 0
theorem Zil(w:World):Za (vW w) Zik.ctr:=
 Zik.ok (fun i y=>Zp2 (T:="str") F.slot_str_count (fun y=>rfl) F.entry_str_count (F.args_str_count_2 _ _) (gives_str_count i.1 i.3 i.2 i.4))
noncomputable def Z2u(x y:Str)(i j:Int):Int:=match occurrences x y (iM x.length i) (min (iM x.length j) x.length) 1 with|k::_=>(k:Int)|[]=>-1
theorem Zk0(x y:Str)(i j:Int)(t u v a:Tok):sV (Builtin.«str.find» ⟨[.str x t, .str y u, .int i v, .int j a],[]⟩) (.int (Z2u x y i j)):=by
 show sV (match occurrences x y (iM x.length i) (min (iM x.length j) x.length) 1 with|k::_=>retInt k|[]=>(do rule "str.find.not-found";retInt (-1))) _;unfold Z2u;cases occurrences x y (iM x.length i) (min (iM x.length j) x.length) 1 with
 |nil=>exact .rule (.of_eq rfl)
 |cons k _=>exact .of_eq rfl
abbrev FdI:=I7 Str Nat Str Nat Int Nat (I2 Int Nat)
noncomputable def cFd(i:FdI):Code:= .call (.builtin "str.find") ⟨[.str i.1 i.2, .str i.3 i.4, .int i.5 i.6, .int i.7.1 i.7.2],[]⟩
def fFd:Zi FdI where
 code:=cFd
 P _:=[]
 cond _:=none
 F i _ U:=(.ok (.ret (.int (Z2u i.1 i.3 i.5 i.7.1) (Z6 U.rv))),[])
 k:=0
 ext c _:=match c with| .call _ ⟨[.str x t, .str y u, .int i v, .int j v'],[]⟩=>some ⟨x,t,y,u,i,v,j,v'⟩|_=>none
 d:=Zf 0
 u:=Ze 0
theorem Jd0(w:World):Za (vW w) fFd.ctr:=
 fFd.ok (fun i y=>Zp2 (T:="str") F.slot_str_find (fun y=>rfl) F.entry_str_find (F.args_str_find_4 _ _ _ _) (Zk0 i.1 i.3 i.5 i.7.1 i.2 i.4 i.6 i.7.2))
noncomputable def Jt(x y:Str):List Str:=partsBetween x (occurrences x y 0 x.length (x.length+1)) y.length
abbrev SpI:=I4 Str Nat Str Nat
noncomputable def cSp(i:SpI):Code:= .call (.builtin "str.split") ⟨[.str i.1 i.2, .str i.3 i.4],[]⟩
def Zws(x y:Str):Prop:=(decide (x.length<y.length)||decide (strKind x<strKind y))=false/\(y.length==0)=false/\(occurrences x y 0 x.length (x.length+1)).isEmpty=false/\x.length<=1000/\(Jt x y).length<=1000
def fSp:Zi SpI where
 code:=cSp
 P _:=[]
 cond i:=some (Zws i.1 i.3)
 F i _ U:=(.ok (.ret (.ref (U.w 0).a)),[⟨(U.w 0).a,LW.lst (Z1 (U.w 0).o) (Z3 (U.w 0).o), .no⟩])
 k:=0
 nn _:=1
 ext c _:=match c with| .call _ ⟨[.str x t, .str y u],[]⟩=>some ⟨x,t,y,u⟩|_=>none
 d:=Zf 0
 u:=Ze 0
 D:=some fun i z U=>∃t,Z1 (U.w 0).o=gS t (Jt i.1 i.3)
theorem Jd1(w:World):Za (vW w) fSp.ctr:=by
 refine fSp.okD (fun i Z=> ?_);obtain⟨x,t,y,u⟩:=i;haveI a:=Z _ rfl;haveI q:=a.1;haveI I:=a.2.1;haveI W:=a.2.2.1;haveI J:=a.2.2.2.1;haveI Y:=a.2.2.2.2;simp only at q I W J Y;intro A s hh out fr hz hA j;haveI e:=bV;refine Yo F.slot_str_split (rfl:s.TypeIs (.str x t) "str") F.entry_str_split (F.args_str_split_2 _ _) (meets_str_split_sep x y t u q I W (Zm [] [_,_] [.n Zr Za5,Zg6] Zg0 rfl J (aT e.symm)) (by show(Jt x y).length<=_;exact Zm [] [_,_] [.n Zr Za5,Zg6] Zg0 rfl Y (aT e.symm))) ?_;haveI X:∀m o,s.heap.get? m=some o->(s.heap.push (LW.lst (gS s.toks (Jt x y)) 0)).get? m=some o:=fun m o e=>aQ _ e;haveI st:=j.keptNew (tk:=s.toks+(Jt x y).length) X (Qv j X) (D:=⟨s.heap.objs.size,LW.lst (gS s.toks (Jt x y)) 0, .no⟩) (Z0j s.heap) ⟨bT _ rfl,trivial⟩;exact⟨0,aX,trivial,⟨(s.heap.push (LW.lst (gS s.toks (Jt x y)) 0)).objs.size-8,s.toks+(Jt x y).length, .none,fun z=>⟨s.heap.objs.size,LW.lst (gS s.toks (Jt x y)) 0, .no⟩⟩,⟨s.toks,rfl⟩,rfl,st⟩
def Zph(x y:Str):Prop:=(occurrences x y 0 x.length 1).isEmpty=false
def Zwt:Cmp:=fun x j a b lg hs R=>match a,b with
 | .str y _, .str x _=>(match j with
  | .NotIn=>Z3r (¬Zph x y) lg hs R
  |_=>Zd "in: operator")
 |_,_=>Zd "in: no texts"
set_option tactic.hygienic true in theorem J91(v:V):Z1t v Zwt:=by
 intro s0 op a b x lg hs R E A s hg hst ha;unfold Zwt at hg
 split at hg
 ·rename_i y u x t;refine Z7 fun k'=> ?_
  split at hg
  ·obtain⟨h1,h2,ht,hf⟩:=Qt hg;refine k' ?_;refine PySem.P.notIn_str ?_;refine⟨_,rfl, ?_⟩
   by_cases c:Zph x y
   ·have e:(occurrences x y 0 x.length 1).isEmpty=false:=c;rw[e];exact⟨lg,h2,hf (fun z=>z c),hst⟩
   ·have e:(occurrences x y 0 x.length 1).isEmpty=true:=by
     cases q:(occurrences x y 0 x.length 1).isEmpty with
     |true=>rfl
     |false=>exact absurd q c
    rw[e];exact⟨lg,h1,ht c,hst⟩
  ·exact Z2 hg
 ·exact(Z2 hg).elim
end
section
open PySem.F PySem.SeqAt PyProof.V
def Zwu:Cmp:=fun x m a b lg hs R=>match dE x.u 9000 with
 |true=>pop (.prim 17 none a .none lg) hs fun i hs=>pop (.prim 17 none b .none lg) hs fun j hs=>(match lg.at i with
  |some s1=>(match lg.at j with
   |some s2=>(match Yz (Z96 s1.g) (Z96 s2.g) with
    |true=>Z8.ob (.val a) (.val (.ref s1.a)) (Z8.ob (.val b) (.val (.ref s2.a)) (Z8.ob (.obj s1.o) (.obj (lst (Z1 s1.o) (Z3 s1.o))) (Z8.ob (.obj s2.o) (.obj (lst (Z1 s2.o) (Z3 s2.o))) (Z8.cond ((∃l,Zc (Z1 s1.o)=some l)/\∃l,Zc (Z1 s2.o)=some l) (match m with
     | .Eq=>Z3r (Zc (Z1 s1.o)=Zc (Z1 s2.o)) lg hs R
     | .NotEq=>Z3r (Zc (Z1 s1.o)≠Zc (Z1 s2.o)) lg hs R
     |_=>Zd "eqV: operator")))))
    |false=>Zd "eqV: ghosts")
   |none=>Zd "eqV: slot")
  |none=>Zd "eqV: slot")
 |false=>Zd "eqV: room"
theorem Z5x {g:Gd}:Z96 g=true->g= .no:=by cases g<;>intro h<;>first|rfl|exact nomatch h
set_option tactic.hygienic true in theorem J92(v:V):Z1t v Zwu:=by
 intro s0 op a b x lg hs R E A s hg hst ha;unfold Zwu at hg
 split at hg
 ·rename_i hu;haveI hu':A.units+64<qA:=by
   haveI h1:=aW hu;haveI h2:=ha.units;show _<9900;exact Zm [] [_,_] [Yl,Zg1] Zlu rfl h2 h1
  refine Z7 fun k'=> ?_;obtain⟨i,hs1,hg⟩:=J4 hg;obtain⟨j,hs2,hg⟩:=J4 hg
  split at hg
  ·rename_i s1 e1
   split at hg
   ·rename_i s2 e2;have m1:=aZ (Qq (b:=lg.b) (m:=lg.m) (t:=lg.t) (i:=lg.i) e1);have m2:=aZ (Qq (b:=lg.b) (m:=lg.m) (t:=lg.t) (i:=lg.i) e2)
    split at hg
    ·rename_i hng;rw[Qn] at hng;have g1:=Z5x hng.1;have g2:=Z5x hng.2;obtain⟨ea,hg1⟩:=J0 hg;obtain⟨eb,hg2⟩:=J0 hg1;obtain⟨eo1,hg3⟩:=J0 hg2;obtain⟨eo2,hg4⟩:=J0 hg3;obtain⟨⟨⟨l1,q1⟩,l2,q2⟩,hg5⟩:=Y4 hg4;clear hg hg1 hg2 hg3 hg4;injection ea with ea;injection eb with eb;injection eo1 with eo1;injection eo2 with eo2
     subst ea eb;have k1:=hst.rep.slots s1 m1;have k2:=hst.rep.slots s2 m2;have r1:=Z70 (sl:=s1) (d:=(.ii l1,lst (Z1 s1.o) (Z3 s1.o))) (by unfold Zdp;rw[g1];simp only[q1]) k1 eo1;have r2:=Z70 (sl:=s2) (d:=(.ii l2,lst (Z1 s2.o) (Z3 s2.o))) (by unfold Zdp;rw[g2];simp only[q2]) k2 eo2;have ok1:Dt.ok (.ii l1):=trivial;have ok2:Dt.ok (.ii l2):=trivial;have iff:(Zc (Z1 s1.o)=Zc (Z1 s2.o))↔Dt.ii l1=Dt.ii l2:=by rw[q1,q2];simp
     split at hg5
     ·obtain⟨h1,h2,ht,hf⟩:=Qt hg5;refine k' ?_;refine oL r1 r2 (Z0l ok1) (Z0l ok2) hu' (Zbw _ _ rfl) ?_;rw[Z9d _ _ rfl];refine⟨_,rfl, ?_⟩
      by_cases c:Dt.ii l1=Dt.ii l2
      ·simp only[c,decide_true];exact⟨lg,h1,ht (iff.mpr c),hst⟩
      ·simp only[c,decide_false];exact⟨lg,h2,hf (fun n=>c (iff.mp n)),hst⟩
     ·obtain⟨h1,h2,ht,hf⟩:=Qt hg5;refine k' ?_;refine mG r1 r2 (Z0l ok1) (Z0l ok2) hu' (Zbw _ _ rfl) ?_;rw[Z9d _ _ rfl];refine⟨_,rfl, ?_⟩
      by_cases c:Dt.ii l1=Dt.ii l2
      ·simp only[c,decide_true,iQ];exact⟨lg,h2,hf (fun n=>n (iff.mpr c)),hst⟩
      ·simp only[c,decide_false,iB];exact⟨lg,h1,ht (fun n=>c (iff.mp n)),hst⟩
     ·exact Z2 hg5
    ·exact Z2 hg
   ·exact Z2 hg
  ·exact Z2 hg
 ·exact(Z2 hg).elim
abbrev P4:=Int×Nat×Int×Nat
def Zcl(lg:Lg)(a b:Value)(hs:Hs)(k:Sl->P4->P4->Hs->Z8):Z8:=
 pop (.prim 17 none a .none lg) hs fun i hs=>Z4k lg hs fun p hs=>Z4k lg hs fun q hs=>(match lg.at i with
  |some s=>(match Z96 s.g with
   |true=>(match Zp7 p.2 with
    |some e1=>(match Zp7 q.2 with
     |some e2=>Z8.ob (.obj p.2) (.obj (ipO e1)) (Z8.ob (.obj q.2) (.obj (ipO e2)) (Z8.ob (.obj s.o) (.obj (lst [.ref p.1, .ref q.1] (Z3 s.o))) (Z8.ob (.val a) (.val (.ref s.a)) (k s e1 e2 hs))))
     |none=>Zd "eqP: pair")
    |none=>Zd "eqP: pair")
   |false=>Zd "eqP: ghost")
  |none=>Zd "eqP: slot")
def Z3x(a j:P4):PyData:= .list [Z17 (Qr a),Z17 (Qr j)]
set_option tactic.hygienic true in theorem Za3 {v:V}{B:Zt}{s:Shared}{lg:Lg}{a b:Value}{hs:Hs}{k:Sl->P4->P4->Hs->Z8}(hst:St v B lg s)(hg:Z5 (Zcl lg a b hs k)):∃s1 e1 e2 hs',a= .ref s1.a/\Reads s.heap (.ref s1.a) (Z3x e1 e2) [s1.a]/\Z5 (k s1 e1 e2 hs'):=by
 unfold Zcl at hg;refine Z7 fun k'=> ?_;obtain⟨i,hs1,hg⟩:=J4 hg;obtain⟨p,hs2,hp,hg⟩:=Z0k hst.old hg;obtain⟨q,hs3,hq,hg⟩:=Z0k hst.old hg
 split at hg
 ·rename_i s1 e1;have m1:=aZ (Qq (b:=lg.b) (m:=lg.m) (t:=lg.t) (i:=lg.i) e1)
  split at hg
  ·rename_i hng
   split at hg
   ·rename_i p1 _
    split at hg
    ·rename_i p2 _;obtain⟨eo1,hg1⟩:=J0 hg;obtain⟨eo2,hg2⟩:=J0 hg1;obtain⟨eo,hg3⟩:=J0 hg2;obtain⟨ea,hg4⟩:=J0 hg3;clear hg hg1 hg2 hg3;injection ea with ea;injection eo with eo;injection eo1 with eo1;injection eo2 with eo2
     rw[eo1] at hp;rw[eo2] at hq;have k1:=(hst.rep.slots s1 m1).plain (by rw[Z5x hng];rfl);rw[eo] at k1;exact k' (⟨s1,p1,p2,hs3,ea,Reads.list (as:=[]) k1 rfl rfl (.cons (as:=[]) (Z7e hp) (.cons (as:=[]) (Z7e hq) .nil)),hg4⟩)
    ·exact Z2 hg
   ·exact Z2 hg
  ·exact Z2 hg
 ·exact Z2 hg
def Zwv:Cmp:=fun x q a b lg hs R=>match dE x.u 9000 with
 |true=>Zcl lg a b hs fun W m j hs=>Zcl lg b a hs fun J y I hs=>(match q with
  | .NotEq=>Z3r ([Qr m,Qr j]≠[Qr y,Qr I]) lg hs R
  |_=>Zd "eqP: operator")
 |false=>Zd "eqP: room"
theorem Zes(p q:P4):shaped (Z3x p q)=true:=by
 show(dZ (Z3x p q)&&decide (fB (Z3x p q)<=64))=true;simp only[fM];exact⟨by simp[dZ,eB,Z3x,Z17],decide_eq_true (by simp[Z3x,Z17,fB,eY])⟩
theorem J93(p q a j:P4):noMix (Z3x p q) (Z3x a j)=true:=by simp[noMix,noMixAll,Z3x,Z17]
open Classical in
theorem J21(p q j a:P4):PySem.Spec.same (Z3x p q) (Z3x j a)=decide ([Qr p,Qr q]=[Qr j,Qr a]):=by
 have m:=Z9r (Qr p) (Qr j);haveI y:=Z9r (Qr q) (Qr a);simp only[Z3x,PySem.Spec.same,PySem.Spec.sameAll,m,y]
 by_cases c1:Qr p=Qr j<;>by_cases c2:Qr q=Qr a<;>simp[c1,c2]
set_option tactic.hygienic true in theorem J94(v:V):Z1t v Zwv:=by
 intro s0 op a b x lg hs R E A s hg hst ha;unfold Zwv at hg;refine Z7 fun k'=> ?_
 split at hg
 ·rename_i hu;have hu':A.units+64<qA:=by
   have h1:=aW hu;have h2:=ha.units;show _<9900;exact Zm [] [_,_] [Yl,Zg1] Zlu rfl h2 h1
  obtain⟨s1,p1,p2,hs1,rfl,r1,hg⟩:=Za3 hst hg;obtain⟨s2,q1,q2,hs2,rfl,r2,hg⟩:=Za3 hst hg
  split at hg
  ·obtain⟨h1,h2,ht,hf⟩:=Qt hg;refine k' ?_;refine mG r1 r2 (Zes _ _) (Zes _ _) hu' (J93 _ _ _ _) ?_;rw[J21];refine⟨_,rfl, ?_⟩
   by_cases c:[Qr p1,Qr p2]=[Qr q1,Qr q2]
   ·simp only[c,decide_true,iQ];exact⟨lg,h2,hf (fun n=>n c),hst⟩
   ·simp only[c,decide_false,iB];exact⟨lg,h1,ht c,hst⟩
  ·exact Z2 hg
 ·exact Z2 hg
def Z7g:List Cmp:=[fEq,fLt,fIn,Zp8,Zwu,Zwv,Zwt]
theorem Z4x(v:V):∀f∈Z7g,Z1t v f:=by
 intro f a;simp only[Z7g,aC,aD,or_false] at a;rcases a with rfl|rfl|rfl|rfl|rfl|rfl|rfl
 ·exact Zne v
 ·exact Znf v
 ·exact Zng v
 ·exact Zse v
 ·exact J92 v
 ·exact J94 v
 ·exact J91 v
end
def Z1r(i:Nat):Stmt:=Z0d (Qm (Y2 31)) i
def Jgv(e:Expr):Expr:=kid e 0
def Zpi:Expr:=Z0v (Z1r 0)
def Jgw:Expr:=Z1j (Zoj (ltE Zpi)) 0
def roE:Expr:=Z1j (Jgv (Zoj (Z0v (Z1r 1)))) 0
def Zpj:Expr:=Zfo (Z0v (Z1r 6)) 0
def Zpk:Expr:=Zfo (Z0v (Z1r 6)) 1
def Jgx:Expr:=Zfo (Z0v (Z1r 7)) 1
def Zww:Expr:=Z1j (Zdt (Z8f (Z6f (Z1r 9)) 0)) 0
def Zax:Expr:=Z0v (Z0d (Q8 (Z1r 12)) 1)
def Zwx:Expr:=Z1j (Zdt (Z8f (Zhn (Z1r 13)) 0)) 0
abbrev Zim:=I3 Nat Nat (List Value)
noncomputable def Jgy(i:Zim):Code:= .call (.ref 310) ⟨[.ref i.1],[]⟩
def Zin(i:Zim):List Sl:=[⟨i.1,lst i.3 i.2, .no⟩,⟨195,Zv [], .tab []⟩,⟨202,Zv [], .tab []⟩,⟨297,Zv [], .tab []⟩,⟨307,Zv [], .tab []⟩]
def Qy(L:List He)(n:Str):Str:=match Zb L n with|some e=>e.v|none=>st "0"
abbrev GtI:=I5 Hd (List He) Str Nat Nat
def cGt(i:GtI):Code:= .call (.ref 122) ⟨[.ref i.1.a, .str i.3 i.4, .str (st "0") i.5],[]⟩
def rGt(P:Params)(h:Hd)(L:List He)(U:Ph):Result×List Sl:=(.ok (.ret (.str (vS U.rv) (Z6 U.rv))),Yc P h L)
def fGt(P:Params):Zi GtI where
 code:=cGt
 P i:=Yc P i.1 i.2
 cond i:=some (i.3∈Z9++Zh/\Z0 i.3∈Z9/\Jp i.2)
 F i _ U:=rGt P i.1 i.2 U
 k:=3
 ext c S:=match c with
  | .call _ ⟨[.ref _, .str s t, .str _ u],[]⟩=>(match Z1p S with
   |some (h,L)=>some ⟨h,L,s,t,u⟩
   |none=>none)
  |_=>none
 d:=Zf 2
 u:=Ze 2
 z:=true
 D:=some fun i y U=>vS U.rv=Qy i.2 (Z0 i.3)
theorem Zzg:Za (vW (w2 w b c)) (fGt w.params).ctr:=by
 refine(fGt w.params).okD (fun i X=> ?_);obtain⟨J,W,g,m⟩:=X _ rfl;obtain⟨h,L,s,t,u⟩:=i;simp only at J W g m;clear X;obtain⟨v,e⟩:=Z4o Zs (rfl:L.length=L.length);have I:∀i,i<L.length->(v i).k∈Z9++Zh:=fun i j=>g _ (by rw[e];exact aL (eV.mpr j));rw[e]
 generalize L.length=k at m I
 clear e g;refine Z2j (gk4 _) (n:=100000) (k:=fun y=>3) (hs:=J5u (fun y=>0) k) fun N T=> ?_;have Y:k<5:=fG m;clear m;have q:s∈Z9++Zh/\∀_:Ph,Z0 s∈J2 true/\∀_:Ph,Zmy (fun i=>(v i).k∈Z9++Zh) (fun i=>Z0 (v i).k=Z0 s) (fun i=>True/\(v i).v=Qy ((aJ k).map v) (Z0 s)) (True/\st "0"=Qy ((aJ k).map v) (Z0 s)) k 0:=
  ⟨J,fun y=>⟨W,fun y=>Zkj (a:=Zb ((aJ k).map v) (Z0 s)) (fun h=>⟨trivial,by unfold Qy;rw[h]⟩) k 0 (fun i j=>by rw[dH];exact I i j) (fun i j h=>⟨trivial,by unfold Qy;rw[h]⟩) (by rw[<-kU])⟩⟩
 clear I
 revert k
 exact Zam (by cases b<;>kernel_rfl)
set_option tactic.hygienic true in theorem Zdy(l:Addr)(vs:List Value):
  Meets (Builtin.«enumerate.__new__» ⟨[.type "enumerate", .ref l],[]⟩) (fun _ R s=>s.heap.get? l=some (Qj vs)/\
   R (.ok (.ret (.ref (s.heap.push {cls:= .type "tuple_iterator",data:= .fields #[.ref l, .int 0 0]}).objs.size)))
    {s with heap:=(s.heap.push {cls:= .type "tuple_iterator",data:= .fields #[.ref l, .int 0 0]}).push {cls:= .type "enumerate",data:= .fields #[.none, .bool false, .ref s.heap.objs.size,dP 0, .none, .none]}}):=
 .of_wp fun prog w A R s h=>by
  obtain⟨hp,g,d,tk,os⟩:=s;obtain⟨hl,h⟩:=h;haveI hsub:=sub_enumerate;have hL:Heap.IsTuple (Shared.heap ⟨hp,g,d,tk,os⟩) l ⟨vs⟩:=⟨_,hl,rfl,0,rfl⟩
  wp_walk using gP hl
  refine wpAny_stack_any fun st=>aH ?_
  split
  ·rename_i c _ _ _ _ _;cases (c==Value.type "enumerate")
   ·wp_walk using gP hl,mT hL
    exact⟨_,rfl,h⟩
   ·wp_walk using gP hl,mT hL
    exact⟨_,rfl,h⟩
  ·wp_walk using gP hl,mT hL
   exact⟨_,rfl,h⟩
theorem Z6i {prog:Program}{w:World}{A:Around}{s:Shared}{id:String}{b:gT}{args:Args}{S:Around->(Result->Shared->Prop)->Shared->Prop}{R:Result->Shared->Prop}(q:lQ oO id=some b)(a:plainId id=true)(m:Meets (b args) S)(j:S A R s):bR (cP prog w) A (.builtin id args) R s:=by
 refine lI q ?_;rw[Around.under_plainId a _];exact m prog w A R s j
noncomputable def tiO(l k:Nat):Obj:=⟨.type "tuple_iterator",none, .fields ⟨[.ref l, .int (Int.ofNat k) 0]⟩,⟨[]⟩⟩
noncomputable def enO(it:Nat)(k:Int):Obj:=⟨.type "enumerate",none, .fields ⟨[.none, .bool false, .ref it, .int k 0, .none, .none]⟩,⟨[]⟩⟩
abbrev EnI:=I2 Nat Obj
noncomputable def cEn(i:EnI):Code:= .builtin "enumerate.__new__" ⟨[.type "enumerate", .ref i.1],[]⟩
noncomputable def pEn(i:EnI):List Sl:=[⟨i.1,i.2, .no⟩]
theorem Zcm:plainId "enumerate.__new__"=true:=by decide+kernel
theorem Zl7 {w:World}{l:Nat}{o a:Obj}{fr:List Nat}{s:Shared}(y:St (vW w) ⟨s,[l],fr⟩ ⟨s.heap.objs.size,0,s.toks,0,[⟨l,o, .no⟩]⟩ s)(J:a.isFreed=false)(k:Nat)(W:enO k 0=enO s.heap.objs.size 0):
  St (vW w) ⟨s,[l],fr⟩ ⟨aO (((s.heap.push a).push (enO s.heap.objs.size 0)).objs.size-8) 8,0,s.toks,0,[⟨(s.heap.push a).objs.size,enO s.heap.objs.size 0, .no⟩,⟨s.heap.objs.size,a, .no⟩,⟨l,o, .no⟩]⟩ {s with heap:=(s.heap.push a).push (enO s.heap.objs.size 0)}:=by
 haveI I:∀j o',s.heap.get? j=some o'->(s.heap.push a).get? j=some o':=fun j o' e=>aQ _ e;haveI q:=y.keptNew (tk:=s.toks) I (Qv y I) (D:=⟨s.heap.objs.size,a, .no⟩) (Z0j s.heap) ⟨bT _ J,trivial⟩;haveI m:∀j o',(s.heap.push a).get? j=some o'->((s.heap.push a).push (enO s.heap.objs.size 0)).get? j=some o':=fun j o' e=>aQ _ e;exact q.keptNew (tk:=s.toks) (h':=(s.heap.push a).push (enO s.heap.objs.size 0)) m (Qv q m) (D:=⟨(s.heap.push a).objs.size,enO s.heap.objs.size 0, .no⟩) (Z0j _) ⟨bT _ rfl,trivial⟩
def Zay:List Str:=[st "keyerror",st "oserror",st "error",st "exit",st "e",st "lock"]
def Qk(j:Nat):Str:=Zay.getD j (st "")
def Zpl(t:Nat->Nat):List Value:=[.str (st "keyerror") (t 0), .str (st "oserror") (t 1), .str (st "error") (t 2), .str (st "exit") (t 3), .str (st "e") (t 4), .str (st "lock") (t 5)]
def Qc(o:Obj):List Value:=[.int (vI ((Z1 o).getD 0 .none)) (Z6 ((Z1 o).getD 0 .none)), .int (vI ((Z1 o).getD 1 .none)) (Z6 ((Z1 o).getD 1 .none)), .int (vI ((Z1 o).getD 2 .none)) (Z6 ((Z1 o).getD 2 .none)), .int (vI ((Z1 o).getD 3 .none)) (Z6 ((Z1 o).getD 3 .none)), .int (vI ((Z1 o).getD 4 .none)) (Z6 ((Z1 o).getD 4 .none)), .int (vI ((Z1 o).getD 5 .none)) (Z6 ((Z1 o).getD 5 .none))]
theorem Z3d {o:Obj}:∀j,j<6->vI ((Qc o).getD j .none)=vI ((Z1 o).getD j .none)
 |0,_=>rfl
 |1,_=>rfl
 |2,_=>rfl
 |3,_=>rfl
 |4,_=>rfl
 |5,_=>rfl
 |_+6,h=>absurd h (cQ (bO _ _))
theorem Z03 {L:List He}(h:HN L)(n:Str):Qy L n∈Yh:=by
 unfold Qy;cases q:Zb L n with
 |none=>show st "0"∈Yh;decide+kernel
 |some e=>exact(h e (cN q)).2
theorem J95:∀s∈Zay,s∈Jy/\s∈Z9/\Z0 s∈Z9/\J9 s∈Z9/\Z0 (J9 s)∈Z9:=by decide+kernel
theorem Jl(j:Nat)(h:j<6):Qk j∈Jy/\Qk j∈Z9/\Z0 (Qk j)∈Z9/\J9 (Qk j)∈Z9/\Z0 (J9 (Qk j))∈Z9:=by
 have:Qk j∈Zay:=by
  unfold Qk;rw[aI,aS (by simpa[Zay] using h)];exact dD _
 exact J95 _ this
def Z5y(L:List He)(X:List Value):Prop:=∀j,j<6->vI (X.getD j .none)=valN (Qy L (Z0 (J9 (Qk j))))
def Z5z(L:List He)(X:List Value):Prop:=∀j,j<6->vI (X.getD j .none)=valN (Qy L (Z0 (Qk j)))
abbrev Z8v:=I7 Nat Nat (Nat->Nat) Nat Hd (List He) (I5 Nat Nat Nat Obj Nat)
def Zzh(i:Z8v):Env:=Z0w Zpj (st "law.<locals>.") 309 i.7.3 i.7.5 [(st "few",i.4)]
def Jd2(i:Z8v):Code:= .compLoop Zpj 0 (.ref i.1) (.ref i.7.1) (Zzh i)
def Jd3(i:Z8v):Code:= .compStart Zpj 0 (.ref i.1) (.ref i.7.1) (Zzh i)
def J96(P:Params)(i:Z8v):List Sl:=[⟨i.1,tiO i.2 0, .no⟩,⟨i.2,Qj (Zpl i.3), .no⟩]++[⟨i.7.1,lst [] i.7.2, .no⟩,⟨i.7.3,Qx (Z3 i.7.4), .no⟩]++[⟨i.4,J8 (.ref i.5.a), .no⟩]++Yc P i.5 i.6
def J97(P:Params)(i:Z8v)(U:Ph):Result×List Sl:=(.ok .next,[⟨i.1,(U.w 0).o, .no⟩,⟨i.2,Qj (Zpl i.3), .no⟩]++[⟨i.7.1,lst (Qc (U.w 2).o) (Z3 (U.w 2).o), .no⟩,⟨i.7.3,Z2n [st "name"] (U.w 3).o, .no⟩]++[⟨i.4,J8 (.ref i.5.a), .no⟩]++Yc P i.5 i.6)
def Zsn(env:Env)(S:List Sl):Option Z8v:=match env.frame with
 |some f=>(match S with
   |[it,tp,acc,d,cf,h1,h2,h3]=>(match Z1p [h1,h2,h3] with
    |some (h,L)=>some ⟨it.a,tp.a,fun j=>Z6 ((Z1 tp.o).getD j .none),cf.a,h,L,acc.a,Z3 acc.o,d.a,d.o,f⟩
    |none=>none)
   |_=>none)
 |none=>none
def Zpm(P:Params):Zi Z8v where
 code:=Jd2
 P i:=J96 P i
 cond i:=some (HN i.6/\i.6.length<=4)
 F i _ U:=J97 P i U
 k:=8
 ext c S:=match c with| .compLoop _ _ _ _ env=>Zsn env S|_=>none
 d:=Zf 3
 u:=Ze 3
 z:=true
 D:=some fun i y U=>Z5y i.6 (Z1 (U.w 2).o)
def Zpn(P:Params):Zi Z8v where
 code:=Jd3
 P i:=J96 P i
 cond i:=some (HN i.6/\i.6.length<=4)
 F i _ U:=J97 P i U
 k:=8
 ext c S:=match c with| .compStart _ _ _ _ env=>Zsn env S|_=>none
 d:=Zf 3
 u:=Ze 3
 z:=true
 D:=some fun i y U=>Z5y i.6 (Z1 (U.w 2).o)
def Jgz(P:Params):G:=⟨[(fGt P).ctr,Zao.ctr,Z3l.ctr],[]⟩
def Jd4(P:Params):G:=⟨[(Zpm P).ctr],[]⟩
abbrev Z8w:=I7 Nat Nat (Nat->Nat) Nat Hd (List He) (I5 Nat Nat Nat Obj Nat)
def Zzi(i:Z8w):Env:=Z0w Zpk (st "law.<locals>.") 309 i.7.3 i.7.5 [(st "many",i.4)]
def Jd5(i:Z8w):Code:= .compLoop Zpk 0 (.ref i.1) (.ref i.7.1) (Zzi i)
def Jd6(i:Z8w):Code:= .compStart Zpk 0 (.ref i.1) (.ref i.7.1) (Zzi i)
def J98(P:Params)(i:Z8w):List Sl:=[⟨i.1,tiO i.2 0, .no⟩,⟨i.2,Qj (Zpl i.3), .no⟩]++[⟨i.7.1,lst [] i.7.2, .no⟩,⟨i.7.3,Qx (Z3 i.7.4), .no⟩]++[⟨i.4,J8 (.ref i.5.a), .no⟩]++Yc P i.5 i.6
def J99(P:Params)(i:Z8w)(U:Ph):Result×List Sl:=(.ok .next,[⟨i.1,(U.w 0).o, .no⟩,⟨i.2,Qj (Zpl i.3), .no⟩]++[⟨i.7.1,lst (Qc (U.w 2).o) (Z3 (U.w 2).o), .no⟩,⟨i.7.3,Z2n [st "name"] (U.w 3).o, .no⟩]++[⟨i.4,J8 (.ref i.5.a), .no⟩]++Yc P i.5 i.6)
def Zso(env:Env)(S:List Sl):Option Z8w:=match env.frame with
 |some f=>(match S with
   |[it,tp,acc,d,cf,h1,h2,h3]=>(match Z1p [h1,h2,h3] with
    |some (h,L)=>some ⟨it.a,tp.a,fun j=>Z6 ((Z1 tp.o).getD j .none),cf.a,h,L,acc.a,Z3 acc.o,d.a,d.o,f⟩
    |none=>none)
   |_=>none)
 |none=>none
def Zpo(P:Params):Zi Z8w where
 code:=Jd5
 P i:=J98 P i
 cond i:=some (HN i.6/\i.6.length<=4)
 F i _ U:=J99 P i U
 k:=8
 ext c S:=match c with| .compLoop _ _ _ _ env=>Zso env S|_=>none
 d:=Zf 3
 u:=Ze 3
 z:=true
 D:=some fun i y U=>Z5z i.6 (Z1 (U.w 2).o)
def Zpp(P:Params):Zi Z8w where
 code:=Jd6
 P i:=J98 P i
 cond i:=some (HN i.6/\i.6.length<=4)
 F i _ U:=J99 P i U
 k:=8
 ext c S:=match c with| .compStart _ _ _ _ env=>Zso env S|_=>none
 d:=Zf 3
 u:=Ze 3
 z:=true
 D:=some fun i y U=>Z5z i.6 (Z1 (U.w 2).o)
def Jh0(P:Params):G:=⟨[(fGt P).ctr,Zao.ctr],[]⟩
def Jd7(P:Params):G:=⟨[(Zpo P).ctr],[]⟩
abbrev Zk1(L:List He)(W J X U6 Y Z I q j:Ph):Prop:=∀y:Ph,(st "lock"∈Z9)/\∀U16:Ph,(J9 (st "lock")∈Z9++Zh/\Z0 (J9 (st "lock"))∈Z9/\Jp L)/\∀a:Ph,(vS a.rv=Qy L (Z0 (J9 (st "lock"))))->(vS a.rv∈Yh)/\∀m:Ph,(True)/\Z5y L [.int (valN (vS W.rv)) (Z6 J.rv), .int (valN (vS X.rv)) (Z6 U6.rv), .int (valN (vS Y.rv)) (Z6 Z.rv), .int (valN (vS I.rv)) (Z6 q.rv), .int (valN (vS j.rv)) (Z6 y.rv), .int (valN (vS a.rv)) (Z6 m.rv)]
abbrev Zk2(L:List He)(y q I X J W:Ph):Prop:=∀Y:Ph,(J9 (st "exit")∈Z9++Zh/\Z0 (J9 (st "exit"))∈Z9/\Jp L)/\∀j:Ph,(vS j.rv=Qy L (Z0 (J9 (st "exit"))))->(vS j.rv∈Yh)/\∀m:Ph,(st "e"∈Z9)/\∀Z:Ph,(J9 (st "e")∈Z9++Zh/\Z0 (J9 (st "e"))∈Z9/\Jp L)/\∀a:Ph,(vS a.rv=Qy L (Z0 (J9 (st "e"))))->(vS a.rv∈Yh)/\Zk1 L y q I X J W j m a
abbrev Zk3(L:List He)(I q:Ph):Prop:=∀j:Ph,(vS j.rv=Qy L (Z0 (J9 (st "oserror"))))->(vS j.rv∈Yh)/\∀y:Ph,(st "error"∈Z9)/\∀J:Ph,(J9 (st "error")∈Z9++Zh/\Z0 (J9 (st "error"))∈Z9/\Jp L)/\∀a:Ph,(vS a.rv=Qy L (Z0 (J9 (st "error"))))->(vS a.rv∈Yh)/\∀m:Ph,(st "exit"∈Z9)/\Zk2 L I q j y a m
abbrev Zk4(L:List He)(Y I y U4 J Z W X:Ph):Prop:=∀j:Ph,(vS j.rv=Qy L (Z0 (st "e")))->(vS j.rv∈Yh)/\∀m:Ph,(st "lock"∈Z9++Zh/\Z0 (st "lock")∈Z9/\Jp L)/\∀a:Ph,(vS a.rv=Qy L (Z0 (st "lock")))->(vS a.rv∈Yh)/\∀q:Ph,(True)/\Z5z L [.int (valN (vS Y.rv)) (Z6 I.rv), .int (valN (vS y.rv)) (Z6 U4.rv), .int (valN (vS J.rv)) (Z6 Z.rv), .int (valN (vS W.rv)) (Z6 X.rv), .int (valN (vS j.rv)) (Z6 m.rv), .int (valN (vS a.rv)) (Z6 q.rv)]
abbrev Zk5(L:List He)(I y m:Ph):Prop:=∀W:Ph,(st "error"∈Z9++Zh/\Z0 (st "error")∈Z9/\Jp L)/\∀j:Ph,(vS j.rv=Qy L (Z0 (st "error")))->(vS j.rv∈Yh)/\∀J:Ph,(st "exit"∈Z9++Zh/\Z0 (st "exit")∈Z9/\Jp L)/\∀a:Ph,(vS a.rv=Qy L (Z0 (st "exit")))->(vS a.rv∈Yh)/\∀q:Ph,(st "e"∈Z9++Zh/\Z0 (st "e")∈Z9/\Jp L)/\Zk4 L I y m W j J a q
theorem Jd8:J5 (vW (w2 w b c)) (Jgz w.params):=
 gC (Zzg w b c) (gC (Z88 _) (gC (Z6y _) Ym))
theorem J22:Za (vW (w2 w b c)) (Zpm w.params).ctr:=by
 refine(Zpm w.params).okD (fun i hc=> ?_);obtain⟨it,tp,t,cf,h,L,acc,m,d,o,f⟩:=i;obtain⟨a,q⟩:=hc _ rfl;exact zD4 (Jd8 w b c) (fun y=>8) (Z4 0x1c5e0326be326be326be326be326be32476e0044a4e0 .nil) (p:=(st "keyerror"∈Z9)/\∀U1:Ph,(J9 (st "keyerror")∈Z9++Zh/\Z0 (J9 (st "keyerror"))∈Z9/\Jp L)/\∀I:Ph,(vS I.rv=Qy L (Z0 (J9 (st "keyerror"))))->(vS I.rv∈Yh)/\∀W:Ph,(st "oserror"∈Z9)/\∀U4:Ph,(J9 (st "oserror")∈Z9++Zh/\Z0 (J9 (st "oserror"))∈Z9/\Jp L)/\Zk3 L I W) (fun y y=>by kernel_rfl) (by
   refine⟨(Jl 0 (by lia)).2.1,fun y=>⟨⟨aG.mpr (.inl (Jl 0 (by lia)).2.2.2.1),(Jl 0 (by lia)).2.2.2.2,a.ok q⟩,fun I d0=>⟨d0▸Z03 a _,fun W=>⟨(Jl 1 (by lia)).2.1,fun y=>⟨⟨aG.mpr (.inl (Jl 1 (by lia)).2.2.2.1),(Jl 1 (by lia)).2.2.2.2,a.ok q⟩,fun U5 d1=>⟨d1▸Z03 a _,fun U6=>⟨(Jl 2 (by lia)).2.1,fun y=>⟨⟨aG.mpr (.inl (Jl 2 (by lia)).2.2.2.1),(Jl 2 (by lia)).2.2.2.2,a.ok q⟩,fun U8 Z=>⟨Z▸Z03 a _,fun U9=>⟨(Jl 3 (by lia)).2.1,fun y=>⟨⟨aG.mpr (.inl (Jl 3 (by lia)).2.2.2.1),(Jl 3 (by lia)).2.2.2.2,a.ok q⟩,fun U11 Y=>⟨Y▸Z03 a _,fun U12=>⟨(Jl 4 (by lia)).2.1,fun y=>⟨⟨aG.mpr (.inl (Jl 4 (by lia)).2.2.2.1),(Jl 4 (by lia)).2.2.2.2,a.ok q⟩,fun U14 X=>⟨X▸Z03 a _,fun U15=>⟨(Jl 5 (by lia)).2.1,fun y=>⟨⟨aG.mpr (.inl (Jl 5 (by lia)).2.2.2.1),(Jl 5 (by lia)).2.2.2.2,a.ok q⟩,fun U17 J=>⟨J▸Z03 a _,fun U18=>⟨trivial,fun j hj=> ?_⟩⟩⟩⟩⟩⟩⟩⟩⟩⟩⟩⟩⟩⟩⟩⟩⟩⟩⟩
   match j,hj with
   |0,_=>exact congrArg valN d0
   |1,_=>exact congrArg valN d1
   |2,_=>exact congrArg valN Z
   |3,_=>exact congrArg valN Y
   |4,_=>exact congrArg valN X
   |5,_=>exact congrArg valN J
   |_+6,h=>exact absurd h (by lia))
theorem J23:Za (vW (w2 w b c)) (Zpn w.params).ctr:=by
 have X:J5 (vW (w2 w b c)) (Jd4 w.params):=⟨fun x W=>by rw[aM.mp W];exact J22 w b c,fun y W=>absurd W aD⟩;refine(Zpn w.params).okD (fun i Y=> ?_);obtain⟨it,tp,t,Z,h,L,acc,m,d,o,f⟩:=i;obtain⟨I,J⟩:=Y _ rfl;cases c
 ·cases b
  ·exact zD X (fun y=>8) (Zfg .nil) (p:=(HN L/\L.length<=4)/\∀q:Ph,(Z5y L (Z1 (q.w 2).o))->(True)/\(Z5y L (Qc (q.w 2).o))) (fun y y=>by kernel_rfl) (by exact⟨⟨I,J⟩,fun U h=>⟨trivial,fun j a=>(Z3d j a).trans (h j a)⟩⟩)
  ·exact zD X (fun y=>8) (Zfg .nil) (p:=(HN L/\L.length<=4)/\∀q:Ph,(Z5y L (Z1 (q.w 2).o))->(True)/\(Z5y L (Qc (q.w 2).o))) (fun y y=>by kernel_rfl) (by exact⟨⟨I,J⟩,fun U h=>⟨trivial,fun j a=>(Z3d j a).trans (h j a)⟩⟩)
 ·exact zD X (fun y=>8) (Z4 0x1d5e48e .nil) (p:=(HN L/\L.length<=4)/\∀q:Ph,(Z5y L (Z1 (q.w 2).o))->(True)/\(Z5y L (Qc (q.w 2).o))) (fun y y=>by kernel_rfl) (by exact⟨⟨I,J⟩,fun U h=>⟨trivial,fun j a=>(Z3d j a).trans (h j a)⟩⟩)
theorem Jd9:J5 (vW (w2 w b c)) (Jh0 w.params):=
 gC (Zzg w b c) (gC (Z88 _) Ym)
theorem J24:Za (vW (w2 w b c)) (Zpo w.params).ctr:=by
 refine(Zpo w.params).okD (fun i hc=> ?_);obtain⟨it,tp,t,cf,h,L,acc,m,d,o,f⟩:=i;obtain⟨a,q⟩:=hc _ rfl;exact zD4 (Jd9 w b c) (fun y=>8) (Z4 0x1c5e06be6be6be6be6be476e0044a4e0 .nil) (p:=(st "keyerror"∈Z9++Zh/\Z0 (st "keyerror")∈Z9/\Jp L)/\∀J:Ph,(vS J.rv=Qy L (Z0 (st "keyerror")))->(vS J.rv∈Yh)/\∀Z:Ph,(st "oserror"∈Z9++Zh/\Z0 (st "oserror")∈Z9/\Jp L)/\∀I:Ph,(vS I.rv=Qy L (Z0 (st "oserror")))->(vS I.rv∈Yh)/\Zk5 L J Z I) (fun y y=>by kernel_rfl) (by
   refine⟨⟨aG.mpr (.inl (Jl 0 (by lia)).2.1),(Jl 0 (by lia)).2.2.1,a.ok q⟩,fun J d0=>⟨d0▸Z03 a _,fun Z=>⟨⟨aG.mpr (.inl (Jl 1 (by lia)).2.1),(Jl 1 (by lia)).2.2.1,a.ok q⟩,fun I d1=>⟨d1▸Z03 a _,fun U4=>⟨⟨aG.mpr (.inl (Jl 2 (by lia)).2.1),(Jl 2 (by lia)).2.2.1,a.ok q⟩,fun U5 d2=>⟨d2▸Z03 a _,fun U6=>⟨⟨aG.mpr (.inl (Jl 3 (by lia)).2.1),(Jl 3 (by lia)).2.2.1,a.ok q⟩,fun U7 Y=>⟨Y▸Z03 a _,fun U8=>⟨⟨aG.mpr (.inl (Jl 4 (by lia)).2.1),(Jl 4 (by lia)).2.2.1,a.ok q⟩,fun U9 X=>⟨X▸Z03 a _,fun U10=>⟨⟨aG.mpr (.inl (Jl 5 (by lia)).2.1),(Jl 5 (by lia)).2.2.1,a.ok q⟩,fun U11 W=>⟨W▸Z03 a _,fun U12=>⟨trivial,fun j hj=> ?_⟩⟩⟩⟩⟩⟩⟩⟩⟩⟩⟩⟩⟩
   match j,hj with
   |0,_=>exact congrArg valN d0
   |1,_=>exact congrArg valN d1
   |2,_=>exact congrArg valN d2
   |3,_=>exact congrArg valN Y
   |4,_=>exact congrArg valN X
   |5,_=>exact congrArg valN W
   |_+6,h=>exact absurd h (by lia))
theorem J25:Za (vW (w2 w b c)) (Zpp w.params).ctr:=by
 have X:J5 (vW (w2 w b c)) (Jd7 w.params):=⟨fun x W=>by rw[aM.mp W];exact J24 w b c,fun y W=>absurd W aD⟩;refine(Zpp w.params).okD (fun i Y=> ?_);obtain⟨it,tp,t,Z,h,L,acc,m,d,o,f⟩:=i;obtain⟨I,J⟩:=Y _ rfl;cases c
 ·cases b
  ·exact zD X (fun y=>8) (Zfg .nil) (p:=(HN L/\L.length<=4)/\∀q:Ph,(Z5z L (Z1 (q.w 2).o))->(True)/\(Z5z L (Qc (q.w 2).o))) (fun y y=>by kernel_rfl) (by exact⟨⟨I,J⟩,fun U h=>⟨trivial,fun j a=>(Z3d j a).trans (h j a)⟩⟩)
  ·exact zD X (fun y=>8) (Zfg .nil) (p:=(HN L/\L.length<=4)/\∀q:Ph,(Z5z L (Z1 (q.w 2).o))->(True)/\(Z5z L (Qc (q.w 2).o))) (fun y y=>by kernel_rfl) (by exact⟨⟨I,J⟩,fun U h=>⟨trivial,fun j a=>(Z3d j a).trans (h j a)⟩⟩)
 ·exact zD X (fun y=>8) (Z4 0x1d5e48e .nil) (p:=(HN L/\L.length<=4)/\∀q:Ph,(Z5z L (Z1 (q.w 2).o))->(True)/\(Z5z L (Qc (q.w 2).o))) (fun y y=>by kernel_rfl) (by exact⟨⟨I,J⟩,fun U h=>⟨trivial,fun j a=>(Z3d j a).trans (h j a)⟩⟩)
section
open Builtin Builtin.Str
open StrLaws (At)
theorem Z8x(x y:Str)(p:Nat):(occurrences x y p x.length 1=[]/\∀i,p<=i->¬At x y x.length i)\/∃i r,occurrences x y p x.length 1=i::r/\p<=i/\At x y x.length i/\∀k,p<=k->k<i->¬At x y x.length k:=by
 rw[StrLaws.occ_eq];rcases StrLaws.occ_first x y x.length 1 (cB _) (dU p (x.length+1-p)) p (fun i J=>by simp[qF] at J;lia) with⟨h0,hn⟩|⟨pre,a,post,e,h0,ha,hn⟩
 ·refine .inl ⟨by rw[h0],fun i I J=> ?_⟩;exact hn i (iD.mpr ⟨I,by have:=J.1;lia⟩) J
 ·haveI Z:a∈dU p (x.length+1-p):=by rw[e];simp
  have hpa:p<=a:=by simp[qF] at Z;lia
  refine .inr ⟨a,((forIn (dU p (x.length+1-p)) ((#[]:Array Nat),p) (oP x y x.length 1)).run.fst.toList).tail, ?_,hpa,ha,fun k I X=>hn k ?_⟩
  ·generalize (forIn (dU p (x.length+1-p)) ((#[]:Array Nat),p) (oP x y x.length 1)).run.fst=arr at h0
   have j:arr.toList[0]?=some a:=by simpa using h0
   cases m:arr.toList with
   |nil=>rw[m] at j;contradiction
   |cons b t=>rw[m] at j;simp at j;rw[j];rfl
  ·have q:pre.length=a-p:=by
    have j:(dU p (x.length+1-p))[pre.length]?=some a:=by rw[e];simp
    have m:x.length+1-p=pre.length+(post.length+1):=by
     have:=congrArg hN e
     simpa using this
    rw[kX (by lia)] at j;simp at j;lia
   haveI W:(dU p (x.length+1-p))[k-p]?=pre[k-p]?:=by rw[e,List.getElem?_append_left (q▸oM I X)]
   have m:x.length+1-p=pre.length+(post.length+1):=by
    have:=congrArg hN e
    simpa using this
   rw[kX (hI (oM I X) (m▸q▸mR _ _))] at W;have Y:pre[k-p]?=some k:=by rw[<-W];simp;lia
   exact aZ Y
def Z3h(x y:Str)(p:Int):Int:=Z2u x y p x.length
theorem Zio(x y:Str)(p:Nat):Z3h x y p=match occurrences x y p x.length 1 with|k::_=>(k:Int)|[]=>-1:=by
 dsimp only[Z3h,Z2u];haveI a:iM x.length (p:Int)=p:=by unfold iM;rw[if_neg (cR (aR _)),mQ (aR _)];rfl
 haveI j:min (iM x.length (x.length:Int)) x.length=x.length:=by unfold iM;rw[if_neg (cR (aR _)),mQ (aR _)];exact Nat.min_self _
 simp only[a,j]
 all_goals (cases occurrences x y p x.length 1<;>rfl)
noncomputable def Z19(x:Str):List Str->Int->Prop
 |[],_=>True
 |w::ws,p=>0<=Z3h x w p/\Z19 x ws (Z3h x w p+w.length)
theorem Zip(x y:Str)(j:y.cps=#[])(p:Nat)(m:p<=x.length):At x y x.length p:=by
 haveI e:y.length=0:=by show y.cps.size=0;rw[j];rfl
 refine⟨(Zm [] [_,_,_] [Yl, .n lQ7 Qs] (.n (.a Zr lQ7) Yi) rfl m (aT e)), ?_⟩;unfold subAt;rw[e,j,nX,Array.extract_eq_empty_of_le (by lia)];rfl
theorem Zcn(x y:Str)(j:y.cps=#[])(p:Nat)(a:p<=x.length):Z3h x y p=p:=by
 rw[Zio];refine Z7 fun I=> ?_;rcases Z8x x y p with⟨_,h⟩|⟨i,r,e,m,_,q⟩
 ·exact absurd (Zip x y j p a) (h p (cB _))
 ·refine I ?_;rw[e];show(i:Int)=p;have:¬p<i:=fun h=>q p (cB _) h (Zip x y j p a);exact dC (Zm [] [_,_] [Yl] (.z Zr Yi) rfl (dX this)) (Zm [] [_,_] [Yl] (.z Zr Yi) rfl m)
theorem Zk6(x:Str)(c:Nat)(e:Str)(Y:e.cps=#[]):∀(m p:Nat),p<=x.length->(Z19 x (aY m ⟨#[c]⟩++[e]) p↔(m:Int)<=cnt c (x.cps.toList.drop p)):=by
 intro z0_
 induction z0_ with
 |zero=>
  intro p X;haveI e0:e.length=0:=by show e.cps.size=0;rw[Y];rfl
  haveI h0:0<=cnt c (x.cps.toList.drop p):=by
   generalize x.cps.toList.drop p=l
   induction l with
   |nil=>simp only[cnt_nil];exact bX _
   |cons a l J=>rw[sW];split<;>lia
  refine⟨fun y=>h0,fun y=> ?_⟩;show 0<=Z3h x e p/\True;rw[Zcn x e Y p X];exact⟨by lia,trivial⟩
 |succ m J=>
  intro p X;show 0<=Z3h x ⟨#[c]⟩ p/\Z19 x (aY m ⟨#[c]⟩++[e]) (Z3h x ⟨#[c]⟩ p+1)↔_;rw[Zio];rcases Z8x x ⟨#[c]⟩ p with⟨W,h⟩|⟨i,r,W,hi,hA,hn⟩
  ·rw[W];haveI z:cnt c (x.cps.toList.drop p)=0:=cnt_none c _ (drop_free x c p h);simp only[z];constructor
   ·rintro⟨q,_⟩;have q:(0:Int)<=-1:=q;lia
   ·intro q;lia
  ·rw[W];have Z:x.cps.toList[i]?=some c:=(StrLaws.subAt_one x c i).mp hA;have j:i<x.cps.toList.length:=(bJ.mp Z).1;haveI hz:x.length=x.cps.toList.length:=rfl;haveI q1:x.cps.toList.drop p=(x.cps.toList.drop p).take (i-p)++(x.cps.toList.drop p).drop (i-p):=(cT _ _).symm;haveI q2:(x.cps.toList.drop p).drop (i-p)=x.cps.toList.drop i:=by rw[List.drop_drop];congr 1;lia
   haveI q3:x.cps.toList.drop i=c::x.cps.toList.drop (i+1):=by
    rw[jN j]
    congr 1
    exact(bJ.mp Z).2
   haveI I:c∉(x.cps.toList.drop p).take (i-p):=by
    have:=StrLaws.part_free x c p i (Zm [] [_,_,_] [.n Y8 Yi, .n Yi lQ7] (.n Zr lQ7) rfl j (aT hz.symm)) hn
    rwa[StrLaws.strSub_toList] at this
   rw[q1,cnt_append,cnt_none c _ I,q2,q3,sW,if_pos rfl];haveI J:=J (i+1) (aK j (aT hz.symm));show(0:Int)<=(i:Int)/\Z19 x (aY m ⟨#[c]⟩++[e]) ((i:Int)+1)↔_;simp only[show((i:Int)+1)=((i+1:Nat):Int) by lia,J];constructor
   ·rintro⟨_,h⟩;lia
   ·intro h;exact⟨by lia,by lia⟩
theorem Zl8(x:Str)(c:Nat):Z3w x ⟨#[c]⟩=cnt c x.cps.toList:=by
 obtain⟨f,a,j⟩:=StrLaws.occ_tight x ⟨#[c]⟩ (cB 1);have:=chain_count x c _ 0 f a j;simp only[kW] at this;exact this.symm
theorem Zsp(x:Str)(c:Nat)(e:Str)(a:e.cps=#[])(m:Nat):Z19 x (e::(aY m ⟨#[c]⟩++[e])) 0↔(m:Int)<=Z3w x ⟨#[c]⟩:=by
 haveI j:e.length=0:=by show e.cps.size=0;rw[a];rfl
 show 0<=Z3h x e ((0:Nat):Int)/\Z19 x (aY m ⟨#[c]⟩++[e]) (Z3h x e ((0:Nat):Int)+e.length)↔_;simp only[Zcn x e a 0 (bP _),j,Zl8];have:=Zk6 x c e a m 0 (bP _);rw[kW] at this;simp only[<-this];exact⟨fun h=>h.2,fun h=>⟨(bX _),h⟩⟩
end
theorem J26 {prog:Program}{w:World}{A:Around}{s:Shared}{l:Addr}{vs:List Value}{n:Nat}{k:Int}{t:Nat}{x:Value}{R:Result->Shared->Prop}(W:s.heap.get? l=some (LW.lst vs n))
  (h:(0<=k/\k<2^63/\vs[k.toNat]?=some x)\/(k<0/\-(vs.length:Int)<=k/\-(2^63)<=k/\vs[(k+vs.length).toNat]?=some x)) (y:R (.ok (.ret x)) s):bR (cP prog w) A (.call (.builtin "list.__getitem__") ⟨[.ref l, .int k t],[]⟩) R s:=by
 refine Z6b F.slot_list_getitem (s:=s) ⟨_,W,rfl⟩ F.entry_list_getitem (F.args_list_getitem_2 _ _) ?_;show aU _ _ (iL (.int k t)>>=_) _ _ s;rcases h with⟨m,a,J⟩|⟨m,Z,a,J⟩
 ·refine aA (oQ (fitsIndex_of m a) ?_);clear a;obtain⟨j,rfl⟩:=bU m;haveI q:(⟨vs⟩:Array Value)[j]?=some x:=by rw[<-fZ];exact J
  show aU _ _ ((seqItemAt l j>>=fun r=>pure (r.map (j,·)))>>=_) _ _ s;refine aA (aA (wpAny_seqItemAt W (items:=⟨vs⟩) rfl (aH ?_)));rw[q]
  first
   |exact aA (aH (aH ⟨x,rfl,y⟩))
   |exact aH ⟨x,rfl,y⟩
 ·refine aA (oQ (fitsIndex_neg m a) ?_);clear a;haveI X:rW k vs.length=some (k+vs.length).toNat:=PySem.seqIndex_neg m Z;obtain⟨j,rfl⟩:∃j:Nat,k=Int.negSucc j:=by
   cases k with
   |ofNat n=>exact absurd m (Int.not_lt.mpr (aR n))
   |negSucc n=>exact⟨n,rfl⟩
  show aU _ _ ((jI (.ref l)>>=fun Y=>pure ((rW (Int.negSucc j) Y.size).bind fun i=>Y[i]?.map (i,·)))>>=_) _ _ s;refine aA (aA ?_);show aU _ _ (seqItems? (.ref l)>>=_) _ _ s;refine aA (fX W (items:=⟨vs⟩) rfl (aH (aH ?_)));haveI I:rW (Int.negSucc j) (⟨vs⟩:Array Value).size=some (Int.negSucc j+vs.length).toNat:=X;haveI q:(⟨vs⟩:Array Value)[(Int.negSucc j+vs.length).toNat]?=some x:=by rw[<-fZ];exact J
  rw[I];simp only[Option.bind_some,q,Option.map_some]
  first
   |exact aA (aH (aH ⟨x,rfl,y⟩))
   |exact aH ⟨x,rfl,y⟩
abbrev LgI:=I5 Nat Nat (List Value) Int Nat
noncomputable def cLg(i:LgI):Code:= .call (.builtin "list.__getitem__") ⟨[.ref i.1, .int i.4 i.5],[]⟩
def pLg(i:LgI):List Sl:=[⟨i.1,LW.lst i.3 i.2, .no⟩]
noncomputable def atL(vs:List Value)(k:Int):Value:=if 0<=k then vs.getD k.toNat .none else vs.getD (k+vs.length).toNat .none
def inL(vs:List Value)(k:Int):Prop:=-(vs.length:Int)<=k/\k<vs.length/\vs.length<=1000
theorem J9a {vs:List Value}{k:Int}(h:inL vs k):(0<=k/\k<2^63/\vs[k.toNat]?=some (atL vs k))\/(k<0/\-(vs.length:Int)<=k/\-(2^63)<=k/\vs[(k+vs.length).toNat]?=some (atL vs k)):=by
 haveI a:=h.1;haveI j:=h.2.1;haveI m:=h.2.2;unfold atL
 by_cases h0:0<=k
 ·refine .inl ⟨h0,by lia, ?_⟩;rw[if_pos h0,aI,aS (by lia)];rfl
 ·refine .inr ⟨((mS h0)),a,by lia, ?_⟩;rw[if_neg h0,aI,aS (by lia)];rfl
def Zpq:Zi LgI where
 code:=cLg
 P:=pLg
 cond i:=some (inL i.3 i.4/\∃x t,atL i.3 i.4= .int x t)
 F i _ U:=(.ok (.ret (.int (vI U.rv) (Z6 U.rv))),pLg i)
 k:=1
 ext c S:=match c with
  | .call _ ⟨[.ref _, .int k t],[]⟩=>(match S with
   |[l]=>some ⟨l.a,Z3 l.o,Z1 l.o,k,t⟩
   |_=>none)
  |_=>none
 d:=Zf 0
 u:=Ze 0
 D:=some fun i y U=>U.rv=atL i.3 i.4
theorem Zl9 {w:World}{A:Around}{s:Shared}{fr:List Nat}{i:LgI}{F:Ph->Result×List Sl}(j:St (vW w) ⟨s,(pLg i).map Sl.a,fr⟩ ⟨s.heap.objs.size,0,s.toks,0,pLg i⟩ s)(h:inL i.3 i.4)
  (q:∀U:Ph,U.rv=atL i.3 i.4->(F U).1= .ok (.ret (atL i.3 i.4))/\(F U).2=pLg i):bR (M (vW w)) A (cLg i) (fun r s'=>∃a,a<1/\True/\∃U,U.rv=atL i.3 i.4/\r=(F U).1/\St (vW w) ⟨s,(pLg i).map Sl.a,fr⟩ ⟨aO U.n 8,0,U.t,0,(F U).2⟩ s') s:=by
 haveI m:=(j.rep.slots ⟨i.1,LW.lst i.3 i.2, .no⟩ (.head _)).plain rfl;refine J26 m (J9a h) ?_;haveI st:=j.kept (h':=s.heap) (tk:=s.toks) (fun y y e=>e) j.rep.big;refine⟨0,aX,trivial,⟨s.heap.objs.size-8,s.toks,atL i.3 i.4,fun y=>⟨0,LW.lst [] 0, .no⟩⟩,rfl,(q _ rfl).1.symm, ?_⟩;rw[(q ⟨s.heap.objs.size-8,s.toks,atL i.3 i.4,fun y=>⟨0,LW.lst [] 0, .no⟩⟩ rfl).2];exact st
theorem J9b(w:World):Za (vW w) Zpq.ctr:=by
 refine Zpq.okD (fun i j=> ?_);refine Z7 fun m=> ?_;obtain⟨h,x,t,e⟩:=j _ rfl;refine m ?_;intro A s hh out fr _ y a;exact Zl9 (F:=fun U=>(.ok (.ret (.int (vI U.rv) (Z6 U.rv))),pLg i)) a h fun U q=>⟨by rw[q,e];rfl,rfl⟩
def Zwy:Zi LgI:={Zpq with
 cond:=fun i=>some (inL i.3 i.4/\∃t,atL i.3 i.4= .str ⟨⟨[]⟩⟩ t)
 F:=fun i y U=>(.ok (.ret (.str ⟨⟨[]⟩⟩ (Z6 U.rv))),pLg i)}
theorem J9c(w:World):Za (vW w) Zwy.ctr:=by
 refine Zwy.okD (fun i j=> ?_);refine Z7 fun m=> ?_;obtain⟨h,t,e⟩:=j _ rfl;refine m ?_;intro A s hh out fr _ y a;exact Zl9 (F:=fun U=>(.ok (.ret (.str ⟨⟨[]⟩⟩ (Z6 U.rv))),pLg i)) a h fun U q=>⟨by rw[q,e];rfl,rfl⟩
theorem Zsq {prog:Program}{w:World}{A:Around}{s:Shared}{l:Addr}{vs:List Value}{n:Nat}{R:Result->Shared->Prop}(j:s.heap.get? l=some (LW.lst vs n))(q:vs.length<=1000)
  (h:R (.ok (.ret (.int vs.length (s.toks+1)))) {s with toks:=s.toks+1+1}):bR (cP prog w) A (.call (.builtin "len") ⟨[.ref l],[]⟩) R s:=by
 refine Zcd kind_len plain_len entry_len (args_len1 _) ?_;haveI a:s.TypeIs (.ref l) "list":=⟨_,j,rfl⟩;unfold pT;refine aA (m:=oneArg "len" _) (aH ?_);refine aA (m:=callSpecial? (.ref l) (aB "__len__")) (fW (name:=aB "__len__") a F.slot_list_len (call_meets F.slot_list_len a F.entry_list_len (F.args_list_len_1 _) (AutoListH.list___len___list_0 l ⟨vs⟩ n) ⟨j, ?_⟩));haveI e:(((⟨vs⟩:Array Value).size:Nat):Int)=(vs.length:Int):=rfl;refine aA (eC (aH ?_));refine aA (kF ?_);show aU _ _ (if(vs.length:Int)<0 then _ else _) _ _ _;dsimp only[if_neg (cR (aR _))];show aU _ _ (if(vs.length:Int)≥2^63 then _ else _) _ _ _;rw[if_neg (by lia)];exact aA (qC (aH ⟨_,rfl,h⟩))
abbrev LlI:=I3 Nat Nat (List Value)
noncomputable def cLl(i:LlI):Code:= .call (.builtin "len") ⟨[.ref i.1],[]⟩
def pLl(i:LlI):List Sl:=[⟨i.1,LW.lst i.3 i.2, .no⟩]
def fLl:Zi LlI where
 code:=cLl
 P:=pLl
 cond i:=some (i.3.length<=1000)
 F i _ U:=(.ok (.ret (.int (Int.ofNat i.3.length) (Z6 U.rv))),pLl i)
 k:=1
 ext _ S:=match S with
  |[l]=>some ⟨l.a,Z3 l.o,Z1 l.o⟩
  |_=>none
 d:=Zf 0
 u:=Ze 0
theorem Zzj(w:World):Za (vW w) fLl.ctr:=by
 refine fLl.ok (fun i q=> ?_);have j:=q _ rfl;obtain⟨l,n,vs⟩:=i;simp only at j;intro A s hh out fr I J a;haveI m:=(a.rep.slots ⟨l,LW.lst vs n, .no⟩ (.head _)).plain rfl;refine Zsq m j ?_;haveI st:=a.kept (h':=s.heap) (tk:=s.toks+1+1) (fun y y e=>e) a.rep.big;exact⟨0,aX,trivial,⟨s.heap.objs.size-8,s.toks+1+1, .int vs.length (s.toks+1),fun y=>Zdb⟩,rfl,st⟩
noncomputable def Z3e(vs:List Value)(x:Int):List Value:=(aY x.toNat vs).flatten
theorem Zwz(a:Array Value):∀(n:Nat)(z:Array Value),(sI (fun m q=>m++q) z (aY n a)).toList=z.toList++(aY n a.toList).flatten:=by
 intro j
 induction j with
 |zero=>
  intro z;simp
 |succ n ih=>
  intro z;simp only[dT,dT,List.foldl_cons,ih (z++a),Array.toList_append,lV,eD]
theorem Ziq(n:Nat):(aY n ([]:List Value)).flatten=[]:=by induction n with|zero=>rfl|succ n ih=>simp only[dT,lV,ih];rfl
theorem Zla(vs:List Value)(x:Int):sI (fun m j=>m++j) #[] (aY (if(⟨vs⟩:Array Value).isEmpty=true then 0 else x.toNat) ⟨vs⟩)=(⟨Z3e vs x⟩:Array Value):=by
 apply pG.mp;simp only[Zwz];unfold Z3e;cases vs with
 |nil=>
  rw[Ziq];show[]++[]=(aY x.toNat ([]:List Value)).flatten;rw[Ziq];rfl
 |cons a vs=>rfl
abbrev Zx0:=I5 Nat Nat (List Value) Int Nat
noncomputable def Jh1(i:Zx0):Code:= .call (.builtin "list.__mul__") ⟨[.ref i.1, .int i.4 i.5],[]⟩
def J9d(i:Zx0):List Sl:=[⟨i.1,LW.lst i.3 i.2, .no⟩]
def Zx1:Zi Zx0 where
 code:=Jh1
 P:=J9d
 cond i:=some (i.3.length<=10/\-100<=i.4/\i.4<=100)
 F i _ U:=(.ok (.ret (.ref (U.w 0).a)),⟨(U.w 0).a,LW.lst (Z1 (U.w 0).o) (Z3 (U.w 0).o), .no⟩::J9d i)
 k:=1
 nn _:=1
 ext c S:=match c with
  | .call _ ⟨[.ref _, .int x t],[]⟩=>(match S with
   |[l]=>some ⟨l.a,Z3 l.o,Z1 l.o,x,t⟩
   |_=>none)
  |_=>none
 d:=Zf 0
 u:=Ze 0
 D:=some fun i y U=>Z1 (U.w 0).o=Z3e i.3 i.4
theorem J9e(w:World):Za (vW w) Zx1.ctr:=by
 refine Zx1.okD (fun i Y=> ?_);obtain⟨I,W,X⟩:=Y _ rfl;obtain⟨l,n,vs,x,t⟩:=i;simp only at I W X;intro A s hh out fr _ Z a;haveI j:=(a.rep.slots ⟨l,LW.lst vs n, .no⟩ (.head _)).plain rfl;haveI b:(⟨vs⟩:Array Value).size*x.toNat<=10*100:=nM I (by lia);refine Yo F.slot_list_mul (T:="list") (self:= .ref l) ⟨_,j,rfl⟩ F.entry_list_mul (F.args_list_mul_2 _ _) (lD l ⟨vs⟩ n x t ?_ ?_ ?_) ⟨j, ?_⟩
 ·have:fR x=true:=by
   unfold fR;simp only[fM,decide_eq_true_eq];lia
  rw[this];decide
 ·lia
 ·haveI e:=bV;simp only[gF,decide_eq_true_eq];exact cQ (Zm [] [_,_] [.n Zr (.m 10 (.n 100)),Zg6] Zg0 rfl b (aT e.symm))
 ·rw[Zla];haveI J:∀q o,s.heap.get? q=some o->(s.heap.push (LW.lst (Z3e vs x) 0)).get? q=some o:=fun q o e=>aQ _ e;haveI st:=a.keptNew (tk:=s.toks) J (Qv a J) (D:=⟨s.heap.objs.size,LW.lst (Z3e vs x) 0, .no⟩) (Z0j s.heap) ⟨bT _ rfl,trivial⟩;exact⟨0,aX,trivial,⟨(s.heap.push (LW.lst (Z3e vs x) 0)).objs.size-8,s.toks, .none,fun y=>⟨s.heap.objs.size,LW.lst (Z3e vs x) 0, .no⟩⟩,rfl,rfl,st⟩
abbrev AdI:=I6 Nat Nat (List Value) Nat Nat (List Value)
noncomputable def cAd(i:AdI):Code:= .call (.builtin "list.__add__") ⟨[.ref i.1, .ref i.4],[]⟩
def pAd(i:AdI):List Sl:=[⟨i.1,LW.lst i.3 i.2, .no⟩,⟨i.4,LW.lst i.6 i.5, .no⟩]
def fAd:Zi AdI where
 code:=cAd
 P:=pAd
 cond i:=some (i.3.length<=1000/\i.6.length<=1000)
 F i _ U:=(.ok (.ret (.ref (U.w 0).a)),⟨(U.w 0).a,LW.lst (Z1 (U.w 0).o) (Z3 (U.w 0).o), .no⟩::pAd i)
 k:=2
 nn _:=1
 ext _ S:=match S with
  |[l,m]=>some ⟨l.a,Z3 l.o,Z1 l.o,m.a,Z3 m.o,Z1 m.o⟩
  |_=>none
 d:=Zf 0
 u:=Ze 0
 D:=some fun i y U=>Z1 (U.w 0).o=i.3++i.6
theorem Jda(w:World):Za (vW w) fAd.ctr:=by
 refine fAd.okD (fun i hc=> ?_);obtain⟨I,W⟩:=hc _ rfl;obtain⟨l,n,vs,Y,J,a⟩:=i;simp only at I W;intro A s hh out fr _ hA j;haveI m:=(j.rep.slots ⟨l,LW.lst vs n, .no⟩ (.head _)).plain rfl;haveI X:=(j.rep.slots ⟨Y,LW.lst a J, .no⟩ (.tail _ (.head _))).plain rfl;refine Yo F.slot_list_add (T:="list") (self:= .ref l) ⟨_,m,rfl⟩ F.entry_list_add (F.args_list_add_2 _ _) (AutoSeq1.list___add___list_list_0 l ⟨vs⟩ n Y ⟨a⟩ J ?_) ⟨m,X, ?_⟩
 ·simp only[bV];show vs.length+a.length<=_;exact Zm [] [_,_] [.n Zr Za5, .n Yi Za5] (.n Zlp Zth) rfl I W
 ·haveI e:(⟨vs⟩:Array Value)++⟨a⟩=⟨vs++a⟩:=by apply pG.mp;simp
  rw[e];haveI Z:∀q o,s.heap.get? q=some o->(s.heap.push (LW.lst (vs++a) 0)).get? q=some o:=fun q o e=>aQ _ e;haveI st:=j.keptNew (tk:=s.toks) Z (Qv j Z) (D:=⟨s.heap.objs.size,LW.lst (vs++a) 0, .no⟩) (Z0j s.heap) ⟨bT _ rfl,trivial⟩;exact⟨0,aX,trivial,⟨(s.heap.push (LW.lst (vs++a) 0)).objs.size-8,s.toks, .none,fun y=>⟨s.heap.objs.size,LW.lst (vs++a) 0, .no⟩⟩,rfl,rfl,st⟩
def Zpr:Stmt:=Z0d (Qm (Y2 22)) 9
def Zsr(f:Nat):Env:={scope:=(Y5 (st "_ellipsis_match") (st "_ellipsis_match") (Y2 22) 3 .none .none .none Zhp (.ref 263) .none 0).scope,locals:=f,globals:=3,cells:=[],qual:=st "_ellipsis_match.<locals>.",func:=some 264,code:= .ref 263,frame:=some f,builtins:=0}
abbrev ElI:=I7 Nat Nat Nat (List Value) Nat (Option Nat) (I7 (Array (Option Value)) Nat Obj Str Nat Str (I7 Nat Int Nat Int Nat Str Nat))
def J9f(i:ElI)(a:Int)(j:Nat)(w:Str)(m:Nat):List (Str×Value):=[(st "want", .str i.7.4 i.7.5),(st "got", .str i.7.6 i.7.7.1),(st "ws", .ref i.2),(st "endpos", .int i.7.7.2 i.7.7.3),(st "startpos", .int a j),(st "w", .str w m)]
def pEl(i:ElI):List Sl:=[⟨i.1,Yv i.6 i.7.1 i.2 i.5, .no⟩,⟨i.2,lst i.4 i.3, .no⟩,⟨i.7.2,frO i.7.3 (J9f i i.7.7.4 i.7.7.5 i.7.7.6 i.7.7.7), .no⟩]
def cEl(i:ElI):Code:= .forLoop (Z4w Zpr) (.ref i.1) (Q8 Zpr) [] (Zsr i.7.2)
def rEl(i:ElI)(a:Nat)(U:Ph):Result×List Sl:=(.ok (match a with|0=> .ret (.bool false)|_=> .next),[⟨i.1,(U.w 0).o, .no⟩,⟨i.2,lst i.4 i.3, .no⟩,⟨i.7.2,frO (U.w 2).o (J9f i (vI (Zl (U.w 2).o 4)) (Z6 (Zl (U.w 2).o 4)) (vS (Zl (U.w 2).o 5)) (Z6 (Zl (U.w 2).o 5))), .no⟩])
def Zir(vs:List Value)(a:Str)(j:Int):Prop:=(∀v∈vs,∃x t,v= .str x t/\x.cps.toList.length<=1000)/\vs.length<=13/\1<=vs.length/\j=Int.ofNat a.cps.toList.length
def Z1a(a:Str)(vs:List Value)(p:Int):Prop:=Z19 a (vs.map vS) p
def Jdb(env:Env)(S:List Sl):Option ElI:=match env.frame with
 |some f=>(match S with
   |[it,l,fr]=>some ⟨it.a,l.a,Z3 l.o,Z1 l.o,Z77 it.o,it.o.dict,it.o.slots,f,fr.o,vS (Zl fr.o 0),Z6 (Zl fr.o 0),vS (Zl fr.o 1),Z6 (Zl fr.o 1),vI (Zl fr.o 3),Z6 (Zl fr.o 3),vI (Zl fr.o 4),Z6 (Zl fr.o 4),vS (Zl fr.o 5),Z6 (Zl fr.o 5)⟩
   |_=>none)
 |none=>none
def Zis(r:Nat):Zi ElI where
 code:=cEl
 P:=pEl
 cond i:=some (Zir i.4 i.7.6 i.7.7.2/\i.5+r=i.4.length)
 na:=2
 C i a:=match a with|0=>¬Z1a i.7.6 (i.4.drop i.5) i.7.7.4|_=>Z1a i.7.6 (i.4.drop i.5) i.7.7.4
 F i a U:=rEl i a U
 k:=3
 ext c S:=match c with| .forLoop _ _ _ _ env=>Jdb env S|_=>none
 d:=Zf 2
 u:=Ze 2
 z:=true
def gEl(r:Nat):G:=⟨[fFd.ctr,fLs.ctr,(Zis r).ctr],[]⟩
def Jdc(w:World)(g:G)(i:ElI)(x:Str)(a N T:Nat)(hs:Hs)(K:K Result):Z8:=
 Z4b (Ql (vW w) g 100000) (Z4w Zpr) (.ref i.1) (Q8 Zpr) [] (Zsr i.7.2) (.str x a) ⟨Zf 2,Ze 2,none,none⟩ ⟨aO N 8,0,T,0,⟨i.1,Yv i.6 i.7.1 i.2 (i.5+1), .no⟩::(pEl i).tail⟩ hs K
theorem Jdd(w:World)(it l n:Nat)(vs:List Value)(k:Nat)(dd:Option Nat)(ss:Array (Option Value))(f:Nat)(fo:Obj)(a:Str)(X:Nat)(m:Str)(Y:Nat)(J:Int)(et:Nat)(I:Int)(Z:Nat)(y:Str)(yt:Nat)(x:Str)(xt r:Nat)(hi:Zir vs m J)(hk:k+(r+1)=vs.length)(hd1:vs.drop k= .str x xt::vs.drop (k+1))(hx:x.cps.toList.length<=1000)(N T:Nat):
  Z5 (Jdc w (gEl r) (⟨it,l,n,vs,k,dd,ss,f,fo,a,X,m,Y,J,et,I,Z,y,yt⟩:ElI) x xt N T ((Z4 0x1233313333333 (.two (Z4 0x1020c6e .nil) (Z4 0x11e3e003330023003 (.two (Z4 0x1e3e001 .nil) (J1 (.two (Z4 0x1020c6e .nil) .nil))))))) (Jj 2 (fun j=>3) (fun a=>match a with|0=>¬Z1a m (vs.drop k) I|_=>Z1a m (vs.drop k) I) (fun j j=>True) (rEl (⟨it,l,n,vs,k,dd,ss,f,fo,a,X,m,Y,J,et,I,Z,y,yt⟩:ElI)))):=by
 have q:∀U1:Ph,((Z2u m x I J<0->(¬Z1a m (iO k vs) I)/\True)/\(¬(Z2u m x I J<0)->(x.cps.toList.length<=1000)/\∀U2:Ph,(Zir vs m J/\k.add 1+r=vs.length)/\((Z1a m (iO (k.add 1) vs) (Z2u m x I J+Int.ofNat x.cps.toList.length)->∀U3:Ph,(Z1a m (iO k vs) I)/\True)/\((¬Z1a m (iO (k.add 1) vs) (Z2u m x I J+Int.ofNat x.cps.toList.length)->∀U4:Ph,(¬Z1a m (iO k vs) I)/\True)/\True)))):=by
  have W:Z1a m (iO k vs) I↔0<=Z2u m x I J/\Z1a m (iO (k+1) vs) (Z2u m x I J+Int.ofNat x.cps.toList.length):=by
   obtain⟨_,_,_,rfl⟩:=hi;unfold Z1a;rw[hd1];exact Iff.rfl
  refine fun U1=>⟨fun h=>⟨fun z=> ?_,trivial⟩,fun h=>⟨hx,fun U2=>⟨⟨hi,by simp only[Nat.add_eq];exact Yy [] [_,_,_] [.n Za8 lQ7] [] (.n Zct lQ7) rfl hk⟩,fun q U3=>⟨W.mpr ⟨((cE h)),q⟩,trivial⟩,fun q U4=>⟨fun z=>q (W.mp z).2,trivial⟩,trivial⟩⟩⟩;have:=(W.mp z).1;lia
 exact Zx (by kernel_rfl) q
theorem J9g(w:World):∀r,Za (vW w) (Zis r).ctr:=by
 intro z0_
 induction z0_ with
 |zero=>
  refine(Zis 0).okD (fun i J=> ?_) (fun z a z z=>by cases a<;>rfl);obtain⟨it,l,n,vs,k,dd,ss,f,fo,a,X,q,Z,ep,et,Y,sq,y,yt⟩:=i;obtain⟨I,m⟩:=J _ rfl;obtain⟨j,W,h1,hy⟩:=I;clear J;simp only at m W h1;rw[nX] at m;obtain⟨v,rfl⟩:=Z4o Value.none m.symm;rw[aE,dK] at W;clear h1 m j hy;refine Z2j Ym (n:=100000) (k:=fun z=>3) (hs:=Z4 0x1afe101a4e0 .nil) fun N T=> ?_;replace W:k<14:=fG W
  revert k
  exact J6 (P:=fun z=>Z1a q [] Y/\True) (by kernel_rfl) (fun z z=>⟨trivial,trivial⟩)
 |succ r ih=>
  have gk:J5 (vW w) (gEl r):=by
   refine⟨fun x j=> ?_,fun z j=>absurd j aD⟩;simp only[gEl,aC,aD,or_false] at j;rcases j with rfl|rfl|rfl
   ·exact Jd0 w
   ·exact Z9p w
   ·exact ih
  refine(Zis (r+1)).okD (fun i J=> ?_) (fun z a z z=>by cases a<;>rfl);obtain⟨it,l,n,vs,k,dd,ss,f,fo,a,X,q,Z,ep,et,Y,sq,y,yt⟩:=i;obtain⟨I,m⟩:=J _ rfl;simp only at m I;obtain⟨e,he,hm⟩:=Zrs m;obtain⟨x,xt,rfl,j⟩:=I.1 _ hm;exact Zn8 gk (gi:= .no) (gl:= .no) (ge:= .no) rfl rfl rfl (fun z z=>trivial) he fun N T hh out dd' ss' hz=>by rw[hz rfl];exact Jdd w it l n vs k dd' ss' f fo a X q Z ep et Y sq y yt x xt r I m (Zel he) j N T
noncomputable def Qp:Str:=⟨⟨[46,46,46]⟩⟩
noncomputable def emS:Str:=⟨⟨[]⟩⟩
abbrev MtI:=I4 Str Nat Str Nat
noncomputable def cMt(i:MtI):Code:= .call (.ref 264) ⟨[.str i.1 i.2, .str i.3 i.4],[]⟩
noncomputable def rMt(a:Nat):Result×List Sl:=(.ok (.ret (.bool (match a with|0=>false|_=>true))),[])
def Zit(x y:Str)(m:Nat):Prop:=(∃c,Jt x Qp=emS::(aY m ⟨⟨[c]⟩⟩++[emS]))/\Zph x Qp/\Zws x Qp/\1<=m/\m<=11/\y.cps.toList.length<=1000
def gMt(r:Nat):G:=⟨[fSp.ctr,fLl.ctr,Zwy.ctr,fLs.ctr,(Zis r).ctr],Z7g⟩
theorem Zx2:∀(a:List Str)(t:Nat),(gS t a).map vS=a:=by
 intro j
 induction j with
 |nil=>
  intro _;exact rfl
 |cons p a ih=>
  intro t;show vS (.str p t)::(gS (t+1) a).map vS=_;rw[ih (t+1)];rfl
theorem Zx3:∀(a:List Str)(t:Nat)(v:Value),v∈gS t a->∃x u,v= .str x u/\x∈a:=by
 intro a
 induction a with
 |nil=>exact fun y y h=>absurd h aD
 |cons p a ih=>
  intro t v h;rcases aC.mp h with rfl|h
  ·exact⟨p,t,rfl, .head _⟩
  ·refine Z7 fun m=> ?_;obtain⟨x,u,e,j⟩:=ih (t+1) v h;refine m ?_;exact⟨x,u,e, .tail _ j⟩
theorem Zdz:∀(a:List Str)(t k:Nat),k<a.length->(gS t a)[k]?=some (.str (a.getD k emS) (t+k))
 |p::a,t,0,_=>rfl
 |p::a,t,k+1,h=>by
  have:=Zdz a (t+1) k (by simpa using h);show(gS (t+1) a)[k]?=_;simp only[this,show t+1+k=t+(k+1) by lia];rfl
structure MtF(x y:Str)(m:Nat)(vs:List Value):Prop where
 len:vs.length=m+2
 a0:inL vs 0/\∃t,atL vs 0= .str ⟨⟨[]⟩⟩ t
 a1:inL vs (-1)/\∃t,atL vs (-1)= .str ⟨⟨[]⟩⟩ t
 ok:Zir vs y (Int.ofNat y.cps.toList.length)
 el:Z1a y vs 0↔Z19 y (Jt x Qp) 0
theorem Zx4 {x y:Str}{m:Nat}{vs:List Value}(h:Zit x y m)(W:∃t,vs=gS t (Jt x Qp)):MtF x y m vs:=by
 obtain⟨⟨c,j⟩,_,_,Z,J,hy⟩:=h;obtain⟨t,rfl⟩:=W;have I:(Jt x Qp).length=m+2:=by rw[j];simp
 have a:(gS t (Jt x Qp)).length=m+2:=by simp only[strsFrom_length,I]
 refine⟨a,⟨⟨by lia,by lia,by lia⟩,t, ?_⟩,⟨⟨by lia,by lia,by lia⟩,t+(m+1), ?_⟩,⟨fun v X=> ?_,(Zm [] [_,_] [.n Zr Zls, .n Yi Z1o] (.n Zr (.n 13)) rfl (aT a) J),by lia,rfl⟩, ?_⟩
 ·have:=Zdz (Jt x Qp) t 0 (by lia);unfold atL;rw[if_pos (bX _),aI,show(0:Int).toNat=0 from rfl,this,j];rfl
 ·have:=Zdz (Jt x Qp) t (m+1) ((aT I.symm));unfold atL;rw[if_neg (by lia),aI,a,show((-1:Int)+((m+2:Nat):Int)).toNat=m+1 by lia,this,j];simp[emS]
 ·refine Z7 fun Y=> ?_;obtain⟨z,u,e,q⟩:=Zx3 _ _ _ X;refine Y ?_;refine⟨z,u,e, ?_⟩;rw[j] at q;simp only[aC,aG,oR,aD,or_false] at q;rcases q with rfl|⟨_,rfl⟩|rfl<;>simp[emS]
 ·unfold Z1a;rw[Zx2]
abbrev Zss(x:Str)(y:Str)(m:Nat)(j:Ph):Prop:=∀J:Ph,(inL (Z1 (j.w 0).o) 0/\∃t,atL (Z1 (j.w 0).o) 0=Value.str (Str.mk (Array.mk [])) t)/\∀I:Ph,(I.rv=atL (Z1 (j.w 0).o) 0)->(inL (Z1 (j.w 0).o) (-1)/\∃t,atL (Z1 (j.w 0).o) (-1)=Value.str (Str.mk (Array.mk [])) t)/\∀q:Ph,(q.rv=atL (Z1 (j.w 0).o) (-1))->(Zir (Z1 (j.w 0).o) y (Int.ofNat y.cps.toList.length)/\Z77 (Obj.mk (Value.type gO) none (Data.fields #[Value.ref (j.w 0).a,dP 0]) #[])+(m+2)=(Z1 (j.w 0).o).length)/\((Z1a y (iO (Z77 (Obj.mk (Value.type gO) none (Data.fields #[Value.ref (j.w 0).a,dP 0]) #[])) (Z1 (j.w 0).o)) 0->∀X:Ph,(Z19 y (Jt x Qp) 0)/\True)/\((¬Z1a y (iO (Z77 (Obj.mk (Value.type gO) none (Data.fields #[Value.ref (j.w 0).a,dP 0]) #[])) (Z1 (j.w 0).o)) 0->∀W:Ph,(¬Z19 y (Jt x Qp) 0)/\True)/\True))
theorem Jde(i:MtI)(h:∃m,Zit i.1 i.3 m):Yu (vW (w2 w b c)) true false (Zf 3) (Ze 3) (cMt i) [] 2 (fun a=>match a with|0=>¬Z19 i.3 (Jt i.1 Qp) 0|_=>Z19 i.3 (Jt i.1 Qp) 0) (fun j j=>True) (fun a j=>rMt a):=by
 obtain⟨x,t,y,u⟩:=i;obtain⟨m,h⟩:=h;have gk:J5 (vW (w2 w b c)) (gMt (m+2)):=by
  refine⟨fun z X=> ?_,Z4x _⟩;simp only[gMt,aC,aD,or_false] at X;rcases X with rfl|rfl|rfl|rfl|rfl
  ·exact Jd1 _
  ·exact Zzj _
  ·exact J9c _
  ·exact Z9p _
  ·exact J9g _ (m+2)
 have W:=h;obtain⟨_,Y,h3,h4,h5,Z⟩:=h;exact zD4 gk (fun j=>0) (Z4 0x11060500510505561660de666043555160de666043555f7e420030022002210912b10019e00 (.two (J1 .nil) (J1 (.two (Y9 .nil) .nil)))) (p:=(¬¬Zph x (Str.mk (Array.mk [46,46,46])))/\(Zws x (Str.mk (Array.mk [46,46,46])))/\∀I:Ph,(∃t,Z1 (I.w 0).o=gS t (Jt x (Str.mk (Array.mk [46,46,46]))))->((Z1 (I.w 0).o).length<=1000)/\∀U2:Ph,(2<=Int.ofNat (Z1 (I.w 0).o).length)/\(y.cps.toList.length<=1000)/\Zss x y m I) (fun j j=>by kernel_rfl) (by
   refine⟨fun z=>z Y,h3,fun I D1=> ?_⟩;have F:=Zx4 W D1;have J:=F.len;refine⟨(Zm [] [_,_] [.n Zr Zls, .n Yi Z1o] (.n Zr Za5) rfl (aT J) h5),fun U2=>⟨by show(2:Int)<=((Z1 (I.w 0).o).length:Int);lia,Z,fun U3=>⟨F.a0,fun U4 j=>⟨F.a1,fun U5 j=>⟨⟨F.ok, ?_⟩,fun q U6=>⟨F.el.mp q,trivial⟩,fun q U7=>⟨fun z=>q (F.el.mpr z),trivial⟩,trivial⟩⟩⟩⟩⟩;show 0+(m+2)=_;exact Yy [] [_,_] [] [.n Zr Zls] (.n (.a Qs Zls) Zr) rfl J)
noncomputable def fMt:Zi MtI where
 code:=cMt
 P _:=[]
 cond i:=some (∃m,Zit i.1 i.3 m)
 na:=2
 C i a:=match a with|0=>¬Z19 i.3 (Jt i.1 Qp) 0|_=>Z19 i.3 (Jt i.1 Qp) 0
 F _ a _:=rMt a
 k:=0
 ext c _:=match c with| .call _ ⟨[.str x t, .str y u],[]⟩=>some ⟨x,t,y,u⟩|_=>none
 d:=Zf 3
 u:=Ze 3
 z:=true
theorem Jdf:Za (vW (w2 w b c)) fMt.ctr:=
 fMt.okD (fun i j=>Jde w b c i (j _ rfl)) (fun y a y y=>by cases a<;>rfl)
section
open PySem.F PySem.SeqAt PyProof.V Builtin Builtin.Str
def Z2a:List Str:=[st "a",st "b",st "c",st "d",st "e",st "f"]
noncomputable def Z3y(a:Str):Str:=⟨⟨mO a.cps.toList [46,46,46]⟩⟩
def Z22(a:Str)(n:Int):Str:=⟨⟨mO [46,46,46] (Z3c (Z3y a) n).cps.toList⟩⟩
def Jd(j a:Str):Int:=Z3w j a
theorem Zst:∀a∈Z2a,∀n∈aJ 11,a.length≠0/\a.length+3<=1000000/\(Z3y a).length<=100/\(Z3c (Z3y a) ((n:Int)+1)).length<=100000/\(Z3c (Z3y a) ((n:Int)+1)).length≠0/\
  Jt (Z22 a ((n:Int)+1)) Qp=emS::(aY (n+1) a++[emS])/\(occurrences (Z22 a ((n:Int)+1)) Qp 0 (Z22 a ((n:Int)+1)).length 1).isEmpty=false/\
  (decide ((Z22 a ((n:Int)+1)).length<Qp.length)||decide (strKind (Z22 a ((n:Int)+1))<strKind Qp))=false/\(Qp.length==0)=false/\(occurrences (Z22 a ((n:Int)+1)) Qp 0 (Z22 a ((n:Int)+1)).length ((Z22 a ((n:Int)+1)).length+1)).isEmpty=false/\(Z22 a ((n:Int)+1)).length<=1000/\(Jt (Z22 a ((n:Int)+1)) Qp).length<=1000:=by
 decide+kernel
theorem J27:∀a∈Z2a,∃c,a=⟨#[c]⟩:=by
 intro a h;simp only[Z2a,aC,aD,or_false] at h;rcases h with rfl|rfl|rfl|rfl|rfl|rfl
 ·exact⟨97,rfl⟩
 ·exact⟨98,rfl⟩
 ·exact⟨99,rfl⟩
 ·exact⟨100,rfl⟩
 ·exact⟨101,rfl⟩
 ·exact⟨102,rfl⟩
structure Jh2(le tp:Str)(c:Int):Prop where
 b1:le.length≠0/\(3:Nat)≠0/\le.length+3<=1000000
 b2:(Z3y le).length<=100/\0<=c+1/\c+1<=100/\(Z3c (Z3y le) (c+1)).length<=100000
 b3:(3:Nat)≠0/\(Z3c (Z3y le) (c+1)).length≠0/\3+(Z3c (Z3y le) (c+1)).length<=1000000
 m:∃m,Zit (Z22 le (c+1)) tp m
 e:Z19 tp (Jt (Z22 le (c+1)) Qp) 0↔c<Jd tp le
theorem J9h {m y:Str}{c:Int}(I:m∈Z2a)(h0:0<=c)(q:c<=10)(ht:y.cps.toList.length<=1000):Jh2 m y c:=by
 obtain⟨n,rfl⟩:=bU h0;haveI j:=Zst m I n (eV.mpr (Zm [] [_] [Zg5] (.n Y8 Z1o) rfl q));haveI a1:=j.1;haveI a2:=j.2.1;haveI a3:=j.2.2.1;haveI W:=j.2.2.2.1;haveI a5:=j.2.2.2.2.1;haveI Z:=j.2.2.2.2.2.1;haveI a7:=j.2.2.2.2.2.2.1;haveI a8:=j.2.2.2.2.2.2.2.1;haveI a9:=j.2.2.2.2.2.2.2.2.1;haveI Y:=j.2.2.2.2.2.2.2.2.2.1;haveI X:=j.2.2.2.2.2.2.2.2.2.2.1;haveI J:=j.2.2.2.2.2.2.2.2.2.2.2;obtain⟨ch,hc⟩:=J27 m I;refine⟨⟨a1,by decide,a2⟩,⟨a3,(aR _),(Zm [] [_] [Zg5] (.z Y8 (.n 100)) rfl q),W⟩,⟨by decide,a5,(Zm [] [_] [.n Zr (.n 100000)] (.n (.a Z2b Zr) (.n 1000000)) rfl W)⟩,⟨n+1,⟨ch, ?_⟩,a7,⟨a8,a9,Y,X,J⟩,(eO _),(Zm [] [_] [Zg5] (.n Y8 Z1o) rfl q),ht⟩, ?_⟩
 ·rw[Z,hc]
 ·rw[Z,hc];have:=Zsp y ch emS rfl (n+1);rw[this];unfold Jd;haveI e:(((n+1:Nat):Int))=(n:Int)+1:=by lia
  rw[e];constructor<;>intro h<;>lia
end
def J9i:Expr:=Z8g (ltE Zax) 0
def Zx5:Str:=st "law.<locals>.<lambda>"
def Z48(q:Nat)(e:Expr)(m:List (Str×Nat))(y:Value)(j:Cd):Sl:=⟨q,J87 Zx5 e m y j.a, .tab [(j.a,Zos Zx5 j)]⟩
abbrev LkI:=I7 Nat Value Cd Nat Str Nat (I5 Nat Str Nat Int Nat)
noncomputable def cLk(i:LkI):Code:= .call (.ref i.1) ⟨[.int i.7.4 i.7.5],[]⟩
def pLk(i:LkI):List Sl:=[Z48 i.1 J9i [(st "tape",i.7.1),(st "letter",i.4)] i.2 i.3,⟨i.4,J8 (.str i.5 i.6), .no⟩,⟨i.7.1,J8 (.str i.7.2 i.7.3), .no⟩]
def rLk(i:LkI)(a:Nat):Result×List Sl:=(.ok (.ret (.bool (match a with|0=>true|_=>false))),pLk i)
def Ziu(a j:Str)(c:Int):Prop:=a∈Z2a/\0<=c/\c<=10/\j.cps.toList.length<=1000
def gLk:G:=⟨[Zwr.ctr,fMt.ctr],[]⟩
theorem Jh3:J5 (vW (w2 w b c)) gLk:=
 gC (J90 _) (gC (Jdf w b c) Ym)
noncomputable def Zx6(o:Obj):Value:=match o.data with| .func fd=>fd.closureTuple|_=> .none
theorem Jdg(i:LkI)(h:Ziu i.5 i.7.2 i.7.4):Yu (vW (w2 w b c)) true false (Zf 4) (Ze 4) (cLk i) (pLk i) 2 (fun a=>match a with|0=>Jd i.7.2 i.5<=i.7.4|_=>i.7.4<Jd i.7.2 i.5) (fun y y=>True) (fun a y=>rLk i a):=by
 obtain⟨fa,ct,cd,ce,j,lt,ca,I,tt,x,u⟩:=i;obtain⟨J,W,h3,X⟩:=h;have F:=J9h J W h3 X;exact zD2 (Jh3 w b c) (fun y=>3) (Z4 0x112042c6e112300119e (.two (Z4 0x123e11 .nil) (J1 (.two (Z4 0x123e01 .nil) .nil)))) (p:=(j.length≠0/\(3:Nat)≠0/\j.length+3<=1000000)/\((Z3y j).length<=100/\0<=x+1/\x+1<=100/\(Z3c (Z3y j) (x+1)).length<=100000)/\∀Z:Ph,((3:Nat)≠0/\(Z3c (Z3y j) (x+1)).length≠0/\3+(Z3c (Z3y j) (x+1)).length<=1000000)/\(∃m,Zit (Z22 j (x+1)) I m)/\((Z19 I (Jt (Z22 j (x+1)) Qp) 0->∀Y:Ph,(x<Jd I j)/\True)/\((¬Z19 I (Jt (Z22 j (x+1)) Qp) 0->∀U3:Ph,(Jd I j<=x)/\True)/\True))) (fun y y=>by kernel_rfl) (by
   refine⟨F.b1,F.b2,fun Z=>⟨F.b3,F.m,fun q Y=>⟨F.e.mp q,trivial⟩,fun q U3=>⟨?_,trivial⟩,trivial⟩⟩;have:¬x<Jd I j:=fun z=>q (F.e.mpr z);exact(cE this))
def fLk:Zi LkI where
 code:=cLk
 P:=pLk
 cond i:=some (Ziu i.5 i.7.2 i.7.4)
 na:=2
 C i a:=match a with|0=>Jd i.7.2 i.5<=i.7.4|_=>i.7.4<Jd i.7.2 i.5
 F i a _:=rLk i a
 k:=3
 ext c S:=match c with
  | .call _ ⟨[.int x u],[]⟩=>(match S with
   |[f,ce,ca]=>some ⟨f.a,Zx6 f.o,Yn f.g,ce.a,(Jf ce.o).1,(Jf ce.o).2,ca.a,(Jf ca.o).1,(Jf ca.o).2,x,u⟩
   |_=>none)
  |_=>none
 d:=Zf 4
 u:=Ze 4
 z:=true
theorem Jdh:Za (vW (w2 w b c)) fLk.ctr:=
 fLk.okD (fun i j=>Jdg w b c i (j _ rfl)) (fun y a y y=>by cases a<;>rfl)
def whS:Stmt:=Z0d (Zrv (Z0d (Qm (Y2 19)) 2)) 0
def whT(s:Stmt):Expr:=Zgw s
def whB(s:Stmt):List Stmt:=Qm s
def J9j(f:Nat):Env:={scope:=(Y5 (st "bisect_left") (st "bisect_left") (Y2 19) 3 .none .none .none Zhp (.ref 256) .none 0).scope,locals:=f,globals:=3,cells:=[],qual:=st "bisect_left.<locals>.",func:=some 257,code:= .ref 256,frame:=some f,builtins:=0}
abbrev WhI:=I7 Nat Obj Nat Nat (List Value) Int (I7 Nat Int Nat Nat Value Cd (I6 Nat Str Nat Nat Str Nat))
def Ziv(i:WhI)(j:Int)(lt:Nat)(a:Int)(m:Nat):List (Str×Value):=[(st "a", .ref i.3),(st "x", .bool true),(st "lo", .int j lt),(st "hi", .int a m),(st "key", .ref i.7.4)]
def Zx7(i:WhI)(j:Int)(lt:Nat)(a:Int)(m:Nat)(o:Obj):List (Str×Value):=Ziv i j lt a m++[(st "mid",Zl o 5)]
def Zzk(i:WhI):List Sl:=[Z48 i.7.4 J9i [(st "tape",i.7.7.4),(st "letter",i.7.7.1)] i.7.5 i.7.6,⟨i.7.7.1,J8 (.str i.7.7.2 i.7.7.3), .no⟩,⟨i.7.7.4,J8 (.str i.7.7.5 i.7.7.6), .no⟩]
def Zaz(i:WhI)(a:Obj):List Sl:=[⟨i.1,a, .no⟩,⟨i.3,lst i.5 i.4, .no⟩]++Zzk i
def cWh(i:WhI):Code:= .whileLoop (whT whS) (whB whS) [] (J9j i.1)
def rWh(i:WhI)(U:Ph):Result×List Sl:=(.ok .next,Zaz i (frO (U.w 0).o (Zx7 i (vI (Zl (U.w 0).o 2)) (Z6 (Zl (U.w 0).o 2)) (vI (Zl (U.w 0).o 3)) (Z6 (Zl (U.w 0).o 3)) (U.w 0).o)))
def J9k(i:WhI)(U:Ph):Result×List Sl:=(.ok .next,Zaz i (frO (U.w 0).o (Ziv i (vI (Zl (U.w 0).o 2)) (Z6 (Zl (U.w 0).o 2)) (vI (Zl (U.w 0).o 3)) (Z6 (Zl (U.w 0).o 3)))))
noncomputable def Ja(f j a:Int):Int:=if f<j then j else if a<f then a else f
def Z0q(vs:List Value)(j a:Int)(m q:Str):Prop:=0<=j/\j<=a/\a<=11/\(∃n,Zc vs=some ((aJ n).map Int.ofNat)/\a<=(n:Int)/\n<=1000)/\m∈Z2a/\q.cps.toList.length<=1000
theorem Zx8:∀{vs:List Value}{g:Nat->Int}{n k:Nat},Zc vs=some ((aJ n).map g)->k<n->∃t,vs[k]?=some (.int (g k) t):=by
 intro q
 induction q with
 |nil=>
  intro g n k h a;haveI h:some []=some ((aJ n).map g):=h;injection h with h
  have:=congrArg hN h;simp at this;lia
 |cons v vs ih=>
  intro g n k h a;refine Z7 fun y=> ?_;obtain⟨x,t,r,rfl,e,m⟩:=Z18 h;cases n with
  |zero=>exact absurd a (fY k)
  |succ n=>
   rw[nQ,aP,bS] at m;injection m with e1 e2
   cases k with
   |zero=>exact y (⟨t,by rw[jY,e1]⟩)
   |succ k=>
    obtain⟨u,I⟩:=ih (g:=fun j=>g (j+1)) (k:=k) (n:=n) (by rw[e,<-e2];rfl) (iH a);exact y (⟨u,by rw[fK];exact I⟩)
theorem Zsu {vs:List Value}{j a:Int}{q I:Str}(h:Z0q vs j a q I)(hl:j<a):inL vs ((j+a).fdiv 2)/\(∃t,atL vs ((j+a).fdiv 2)= .int ((j+a).fdiv 2) t)/\j<=(j+a).fdiv 2/\(j+a).fdiv 2<a/\Ziu q I ((j+a).fdiv 2):=by
 refine Z7 fun k'=> ?_;obtain⟨h0,h1,h2,⟨n,y,h3,J⟩,Z,W⟩:=h;have e:(j+a).fdiv 2=(j+a)/2:=dS _ (aR _);refine k' ?_;rw[e];have m:vs.length=n:=by have:=Z3b y;rw[aE,dK] at this;exact this
 obtain⟨k,Y⟩:=bU (show 0<=(j+a)/2 by lia);rw[Y];obtain⟨t,X⟩:=Zx8 (k:=k) y (by lia);refine⟨⟨by lia,by lia,(aK (aT m) J)⟩,⟨t, ?_⟩,by lia,by lia,Z,by lia,by lia,W⟩;unfold atL;rw[if_pos (by lia),aI,jR,X];rfl
def Zzl(env:Env)(S:List Sl):Option WhI:=match env.frame with
 |some f=>(match S with
   |[fr,ln,la,ce,ca]=>some ⟨f,fr.o,ln.a,Z3 ln.o,Z1 ln.o,vI (Zl fr.o 2),Z6 (Zl fr.o 2),vI (Zl fr.o 3),Z6 (Zl fr.o 3),la.a,Zx6 la.o,Yn la.g,ce.a,(Jf ce.o).1,(Jf ce.o).2,ca.a,(Jf ca.o).1,(Jf ca.o).2⟩
   |_=>none)
 |none=>none
def Ziw(r:Nat):Zi WhI where
 code:=cWh
 P i:=Zaz i (frO i.2 (Zx7 i i.6 i.7.1 i.7.2 i.7.3 i.2))
 cond i:=some (Z0q i.5 i.6 i.7.2 i.7.7.2 i.7.7.5/\i.7.2-i.6<=Int.ofNat r)
 F i _ U:=rWh i U
 k:=5
 ext c S:=match c with| .whileLoop _ _ _ env=>Zzl env S|_=>none
 d:=Zf 5
 u:=Ze 5
 z:=true
 D:=some fun i y U=>vI (Zl (U.w 0).o 2)=Ja (Jd i.7.7.5 i.7.7.2) i.6 i.7.2
def Zx9:Zi WhI where
 code:=cWh
 P i:=Zaz i (frO i.2 (Ziv i i.6 i.7.1 i.7.2 i.7.3))
 cond i:=some (Z0q i.5 i.6 i.7.2 i.7.7.2 i.7.7.5)
 na:=2
 C i a:=match a with|0=>¬i.6<i.7.2|_=>i.6<i.7.2
 F i a U:=match a with|0=>J9k i U|_=>rWh i U
 k:=5
 ext c S:=match c with| .whileLoop _ _ _ env=>Zzl env S|_=>none
 d:=Zf 5
 u:=Ze 5
 z:=true
 D:=some fun i y U=>vI (Zl (U.w 0).o 2)=Ja (Jd i.7.7.5 i.7.7.2) i.6 i.7.2
def gWh(r:Nat):G:=⟨[Zpq.ctr,fLk.ctr,(Ziw r).ctr],[]⟩
theorem Zix {f q j m:Int}(y:q<=m)(I:m<j)(h:m<f):Ja f (m+1) j=Ja f q j:=by
 unfold Ja
 by_cases a:f<m+1
 ·lia
 ·rw[if_neg a,if_neg (show¬f<q by lia)]
theorem Ziy {f j q m:Int}(y:j<=m)(I:m<q)(h:f<=m):Ja f j m=Ja f j q:=by
 unfold Ja
 by_cases a:f<j
 ·rw[if_pos a,if_pos a]
 ·rw[if_neg a,if_neg a,if_neg (show¬m<f by lia),if_neg (show¬q<f by lia)]
theorem Ziz {f m j:Int}(h:m<=j)(q:¬m<j):Ja f m j=m:=by
 have:j=m:=(dC ((cE q)) (h));subst this;unfold Ja
 by_cases a:f<j
 ·rw[if_pos a]
 ·rw[if_neg a]
  by_cases b:j<f
  ·rw[if_pos b]
  ·rw[if_neg b];exact dC ((cE b)) ((cE a))
theorem Zsv(w:World)(b1 c1:Bool)(f:Nat)(J:Obj)(ln X:Nat)(vs:List Value)(a:Int)(lt:Nat)(j:Int)(W Z:Nat)(ct:Value)(cd:Cd)(ce:Nat)(m:Str)(Y ca:Nat)(I:Str)(tt:Nat)(h:Z0q vs a j m I)(hlt:¬a<j)(N T:Nat):
  Z5 (rn 5 (w2 w b1 c1) ⟨[],[]⟩ (cWh (⟨f,J,ln,X,vs,a,lt,j,W,Z,ct,cd,ce,m,Y,ca,I,tt⟩:WhI)) (Zaz (⟨f,J,ln,X,vs,a,lt,j,W,Z,ct,cd,ce,m,Y,ca,I,tt⟩:WhI) (frO J (Zx7 (⟨f,J,ln,X,vs,a,lt,j,W,Z,ct,cd,ce,m,Y,ca,I,tt⟩:WhI) a lt j W J))) N T none ((Z4 0x10423e0004110 .nil)) (Jj 1 (fun y=>5) (fun y=>True) (fun y U=>vI (Zl (U.w 0).o 2)=Ja (Jd I m) a j) (fun y=>rWh (⟨f,J,ln,X,vs,a,lt,j,W,Z,ct,cd,ce,m,Y,ca,I,tt⟩:WhI)))):=by
 have q:(¬a<j)/\(True)/\(a=Ja (Jd I m) a j):=by
  exact⟨hlt,trivial,(Ziz h.2.1 hlt).symm⟩
 cases b1<;>
 exact Zx (by kernel_rfl) q
theorem J9l(w:World)(b1 c1:Bool)(f:Nat)(Z:Obj)(ln nl:Nat)(vs:List Value)(j:Int)(lt:Nat)(m:Int)(Y fa:Nat)(ct:Value)(cd:Cd)(ce:Nat)(J:Str)(et ca:Nat)(I:Str)(tt r:Nat)(h:Z0q vs j m J I)(hr:m-j<=Int.ofNat (r+1))(hlt:j<m)(N T:Nat):
  Z5 (rn 5 (w2 w b1 c1) (gWh r) (cWh (⟨f,Z,ln,nl,vs,j,lt,m,Y,fa,ct,cd,ce,J,et,ca,I,tt⟩:WhI)) (Zaz (⟨f,Z,ln,nl,vs,j,lt,m,Y,fa,ct,cd,ce,J,et,ca,I,tt⟩:WhI) (frO Z (Ziv (⟨f,Z,ln,nl,vs,j,lt,m,Y,fa,ct,cd,ce,J,et,ca,I,tt⟩:WhI) j lt m Y))) N T none ((Z4 0x11afe203011222efe3110 (.two (Z4 0x15ae00319e001 .nil) (J1 (.two (Z4 0x15ae00311c6e1 .nil) .nil))))) (Jj 1 (fun y=>5) (fun y=>True) (fun y U=>vI (Zl (U.w 0).o 2)=Ja (Jd I J) j m) (fun y=>rWh (⟨f,Z,ln,nl,vs,j,lt,m,Y,fa,ct,cd,ce,J,et,ca,I,tt⟩:WhI)))):=by
 have q:(j<m)/\(inL vs ((j+m).fdiv 2)/\∃x t,atL vs ((j+m).fdiv 2)=Value.int x t)/\∀W:Ph,(W.rv=atL vs ((j+m).fdiv 2))->(Ziu J I (vI W.rv))/\((vI W.rv<Jd I J->∀U2:Ph,(Z0q vs ((j+m).fdiv 2+1) m J I/\m-((j+m).fdiv 2+1)<=Int.ofNat r)/\∀U3:Ph,(vI (Zl (U3.w 0).o 2)=Ja (Jd I J) ((j+m).fdiv 2+1) m)->(True)/\(vI (Zl (U3.w 0).o 2)=Ja (Jd I J) j m))/\((Jd I J<=vI W.rv->∀U4:Ph,(Z0q vs j ((j+m).fdiv 2) J I/\(j+m).fdiv 2-j<=Int.ofNat r)/\∀U5:Ph,(vI (Zl (U5.w 0).o 2)=Ja (Jd I J) j ((j+m).fdiv 2))->(True)/\(vI (Zl (U5.w 0).o 2)=Ja (Jd I J) j m))/\True)):=by
  obtain⟨a1,⟨t,a2⟩,a3,X,a5⟩:=Zsu h hlt;obtain⟨h0,h1,h2,h3,h5,h6⟩:=id h;have hr:m-j<=(r:Int)+1:=by have:=hr;rw[bZ] at this;lia
  refine⟨hlt,⟨a1,_,t,a2⟩,fun W e1=> ?_⟩;have em:vI W.rv=(j+m).fdiv 2:=by rw[e1,a2];rfl
  rw[em];have er:Int.ofNat r=(r:Int):=rfl;rw[er];refine⟨a5,fun q U2=>⟨⟨⟨(Zm [_,_] [] [Z5h,Z6m] (.z Qs Zcs) rfl a3 h0),(X),h2,h3,h5,h6⟩,(Zm [_,_,_] [_] [.z Za6 Y8, .z Y3 Q5] (.z (.s Jb (.a Q5 Q4)) Zr) rfl hr a3)⟩,fun U3 e3=>⟨trivial,e3.trans (Zix a3 X q)⟩⟩,fun q U4=>⟨⟨⟨h0,a3,(Zm [_,_] [] [Z6n, .z Y3 Z1o] Zlw rfl X h2), ?_,h5,h6⟩,(Zm [_,_,_] [_] [Z6n, .z (.s Y3 Q5) Y8] (.z (.s Jb Q5) Zr) rfl X hr)⟩,fun U5 e5=>⟨trivial,e5.trans (Ziy a3 X q)⟩⟩,trivial⟩;obtain⟨n,b1,b2,b3⟩:=h3;exact⟨n,b1,(Zm [_,_] [_] [Z6n, .z Y3 Zr] (.z Jb Zr) rfl X b2),b3⟩
 cases b1<;>
 exact Zx (by kernel_rfl) q
theorem J9m(w:World)(b1 c1:Bool)(f:Nat)(J:Obj)(ln X:Nat)(vs:List Value)(a:Int)(lt:Nat)(j:Int)(W Z:Nat)(ct:Value)(cd:Cd)(ce:Nat)(m:Str)(Y ca:Nat)(I:Str)(tt:Nat)(h:Z0q vs a j m I)(hlt:¬a<j)(N T:Nat):
  Z5 (rn 5 (w2 w b1 c1) ⟨[],[]⟩ (cWh (⟨f,J,ln,X,vs,a,lt,j,W,Z,ct,cd,ce,m,Y,ca,I,tt⟩:WhI)) (Zaz (⟨f,J,ln,X,vs,a,lt,j,W,Z,ct,cd,ce,m,Y,ca,I,tt⟩:WhI) (frO J (Ziv (⟨f,J,ln,X,vs,a,lt,j,W,Z,ct,cd,ce,m,Y,ca,I,tt⟩:WhI) a lt j W))) N T none ((Z4 0x10423e0004110 .nil)) (Jj 1 (fun y=>5) (fun y=>True) (fun y U=>vI (Zl (U.w 0).o 2)=Ja (Jd I m) a j) (fun y=>J9k (⟨f,J,ln,X,vs,a,lt,j,W,Z,ct,cd,ce,m,Y,ca,I,tt⟩:WhI)))):=by
 have q:(¬a<j)/\(True)/\(a=Ja (Jd I m) a j):=by
  exact⟨hlt,trivial,(Ziz h.2.1 hlt).symm⟩
 cases b1<;>
 exact Zx (by kernel_rfl) q
theorem J9n(r:Nat)(h:Za (vW (w2 w b c)) (Ziw r).ctr):J5 (vW (w2 w b c)) (gWh r):=
 gC (J9b _) (gC (Jdh w b c) (gC h Ym))
theorem J9o:∀r,Za (vW (w2 w b c)) (Ziw r).ctr:=by
 intro z0_
 induction z0_ with
 |zero=>
  refine(Ziw 0).okD (fun i hc=> ?_);obtain⟨f,fo,ln,nl,vs,j,lt,m,ht,fa,ct,cd,ce,J,et,ca,I,tt⟩:=i;obtain⟨h,W⟩:=hc _ rfl;have W:m-j<=0:=W;exact Z2j Ym (Zsv w b c f fo ln nl vs j lt m ht fa ct cd ce J et ca I tt h (cR (Zm [_,_] [] [.z Za6 Qs] (.z Jb Y3) rfl W)))
 |succ r ih=>
  have gk:=J9n w b c r (ih);refine(Ziw (r+1)).okD (fun i hc=> ?_);obtain⟨f,fo,ln,nl,vs,j,lt,m,ht,fa,ct,cd,ce,J,et,ca,I,tt⟩:=i;obtain⟨h,W⟩:=hc _ rfl
  by_cases hlt:j<m
  ·obtain⟨a1,⟨t,a2⟩,Z,Y,a5⟩:=Zsu h hlt;obtain⟨h0,h1,h2,h3,h5,h6⟩:=id h;have W:m-j<=(r:Int)+1:=by have:=W;rw[bZ] at this;lia
   exact zD2 gk (fun y=>5) (Z4 0x11afe203011222efe3110 (.two (Z4 0x15ae00319e001 .nil) (J1 (.two (Z4 0x15ae00311c6e1 .nil) .nil)))) (p:=(j<m)/\(inL vs ((j+m).fdiv 2)/\∃x t,atL vs ((j+m).fdiv 2)=Value.int x t)/\∀X:Ph,(X.rv=atL vs ((j+m).fdiv 2))->(Ziu J I (vI X.rv))/\((vI X.rv<Jd I J->∀U2:Ph,(Z0q vs ((j+m).fdiv 2+1) m J I/\m-((j+m).fdiv 2+1)<=Int.ofNat r)/\∀U3:Ph,(vI (Zl (U3.w 0).o 2)=Ja (Jd I J) ((j+m).fdiv 2+1) m)->(True)/\(vI (Zl (U3.w 0).o 2)=Ja (Jd I J) j m))/\((Jd I J<=vI X.rv->∀U4:Ph,(Z0q vs j ((j+m).fdiv 2) J I/\(j+m).fdiv 2-j<=Int.ofNat r)/\∀U5:Ph,(vI (Zl (U5.w 0).o 2)=Ja (Jd I J) j ((j+m).fdiv 2))->(True)/\(vI (Zl (U5.w 0).o 2)=Ja (Jd I J) j m))/\True))) (fun y y=>by kernel_rfl) (by
     refine⟨hlt,⟨a1,_,t,a2⟩,fun X e1=> ?_⟩;have em:vI X.rv=(j+m).fdiv 2:=by rw[e1,a2];rfl
     rw[em];have er:Int.ofNat r=(r:Int):=rfl;rw[er];refine⟨a5,fun q U2=>⟨⟨⟨(Zm [_,_] [] [Z5h,Z6m] (.z Qs Zcs) rfl Z h0),(Y),h2,h3,h5,h6⟩,(Zm [_,_,_] [_] [.z Za6 Y8, .z Y3 Q5] (.z (.s Jb (.a Q5 Q4)) Zr) rfl W Z)⟩,fun U3 e3=>⟨trivial,e3.trans (Zix Z Y q)⟩⟩,fun q U4=>⟨⟨⟨h0,Z,(Zm [_,_] [] [Z6n, .z Y3 Z1o] Zlw rfl Y h2), ?_,h5,h6⟩,(Zm [_,_,_] [_] [Z6n, .z (.s Y3 Q5) Y8] (.z (.s Jb Q5) Zr) rfl Y W)⟩,fun U5 e5=>⟨trivial,e5.trans (Ziy Z Y q)⟩⟩,trivial⟩;obtain⟨n,b,b2,b3⟩:=h3;exact⟨n,b,(Zm [_,_] [_] [Z6n, .z Y3 Zr] (.z Jb Zr) rfl Y b2),b3⟩)
  ·exact Z2j Ym (Zsv w b c f fo ln nl vs j lt m ht fa ct cd ce J et ca I tt h hlt)
theorem J9p:Za (vW (w2 w b c)) Zx9.ctr:=by
 haveI gk:=J9n w b c 11 (J9o w b c 11);refine Zx9.okD (fun i hc=> ?_) (fun y a y y=>by cases a<;>rfl);obtain⟨f,fo,ln,J,vs,m,lt,I,Y,W,ct,cd,ce,le,et,X,Z,tt⟩:=i;haveI h:=hc _ rfl
 by_cases hlt:m<I
 ·haveI hr:I-m<=Int.ofNat (11+1):=by
   haveI h0:=h.1;haveI h1:=h.2.1;haveI h2:=h.2.2.1;haveI e:Int.ofNat (11+1)=12:=rfl;simp only[e];simp only at h0 h1 h2;exact Zm [_,_] [] [.z Jb Z1o,Zcu] (.z Za6 (.n 12)) rfl h2 h0
  haveI j:Yu (vW (w2 w b c)) true false (Zf 5) (Ze 5) _ _ 1 _ _ _:=Z2j gk (J9l w b c f fo ln J vs m lt I Y W ct cd ce le et X Z tt 11 h hr hlt);exact j.mono fun y y y=>⟨1,lF,hlt,fun U q=>⟨U,q,rfl,rfl,rfl,rfl⟩⟩
 ·haveI j:Yu (vW (w2 w b c)) true false (Zf 5) (Ze 5) _ _ 1 _ _ _:=Z2j Ym (J9m w b c f fo ln J vs m lt I Y W ct cd ce le et X Z tt h hlt);exact j.mono fun y y y=>⟨0,iX,hlt,fun U q=>⟨U,q,rfl,rfl,rfl,rfl⟩⟩
def cBk(i:WhI):Code:= .call (.ref 257) ⟨[.ref i.3, .bool true, .int i.6 i.7.1, .int i.7.2 i.7.3],[(st "key", .ref i.7.4)]⟩
def pBk(i:WhI):List Sl:=[⟨i.3,lst i.5 i.4, .no⟩]++Zzk i
def rBk(i:WhI)(U:Ph):Result×List Sl:=(.ok (.ret (.int (vI U.rv) (Z6 U.rv))),pBk i)
def gBk:G:=⟨[Zx9.ctr],[]⟩
theorem J9q(i:WhI)(h:Z0q i.5 i.6 i.7.2 i.7.7.2 i.7.7.5):Yu (vW (w2 w b c)) true false (Zf 6) (Ze 6) (cBk i) (pBk i) 1 (fun y=>True) (fun y U=>vI U.rv=Ja (Jd i.7.7.5 i.7.7.2) i.6 i.7.2) (fun y=>rBk i):=by
 have X:J5 (vW (w2 w b c)) gBk:=⟨fun x I=>by rw[aM.mp I];exact J9p w b c,fun y I=>absurd I aD⟩;obtain⟨f,fo,ln,Y,vs,a,lt,j,ht,fa,ct,cd,ce,m,Z,ca,q,tt⟩:=i;exact zD2 X (fun y=>4) (Z4 0x110423e00111114101efe0de (.two (Z4 0x10423e01 .nil) (J1 (.two (Z4 0x10423e01 .nil) .nil)))) (p:=(¬a<0)/\(Z0q vs a j m q)/\((a<j->∀W:Ph,(vI (Zl (W.w 0).o 2)=Ja (Jd q m) a j)->(True)/\(vI (Zl (W.w 0).o 2)=Ja (Jd q m) a j))/\((¬a<j->∀J:Ph,(vI (Zl (J.w 0).o 2)=Ja (Jd q m) a j)->(True)/\(vI (Zl (J.w 0).o 2)=Ja (Jd q m) a j))/\True))) (fun y y=>by kernel_rfl) (by exact⟨by have:=h.1;exact cR (this),h,fun y W e=>⟨trivial,e⟩,fun y J e=>⟨trivial,e⟩,trivial⟩)
def fBk:Zi WhI where
 code:=cBk
 P:=pBk
 cond i:=some (Z0q i.5 i.6 i.7.2 i.7.7.2 i.7.7.5)
 F i _ U:=rBk i U
 k:=4
 ext c S:=match c with
  | .call _ ⟨[_,_, .int lo lt, .int hi ht],_⟩=>(match S with
   |[ln,la,ce,ca]=>some ⟨0,ln.o,ln.a,Z3 ln.o,Z1 ln.o,lo,lt,hi,ht,la.a,Zx6 la.o,Yn la.g,ce.a,(Jf ce.o).1,(Jf ce.o).2,ca.a,(Jf ca.o).1,(Jf ca.o).2⟩
   |_=>none)
  |_=>none
 d:=Zf 6
 u:=Ze 6
 z:=true
 D:=some fun i y U=>vI U.rv=Ja (Jd i.7.7.5 i.7.7.2) i.6 i.7.2
theorem Zzm:Za (vW (w2 w b c)) fBk.ctr:=
 fBk.okD (fun i a=>J9q w b c i (a _ rfl))
noncomputable def Zxa(o:Obj):Bool:=match o.cls with
 | .type n=>S.eqLit (PySem.code "tuple") n
 |_=>false
def Zb0(i:EnI):Obj:=match Zxa i.2 with|true=>tiO i.1 0|false=>Yv none ⟨[]⟩ i.1 0
def Z7h(o:Obj):Obj:=match Zxa o with|true=>Qj (Z1 o)|false=>LW.lst (Z1 o) (Z3 o)
def Zxb:Zi EnI where
 code:=cEn
 P:=pEn
 cond i:=some (i.2=Z7h i.2)
 F i _ U:=(.ok (.ret (.ref (U.w 0).a)),[⟨(U.w 0).a,enO (U.w 1).a 0, .no⟩,⟨(U.w 1).a,Zb0 i, .no⟩]++pEn i)
 k:=1
 nn _:=2
 ext _ S:=match S with
  |[l]=>some ⟨l.a,l.o⟩
  |_=>none
 d:=Zf 0
 u:=Ze 0
theorem J9r(w:World):Za (vW w) Zxb.ctr:=by
 refine Zxb.ok (fun i W=> ?_);have I:=W _ rfl;obtain⟨l,o⟩:=i;simp only at I;intro A s hh out fr _ X m;haveI a:=(m.rep.slots ⟨l,o, .no⟩ (.head _)).plain rfl;refine Z7 fun J=> ?_;cases q:Zxa o with
 |true=>
  have e:Z7h o=Qj (Z1 o):=by unfold Z7h;rw[q]
  have y:Zb0 ⟨l,o⟩=tiO l 0:=by unfold Zb0;rw[q]
  rw[I,e] at a;refine J ?_;refine Z6i F.entry_enumerate_new Zcm (Zdy l (Z1 o)) ⟨a, ?_⟩;refine⟨0,aX,trivial,⟨((s.heap.push (tiO l 0)).push (enO s.heap.objs.size 0)).objs.size-8,s.toks, .none,fun j=>match j with|0=>⟨(s.heap.push (tiO l 0)).objs.size,enO s.heap.objs.size 0, .no⟩|_=>⟨s.heap.objs.size,tiO l 0, .no⟩⟩,rfl, ?_⟩;show St _ _ (⟨_,0,s.toks,0,[⟨_,enO s.heap.objs.size 0, .no⟩,⟨s.heap.objs.size,Zb0 ⟨l,o⟩, .no⟩,⟨l,o, .no⟩]⟩:Lg) _;rw[y];exact Zl7 m rfl s.heap.objs.size rfl
 |false=>
  have e:Z7h o=LW.lst (Z1 o) (Z3 o):=by unfold Z7h;rw[q]
  have y:Zb0 ⟨l,o⟩=Yv none ⟨[]⟩ l 0:=by unfold Zb0;rw[q]
  rw[I,e] at a;refine J ?_;refine Z6i F.entry_enumerate_new Zcm (meets_enumerate_new l ⟨Z1 o⟩ (Z3 o)) ⟨a, ?_⟩;refine⟨0,aX,trivial,⟨((s.heap.push (Yv none ⟨[]⟩ l 0)).push (enO s.heap.objs.size 0)).objs.size-8,s.toks, .none,fun j=>match j with|0=>⟨(s.heap.push (Yv none ⟨[]⟩ l 0)).objs.size,enO s.heap.objs.size 0, .no⟩|_=>⟨s.heap.objs.size,Yv none ⟨[]⟩ l 0, .no⟩⟩,rfl, ?_⟩;show St _ _ (⟨_,0,s.toks,0,[⟨_,enO s.heap.objs.size 0, .no⟩,⟨s.heap.objs.size,Zb0 ⟨l,o⟩, .no⟩,⟨l,o, .no⟩]⟩:Lg) _;rw[y];exact Zl7 m rfl s.heap.objs.size rfl
noncomputable def Zzn:List (Int×Int×Cd)->List Value
 |[]=>[]
 |p::r=> .int p.1 0:: .int p.2.1 0:: .ref p.2.2.a::Zzn r
noncomputable def ghK:List (Int×Int×Cd)->List (Nat×Obj)
 |[]=>[]
 |p::r=>(p.2.2.a,Zos Zx5 p.2.2)::ghK r
def Z7i(cs:List (Int×Int×Cd)):Sl:=⟨307,Zv (Zzn cs), .tab (ghK cs)⟩
noncomputable def k1(c:Cd):Int×Int×Cd:=(376,58,c)
noncomputable def k2(c:Cd):Int×Int×Cd:=(379,52,c)
noncomputable def k3(c:Cd):Int×Int×Cd:=(380,52,c)
noncomputable def k4(c:Cd):Int×Int×Cd:=(381,86,c)
def cdN(g:Gd)(j:Nat):Cd:=match g with
 | .tab l=>(match l[j]? with
  |some p=>⟨p.1,Z6 ((Zu p.2).getD 1 .none),fun i=>(Zu p.2).getD i .none⟩
  |none=>⟨0,0,fun y=> .none⟩)
 |_=>⟨0,0,fun y=> .none⟩
def Z8y(o:Obj):List Value:=[.int (vI ((Z1 o).getD 0 .none)) (Z6 ((Z1 o).getD 0 .none)), .int (vI ((Z1 o).getD 1 .none)) (Z6 ((Z1 o).getD 1 .none)), .int (vI ((Z1 o).getD 2 .none)) (Z6 ((Z1 o).getD 2 .none))]
def Z0x(f a q y I j m:Int)(X:List Value):Prop:=vI (X.getD 0 .none)=Ja f a q/\vI (X.getD 1 .none)=Ja f y I/\vI (X.getD 2 .none)=Ja f j m
def Z1x(vs:List Value)(m I J W q y:Int)(j a:Str):Prop:=Z0q vs m I j a/\Z0q vs J W j a/\Z0q vs q y j a
abbrev Z5c:=I7 Nat Nat Nat Nat Nat Int (I7 Nat Int Nat Int Nat Int (I7 Nat Int Nat Int Nat Nat (I7 Str Nat Nat Nat Nat (List Value) (I7 Nat Str Nat Nat Nat Nat (I2 Obj Nat)))))
def Zsw(i:Z5c):Env:=Z0w Zax (st "law.<locals>.") 309 i.7.7.7.7.6 i.7.7.7.7.7.2 [(st "tape",i.7.7.6),(st "line",i.7.7.7.3),(st "letter",i.7.7.7.7.1)]
def J9s(i:Z5c):Code:= .compLoop Zax 0 (.ref i.1) (.ref i.7.7.7.7.4) (Zsw i)
def J9t(i:Z5c):Code:= .compStart Zax 0 (.ref i.1) (.ref i.7.7.7.7.4) (Zsw i)
def Zzo(i:Z5c):List Sl:=[⟨i.1,tiO i.2 0, .no⟩,⟨i.2,Qj [.ref i.3, .ref i.4, .ref i.5], .no⟩,⟨i.3,Yf (.int i.6 i.7.1) (.int i.7.2 i.7.3), .no⟩,⟨i.4,Yf (.int i.7.4 i.7.5) (.int i.7.6 i.7.7.1), .no⟩,⟨i.5,Yf (.int i.7.7.2 i.7.7.3) (.int i.7.7.4 i.7.7.5), .no⟩]++[⟨i.7.7.7.7.4,lst [] i.7.7.7.7.5, .no⟩,⟨i.7.7.7.7.6,Qx (Z3 i.7.7.7.7.7.1), .no⟩]++[⟨i.7.7.6,J8 (.str i.7.7.7.1 i.7.7.7.2), .no⟩,⟨i.7.7.7.3,J8 (.ref i.7.7.7.4), .no⟩,⟨i.7.7.7.4,lst i.7.7.7.6 i.7.7.7.5, .no⟩,⟨i.7.7.7.7.1,J8 (.str i.7.7.7.7.2 i.7.7.7.7.3), .no⟩,Z7i []]
def Zzp(i:Z5c)(U:Ph):Result×List Sl:=(.ok .next,[⟨i.1,(U.w 0).o, .no⟩,⟨i.2,Qj [.ref i.3, .ref i.4, .ref i.5], .no⟩,⟨i.3,Yf (.int i.6 i.7.1) (.int i.7.2 i.7.3), .no⟩,⟨i.4,Yf (.int i.7.4 i.7.5) (.int i.7.6 i.7.7.1), .no⟩,⟨i.5,Yf (.int i.7.7.2 i.7.7.3) (.int i.7.7.4 i.7.7.5), .no⟩]++[⟨i.7.7.7.7.4,lst (Z8y (U.w 5).o) (Z3 (U.w 5).o), .no⟩,⟨i.7.7.7.7.6,Z2n [st "first",st "last"] (U.w 6).o, .no⟩]++[⟨i.7.7.6,J8 (.str i.7.7.7.1 i.7.7.7.2), .no⟩,⟨i.7.7.7.3,J8 (.ref i.7.7.7.4), .no⟩,⟨i.7.7.7.4,lst i.7.7.7.6 i.7.7.7.5, .no⟩,⟨i.7.7.7.7.1,J8 (.str i.7.7.7.7.2 i.7.7.7.7.3), .no⟩,Z7i [k1 (cdN (U.w 11).g 0)]])
def Zlb(env:Env)(S:List Sl):Option Z5c:=match env.frame with
 |some f=>(match S with
   |[it,tp,p0,p1,p2,acc,d,ct,cn,ln,cl,t]=>some ⟨it.a,tp.a,p0.a,p1.a,p2.a,vI ((Z1 p0.o).getD 0 .none),Z6 ((Z1 p0.o).getD 0 .none),vI ((Z1 p0.o).getD 1 .none),Z6 ((Z1 p0.o).getD 1 .none),vI ((Z1 p1.o).getD 0 .none),Z6 ((Z1 p1.o).getD 0 .none),vI ((Z1 p1.o).getD 1 .none),Z6 ((Z1 p1.o).getD 1 .none),vI ((Z1 p2.o).getD 0 .none),Z6 ((Z1 p2.o).getD 0 .none),vI ((Z1 p2.o).getD 1 .none),Z6 ((Z1 p2.o).getD 1 .none),ct.a,(Jf ct.o).1,(Jf ct.o).2,cn.a,ln.a,Z3 ln.o,Z1 ln.o,cl.a,(Jf cl.o).1,(Jf cl.o).2,acc.a,Z3 acc.o,d.a,d.o,f⟩
   |_=>none)
 |none=>none
def Zj0:Zi Z5c where
 code:=J9s
 P i:=Zzo i
 cond i:=some (Z1x i.7.7.7.6 i.6 i.7.2 i.7.4 i.7.6 i.7.7.2 i.7.7.4 i.7.7.7.7.2 i.7.7.7.1)
 F i _ U:=Zzp i U
 k:=12
 ext c S:=match c with| .compLoop _ _ _ _ env=>Zlb env S|_=>none
 d:=Zf 7
 u:=Ze 7
 z:=true
 D:=some fun i y U=>Z0x (Jd i.7.7.7.1 i.7.7.7.7.2) i.6 i.7.2 i.7.4 i.7.6 i.7.7.2 i.7.7.4 (Z1 (U.w 5).o)
def Zj1:Zi Z5c where
 code:=J9t
 P i:=Zzo i
 cond i:=some (Z1x i.7.7.7.6 i.6 i.7.2 i.7.4 i.7.6 i.7.7.2 i.7.7.4 i.7.7.7.7.2 i.7.7.7.1)
 F i _ U:=Zzp i U
 k:=12
 ext c S:=match c with| .compStart _ _ _ _ env=>Zlb env S|_=>none
 d:=Zf 7
 u:=Ze 7
 z:=true
 D:=some fun i y U=>Z0x (Jd i.7.7.7.1 i.7.7.7.7.2) i.6 i.7.2 i.7.4 i.7.6 i.7.7.2 i.7.7.4 (Z1 (U.w 5).o)
def Jdi:G:=⟨[fBk.ctr],[]⟩
def J9u:G:=⟨[(Zj0).ctr],[]⟩
abbrev Z5d:=I7 Nat Nat Nat Nat Nat Int (I7 Nat Int Nat Int Nat Int (I7 Nat Int Nat Int Nat Nat (I7 Str Nat Nat Nat Nat (List Value) (I7 Nat Str Nat Cd Cd Cd (I5 Nat Nat Nat Obj Nat)))))
def Zsx(i:Z5d):Env:=Z0w Zax (st "law.<locals>.") 309 i.7.7.7.7.7.3 i.7.7.7.7.7.5 [(st "tape",i.7.7.6),(st "line",i.7.7.7.3),(st "letter",i.7.7.7.7.1)]
def J9v(i:Z5d):Code:= .compLoop Zax 0 (.ref i.1) (.ref i.7.7.7.7.7.1) (Zsx i)
def J9w(i:Z5d):Code:= .compStart Zax 0 (.ref i.1) (.ref i.7.7.7.7.7.1) (Zsx i)
def Zzq(i:Z5d):List Sl:=[⟨i.1,tiO i.2 0, .no⟩,⟨i.2,Qj [.ref i.3, .ref i.4, .ref i.5], .no⟩,⟨i.3,Yf (.int i.6 i.7.1) (.int i.7.2 i.7.3), .no⟩,⟨i.4,Yf (.int i.7.4 i.7.5) (.int i.7.6 i.7.7.1), .no⟩,⟨i.5,Yf (.int i.7.7.2 i.7.7.3) (.int i.7.7.4 i.7.7.5), .no⟩]++[⟨i.7.7.7.7.7.1,lst [] i.7.7.7.7.7.2, .no⟩,⟨i.7.7.7.7.7.3,Qx (Z3 i.7.7.7.7.7.4), .no⟩]++[⟨i.7.7.6,J8 (.str i.7.7.7.1 i.7.7.7.2), .no⟩,⟨i.7.7.7.3,J8 (.ref i.7.7.7.4), .no⟩,⟨i.7.7.7.4,lst i.7.7.7.6 i.7.7.7.5, .no⟩,⟨i.7.7.7.7.1,J8 (.str i.7.7.7.7.2 i.7.7.7.7.3), .no⟩,Z7i [k1 i.7.7.7.7.4,k2 i.7.7.7.7.5,k3 i.7.7.7.7.6]]
def Zzr(i:Z5d)(U:Ph):Result×List Sl:=(.ok .next,[⟨i.1,(U.w 0).o, .no⟩,⟨i.2,Qj [.ref i.3, .ref i.4, .ref i.5], .no⟩,⟨i.3,Yf (.int i.6 i.7.1) (.int i.7.2 i.7.3), .no⟩,⟨i.4,Yf (.int i.7.4 i.7.5) (.int i.7.6 i.7.7.1), .no⟩,⟨i.5,Yf (.int i.7.7.2 i.7.7.3) (.int i.7.7.4 i.7.7.5), .no⟩]++[⟨i.7.7.7.7.7.1,lst (Z8y (U.w 5).o) (Z3 (U.w 5).o), .no⟩,⟨i.7.7.7.7.7.3,Z2n [st "first",st "last"] (U.w 6).o, .no⟩]++[⟨i.7.7.6,J8 (.str i.7.7.7.1 i.7.7.7.2), .no⟩,⟨i.7.7.7.3,J8 (.ref i.7.7.7.4), .no⟩,⟨i.7.7.7.4,lst i.7.7.7.6 i.7.7.7.5, .no⟩,⟨i.7.7.7.7.1,J8 (.str i.7.7.7.7.2 i.7.7.7.7.3), .no⟩,Z7i [k1 i.7.7.7.7.4,k2 i.7.7.7.7.5,k3 i.7.7.7.7.6]])
def Zlc(env:Env)(S:List Sl):Option Z5d:=match env.frame with
 |some f=>(match S with
   |[it,tp,p0,p1,p2,acc,d,ct,cn,ln,cl,t]=>some ⟨it.a,tp.a,p0.a,p1.a,p2.a,vI ((Z1 p0.o).getD 0 .none),Z6 ((Z1 p0.o).getD 0 .none),vI ((Z1 p0.o).getD 1 .none),Z6 ((Z1 p0.o).getD 1 .none),vI ((Z1 p1.o).getD 0 .none),Z6 ((Z1 p1.o).getD 0 .none),vI ((Z1 p1.o).getD 1 .none),Z6 ((Z1 p1.o).getD 1 .none),vI ((Z1 p2.o).getD 0 .none),Z6 ((Z1 p2.o).getD 0 .none),vI ((Z1 p2.o).getD 1 .none),Z6 ((Z1 p2.o).getD 1 .none),ct.a,(Jf ct.o).1,(Jf ct.o).2,cn.a,ln.a,Z3 ln.o,Z1 ln.o,cl.a,(Jf cl.o).1,(Jf cl.o).2,cdN t.g 0,cdN t.g 1,cdN t.g 2,acc.a,Z3 acc.o,d.a,d.o,f⟩
   |_=>none)
 |none=>none
def Zj2:Zi Z5d where
 code:=J9v
 P i:=Zzq i
 cond i:=some (Z1x i.7.7.7.6 i.6 i.7.2 i.7.4 i.7.6 i.7.7.2 i.7.7.4 i.7.7.7.7.2 i.7.7.7.1)
 F i _ U:=Zzr i U
 k:=12
 ext c S:=match c with| .compLoop _ _ _ _ env=>Zlc env S|_=>none
 d:=Zf 7
 u:=Ze 7
 z:=true
 D:=some fun i y U=>Z0x (Jd i.7.7.7.1 i.7.7.7.7.2) i.6 i.7.2 i.7.4 i.7.6 i.7.7.2 i.7.7.4 (Z1 (U.w 5).o)
def Zj3:Zi Z5d where
 code:=J9w
 P i:=Zzq i
 cond i:=some (Z1x i.7.7.7.6 i.6 i.7.2 i.7.4 i.7.6 i.7.7.2 i.7.7.4 i.7.7.7.7.2 i.7.7.7.1)
 F i _ U:=Zzr i U
 k:=12
 ext c S:=match c with| .compStart _ _ _ _ env=>Zlc env S|_=>none
 d:=Zf 7
 u:=Ze 7
 z:=true
 D:=some fun i y U=>Z0x (Jd i.7.7.7.1 i.7.7.7.7.2) i.6 i.7.2 i.7.4 i.7.6 i.7.7.2 i.7.7.4 (Z1 (U.w 5).o)
def Jdj:G:=⟨[fBk.ctr],[]⟩
def J9x:G:=⟨[(Zj2).ctr],[]⟩
abbrev Zb1(q:Int)(Y:Int)(y:Int)(Z:Int)(I:Int)(W:Int)(a:Str)(vs:List Value)(j:Str):Prop:=(Z0q vs q Y j a)/\∀X:Ph,(vI X.rv=Ja (Jd a j) q Y)->(Z0q vs y Z j a)/\∀J:Ph,(vI J.rv=Ja (Jd a j) y Z)->(Z0q vs I W j a)/\∀m:Ph,(vI m.rv=Ja (Jd a j) I W)->(True)/\(Z0x (Jd a j) q Y y Z I W [Value.int (vI X.rv) (Z6 X.rv),Value.int (vI J.rv) (Z6 J.rv),Value.int (vI m.rv) (Z6 m.rv)])
theorem Zj4(j J W q y I:Int)(a:Str)(vs:List Value)(m:Str)(h:Z1x vs j J W q y I m a):Zb1 j J W q y I a vs m:=by
  exact⟨h.1,fun U1 X=>⟨h.2.1,fun U2 Y=>⟨h.2.2,fun U3 Z=>⟨trivial,X,Y,Z⟩⟩⟩⟩
theorem J9y:J5 (vW (w2 w b c)) (Jdi):=
 gC (Zzm w b c) Ym
theorem Zxc:Za (vW (w2 w b c)) (Zj0).ctr:=by
 refine(Zj0).okD (fun i Z=> ?_);obtain⟨it,tp,p0,p1,p2,J,u0,Y,v0,I,u1,X,v1,j,u2,q,v2,ct,a,tt,cn,ln,nl,vs,cl,W,et,acc,m,d,o,f⟩:=i;obtain h:=Z _ rfl;exact zD4 (J9y w b c) (fun y=>12) (Z4 0x10d16bf69e01ff01ef1fe63e017f01f4e01bf1bf1bf01bf001cf01ff0ba5e1ef100de20f01af1af1cf01af1af1af1af11116f04e1116f04e1116f04e1b3e15f15f11f11f11f12f11fa7e016f16f16f016f0017f01af06a5e19f100de1bf015f15f17f0bce7cecccdcc0c0c011f11f11f011f0012f015f01a5e14f100de16f16f016f010f079e .nil) (p:=Zb1 J Y I X j q a vs W) (fun y y=>by kernel_rfl) (Zj4 J Y I X j q a vs W h)
theorem Zxd:Za (vW (w2 w b c)) (Zj1).ctr:=by
 have gk:J5 (vW (w2 w b c)) (J9u):=⟨fun x hx=>by rw[aM.mp hx];exact Zxc w b c,fun y hx=>absurd hx aD⟩;refine(Zj1).okD (fun i hc=> ?_);obtain⟨it,tp,p0,p1,p2,W,u0,Z,v0,J,u1,Y,v1,j,u2,I,v2,ct,a,tt,cn,ln,nl,vs,cl,X,et,acc,m,d,o,f⟩:=i;obtain h:=hc _ rfl;cases c
 ·cases b
  ·exact zD gk (fun y=>12) (Zfh .nil) (p:=(Z1x vs W Z J Y j I X a)/\∀U1:Ph,(Z0x (Jd a X) W Z J Y j I (Z1 (U1.w 5).o))->(True)/\(Z0x (Jd a X) W Z J Y j I (Z8y (U1.w 5).o))) (fun y y=>by kernel_rfl) (by exact⟨h,fun U q=>⟨trivial,q⟩⟩)
  ·exact zD gk (fun y=>12) (Zfh .nil) (p:=(Z1x vs W Z J Y j I X a)/\∀U1:Ph,(Z0x (Jd a X) W Z J Y j I (Z1 (U1.w 5).o))->(True)/\(Z0x (Jd a X) W Z J Y j I (Z8y (U1.w 5).o))) (fun y y=>by kernel_rfl) (by exact⟨h,fun U q=>⟨trivial,q⟩⟩)
 ·exact zD gk (fun y=>12) (Z4 0x1eae48e .nil) (p:=(Z1x vs W Z J Y j I X a)/\∀U1:Ph,(Z0x (Jd a X) W Z J Y j I (Z1 (U1.w 5).o))->(True)/\(Z0x (Jd a X) W Z J Y j I (Z8y (U1.w 5).o))) (fun y y=>by kernel_rfl) (by exact⟨h,fun U q=>⟨trivial,q⟩⟩)
theorem J9z:J5 (vW (w2 w b c)) (Jdj):=
 gC (Zzm w b c) Ym
theorem Zxe:Za (vW (w2 w b c)) (Zj2).ctr:=by
 refine(Zj2).okD (fun i Z=> ?_);obtain⟨it,tp,p0,p1,p2,J,u0,Y,v0,I,u1,X,v1,j,u2,q,v2,ct,a,tt,cn,ln,nl,vs,cl,W,et,c1,c2,c3,acc,m,d,o,f⟩:=i;obtain h:=Z _ rfl;exact zD4 (J9z w b c) (fun y=>12) (Z4 0x1d0e038e110f10f11faee010f015f15f15f015f0016f019f15a5e18f100de1af014f14f16f014f14f14f14f7cebbbcbb0b0b010faee0011f014f15a5e13f100de15f00ff0ff11f00ff0ff0ff0ff111a04e11a04e11a04e109099966676606060bbb0b00c00ff110fa5e0ef100de10f079e .nil) (p:=Zb1 J Y I X j q a vs W) (fun y y=>by kernel_rfl) (Zj4 J Y I X j q a vs W h)
theorem Zxf:Za (vW (w2 w b c)) (Zj3).ctr:=by
 have gk:J5 (vW (w2 w b c)) (J9x):=⟨fun x hx=>by rw[aM.mp hx];exact Zxe w b c,fun y hx=>absurd hx aD⟩;refine(Zj3).okD (fun i hc=> ?_);obtain⟨it,tp,p0,p1,p2,W,u0,Z,v0,J,u1,Y,v1,j,u2,I,v2,ct,a,tt,cn,ln,nl,vs,cl,X,et,c1,c2,c3,acc,m,d,o,f⟩:=i;obtain h:=hc _ rfl;cases c
 ·cases b
  ·exact zD gk (fun y=>12) (Zfh .nil) (p:=(Z1x vs W Z J Y j I X a)/\∀U1:Ph,(Z0x (Jd a X) W Z J Y j I (Z1 (U1.w 5).o))->(True)/\(Z0x (Jd a X) W Z J Y j I (Z8y (U1.w 5).o))) (fun y y=>by kernel_rfl) (by exact⟨h,fun U q=>⟨trivial,q⟩⟩)
  ·exact zD gk (fun y=>12) (Zfh .nil) (p:=(Z1x vs W Z J Y j I X a)/\∀U1:Ph,(Z0x (Jd a X) W Z J Y j I (Z1 (U1.w 5).o))->(True)/\(Z0x (Jd a X) W Z J Y j I (Z8y (U1.w 5).o))) (fun y y=>by kernel_rfl) (by exact⟨h,fun U q=>⟨trivial,q⟩⟩)
 ·exact zD gk (fun y=>12) (Z4 0x1eae48e .nil) (p:=(Z1x vs W Z J Y j I X a)/\∀U1:Ph,(Z0x (Jd a X) W Z J Y j I (Z1 (U1.w 5).o))->(True)/\(Z0x (Jd a X) W Z J Y j I (Z8y (U1.w 5).o))) (fun y y=>by kernel_rfl) (by exact⟨h,fun U q=>⟨trivial,q⟩⟩)
def Zfs:Expr:=Z8g (match Z0d (Q8 (Z1r 12)) 3 with| .Expr e _=>e|s=>Z0v s) 0
def Zft:Expr:=Z8g (match Z0d (Q8 (Z1r 12)) 4 with| .Expr e _=>e|s=>Z0v s) 0
abbrev KiI:=I6 Nat Nat (List Is) Is Nat Cd
def cKR(i:KiI):Code:= .call (.ref 230) ⟨[.ref i.1, .ref i.4.a],[(st "key", .ref i.5)]⟩
def cKL(i:KiI):Code:= .call (.ref 248) ⟨[.ref i.1, .ref i.4.a],[(st "key", .ref i.5)]⟩
def pKi(e:Expr)(i:KiI):List Sl:=[⟨i.1,lst (i.3.map Is.ref) i.2, .is i.3⟩,⟨i.4.a,isO i.4, .no⟩,Z48 i.5 e [] .none i.6]
def kR(L:List Is)(x:Is):Nat:=Y7 (fun i=>¬-x.c< -(L.getD i Zo).c) 8 0 L.length
def kL(L:List Is)(x:Is):Nat:=Y7 (fun i=>(L.getD i Zo).c<x.c) 8 0 L.length
def rKi(e:Expr)(i:KiI)(a:Nat)(U:Ph):Result×List Sl:=(.ok (.ret .none),[⟨i.1,lst ((insI i.3 a i.4).map Is.ref) (Z3 (U.w 0).o), .is (insI i.3 a i.4)⟩,⟨i.4.a,isO i.4, .no⟩,Z48 i.5 e [] .none i.6])
noncomputable def kP(d:Nat):List Nat:=[d,d,d,0,d,d,1,d]
noncomputable def kN(d:Nat):List Nat:=[d,1,d,d,0,d,d,1,d]
noncomputable def kNd(l:List Nat)(d m z:Nat):List Nat:=[d,1,1]++l++[d+3,0,d+3,0,d+3,0,0,d+3,0,0,d+3,0,d+5,0,0,d+5,d+5,1,1,1,0,1,d+4,m,d+4,m,d+4,m,0,d+4,m,0,d+4,m,z,2]
def kLf(n d a:Nat):Hs:=J6g (d+2) (d+3) n a (hh [d+4,0] .nil)
def hKR(n:Nat):Hs:=Z4 0x1b8e214090e (Z71 true (fun d m=>kNd [d,d,d,d,d,d] d m 1) kP kN (kLf n) 8 1 0 n)
def hKL(n:Nat):Hs:=Z4 0x1b8e24090e (Z71 false (fun d m=>kNd [d,d,d,d,d] d m (d+1)) kN kP (kLf n) 8 1 0 n)
theorem Jdk(v:Nat->Is)(x:Is)(k:Nat):kR ((aJ k).map v) x=Y7 (fun i=>Z1v true (-x.c< -(v i).c)) 8 0 k:=Z8a (p:=fun e=>¬-x.c< -e.c) rfl fun y=>rfl
theorem Jdl(v:Nat->Is)(x:Is)(k:Nat):kL ((aJ k).map v) x=Y7 (fun i=>Z1v false ((v i).c<x.c)) 8 0 k:=Z8a (p:=fun e=>e.c<x.c) rfl fun y=>rfl
theorem Jdm(l n:Nat)(L:List Is)(x:Is)(m:Nat)(j:Cd)(q:L.length<=5):
  Qi (vW (w2 w b c)) true false (Zf 3) (Ze 3) (cKR ⟨l,n,L,x,m,j⟩) (pKi Zfs ⟨l,n,L,x,m,j⟩) (L.length+1) (fun a=>kR L x=a) (rKi Zfs ⟨l,n,L,x,m,j⟩):=by
 revert L
 exact Z1i Zo fun v k I=>Z3f Ym (n:=100000) (k:=fun y=>3) (hs:=hKR k) fun N T=>by
  revert k
  exact J6 (P:=fun k=>Z3s true (fun i=>-x.c< -(v i).c) (fun a=>kR ((aJ k).map v) x=a) 8 0 k) (by cases b<;>kernel_rfl) fun k y=>Z4c (Jdk v x k)
def fKR:Zi KiI where
 code:=cKR
 P:=pKi Zfs
 cond i:=some (i.3.length<=5)
 F i _ U:=rKi Zfs i (kR i.3 i.4) U
 k:=3
 ext _ S:=match S with
  |[r,x,f]=>(match r.g with
   | .is L=>(match Z6v (x.a,x.o) with
    |some e=>some ⟨r.a,Z3 r.o,L,e,f.a,Yn f.g⟩
    |none=>none)
   |_=>none)
  |_=>none
 d:=Zf 3
 u:=Ze 3
 z:=true
theorem Zzs:Za (vW (w2 w b c)) fKR.ctr:=
 fKR.ok (fun i a=>(Jdm w b c i.1 i.2 i.3 i.4 i.5 i.6 (a _ rfl)).one fun y h=>h.symm)
theorem Jdn(l n:Nat)(L:List Is)(x:Is)(m:Nat)(j:Cd)(q:L.length<=5):
  Qi (vW (w2 w b c)) true false (Zf 3) (Ze 3) (cKL ⟨l,n,L,x,m,j⟩) (pKi Zft ⟨l,n,L,x,m,j⟩) (L.length+1) (fun a=>kL L x=a) (rKi Zft ⟨l,n,L,x,m,j⟩):=by
 revert L
 exact Z1i Zo fun v k I=>Z3f Ym (n:=100000) (k:=fun y=>3) (hs:=hKL k) fun N T=>by
  revert k
  exact J6 (P:=fun k=>Z3s false (fun i=>(v i).c<x.c) (fun a=>kL ((aJ k).map v) x=a) 8 0 k) (by cases b<;>kernel_rfl) fun k y=>Z4c (Jdl v x k)
def fKL:Zi KiI where
 code:=cKL
 P:=pKi Zft
 cond i:=some (i.3.length<=5)
 F i _ U:=rKi Zft i (kL i.3 i.4) U
 k:=3
 ext _ S:=match S with
  |[r,x,f]=>(match r.g with
   | .is L=>(match Z6v (x.a,x.o) with
    |some e=>some ⟨r.a,Z3 r.o,L,e,f.a,Yn f.g⟩
    |none=>none)
   |_=>none)
  |_=>none
 d:=Zf 3
 u:=Ze 3
 z:=true
theorem Zzt:Za (vW (w2 w b c)) fKL.ctr:=
 fKL.ok (fun i a=>(Jdn w b c i.1 i.2 i.3 i.4 i.5 i.6 (a _ rfl)).one fun y h=>h.symm)
abbrev Zps:=I4 Int Nat Int Nat
noncomputable def Jh4(i:Zps):Code:= .call (.builtin "int.__gt__") ⟨[.int i.1 i.2, .int i.3 i.4],[]⟩
noncomputable def Zxg:Zi Zps where
 code:=Jh4
 P _:=[]
 cond _:=none
 na:=2
 C i a:=match a with|0=>i.1<=i.3|_=>i.3<i.1
 F _ a _:=(.ok (.ret (.bool (match a with|0=>false|_=>true))),[])
 k:=0
 ext c _:=match c with| .call _ ⟨[.int a t, .int b u],[]⟩=>some ⟨a,t,b,u⟩|_=>none
 d:=Zf 0
 u:=Ze 0
theorem Ja0(w:World):Za (vW w) Zxg.ctr:=by
 refine Zxg.ok (fun i y=> ?_) (fun y a y y=>by cases a<;>rfl);obtain⟨a,t,b,u⟩:=i;haveI j:J7 (vW w) false false (Zf 0) (Ze 0) (.call (.builtin "int.__gt__") ⟨[.int a t, .int b u],[]⟩) [] (fun y=>(.ok (.ret (.bool (decide (a>b)))),[])):=
  Jcn (T:="int") PySem.F.slot_int_gt (fun y=>rfl) PySem.F.entry_int_gt (PySem.F.args_int_gt_2 _ _) (AutoIntG4.int___gt___int_int_0 a t b u)
 by_cases h:a>b
 ·rw[decide_eq_true h] at j;exact j.mono fun y y y=>⟨1,by decide,h,fun U=>⟨U,rfl,rfl,rfl,rfl⟩⟩
 ·rw[decide_eq_false h] at j;exact j.mono fun y y y=>⟨0,by decide,by show a<=b;exact(cE h),fun U=>⟨U,rfl,rfl,rfl,rfl⟩⟩
noncomputable def Jh5(i:Zps):Code:= .call (.builtin "max") ⟨[.int i.1 i.2, .int i.3 i.4],[]⟩
def Jh6:G:=⟨[Zxg.ctr],[]⟩
def Jh7(U:Ph):Result×List Sl:=(.ok (.ret (.int (vI U.rv) (Z6 U.rv))),[])
def Zfu(a b x:Int):Prop:=(x=a/\b<=a)\/(x=b/\a<b)
def Zpt:Zi Zps where
 code:=Jh5
 P _:=[]
 cond _:=none
 F _ _ U:=Jh7 U
 k:=0
 ext c _:=match c with| .call _ ⟨[.int a t, .int b u],[]⟩=>some ⟨a,t,b,u⟩|_=>none
 d:=Zf 1
 u:=Ze 1
 z:=true
 D:=some fun i y U=>Zfu i.1 i.3 (vI U.rv)
theorem Zsy:Za (vW (w2 w b c)) Zpt.ctr:=by
 refine Zpt.okD (fun i y=> ?_);obtain⟨a,t,j,u⟩:=i;have q:J5 (vW (w2 w b c)) Jh6:=⟨fun x m=>by rw[aM.mp m];exact Ja0 _,fun y m=>absurd m aD⟩;exact zD2 q (fun y=>0) (Z4 0x1116de116de0101100 (.two (Z4 0x1033316de11 .nil) (J1 (.two (Z4 0x10333122322020210 .nil) .nil)))) (p:=((a<j->∀J:Ph,(True)/\(Zfu a j j))/\((j<=a->∀I:Ph,(True)/\(Zfu a j a))/\True))) (fun y y=>by kernel_rfl) (by exact⟨fun h y=>⟨trivial, .inr ⟨rfl,h⟩⟩,fun h y=>⟨trivial, .inl ⟨rfl,h⟩⟩,trivial⟩)
def Z1b:Stmt:=Z1r 12
def Zsz(f j q m cm a y cs:Nat):Env:={scope:=(Y5 (st "law") (st "law") (Y2 31) 3 .none .none .none Zhp (.ref 309) .none 0).scope,locals:=f,globals:=3,cells:=[(st "tape",j),(st "letter",q),(st "line",m),(st "least",cm),(st "many",a),(st "few",y),(st "script",cs)],qual:=st "law.<locals>.",func:=some 310,code:= .ref 309,frame:=some f,builtins:=0}
noncomputable def Zb2(v:Value)(j a:Nat):Obj:=⟨.type "zip",none, .fields ⟨[v, .bool false, .bool false, .ref j, .ref a]⟩,⟨[]⟩⟩
def Zzu(a:Obj)(m j:Nat):List (Str×Value):=[(st "numbers",Zl a 0),(st "room",Zl a 1),(st "told",Zl a 2),(st "names",Zl a 3),(st "often", .ref m),(st "seldom", .ref j),(st "more",Zl a 6),(st "less",Zl a 7),(st "due",Zl a 8),(st "whole",Zl a 9),(st "figures",Zl a 10),(st "lost",Zl a 11)]
def Zpu(a:Obj)(m j:Nat):List (Str×Value):=Zzu a m j++[(st "low",Zl a 12),(st "bounds",Zl a 13),(st "found",Zl a 14)]
structure Yx where
 z:Nat
 ti:Nat
 to:Nat
 i1:Nat
 o1:Obj
 i2:Nat
 o2:Obj
 l6:Nat
 o6:Obj
 f:Nat
 fo:Obj
 ct:Nat
 tape:Str
 tt:Nat
 cl:Nat
 lv:Option Value
 cn:Nat
 ln:Nat
 nl:Nat
 vs:List Value
 cm:Nat
 m:Int
 mt:Nat
 oa:Nat
 no:Nat
 O:List Is
 sa:Nat
 ns:Nat
 S:List Is
 ca:Nat
 ce:Nat
 cs:Nat
def Z1s(i:Yx):Env:=Zsz i.f i.ct i.cl i.cn i.cm i.ca i.ce i.cs
def Y0(a:Value)(fr:Obj)(cs:List (Int×Int×Cd))(i:Yx):List Sl:=[⟨i.z,Zb2 a i.ti i.to, .no⟩,⟨i.i1,i.o1, .no⟩,⟨i.i2,i.o2, .no⟩,⟨i.l6,i.o6, .no⟩,⟨i.f,fr, .no⟩,⟨i.ct,J8 (.str i.tape i.tt), .no⟩,⟨i.cl,ceO i.lv, .no⟩,⟨i.cn,J8 (.ref i.ln), .no⟩,⟨i.ln,lst i.vs i.nl, .no⟩,⟨i.cm,J8 (.int i.m i.mt), .no⟩,⟨i.oa,lst (i.O.map Is.ref) i.no, .is i.O⟩,⟨i.sa,lst (i.S.map Is.ref) i.ns, .is i.S⟩,Z7i cs]
def frZ(i:Yx):Obj:=frO i.fo (Zzu i.fo i.oa i.sa)
def frY(i:Yx):Obj:=frO i.fo (Zpu i.fo i.oa i.sa)
def rTu(i:Yx)(U:Ph):Result×List Sl:=(.ok .next,[⟨i.z,Zb2 .none i.ti i.to, .no⟩,⟨i.i1,i.o1, .no⟩,⟨i.i2,i.o2, .no⟩,⟨i.l6,i.o6, .no⟩,⟨i.f,frO (U.w 4).o (Zpu (U.w 4).o i.oa i.sa), .no⟩,⟨i.ct,J8 (.str i.tape i.tt), .no⟩,⟨i.cl,ceO (ceV (U.w 6).o), .no⟩,⟨i.cn,J8 (.ref i.ln), .no⟩,⟨i.ln,lst i.vs i.nl, .no⟩,⟨i.cm,J8 (.int i.m i.mt), .no⟩,⟨i.oa,lst ((Zp (U.w 10).g).map Is.ref) (Z3 (U.w 10).o), .is (Zp (U.w 10).g)⟩,⟨i.sa,lst ((Zp (U.w 11).g).map Is.ref) (Z3 (U.w 11).o), .is (Zp (U.w 11).g)⟩,Z7i [k1 (cdN (U.w 12).g 0),k2 (cdN (U.w 12).g 1),k3 (cdN (U.w 12).g 2)]])
def dTu(F:Int)(j:Str)(O S m q:List Is):Prop:=∃e a:Is,e.ck=(F,j)/\a.ck=(F,j)/\m=insI O (kR O e) e/\q=insI S (kL S a) a
def Ze0(vs:List Value)(j m:Int)(q a:Str)(O S:List Is):Prop:=(∃n,Zc vs=some ((aJ n).map Int.ofNat)/\j+m+1<=(n:Int)/\n<=11)/\0<=j/\0<=m/\j<=Jd a q/\Jd a q<=j+m/\q∈Z2a/\a.cps.toList.length<=1000/\O.length<=5/\S.length<=5
def Zb3(o:Jr)(target:Expr)(it:Value)(body:List Stmt)(env:Env)(val:Value)(x:Cx)(lg:Lg)(hs:Hs)(K:K Flow):Z8:=
 Zd0 o target it val x lg hs (fun y lg hs=>o.tr Unit (Z30 target env val) x lg hs (fun y lg hs=>o.sx body env x lg hs K fun y y y=>Zd "an exception in a turn") fun y y y=>Zd "an exception at a loop's target") fun y y y=>Zd "an exception at a loop's target"
def nxK(K:K Result):LW.K Flow:=fun f lg hs=>match f with| .next=>K (.ok .next) lg hs|_=>Zd "a turn's end"
noncomputable def Zj5:Cx:=⟨310,Ze 10,none,none⟩
def Zpv(w:World)(g:G)(i:Yx)(a:Nat)(P:List Sl)(N T:Nat)(hs:Hs)(K:K Result):Z8:=
 Zb3 (Ql (vW w) g 100000) (Z4w Z1b) (.ref i.z) (Q8 Z1b) (Z1s i) (.ref a) Zj5 ⟨aO N 8,0,T,0,P⟩ hs (nxK K)
def Zxh:G:=⟨[Zik.ctr,Zpt.ctr,Zj1.ctr,fKR.ctr,fKL.ctr],Z7g⟩
def Zxi:G:=⟨[Zik.ctr,Zpt.ctr,Zj3.ctr,fKR.ctr,fKL.ctr],Z7g⟩
abbrev Zj6(w:World)(q:Str)(vs:List Value)(m:Int)(O:List Is)(S:List Is)(u:Nat)(y:Str)(a:Int):Prop:=∀I:Ph,(Zfu (a-1) 0 (vI I.rv))->(Z1x vs a (a+m) (vI I.rv) a (a+m) (a+m+1) y q)/\∀j:Ph,(Z0x (Jd q y) a (a+m) (vI I.rv) a (a+m) (a+m+1) (Z1 (j.w 5).o))->∀J:Ph,((Dt.ii [vI ((Z1 (j.w 5).o).getD 0 Value.none),vI ((Z1 (j.w 5).o).getD 1 Value.none),vI ((Z1 (j.w 5).o).getD 2 Value.none)]).ok/\(Dt.ii [Z3w q y,a,a+m]).ok)/\(¬Dt.ii [vI ((Z1 (j.w 5).o).getD 0 Value.none),vI ((Z1 (j.w 5).o).getD 1 Value.none),vI ((Z1 (j.w 5).o).getD 2 Value.none)]≠Dt.ii [Z3w q y,a,a+m])/\(O.length<=5)/\∀W:Ph,(S.length<=5)/\∀X:Ph,(True)/\(dTu (Jd q y) y O S (LW.insI O (kR O (Is.mk (J.1.add 9) (vI ((Z1 (j.w 5).o).getD 0 Value.none)) (Z6 ((Z1 (j.w 5).o).getD 0 Value.none)) y u)) (Is.mk (J.1.add 9) (vI ((Z1 (j.w 5).o).getD 0 Value.none)) (Z6 ((Z1 (j.w 5).o).getD 0 Value.none)) y u)) (LW.insI S (kL S (Is.mk (W.1.add 8) (vI ((Z1 (j.w 5).o).getD 0 Value.none)) (Z6 ((Z1 (j.w 5).o).getD 0 Value.none)) y u)) (Is.mk (W.1.add 8) (vI ((Z1 (j.w 5).o).getD 0 Value.none)) (Z6 ((Z1 (j.w 5).o).getD 0 Value.none)) y u)))
theorem Zt0(w:World)(z:Nat)(j:Str)(vs:List Value)(m:Int)(O S:List Is)(u:Nat)(I:Str)(q:Int)(h:Ze0 vs q m I j O S):Zj6 w j vs m O S u I q:=by
  refine Z7 fun k'=> ?_;obtain⟨⟨n,hn,y,W⟩,l0,J,f1,f2,Z,X,hO,hS⟩:=h;refine k' ?_;refine fun U1 e1=> ?_;have hv:0<=vI U1.rv/\vI U1.rv<=q:=by
   rcases e1 with⟨a,a2⟩|⟨a,a2⟩<;>rw[a]<;>lia
  refine⟨⟨⟨l0,(Zm [_,_] [] [Z6m] (.z Y3 (.a Y3 Jb)) rfl J),(Zm [_,_] [_] [Zly, .n Zr Z1o] (.z Z6l Z1o) rfl y W),⟨n,hn,(eQ y),by lia⟩,Z,X⟩,⟨hv.1,hv.2,(Zm [_,_] [_] [Zly,Zcu, .n Zr Z1o] Zlw rfl y J W),⟨n,hn,(Zm [_,_] [_] [Zly,Zcu] (.z Jb Zr) rfl y J),by lia⟩,Z,X⟩,⟨(Zm [_,_] [] [Z6m,Zcu] (.z Qs Z6l) rfl l0 J),(Zm [_,_] [] [] (.z Z6l Za7) rfl),(Zm [_,_] [_] [Zly, .n Zr Z1o] (.z Za7 Z1o) rfl y W),⟨n,hn,by omega,by lia⟩,Z,X⟩⟩,fun Y e2=> ?_⟩;haveI q0:=e2.1;haveI q1:=e2.2.1;haveI q2:=e2.2.2;haveI r0:vI ((Z1 (Y.w 5).o).getD 0 Value.none)=Jd j I:=by
   rw[q0];unfold Ja;rw[if_neg (cR (f1)),if_neg (cR (f2))]
  haveI r1:vI ((Z1 (Y.w 5).o).getD 1 Value.none)=q:=by
   rw[q1];unfold Ja;rw[if_neg (by lia)]
   by_cases z:q<Jd j I
   ·rw[if_pos z]
   ·rw[if_neg z];exact dC ((cE z)) (f1)
  haveI r2:vI ((Z1 (Y.w 5).o).getD 2 Value.none)=q+m:=by
   rw[q2];unfold Ja
   by_cases z:Jd j I<q+m
   ·rw[if_pos z]
   ·rw[if_neg z,if_neg (by lia)];exact dC (f2) ((cE z))
  rw[r0,r1,r2];exact fun U3=>⟨⟨trivial,trivial⟩,fun z=>z rfl,hO,fun U4=>⟨hS,fun U5=>⟨trivial,_,_,rfl,rfl,rfl,rfl⟩⟩⟩
theorem Jdo(z ti Y q:Nat)(o1:Obj)(i2:Nat)(o2:Obj)(l6:Nat)(o6:Obj)(f:Nat)(fo:Obj)(ct:Nat)(a:Str)(tt cl:Nat)(lv:Option Value)(W ln I:Nat)(vs:List Value)(cm:Nat)(m:Int)(J X no:Nat)(O:List Is)(sa ns:Nat)(S:List Is)(Z ce cs T0 u lt:Nat)(le:Str)(j:Int)(h:Ze0 vs j m le a O S)(N T:Nat):
  Z5 (Zpv (w2 w b c) Zxh (Yx.mk z ti Y q o1 i2 o2 l6 o6 f fo ct a tt cl lv W ln I vs cm m J X no O sa ns S Z ce cs) T0 ((Y0 (dP (Int.ofNat T0)) (frZ (Yx.mk z ti Y q o1 i2 o2 l6 o6 f fo ct a tt cl lv W ln I vs cm m J X no O sa ns S Z ce cs)) [] (Yx.mk z ti Y q o1 i2 o2 l6 o6 f fo ct a tt cl lv W ln I vs cm m J X no O sa ns S Z ce cs)).take 1++⟨T0,Yf (.str le u) (.int j lt), .no⟩::(Y0 (dP (Int.ofNat T0)) (frZ (Yx.mk z ti Y q o1 i2 o2 l6 o6 f fo ct a tt cl lv W ln I vs cm m J X no O sa ns S Z ce cs)) [] (Yx.mk z ti Y q o1 i2 o2 l6 o6 f fo ct a tt cl lv W ln I vs cm m J X no O sa ns S Z ce cs)).drop 1) N T ((Z4 0x10109128f36bf28f027fc0e023f069e80e01bf001a5e7027f500de28f28f028f022f01bfb0b0bbb19f19f001a5e701ef400de20f20f020f0aae .nil)) (Jj 1 (fun y=>13) (fun y=>True) (fun y U=>dTu (Jd a le) le O S (Zp (U.w 10).g) (Zp (U.w 11).g)) (fun y=>rTu (Yx.mk z ti Y q o1 i2 o2 l6 o6 f fo ct a tt cl lv W ln I vs cm m J X no O sa ns S Z ce cs)))):=by
 cases b<;>
 cases c<;>
 exact Zx (p:=Zj6 w a vs m O S u le j) (by kernel_rfl) (Zt0 w z a vs m O S u le j h)
theorem Jdp(z ti Y q:Nat)(o1:Obj)(i2:Nat)(o2:Obj)(l6:Nat)(o6:Obj)(f:Nat)(fo:Obj)(ct:Nat)(a:Str)(tt cl:Nat)(lv:Option Value)(W ln I:Nat)(vs:List Value)(cm:Nat)(m:Int)(J X no:Nat)(O:List Is)(sa ns:Nat)(S:List Is)(Z ce cs T0 u lt:Nat)(le:Str)(j:Int)(c1 c2 c3:Cd)(h:Ze0 vs j m le a O S)(N T:Nat):
  Z5 (Zpv (w2 w b c) Zxi (Yx.mk z ti Y q o1 i2 o2 l6 o6 f fo ct a tt cl lv W ln I vs cm m J X no O sa ns S Z ce cs) T0 ((Y0 (dP (Int.ofNat T0)) (frY (Yx.mk z ti Y q o1 i2 o2 l6 o6 f fo ct a tt cl lv W ln I vs cm m J X no O sa ns S Z ce cs)) [k1 c1,k2 c2,k3 c3] (Yx.mk z ti Y q o1 i2 o2 l6 o6 f fo ct a tt cl lv W ln I vs cm m J X no O sa ns S Z ce cs)).take 1++⟨T0,Yf (.str le u) (.int j lt), .no⟩::(Y0 (dP (Int.ofNat T0)) (frY (Yx.mk z ti Y q o1 i2 o2 l6 o6 f fo ct a tt cl lv W ln I vs cm m J X no O sa ns S Z ce cs)) [k1 c1,k2 c2,k3 c3] (Yx.mk z ti Y q o1 i2 o2 l6 o6 f fo ct a tt cl lv W ln I vs cm m J X no O sa ns S Z ce cs)).drop 1) N T ((Z4 0x1d0e038e0ff031cf16bf48e1bf500de1cf015f505055513f13f021af16bf48e18f400deaae .nil)) (Jj 1 (fun y=>13) (fun y=>True) (fun y U=>dTu (Jd a le) le O S (Zp (U.w 10).g) (Zp (U.w 11).g)) (fun y=>rTu (Yx.mk z ti Y q o1 i2 o2 l6 o6 f fo ct a tt cl lv W ln I vs cm m J X no O sa ns S Z ce cs)))):=by
 cases b<;>
 cases c<;>
 exact Zx (p:=Zj6 w a vs m O S u le j) (by kernel_rfl) (Zt0 w z a vs m O S u le j h)
section
open Builtin Builtin.Str
theorem Z5e {α β:Type}(f:α->β)(p:β->Bool)(l:List α):(l.map f).find? p=(l.find? fun x=>p (f x)).map f:=Zib f p l
theorem Ja1 {F:List He}{K:KC}(h:F.map He.kv=Ye K)(W:∀p∈K,0<=p.2/\p.2<=12)(n:Str):valN (Qy F n)=Jz (Jx K) n:=by
 have j:(F.find? fun e=>decide (Z0 e.k=n)).map He.kv=(K.find? fun p=>decide (Z0 p.1=n)).map fun p=>(p.1,Zj p.2):=by
  haveI a:=Z5e He.kv (fun q=>decide (Z0 q.1=n)) F;haveI b:=Z5e (fun p:Str×Int=>(p.1,Zj p.2)) (fun q=>decide (Z0 q.1=n)) K;simp only[h] at a;exact a.symm.trans b
 haveI J:(Jx K).find? (fun p=>decide (p.1=n))=(K.find? fun p=>decide (Z0 p.1=n)).map fun p=>(Z0 p.1,p.2):=Z5e _ _ K;dsimp only[Qy,Zb,Jz];simp only[J];cases q:K.find? fun p=>decide (Z0 p.1=n) with
 |none=>
  rw[q] at j;cases q2:F.find? fun e=>decide (Z0 e.k=n) with
  |none=>show valN (st "0")=0;decide+kernel
  |some e=>rw[q2] at j;contradiction
 |some p=>
  rw[q] at j;cases q2:F.find? fun e=>decide (Z0 e.k=n) with
  |none=>rw[q2] at j;contradiction
  |some e=>
   rw[q2] at j;haveI y:e.kv=(p.1,Zj p.2):=cW j;have I:e.v=Zj p.2:=congrArg lA y;show valN e.v=p.2;haveI m:=W p (cN q);simp only[I,(Yq p.2 m.1 m.2).2]
theorem J28(M:List He)(n:Str):valN (Qy M n)=Jz (Jo M) n:=by
 haveI a:(Jo M).find? (fun p=>decide (p.1=n))=(M.find? fun e=>decide (Z0 e.k=n)).map fun e=>(Z0 e.k,valN e.v):=Z5e _ _ M;dsimp only[Qy,Zb,Jz];rw[a];cases q:M.find? fun e=>decide (Z0 e.k=n) with
 |none=>show valN (st "0")=0;decide+kernel
 |some e=>rfl
theorem Ja2 {room:Nat}{d:Int}{A B:AL}(m:MS room d A B)(y:Str):Jz B y-Jz A y=if Jz B y≠0 then d else 0:=by
 by_cases hB:y∈Zq B
 ·obtain⟨c1,c2⟩:=Z39 m.nb m.pb hB;rw[if_pos (by lia)]
  by_cases h:d<Jz B y
  ·have:(y,Jz B y-d)∈A:=m.ab.mem_iff.mpr (Z02.mpr ⟨by rw[show Jz B y-d+d=Jz B y by lia];exact c2,(Zm [_,_] [] [Z6n] (.z Zcr (.s Y3 Jb)) rfl h)⟩);rw[Z3n m.na this];exact Yy [_,_] [] [] [] (.z (.s Jb Za6) Y3) rfl
  ·have J:y∉Zq A:=fun z=>by
    obtain⟨a,q⟩:=Yk.mp z;obtain⟨I,X⟩:=Z02.mp (m.ab.mem_iff.mp q);have:=Zdv m.nb I c2;lia
   rw[Qa J];refine Z7 fun W=> ?_
   by_cases hf:B.length=room+1
   ·have:=(m.fl hf).1 _ c2;simp only at this;refine W ?_;exact dC (Zm [_,_] [] [Z5h] (.z (.s Jb Qs) Y3) rfl (cE h)) (Zm [_,_] [] [Z5h] (.z Jb (.s Y3 Qs)) rfl this)
   ·have:=m.nf (by have:=m.lb;lia);refine W ?_;exact dC (Zm [_,_] [] [Z5h] (.z (.s Jb Qs) Y3) rfl (cE h)) (Zm [_,_] [] [Zg4, .z Y3 Qs] (.z Y3 (.s Jb Qs)) rfl c1 (cG this))
 ·have J:y∉Zq A:=fun z=>by
   obtain⟨a,q⟩:=Yk.mp z;haveI j:=Z02.mp (m.ab.mem_iff.mp q);haveI I:=j.1;exact hB (Yk.mpr ⟨_,I⟩)
  rw[Qa hB,Qa J];simp
theorem Ja3 {c:Int}{k:Str}{g:Str->Int}(I:g k=0):∀(j:List Str),j.Nodup->(j.map fun y=>if k=y then c else g y).sum=(if k∈j then c else 0)+(j.map g).sum:=by
 intro m
 induction m with
 |nil=>
  intro _;simp
 |cons y j ih=>
  intro h;rw[bM] at h;simp only[aP,dM,aP,dM,ih h.2]
  by_cases q:k=y
  ·subst q;rw[if_pos rfl,if_neg h.1,if_pos (.head _),I]
  ·rw[if_neg q]
   by_cases q2:k∈j
   ·rw[if_pos q2,if_pos (.tail _ q2)];exact Yy [_,_,_] [] [] [] (.z (.a Jb Zlr) (.a Y3 (.a Jb Q5))) rfl
   ·rw[if_neg q2,if_neg (fun z=>(aC.mp z).elim q q2)];lia
theorem Zxj:∀j:List Str,(j.map fun y=>(0:Int)).sum=0:=by
 intro a
 induction a with
 |nil=>
  exact rfl
 |cons _ j ih=>
  simp only[aP,dM,ih];rfl
theorem Zld {a:List Str}(m:a.Nodup):∀(A:AL),(Zq A).Nodup->(∀k∈Zq A,k∈a)->(a.map (Jz A)).sum=Z00 A
 |[],_,_=>by
  show(a.map fun z=>(0:Int)).sum=0;exact Zxj a
 |(k,c)::A,hn,hm=>by
  haveI j:(k::Zq A).Nodup:=hn;rw[bM] at j;haveI e:(a.map (Jz ((k,c)::A)))=a.map fun y=>if k=y then c else Jz A y:=by
   apply eN;intro y _;unfold Jz;simp only[mW]
   by_cases q:k=y
   ·rw[if_pos q];simp[q]
   ·rw[if_neg q];simp[q]
  rw[e,Ja3 (Qa j.1) a m,if_pos (hm k (.head _)),Zld m A j.2 fun x I=>hm x (.tail _ I)];unfold Z00;simp only[aP,dM]
theorem Zt1:Zay.Nodup:=by decide+kernel
theorem J29:∀s∈Jy,Z0 s∈Zay:=by decide+kernel
theorem Zxk:∀k,k<30->k % 5≠4->Z0 (Yd k)=Qk (k/5):=by decide+kernel
theorem J2a:∀i,i<6->∀j,j<6->Qk i=Qk j->i=j:=by decide+kernel
theorem J2b:∀i,i<6->∀j,j<6->Z5w.cps.toList.getD i 0=Z5w.cps.toList.getD j 0->i=j:=by decide+kernel
theorem Zj7:∀j,j<6->Z0 (Qk j)=Qk j:=by decide+kernel
def Zfv:List Str:=[st "a",st "b",st "c",st "d",st "e",st "f"]
theorem Zxl:∀j,j<6->Zfv.getD j (st "")=⟨#[Z5w.cps.toList.getD j 0]⟩:=by decide+kernel
theorem Ja4 {x:Int}(h:Qd x=true){j:Nat}(m:j<6):Zav x=Z5w.cps.toList.getD j 0↔nmI x=Qk j:=by
 refine Z7 fun J=> ?_;obtain⟨q,W⟩:=Z4v x;have Y:x/6 % 5≠4:=of_decide_eq_true h;have y:Yw x/5=(x % 6).toNat:=by
  obtain⟨i,j,a,m,X,I,e⟩:=Zl3 x;rw[e,a,(k5 I).1];rfl
 have a:(x % 6).toNat<6:=y▸Nat.div_lt_of_lt_mul q;refine J ?_;unfold Zav nmI;rw[Zxk _ q (by lia),y];exact⟨fun e=>by rw[J2b _ a _ m e],fun e=>by rw[J2a _ a _ m e]⟩
theorem Zpw {c:Nat}{y:Str}:∀(G:List Int),(∀x∈G,Zav x=c↔nmI x=y)->cnt c (G.map Zav)=((G.filter fun x=>decide (nmI x=y)).length:Nat):=by
 intro j
 induction j with
 |nil=>
  intro _;simp only[fE,cnt_nil];rfl
 |cons x G ih=>
  intro h;simp only[aP,sW,ih fun z m=>h z (.tail _ m)];haveI a:=h x (.head _)
  by_cases q:nmI x=y
  ·rw[if_pos (a.mpr q),bD (by simpa using q),bQ];lia
  ·rw[if_neg fun z=>q (a.mp z),bH (by simpa using q)];exact iF _
structure Jh8(x y:Nat->Int)(m room:Int)(tp:Str):Prop where
 m0:0<=m
 m1:m<=10
 r1:1<=room
 r3:room<=3
 tl:tp.cps.toList.length<=10
 x0:∀j,j<6->0<=x j/\x j<=10
 y0:∀j,j<6->0<=y j/\y j<=20
 due:∀j,j<6->y j-x j=if y j≠0 then m else 0
 lost:(tp.cps.toList.length:Int)-(x 0+(x 1+(x 2+(x 3+(x 4+x 5)))))=m*(room+1)
 lo:∀j,j<6->x j<=Jd tp (Zfv.getD j (st ""))
 hi:∀j,j<6->Jd tp (Zfv.getD j (st ""))<=x j+m
 top:∀j,j<6->x j+m<=(tp.cps.toList.length:Int)
theorem Zt2 {ns:List Int}{room:Int}{F M:List He}{R:List Is}{S:List Si}{tp:Str}(inv:Z21 ns room F M R S tp)(h10:ns.length<=10){x y:Nat->Int}
  (hx:∀j,j<6->x j=valN (Qy F (Z0 (J9 (Qk j))))) (hy:∀j,j<6->y j=valN (Qy M (Z0 (Qk j)))):
  Jh8 x y (Z2s R room) room tp/\HN F/\F.length<=4/\HN M/\M.length<=4:=by
 haveI s1:=inv.small.1;haveI s2:=inv.small.2.1;obtain⟨r1,r3,kc,fk,om,⟨d,I,cs⟩,ht⟩:=inv;have Y:=Zic I cs;have b1:=Y.1;have b2:=Y.2;have hn:((ns.filter Qd).length:Int)<=10:=by
  have:=bY Qd ns;exact Zm [] [_,_] [Yl, .n Yi lQ8] (.z Zr lQ8) rfl this h10
 have c10:∀p∈S.map Si.kc,p.2<=10:=fun p hp=>cJ (b1 (Z0 p.1,p.2) (Zcc hp)) hn;haveI J:=Zaw fk kc (fun p hp=>by have:=c10 p hp;lia);haveI f1:=J.1;haveI f2:=J.2.1;haveI f3:=J.2.2.1;haveI f4:=J.2.2.2.1;haveI f5:=J.2.2.2.2;haveI sl:(S.map Si.kc).length<=3:=by have:=I.la;rw[Z9o] at this;lia
 haveI ed:=Zid r1 I om.row;rw[<-ed];have W:∀j,j<6->x j=Jz (Jx (S.map Si.kc)) (Qk j):=fun j m=>by
  haveI hO3967:=Jl j m;haveI h1:=hO3967.1;haveI Z:=Zw _ h1;haveI n5:=Z.2.2.2.2.1;haveI n6:=Z.2.2.2.2.2.1;haveI n7:Z0 (Qk j)=Qk j:=Zj7 j m;simp only[hx j m,n5,n7];exact Ja1 fk (fun p hp=>⟨by have:=kc.pos p hp;exact eQ this,by have:=c10 p hp;lia⟩) _
 haveI ey:∀j,j<6->y j=Jz (Jo M) (Qk j):=fun j m=>by
  simp only[hy j m,Zj7 j m];exact J28 M _
 haveI xb:∀z:Str,0<=Jz (Jx (S.map Si.kc)) z/\Jz (Jx (S.map Si.kc)) z<=10:=fun z=>by
  by_cases q:z∈Zq (Jx (S.map Si.kc))
  ·obtain⟨p1,p2⟩:=Z39 I.na I.pa q;have:=b1 _ p2;simp only at this;lia
  ·rw[Qa q];lia
 haveI yb:∀z:Str,0<=Jz (Jo M) z/\Jz (Jo M) z<=10:=fun z=>by
  by_cases q:z∈Zq (Jo M)
  ·obtain⟨p1,p2⟩:=Z39 I.nb I.pb q;have:=b2 _ p2;simp only at this;lia
  ·rw[Qa q];lia
 have tl:tp.cps.toList.length=(ns.filter Qd).length:=by simp only[ht,aE]
 haveI kin:∀k∈Zq (Jx (S.map Si.kc)),k∈Zay:=fun k hk=>by
  obtain⟨p,hp,rfl⟩:=Z1l.mp hk;exact J29 _ (kc.nm p hp)
 haveI sm:=Zld Zt1 _ I.na kin;haveI sm:Jz (Jx (S.map Si.kc)) (Qk 0)+(Jz (Jx (S.map Si.kc)) (Qk 1)+(Jz (Jx (S.map Si.kc)) (Qk 2)+(Jz (Jx (S.map Si.kc)) (Qk 3)+(Jz (Jx (S.map Si.kc)) (Qk 4)+(Jz (Jx (S.map Si.kc)) (Qk 5)+0)))))=Z00 (Jx (S.map Si.kc)):=sm;haveI tot:=cs.tot;haveI er:((room.toNat:Nat):Int)=room:=by lia
 rw[er] at tot;have dm:d<=d*(room+1):=by
  have:d*1<=d*(room+1):=iU (Zm [_] [_] [.z Zr Jb] Zlv rfl (cG er)) I.d0;lia
 haveI hs:=Z3g I.pa;haveI hd0:=I.d0;have fq:∀j,j<6->Jd tp (Zfv.getD j (st ""))=Z8n ns (Qk j):=fun j m=>by
  dsimp only[Jd,Z8n];simp only[Zxl j m,Zl8,ht];exact Zpw _ fun z hz=>Ja4 (cI.mp hz).2 m
 refine⟨⟨I.d0,(Zm [_,_,_] [_] [Z5h, .z (.a Q5 Y3) Zr, .z Qs Q5,Zg5] (.z Jb lQ8) rfl dm (cG tot.symm) hs hn),r1,r3,(Zm [] [_,_] [Yl, .z Yi lQ8] (.n Zr lQ8) rfl (aT tl) hn),fun j m=>by rw[W j m];exact xb _,fun j m=>by rw[ey j m];have:=yb (Qk j);lia,fun j m=>by rw[W j m,ey j m];exact Ja2 I _, ?_,fun j m=>by simp only[W j m,fq j m];exact cs.lo _,fun j m=>by rw[W j m,fq j m];exact cs.hi _,fun j m=> ?_⟩,f1,by rw[f3];exact cX sl,s1,s2⟩
 ·simp only[W 0 (eO _),W 1 (bO _ _),W 2 (bO _ _),W 3 (bO _ _),W 4 (gL _),W 5 (cB _),tl];exact Yy [_,_,_,_,_,_,_,_] [_] [.z Zr Z6l] [.z (.a Q5 (.a lQ9 (.a Z2c (.a Z7q (.a (.v 6) (.a (.v 7) Qs)))))) Jb] (.z (.s Zr (.a Q5 (.a lQ9 (.a Z2c (.a Z7q (.a (.v 6) (.v 7))))))) Y3) rfl tot sm
 ·rw[W j m,tl];have:Jz (Jx (S.map Si.kc)) (Qk j)<=Z00 (Jx (S.map Si.kc)):=by
   by_cases q:Qk j∈Zq (Jx (S.map Si.kc))
   ·haveI X:=Z39 I.na I.pa q;haveI p1:=X.1;haveI p2:=X.2;exact Z9q I.na I.pa p2
   ·rw[Qa q];exact hs
  exact Zm [_,_,_,_] [_] [Z5h, .z Q5 lQ9, .z (.a Y3 lQ9) Zr] (.z (.a Jb Q5) Zr) rfl this dm (cG tot.symm)
end
def Zpx(o:Option Cd):Sl:=match o with|none=>⟨195,Zv [], .tab []⟩|some c=>Yt 195 133 4 Z3v c
def Zj8(o:Option Cd):Sl:=match o with|none=>⟨202,Zv [], .tab []⟩|some c=>Yt 202 148 4 Z2q c
def isU(f:Option Cd->Sl)(o:Obj)(g:Gd):Prop:=∃c,o=(f c).o/\g=(f c).g
abbrev DgI:=I7 Nat Nat (Nat->Int) (Nat->Nat) Nat Obj Gd
noncomputable def six(x:Nat->Int)(t:Nat->Nat):List Value:=[.int (x 0) (t 0), .int (x 1) (t 1), .int (x 2) (t 2), .int (x 3) (t 3), .int (x 4) (t 4), .int (x 5) (t 5)]
noncomputable def cDg(i:DgI):Code:= .call (.ref 207) ⟨[.ref i.1, .int 8 i.5],[]⟩
def pDg(i:DgI):List Sl:=[⟨i.1,lst (six i.3 i.4) i.2, .no⟩,⟨202,i.6,i.7⟩]
noncomputable def dgV(x:Nat->Int):Int:=(dF (eE ((dF (eE ((dF (eE (x 5) (Int.ofNat (cO 2 8))) (x 4))) (Int.ofNat (cO 2 8))) (x 3))) (Int.ofNat (cO 2 24))) ((dF (eE ((dF (eE (x 2) (Int.ofNat (cO 2 8))) (x 1))) (Int.ofNat (cO 2 8))) (x 0))))
def rDg(i:DgI)(U:Ph):Result×List Sl:=(.ok (.ret (.int (dgV i.3) (Z6 U.rv))),[⟨i.1,lst (six i.3 i.4) i.2, .no⟩,Yt 202 148 4 Z2q (Yn (U.w 1).g)])
def Z2v(x:Nat->Int):Prop:=∀j,j<6->0<=x j/\x j<=1000
abbrev Ja5(x:Nat->Int):Prop:=(0<=(8:Int)/\(8:Int)<=1000000/\(x 5:Int).natAbs<Qe)/\(0<=(8:Int)/\(8:Int)<=1000000/\((dF (eE (x 5) (Int.ofNat (cO 2 8))) (x 4)):Int).natAbs<Qe)/\(0<=(24:Int)/\(24:Int)<=1000000/\((dF (eE ((dF (eE (x 5) (Int.ofNat (cO 2 8))) (x 4))) (Int.ofNat (cO 2 8))) (x 3)):Int).natAbs<Qe)/\(0<=(8:Int)/\(8:Int)<=1000000/\(x 2:Int).natAbs<Qe)/\(0<=(8:Int)/\(8:Int)<=1000000/\((dF (eE (x 2) (Int.ofNat (cO 2 8))) (x 1)):Int).natAbs<Qe)/\True
theorem Zt3 {a B:Int}(h:0<=a/\a<=B)(j:B<18446744073709551616):a.natAbs<Qe:=iJ.1 ((Int.natAbs_of_nonneg h.1).symm▸pH h.2 j)
theorem Zj9 {a b B C:Int}(h:0<=a/\a<=B)(g:0<=b/\b<=C):0<=dF (eE a (Int.ofNat (cO 2 8))) b/\dF (eE a (Int.ofNat (cO 2 8))) b<=B*256+C:=
 ⟨jL (nG h.1 (by decide)) g.1,qV (Int.mul_le_mul_of_nonneg_right h.2 (by decide)) g.2⟩
theorem Zt4(b:Bool)(x:Nat->Int)(h:Z2v x):Ja5 x:=by
 haveI j:=Zj9 (h 5 (by decide)) (h 4 (by decide));haveI d:=fun {a:Int} {B:Int} (h:0<=a/\a<=B) (hB:B<18446744073709551616)=>(⟨by decide,by decide,Zt3 h hB⟩:0<=(8:Int)/\(8:Int)<=1000000/\a.natAbs<Qe);exact⟨d (h 5 (by decide)) (by decide),d j (by decide),⟨by decide,by decide,Zt3 (Zj9 j (h 3 (by decide))) (by decide)⟩,d (h 2 (by decide)) (by decide),d (Zj9 (h 2 (by decide)) (h 1 (by decide))) (by decide),trivial⟩
theorem Jdq(i:DgI)(h:Z2v i.3)(a:isU Zj8 i.6 i.7):J7 (vW (w2 w b c)) true false (Zf 3) (Ze 3) (cDg i) (pDg i) (rDg i):=by
 obtain⟨l,n,x,t,u,o,g⟩:=i;obtain⟨o,rfl,rfl⟩:=a;cases o with
 |none=>
  exact zN2 Ym 2 (Z4 0x10c16bf18f017f1118f018f018f18f18f116f45ecb0b4413f241d3e15f45eba0a2212f22dfe14f45ea9091111f11112f6fe98081110f11111f6fe8707660ff26113f013fe0e111f45e7606440ef24d6e650522d22e5e540411c111d6fe430311b111c6feebed0d0d00b009d0d0d0ddf1edd0d07002233000 .nil) (fun y y=>by kernel_rfl) (Zt4 b x h)
 |some cc=>
  exact zN2 Ym 2 (Z4 0x1b4e1d6e112fb0b44d241e5e111fa0a22c2288e10f10ef45e110f90911b111c6fe10ff80811a111b6fe10ef707669261d0d0ddd1b45e1d606448241c0c0ccc1a45e1c50522722b0b0bbb1945e1b40411611176fe1a30311511166fe19cce411156fe181017070700500370707077f3e7002233000 .nil) (fun y y=>by kernel_rfl) (Zt4 b x h)
def fDg:Zi DgI where
 code:=cDg
 P:=pDg
 cond i:=some (Z2v i.3/\isU Zj8 i.6 i.7)
 F i _ U:=rDg i U
 k:=2
 ext c S:=match c with
  | .call _ ⟨[_, .int _ u],[]⟩=>(match S with
   |[l,s]=>some ⟨l.a,Z3 l.o,fun j=>vI ((Z1 l.o).getD j .none),fun j=>Z6 ((Z1 l.o).getD j .none),u,s.o,s.g⟩
   |_=>none)
  |_=>none
 d:=Zf 3
 u:=Ze 3
 z:=true
theorem Jdr:Za (vW (w2 w b c)) fDg.ctr:=
 fDg.ok (fun i a=>Jdq w b c i (a _ rfl).1 (a _ rfl).2)
noncomputable def loX(x:Int)(k:Nat):Int:=mN x (eE (cZ x (Int.ofNat (cO 2 k))) (Int.ofNat (cO 2 k)))
noncomputable def hiX(x:Int)(k:Nat):Int:=cZ x (Int.ofNat (cO 2 k))
theorem J2c(a k:Nat):a&&&(a/2^k*2^k)=a/2^k*2^k:=by
 rw[<-Nat.shiftRight_eq_div_pow,<-Nat.shiftLeft_eq];apply Nat.eq_of_testBit_eq;intro i;simp only[Nat.testBit_and,Nat.testBit_shiftLeft,Nat.testBit_shiftRight]
 by_cases h:i≥k
 ·simp only[h,decide_true,lM];simp only[show k+(i-k)=i by lia,Bool.and_self]
 ·simp[h]
theorem Zja {x:Int}(h:0<=x)(k:Nat):hiX x k=x/2^k:=by
 unfold hiX;haveI e:Int.ofNat (cO 2 k)=(2:Int)^k:=by
  simp only[bZ];show((2^k:Nat):Int)=_;simp only[hH];rfl
 rw[e,dS _ (by exact eQ (lG (by decide)))]
theorem Zt5 {x:Int}(h:0<=x)(k:Nat):loX x k=x % 2^k:=by
 haveI e:Int.ofNat (cO 2 k)=(2:Int)^k:=by
  simp only[bZ];show((2^k:Nat):Int)=_;simp only[hH];rfl
 have J:loX x k=mN x (hiX x k*2^k):=by dsimp only[loX,hiX];rw[e];rfl
 simp only[J,Zja h,bitXor_and];obtain⟨a,rfl⟩:=bU h;haveI W:((a:Int)/2^k*2^k)=((a/2^k*2^k:Nat):Int):=by
  simp only[Int.natCast_mul,Int.natCast_ediv,hH];rfl
 rw[W];haveI I:pI (a:Int) ((a/2^k*2^k:Nat):Int)=((a/2^k*2^k:Nat):Int):=by
  unfold pI;haveI j:decide ((a:Int)≥0)=true:=by simp
  haveI q:decide (((a/2^k*2^k:Nat):Int)≥0)=true:=decide_eq_true (aR _);simp only[j,q];simp only[jR,jR,J2c]
 rw[I];haveI X:(a:Int) % 2^k=((a % 2^k:Nat):Int):=by simp only[Int.natCast_emod,hH];rfl
 simp only[X];have:=Nat.div_add_mod a (2^k);haveI y:a/2^k*2^k=2^k*(a/2^k):=rX _ _;exact Yy [] [_,_,_,_] [] [.n Zlp lQ7, .n Z2y Zr] (.z (.s (.a lQ7 Z2y) (.m 2 Z2y)) Yi) rfl this y
noncomputable def Qz:Nat->Nat->Int->List Int
 |0,_,_=>[]
 |f+1,n,x=>match dE n 1 with
  |true=>[x]
  |false=>Qz f (gG n 2) (loX x (kK (gG n 2) 8))++Qz f (nE n (gG n 2)) (hiX x (kK (gG n 2) 8))
def Jh9(x:Int)(k:Nat):Prop:=0<=Int.ofNat k/\Int.ofNat k<=1000000/\x.natAbs<18446744073709551616
noncomputable def Z1c:Nat->Nat->Int->Prop->Prop
 |0,_,_,r=>r
 |f+1,n,x,r=>match dE n 1 with
  |true=>r
  |false=>Jh9 (hiX x (kK (gG n 2) 8)) (kK (gG n 2) 8)/\Z1c f (gG n 2) (loX x (kK (gG n 2) 8)) (Z1c f (nE n (gG n 2)) (hiX x (kK (gG n 2) 8)) r)
noncomputable def Z0b:List Int->Int
 |[]=>0
 |d::ds=>d+256*Z0b ds
theorem Zjb:∀A B:List Int,Z0b (A++B)=Z0b A+256^A.length*Z0b B:=by
 intro j
 induction j with
 |nil=>
  intro B;simp[Z0b]
 |cons a A ih=>
  intro B;show a+256*Z0b (A++B)=a+256*Z0b A+256^(A.length+1)*Z0b B;simp only[ih B,Int.pow_succ,mU];have:(256:Int)^A.length*256*Z0b B=256*(256^A.length*Z0b B):=by simp only[Int.mul_comm (256^A.length) 256,qW]
  exact Yy [_,_,_,_] [] [] [.z Jb (.m 256 Y3)] (.z (.a Q5 (.a (.m 256 lQ9) (.m 256 Y3))) (.a (.a Q5 (.m 256 lQ9)) Jb)) rfl this
theorem Zpy(k:Nat):(2:Int)^(k*8)=256^k:=by rw[rX,Int.pow_mul];rfl
theorem Zt6 {x:Int}{n k:Nat}(j:0<=x)(h:x<256^n)(m:k<=n):0<=x/256^k/\x/256^k<256^(n-k)/\0<=x % 256^k/\x % 256^k<256^k:=by
 haveI a:(0:Int)<256^k:=lG (by decide);refine⟨Int.ediv_nonneg j (eQ a), ?_,jB _ (Int.ne_of_gt a),hU _ a⟩;refine oI a ?_;rw[<-sJ,show n-k+k=n by lia];exact h
theorem Jha(m:Nat)(h:m<=6):(256:Int)^m<=256^6:=by
 have:m=0\/m=1\/m=2\/m=3\/m=4\/m=5\/m=6:=by lia
 rcases this with rfl|rfl|rfl|rfl|rfl|rfl|rfl<;>decide
set_option tactic.hygienic true in theorem J2d:∀(f n:Nat)(x:Int)(r:Prop),0<=x->x<256^n->n<=6->r->Z1c f n x r:=by
 intro z0_
 induction z0_ with
 |zero=>
  intro _ _ _ _ _ _ hr;exact hr
 |succ f ih=>
  intro n x r h0 h hn hr;dsimp only[Z1c]
  split
  ·exact hr
  ·rename_i q;haveI q1:¬n<=1:=fun z=>by rw[kQ z] at q;contradiction
   obtain⟨p,e,p3,pn⟩:∃p,gG n 2=p/\p<=3/\p<=n:=⟨_,rfl,(by omega:n/2<=3),nD n 2⟩;have ek:kK p 8=p*8:=rfl;simp only[e,ek,Zja h0,Zt5 h0,Zpy];refine Z7 fun k'=> ?_;obtain⟨c1,c2,c3,c4⟩:=Zt6 h0 h pn;refine k' ?_;refine⟨⟨aR _, ?_, ?_⟩,ih p _ _ c3 c4 (aK pn hn) (ih (n-p) _ _ c1 c2 (aK (sX n p) hn) hr)⟩
   ·exact rI.2 (aK (Nat.mul_le_mul_right 8 p3) (by decide))
   ·have c5:=Jha (n-p) (aK (sX n p) hn);have:(256:Int)^6=281474976710656:=by decide
    lia
def Zco(l:List Int)(n:Nat)(x:Int):Prop:=l.length=n/\Z0b l=x/\(∀d∈l,0<=d/\d<256)/\l.getLastD 0=x/256^(n-1)
theorem Zle {f n:Nat}{x:Int}(j:0<=x)(h:x<256^n)(e:n=1):Zco (Qz (f+1) n x) n x:=by
 subst e;refine⟨rfl,by simp[Qz,Z0b],fun d a=> ?_,(Int.ediv_one x).symm⟩;rw[aM.mp a];exact⟨j,h⟩
theorem J2e {n m:Nat}(a:¬n<=1)(h:n<=m*2):∃p q,n/2=p/\n-p=q/\p+q=n/\1<=p/\1<=q/\p<=m/\q<=m/\p<=n:=⟨_,_,rfl,rfl,Nat.add_sub_cancel' (nD n 2),by omega,by omega,by omega,by omega,nD n 2⟩
theorem J2f {p q n:Nat}{x:Int}{a b:List Int}(e:p+q=n)(m:1<=q)(J:Zco a p (x % 256^p))(Z:Zco b q (x/256^p)):Zco (a++b) n x:=by
 obtain⟨y,a2,a3,_⟩:=J;obtain⟨j,I,X,W⟩:=Z;refine⟨by rw[aV,y,j,e], ?_,fun d Y=>(aG.mp Y).elim (a3 d) (X d), ?_⟩
 ·rw[Zjb,y,a2,I];exact Int.emod_add_mul_ediv x (256^p)
 ·have hn:b≠[]:=fun z=>by rw[z] at j;subst j;exact absurd m (by decide)
  have:(a++b).getLastD 0=b.getLastD 0:=by
   simp only[List.getLastD_eq_getLast?,List.getLast?_append,List.getLast?_eq_some_getLast hn];rfl
  rw[this,W,Int.ediv_ediv_of_nonneg (eQ (lG (by decide))),<-sJ,<-Nat.add_sub_assoc m,e]
theorem J2g(f:Nat):∀(n:Nat)(x:Int),0<=x->x<256^n->1<=n->n<=2^f->Zco (Qz (f+1) n x) n x:=by
 induction f with
 |zero=>exact fun n x a h m y=>Zle a h (gY y m)
 |succ f ih=>
  intro n x a h m y
  by_cases q1:n<=1
  ·exact Zle a h (gY q1 m)
  ·obtain⟨p,q,J,I,e3,X,j,pm,Y,Z⟩:=J2e q1 y;obtain⟨c1,c2,c3,W⟩:=Zt6 a h Z;have e:Qz (f+1+1) n x=Qz (f+1) p (x % 256^p)++Qz (f+1) q (x/256^p):=by
    show(match dE n 1 with|true=>[x]|false=>_)=_;rw[show dE n 1=false from pC.mpr fun z=>q1 (aW z)];show Qz (f+1) (n/2) (loX x (n/2*8))++Qz (f+1) (n-n/2) (hiX x (n/2*8))=_;rw[Zja a,Zt5 a,Zpy,J,I]
   rw[e];exact J2f e3 j (ih p _ c3 W X pm) (ih q _ c1 (I▸c2) j Y)
def igO(a:Int)(x:Option (List Int)):Prop:=∃j,x=some j/\j.length<=6/\(∀d∈j,0<=d/\d<256)/\Z0b j=a/\(j=[]\/j.getLastD 0≠0)
def Zpz(a:Int)(n:Nat):Prop:=(match n with|0=>a=0|k+1=>(256:Int)^k<=a/\a<256^(k+1))/\n<=6
theorem J2h {a:Int}(I:0<=a)(h:a<256^6):∃n,Zpz a n:=by
 have q:∀m,m<=6->a<256^m->∃n,Zpz a n:=by
  intro m
  induction m with
  |zero=>exact fun y h=>⟨0,dC (Int.lt_add_one_iff.mp h) I,by decide⟩
  |succ m ih=>
   intro j h
   by_cases c:(256:Int)^m<=a
   ·exact⟨m+1,⟨c,h⟩,j⟩
   ·exact ih (lZ j) (mS c)
 exact q 6 (cB 6) h
theorem Z1y {a:Int}{k:Nat}(h:Zpz a (k+1))(r:Prop)(Z:igO a (some (Qz 4 (k+1) a))->r):a≠0/\Z1c 4 (k+1) a r:=by
 refine Z7 fun k'=> ?_;obtain⟨⟨J,y⟩,q⟩:=h;have X:(0:Int)<256^k:=lG (by decide);haveI j:=J2g 3 (k+1) a (by lia) y (eO _) (by simp;exact Zm [] [_] [.n Y8 (.n 6)] (.n Zr (.n 7)) rfl q);haveI d1:=j.1;haveI I:=j.2.1;haveI Y:=j.2.2.1;haveI W:=j.2.2.2;refine k' ?_;refine⟨by lia,J2d 4 (k+1) a r (by lia) y q (Z ⟨_,rfl,by rw[d1];exact q,Y,I, .inr ?_⟩)⟩;rw[W,Nat.add_sub_cancel];have:1<=a/256^k:=(oA X).mpr (Zm [_,_] [] [Z5h] (.z (.m 1 Jb) Y3) rfl J);lia
theorem Z0z {a:Int}{n:Nat}(h:Zpz a n):(Int.ofNat (blN a)+8-1).fdiv 8=Int.ofNat n:=by
 obtain⟨j,Z⟩:=h;rw[<-Zs6];unfold gE;cases n with
 |zero=>
  have j:a=0:=j;subst j;rfl
 |succ k=>
  obtain⟨j,I⟩:=j;have Y:(0:Int)<256^k:=lG (by decide);have q:¬(a==0)=true:=by simp;lia
  rw[if_neg q];obtain⟨m,rfl⟩:=bU (show 0<=a by lia);haveI X:((m:Int)).natAbs=m:=rfl;rw[X];have y:m≠0:=by rintro rfl;simp at q
  haveI g1:2^(k*8)<=m:=by
   have:((2^(k*8):Nat):Int)<=m:=by simp only[hH];show(2:Int)^_<=_;rw[Zpy];exact j
   exact_mod_cast this
  haveI g2:m<2^((k+1)*8):=by
   have:(m:Int)<((2^((k+1)*8):Nat):Int):=by simp only[hH];show _<(2:Int)^_;rw[Zpy];exact I
   exact_mod_cast this
  haveI W:=(Nat.le_log2 y).mpr g1;haveI J:=(Nat.log2_lt y).mpr g2
  generalize m.log2=L at W J
  rw[dS _ (by decide)];simp only[bZ,bZ];lia
abbrev MzI:=I5 Nat Nat Value Int Nat
noncomputable def cMz(i:MzI):Code:= .call (.builtin "list.__mul__") ⟨[.ref i.1, .int i.4 i.5],[]⟩
def pMz(i:MzI):List Sl:=[⟨i.1,lst [i.3] i.2, .no⟩]
def fMz(j:Nat):Zi MzI where
 code:=cMz
 P:=pMz
 cond i:=some (i.4=Int.ofNat j/\j<=50)
 F i _ U:=(.ok (.ret (.ref (U.w 0).a)),⟨(U.w 0).a,lst (aY j i.3) (Z3 (U.w 0).o), .no⟩::pMz i)
 k:=1
 nn _:=1
 ext c S:=match c with
  | .call _ ⟨[.ref _, .int x t],[]⟩=>(match S with
   |[l]=>some ⟨l.a,Z3 l.o,(Z1 l.o).getD 0 .none,x,t⟩
   |_=>none)
  |_=>none
 d:=Zf 0
 u:=Ze 0
theorem Zb4(v:Value)(n:Nat):(aY n [v]).flatten=aY n v:=by
 induction n with
 |zero=>rfl
 |succ n ih=>simp only[dT,lV,ih,dT];rfl
theorem Jds(w:World)(a:Nat):Za (vW w) (fMz a).ctr:=by
 refine(fMz a).ok (fun i Z=> ?_);obtain⟨I,X⟩:=Z _ rfl;obtain⟨l,n,v,x,t⟩:=i;simp only at I X;haveI h0:0<=x/\x<=50:=by simp only[I,bZ];lia
 haveI Y:Z3e [v] x=aY a v:=by rw[I];exact Zb4 v a
 intro A s hh out fr _ hA j;haveI q:=(j.rep.slots ⟨l,LW.lst [v] n, .no⟩ (.head _)).plain rfl;have b:(⟨[v]⟩:Array Value).size*x.toNat<=1*50:=nM (cB 1) (by lia);refine Yo PySem.F.slot_list_mul (T:="list") (self:= .ref l) ⟨_,q,rfl⟩ PySem.F.entry_list_mul (PySem.F.args_list_mul_2 _ _) (lD l ⟨[v]⟩ n x t ?_ ?_ ?_) ⟨q, ?_⟩
 ·have:fR x=true:=by
   unfold fR;simp only[fM,decide_eq_true_eq];lia
  rw[this];decide
 ·lia
 ·haveI e:=bV;simp only[gF,decide_eq_true_eq];exact cQ (Zm [] [_,_] [.n Zr (.m 1 (.n 50)),Zg6] Zg0 rfl b (aT e.symm))
 ·rw[Zla,Y];have W:∀J o,s.heap.get? J=some o->(s.heap.push (LW.lst (aY a v) 0)).get? J=some o:=fun J o e=>aQ _ e;haveI st:=j.keptNew (tk:=s.toks) W (Qv j W) (D:=⟨s.heap.objs.size,LW.lst (aY a v) 0, .no⟩) (Z0j s.heap) ⟨bT _ rfl,trivial⟩;exact⟨0,aX,trivial,⟨(s.heap.push (LW.lst (aY a v) 0)).objs.size-8,s.toks, .none,fun y=>⟨s.heap.objs.size,LW.lst (aY a v) 0, .no⟩⟩,rfl,st⟩
abbrev IgI:=I5 Int Nat Nat Obj Gd
noncomputable def cIg(i:IgI):Code:= .call (.ref 200) ⟨[.int i.1 i.2, .int 8 i.3],[]⟩
noncomputable def pIg(i:IgI):List Sl:=[⟨195,i.4,i.5⟩]
def rIg(U:Ph):Result×List Sl:=(.ok (.ret (.ref (U.w 0).a)),[⟨(U.w 0).a,lst (Z1 (U.w 0).o) (Z3 (U.w 0).o), .no⟩,Yt 195 133 4 Z3v (Yn (U.w 1).g)])
def gIg(a:Nat):G:=⟨[fBl.ctr,(fMz a).ctr],[]⟩
theorem Z2w(w:World)(a:Nat):J5 (vW w) (gIg a):=
 gC (Zzb w) (gC (Jds w a) Ym)
theorem Jdt(i:IgI)(h:0<=i.1/\i.1<256^6)(W:isU Zpx i.4 i.5):Yu (vW (w2 w b c)) true false (Zf 3) (Ze 3) (cIg i) (pIg i) 1 (fun y=>True) (fun y U=>igO i.1 (Zc (Z1 (U.w 0).o))) (fun y=>rIg):=by
 obtain⟨a,t,u,o,g⟩:=i;obtain⟨o,rfl,rfl⟩:=W;obtain⟨n,j⟩:=J2h h.1 h.2;have J:=j.2;cases o with
 |none=>
  match n,j,J with
  |0,j,_=>
   exact zD2 (Z2w _ 0) (fun y=>2) (Z4 0x10116bf0ef080c4e6e .nil) (p:=∀I:Ph,((Int.ofNat (blN a)+8-1).fdiv 8=Int.ofNat 0/\0<=50)/\∀m:Ph,(a=0)/\True/\igO a (some [])) (fun y y=>by kernel_rfl) fun y=>⟨⟨Z0z j,by decide⟩,fun y=>⟨j.1,trivial,[],rfl,by decide,fun y z=>absurd z aD,j.1.symm, .inl rfl⟩⟩
  |1,j,_=>
   exact zD2 (Z2w _ 1) (fun y=>2) (Z4 0x10216bf0ff090dce3e6e .nil) (p:=∀I:Ph,((Int.ofNat (blN a)+8-1).fdiv 8=Int.ofNat 1/\1<=50)/\∀m:Ph,(a≠0)/\Z1c 4 1 a (True/\igO a (some (Qz 4 1 a)))) (fun y y=>by kernel_rfl) fun y=>⟨⟨Z0z j,by decide⟩,fun y=>Z1y j _ fun q=>⟨trivial,q⟩⟩
  |2,j,_=>
   exact zD2 (Z2w _ 2) (fun y=>2) (Z4 0x10416bf11f0b00ff74e65e119ee2e .nil) (p:=∀I:Ph,((Int.ofNat (blN a)+8-1).fdiv 8=Int.ofNat 2/\2<=50)/\∀m:Ph,(a≠0)/\Z1c 4 2 a (True/\igO a (some (Qz 4 2 a)))) (fun y y=>by kernel_rfl) fun y=>⟨⟨Z0z j,by decide⟩,fun y=>Z1y j _ fun q=>⟨trivial,q⟩⟩
  |3,j,_=>
   exact zD2 (Z2w _ 3) (fun y=>2) (Z4 0x10616bf13f0d011fdaedde119e03e5404f8e03e430365e119ee2e .nil) (p:=∀I:Ph,((Int.ofNat (blN a)+8-1).fdiv 8=Int.ofNat 3/\3<=50)/\∀m:Ph,(a≠0)/\Z1c 4 3 a (True/\igO a (some (Qz 4 3 a)))) (fun y y=>by kernel_rfl) fun y=>⟨⟨Z0z j,by decide⟩,fun y=>Z1y j _ fun q=>⟨trivial,q⟩⟩
  |4,j,_=>
   exact zD2 (Z2w _ 4) (fun y=>2) (Z4 0x10816bf15f00ff013f10f10f88e113f119e2be1135e .nil) (p:=∀I:Ph,((Int.ofNat (blN a)+8-1).fdiv 8=Int.ofNat 4/\4<=50)/\∀m:Ph,(a≠0)/\Z1c 4 4 a (True/\igO a (some (Qz 4 4 a)))) (fun y y=>by kernel_rfl) fun y=>⟨⟨Z0z j,by decide⟩,fun y=>Z1y j _ fun q=>⟨trivial,q⟩⟩
  |5,j,_=>
   exact zD2 (Z2w _ 5) (fun y=>2) (Z4 0x10a16bf17f011f015f12f12f12f093e115f119e03ea90964e2be1135e .nil) (p:=∀I:Ph,((Int.ofNat (blN a)+8-1).fdiv 8=Int.ofNat 5/\5<=50)/\∀m:Ph,(a≠0)/\Z1c 4 5 a (True/\igO a (some (Qz 4 5 a)))) (fun y y=>by kernel_rfl) fun y=>⟨⟨Z0z j,by decide⟩,fun y=>Z1y j _ fun q=>⟨trivial,q⟩⟩
  |6,j,_=>
   exact zD2 (Z2w _ 6) (fun y=>2) (Z4 0x10c16bf19f013f017f14f14fcee14f117f119e03ecb0b22215f13fdee013f13f116f119e03eba0a11114f20e16f22e03ea90964e03e870766611f0ff0ffa6e0ff112f119e03e760622210fdae1110ff20e11f22e03e54042220ef74e111d20e0ff22ee2e .nil) (p:=∀I:Ph,((Int.ofNat (blN a)+8-1).fdiv 8=Int.ofNat 6/\6<=50)/\∀m:Ph,(a≠0)/\Z1c 4 6 a (True/\igO a (some (Qz 4 6 a)))) (fun y y=>by kernel_rfl) fun y=>⟨⟨Z0z j,by decide⟩,fun y=>Z1y j _ fun q=>⟨trivial,q⟩⟩
  |_+7,_,J=>exact absurd J (by lia)
 |some c1=>
  match n,j,J with
  |0,j,_=>
   exact zD2 (Z2w _ 0) (fun y=>2) (Z4 0x108020648550de86ee .nil) (p:=∀I:Ph,((Int.ofNat (blN a)+8-1).fdiv 8=Int.ofNat 0/\0<=50)/\∀m:Ph,(a=0)/\True/\igO a (some [])) (fun y y=>by kernel_rfl) fun y=>⟨⟨Z0z j,by decide⟩,fun y=>⟨j.1,trivial,[],rfl,by decide,fun y z=>absurd z aD,j.1.symm, .inl rfl⟩⟩
  |1,j,_=>
   exact zD2 (Z2w _ 1) (fun y=>2) (Z4 0x1090307b6e4174be910130303006008538550de86ee .nil) (p:=∀I:Ph,((Int.ofNat (blN a)+8-1).fdiv 8=Int.ofNat 1/\1<=50)/\∀m:Ph,(a≠0)/\Z1c 4 1 a (True/\igO a (some (Qz 4 1 a)))) (fun y y=>by kernel_rfl) fun y=>⟨⟨Z0z j,by decide⟩,fun y=>Z1y j _ fun q=>⟨trivial,q⟩⟩
  |2,j,_=>
   exact zD2 (Z2w _ 2) (fun y=>2) (Z4 0x10b05096c3ef9e .nil) (p:=∀I:Ph,((Int.ofNat (blN a)+8-1).fdiv 8=Int.ofNat 2/\2<=50)/\∀m:Ph,(a≠0)/\Z1c 4 2 a (True/\igO a (some (Qz 4 2 a)))) (fun y y=>by kernel_rfl) fun y=>⟨⟨Z0z j,by decide⟩,fun y=>Z1y j _ fun q=>⟨trivial,q⟩⟩
  |3,j,_=>
   exact zD2 (Z2w _ 3) (fun y=>2) (Z4 0x10d070b8eee2229777070771a4bec404111820ea22e103ef9e .nil) (p:=∀I:Ph,((Int.ofNat (blN a)+8-1).fdiv 8=Int.ofNat 3/\3<=50)/\∀m:Ph,(a≠0)/\Z1c 4 3 a (True/\igO a (some (Qz 4 3 a)))) (fun y y=>by kernel_rfl) fun y=>⟨⟨Z0z j,by decide⟩,fun y=>Z1y j _ fun q=>⟨trivial,q⟩⟩
  |4,j,_=>
   exact zD2 (Z2w _ 4) (fun y=>2) (Z4 0x100ff090daaa0a0aa1d4be0ff7037e .nil) (p:=∀I:Ph,((Int.ofNat (blN a)+8-1).fdiv 8=Int.ofNat 4/\4<=50)/\∀m:Ph,(a≠0)/\Z1c 4 4 a (True/\igO a (some (Qz 4 4 a)))) (fun y y=>by kernel_rfl) fun y=>⟨⟨Z0z j,by decide⟩,fun y=>Z1y j _ fun q=>⟨trivial,q⟩⟩
  |5,j,_=>
   exact zD2 (Z2w _ 5) (fun y=>2) (Z4 0x1011f0b00ffccc0c0cc10ff4be87e7037e .nil) (p:=∀I:Ph,((Int.ofNat (blN a)+8-1).fdiv 8=Int.ofNat 5/\5<=50)/\∀m:Ph,(a≠0)/\Z1c 4 5 a (True/\igO a (some (Qz 4 5 a)))) (fun y y=>by kernel_rfl) fun y=>⟨⟨Z0z j,by decide⟩,fun y=>Z1y j _ fun q=>⟨trivial,q⟩⟩
  |6,j,_=>
   exact zD2 (Z2w _ 6) (fun y=>2) (Z4 0x1013f0d011f54e111f4be13fb0bdde4be12fa0af8e103e87e707666b999090991c4be0ef606222a8eee111920eb22e103ec40422286c3eb303111720e922e113e35e .nil) (p:=∀I:Ph,((Int.ofNat (blN a)+8-1).fdiv 8=Int.ofNat 6/\6<=50)/\∀m:Ph,(a≠0)/\Z1c 4 6 a (True/\igO a (some (Qz 4 6 a)))) (fun y y=>by kernel_rfl) fun y=>⟨⟨Z0z j,by decide⟩,fun y=>Z1y j _ fun q=>⟨trivial,q⟩⟩
  |_+7,_,J=>exact absurd J (by lia)
def fIg:Zi IgI where
 code:=cIg
 P:=pIg
 cond i:=some ((0<=i.1/\i.1<256^6)/\isU Zpx i.4 i.5)
 F _ _ U:=rIg U
 k:=1
 nn _:=1
 ext c S:=match c with
  | .call _ ⟨[.int a t, .int _ u],[]⟩=>(match S with
   |[s]=>some ⟨a,t,u,s.o,s.g⟩
   |_=>none)
  |_=>none
 d:=Zf 3
 u:=Ze 3
 z:=true
 D:=some fun i y U=>igO i.1 (Zc (Z1 (U.w 0).o))
theorem Jdu:Za (vW (w2 w b c)) fIg.ctr:=
 fIg.okD (fun i a=>Jdt w b c i (a _ rfl).1 (a _ rfl).2)
theorem Ja6(x:Nat->Int)(t:Nat->Nat):∀j,j<6->vI ((six x t).getD j .none)=x j
 |0,_=>rfl
 |1,_=>rfl
 |2,_=>rfl
 |3,_=>rfl
 |4,_=>rfl
 |5,_=>rfl
 |_+6,h=>absurd h (cQ (bO _ _))
theorem Zjc {x:Nat->Int}{t:Nat->Nat}(h:Z2v x):Z2v fun j=>vI ((six x t).getD j .none):=fun j a=>by
 show 0<=vI ((six x t).getD j .none)/\vI ((six x t).getD j .none)<=1000;rw[Ja6 x t j a];exact h j a
noncomputable def shL(x:Nat->Int):List Int:=[eE (x 0) (Int.ofNat (cO 2 0)),eE (x 1) (Int.ofNat (cO 2 8)),eE (x 2) (Int.ofNat (cO 2 16)),eE (x 3) (Int.ofNat (cO 2 24)),eE (x 4) (Int.ofNat (cO 2 32)),eE (x 5) (Int.ofNat (cO 2 40))]
abbrev Z8z:=I7 Nat Nat Nat Nat (Nat->Int) (Nat->Nat) (I5 Nat Nat Nat Obj Nat)
def Zzv(i:Z8z):Env:=Z0w Zww (st "law.<locals>.") 309 i.7.3 i.7.5 []
def Jdv(i:Z8z):Code:= .compLoop Zww 0 (.ref i.1) (.ref i.7.1) (Zzv i)
def Jdw(i:Z8z):Code:= .compStart Zww 0 (.ref i.1) (.ref i.7.1) (Zzv i)
def Ja7(i:Z8z):List Sl:=[⟨i.1,enO i.2 0, .no⟩,⟨i.2,Yv none ⟨[]⟩ i.3 0, .no⟩,⟨i.3,lst (six i.5 i.6) i.4, .no⟩]++[⟨i.7.1,lst [] i.7.2, .no⟩,⟨i.7.3,Qx (Z3 i.7.4), .no⟩]++[]
def Ja8(i:Z8z)(U:Ph):Result×List Sl:=(.ok .next,[⟨i.1,(U.w 0).o, .no⟩,⟨i.2,(U.w 1).o, .no⟩,⟨i.3,lst (six i.5 i.6) i.4, .no⟩]++[⟨i.7.1,lst (Z1 (U.w 3).o) (Z3 (U.w 3).o), .no⟩,⟨i.7.3,Z2n [st "k",st "figure"] (U.w 4).o, .no⟩]++[])
def Zt7(env:Env)(S:List Sl):Option Z8z:=match env.frame with
 |some f=>(match S with
   |[e,it,l,acc,d]=>some ⟨e.a,it.a,l.a,Z3 l.o,fun j=>vI ((Z1 l.o).getD j .none),fun j=>Z6 ((Z1 l.o).getD j .none),acc.a,Z3 acc.o,d.a,d.o,f⟩
   |_=>none)
 |none=>none
def Zq0:Zi Z8z where
 code:=Jdv
 P i:=Ja7 i
 cond i:=some (Z2v i.5)
 F i _ U:=Ja8 i U
 k:=5
 ext c S:=match c with| .compLoop _ _ _ _ env=>Zt7 env S|_=>none
 d:=Zf 3
 u:=Ze 3
 z:=true
 D:=some fun i y U=>Zc (Z1 (U.w 3).o)=some (shL i.5)
def Zq1:Zi Z8z where
 code:=Jdw
 P i:=Ja7 i
 cond i:=some (Z2v i.5)
 F i _ U:=Ja8 i U
 k:=5
 ext c S:=match c with| .compStart _ _ _ _ env=>Zt7 env S|_=>none
 d:=Zf 3
 u:=Ze 3
 z:=true
 D:=some fun i y U=>Zc (Z1 (U.w 3).o)=some (shL i.5)
noncomputable def Ja9:G:=⟨[],[]⟩
def Jdx:G:=⟨[(Zq0).ctr],[]⟩
theorem Jdy:J5 (vW (w2 w b c)) (Ja9):=by
 refine⟨fun x a=> ?_,fun y a=>absurd a aD⟩;simp only[Ja9,aC,aD,or_false] at a
theorem J2i:Za (vW (w2 w b c)) (Zq0).ctr:=by
 refine(Zq0).okD (fun i a=> ?_);obtain⟨e,it,l,n,x,t,acc,m,d,o,f⟩:=i;obtain h:=a _ rfl;have W:=h 0 (eO _);have j:=h 1 (bO _ _);have q:=h 2 (bO _ _);have J:=h 3 (bO _ _);have I:=h 4 (gL _);have X:=h 5 (cB _);exact zD4 (Jdy w b c) (fun y=>5) (Z4 0x101ef1fe01af011af1af1bf1afcde19f019f019fade01cf0211df1df1df1df1df1df100e16ff6ef6e15f15fbcef4e15fb3e018f18f18f018f02119ff2e100e12f12f12fbbebbe11f7fe12f12f13f12f12f012f012fa7e014f14f14f014f02115f15fbce100e0eff5ef5edddddd0ef0ef0ff94e00efd0d0d010faee02111f7fe100eaaaaaaaaaaa999999aabaa0a0a909090ccc0c021dddddd100e66666666666555555667660606505050888080219999abe .nil) (p:=(0<=(0:Int)/\(0:Int)<=1000000/\(x 0).natAbs<Qe)/\(0<=(8:Int)/\(8:Int)<=1000000/\(x 1).natAbs<Qe)/\(0<=(16:Int)/\(16:Int)<=1000000/\(x 2).natAbs<Qe)/\(0<=(24:Int)/\(24:Int)<=1000000/\(x 3).natAbs<Qe)/\(0<=(32:Int)/\(32:Int)<=1000000/\(x 4).natAbs<Qe)/\(0<=(40:Int)/\(40:Int)<=1000000/\(x 5).natAbs<Qe)/\True/\some (shL x)=some (shL x)) (fun y y=>by kernel_rfl) (by
   simp only[Qe];refine⟨⟨(bX _),(aR _),by lia⟩,⟨(aR _),(aR _),by lia⟩,⟨(aR _),(aR _),by lia⟩,⟨(aR _),(aR _),by lia⟩,⟨(aR _),(aR _),by lia⟩,⟨(aR _),(aR _),by lia⟩,trivial,trivial⟩)
theorem J2j:Za (vW (w2 w b c)) (Zq1).ctr:=by
 have J:J5 (vW (w2 w b c)) (Jdx):=⟨fun x I=>by rw[aM.mp I];exact J2i w b c,fun y I=>absurd I aD⟩;refine(Zq1).okD (fun i W=> ?_);obtain⟨e,it,l,n,x,t,acc,m,d,o,f⟩:=i;obtain h:=W _ rfl;cases c
 ·cases b
  ·exact zD J (fun y=>5) (Z4 0x15aecfe .nil) (p:=(Z2v fun j=>vI ((six x t).getD j .none))/\∀a:Ph,(Zc (Z1 (a.w 3).o)=some (shL x))->(True)/\(Zc (Z1 (a.w 3).o)=some (shL x))) (fun y y=>by kernel_rfl) (by exact⟨Zjc h,fun U q=>⟨trivial,q⟩⟩)
  ·exact zD J (fun y=>5) (Z4 0x15aecfe .nil) (p:=(Z2v fun j=>vI ((six x t).getD j .none))/\∀a:Ph,(Zc (Z1 (a.w 3).o)=some (shL x))->(True)/\(Zc (Z1 (a.w 3).o)=some (shL x))) (fun y y=>by kernel_rfl) (by exact⟨Zjc h,fun U q=>⟨trivial,q⟩⟩)
 ·exact zD J (fun y=>5) (Z4 0x15ae48e .nil) (p:=(Z2v fun j=>vI ((six x t).getD j .none))/\∀a:Ph,(Zc (Z1 (a.w 3).o)=some (shL x))->(True)/\(Zc (Z1 (a.w 3).o)=some (shL x))) (fun y y=>by kernel_rfl) (by exact⟨Zjc h,fun U q=>⟨trivial,q⟩⟩)
def mdE:Expr:=Jgw
def Jhb(e:Value):Int:=dN (vI e) 1800
def dMd(L A:List Value)(k:Nat)(X:List Value):Prop:=∃a,Zc A=some a/\Zc X=some (a++(L.drop k).map (Jhb))
def Zxm(L A:List Value)(k:Nat):Prop:=((∀v∈L,∃x t,v= .int x t)/\(∀v∈L,vI v=vI v))/\L.length<=6/\A.length+(L.length-k)<=500/\(∃a,Zc A=some a)
def sMd:Js Value Value Unit where
 e:=mdE
 q:=st "law.<locals>."
 fa:=309
 cn:=[]
 ns:=[st "one"]
 X:=kVl
 Y:=kVl
 lv:=2
 cl:=cl0
 ce:=ce0
 ok c L A k:=Zxm L A k
 D c L A k X:=dMd L A k X
def fMd:Zi (LIx Value Value Unit):=sMd.fS
theorem Jdz:sMd.Turn (w2 w b c) [Zar.ctr] ((Z4 0x1a9e10cce444 .nil)):=by
 intro r it l n L acc m A d o f k Y ob e N T dd ss Z hi I hd X;obtain⟨⟨J,W⟩,h3,j,xs,a⟩:=hi;obtain⟨x,xt,rfl⟩:=J _ X;have q:(A.length<=1000)/\∀U1:Ph,sMd.Go Y L A (A++[Value.int (x.fmod 1800) (T.add 2)]) k r:=by
  exact⟨Z5u j,fun y=>Js.go I ⟨⟨J,W⟩,h3,Z5t j I,_,Z05 a⟩ (Z6e a hd rfl)⟩
 rcases Z with rfl|rfl<;>exact Zx (by kernel_rfl) q
theorem Je0(w:World):sMd.Fit w:=⟨⟨by kernel_rfl,by kernel_rfl⟩,Z3m,Z3m,fun y L A h=>by obtain⟨j,a⟩:=h.2.2.2;exact⟨j,a,by simpa using a⟩⟩
theorem Je1:Za (vW (w2 w b c)) fMd.ctr:=
 (Je0 _).okS (gc1 (Z8c _)) (Jdz w b c)
def Jhc:Expr:=roE
def Je2(e:Value):Int:=cZ (vI e) 6
def Jaa(L A:List Value)(k:Nat)(X:List Value):Prop:=∃a,Zc A=some a/\Zc X=some (a++(L.drop k).map (Je2))
def Zq2(L A:List Value)(k:Nat):Prop:=((∀v∈L,∃x t,v= .int x t)/\(∀v∈L,vI v=vI v)/\L.length=10)/\L.length<=10/\A.length+(L.length-k)<=500/\(∃a,Zc A=some a)
def Zq3:Js Value Value Unit where
 e:=Jhc
 q:=st "law.<locals>."
 fa:=309
 cn:=[]
 ns:=[st "number"]
 X:=kVl
 Y:=kVl
 lv:=2
 cl:=cl0
 ce:=ce0
 ok c L A k:=Zq2 L A k
 D c L A k X:=Jaa L A k X
def Jab:Zi (LIx Value Value Unit):=Zq3.fS
theorem Jac:Zq3.Turn (w2 w b c) [Zar.ctr] ((Z4 0x1a9e10cce444 .nil)):=by
 intro r it l n L acc m A d o f k Y ob e N T dd ss Z hi I hd X;obtain⟨⟨J,W⟩,h3,j,xs,a⟩:=hi;obtain⟨x,xt,rfl⟩:=J _ X;have q:(A.length<=1000)/\∀U1:Ph,Zq3.Go Y L A (A++[Value.int (x.fdiv 6) (T.add 2)]) k r:=by
  exact⟨Z5u j,fun y=>Js.go I ⟨⟨J,W⟩,h3,Z5t j I,_,Z05 a⟩ (Z6e a hd rfl)⟩
 rcases Z with rfl|rfl<;>exact Zx (by kernel_rfl) q
theorem Jad(w:World):Zq3.Fit w:=⟨⟨by kernel_rfl,by kernel_rfl⟩,Z3m,Z3m,fun y L A h=>by obtain⟨j,a⟩:=h.2.2.2;exact⟨j,a,by simpa using a⟩⟩
theorem Jae:Za (vW (w2 w b c)) Jab.ctr:=
 (Jad _).okS (gc1 (Z8c _)) (Jac w b c)
def Jhd:Expr:=Jgx
def Je3(a:Int)(e:Value):Int:=open Classical in if vI e≠0 then a else 0
def Jhe(L A:List Value)(k:Nat)(j:Int)(X:List Value):Prop:=∃a,Zc A=some a/\Zc X=some (a++(L.drop k).map (Je3 j))
def Je4(L A:List Value)(k:Nat)(j:Int):Prop:=((∀v∈L,∃x t,v= .int x t)/\(∀v∈L,vI v=vI v)/\L.length=6)/\L.length<=6/\A.length+(L.length-k)<=500/\(∃a,Zc A=some a)
def Zb5:Js Value Value (Nat×Int×Nat) where
 e:=Jhd
 q:=st "law.<locals>."
 fa:=309
 cn:=[st "least"]
 ns:=[st "count"]
 X:=kVl
 Y:=kVl
 lv:=2
 cl:=clI
 ce:=ceI
 ok c L A k:=Je4 L A k c.2.1
 D c L A k X:=Jhe L A k c.2.1 X
theorem Jaf:Zb5.Turn (w2 w b c) [Zar.ctr] ((Z4 0x12444 (.two (Z4 0x15ae1020215 .nil) (Z4 0x15ae102021 .nil)))):=by
 intro r it l n L acc m A d o f k ⟨W,X,a⟩ ob e N T dd ss hb hi J hd he;obtain⟨⟨Y,Z⟩,h3,I,xs,j⟩:=hi;obtain⟨x,xt,rfl⟩:=Y _ he;have q:((x≠0->(A.length<=1000)/\∀U1:Ph,Zb5.Go (W,X,a) L A (A++[Value.int X a]) k r)/\(¬(x≠0)->(A.length<=1000)/\∀U3:Ph,Zb5.Go (W,X,a) L A (A++[Value.int 0 (T.add 1)]) k r)):=by
  exact⟨fun q=>⟨Z5u I,fun y=>Js.go J ⟨⟨Y,Z⟩,h3,Z5t I J,_,Z05 j⟩ (Z6e j hd (if_pos q))⟩,fun q=>⟨Z5u I,fun y=>Js.go J ⟨⟨Y,Z⟩,h3,Z5t I J,_,Z05 j⟩ (Z6e j hd (if_neg q))⟩⟩
 rcases hb with rfl|rfl<;>exact Zx (by kernel_rfl) q
theorem Jag(w:World):Zb5.Fit w:=⟨⟨by kernel_rfl,by kernel_rfl⟩,Z3m,Z3m,fun y L A h=>by obtain⟨j,a⟩:=h.2.2.2;exact⟨j,a,by simpa using a⟩⟩
section
theorem J2k:∀{L:List Value}{a:List Int},Zc L=some a->∀j,j<a.length->vI (L.getD j .none)=a.getD j 0:=by
 intro q
 induction q with
 |nil=>
  intro a h j m;cases h;exact absurd m (fY _)
 |cons v L ih=>
  intro a h j m;obtain⟨x,t,r,rfl,e,rfl⟩:=Z18 h;cases j with
  |zero=>rfl
  |succ j=>exact ih e j (nY m)
theorem J2l {o:Obj}{a:List Int}(h:Zc (Z1 o)=some a)(j:a.length=6):Z1 o=Qc o:=by
 obtain⟨x,t,e⟩:=Zsj h j;unfold Qc;rw[e];rfl
abbrev Zxn:=I7 Nat Nat Nat (Nat->Int) (Nat->Nat) Nat (I5 Nat Nat Obj Nat (Nat×Int×Nat))
noncomputable def Zjd(i:Zxn):LIx Value Value (Nat×Int×Nat):=⟨i.1,i.2,i.3,six i.4 i.5,i.6,i.7.1,[],i.7.2,i.7.3,i.7.4,none,⟨[]⟩,0,i.7.5⟩
def Jhf(i:Zxn)(U:Ph):Result×List Sl:=(.ok .next,[⟨i.1,(U.w 0).o, .no⟩,⟨i.2,lst (six i.4 i.5) i.3, .no⟩,⟨i.6,lst (Qc (U.w 2).o) (Z3 (U.w 2).o), .no⟩,⟨i.7.2,Z2n [st "count"] (U.w 3).o, .no⟩,⟨i.7.5.1,J8 (.int i.7.5.2.1 i.7.5.2.2), .no⟩])
open Classical in
def Zxo(x:Nat->Int)(a:Int)(X:List Value):Prop:=∀j,j<6->vI (X.getD j .none)=if x j≠0 then a else 0
def Zxp:Zi Zxn where
 code i:=Zb5.cS (Zjd i)
 P i:=Zb5.pS (Zjd i)
 cond _:=none
 F i _ U:=Jhf i U
 k:=5
 ext c W:=match c with
  | .compStart _ _ _ _ env=>(match Zb5.ext env W with
   |some i=>some ⟨i.it,i.l,i.n,fun j=>vI (i.L.getD j .none),fun j=>Z6 (i.L.getD j .none),i.acc,i.m,i.d,i.o,i.f,i.cs⟩
   |none=>none)
  |_=>none
 d:=Zf 2
 u:=Ze 2
 z:=true
 D:=some fun i y U=>Zxo i.4 i.7.5.2.1 (Z1 (U.w 2).o)
theorem Zxq(x:Nat->Int)(t:Nat->Nat):∀v∈six x t,∃y u,v= .int y u:=by
 intro v a;simp only[six,aC,aD,or_false] at a;rcases a with rfl|rfl|rfl|rfl|rfl|rfl<;>exact⟨_,_,rfl⟩
theorem Jah:Za (vW (w2 w b c)) Zxp.ctr:=by
 refine Zxp.okD (fun i y=> ?_);refine((Jag _).start (gc1 (Z8c _)) (Jaf w b c) (Zjd i) fun p e=>by cases e;exact⟨⟨⟨Zxq _ _,fun y y=>rfl,rfl⟩,by simp[Zjd,six],by simp[Zjd,six],[],rfl⟩,rfl,rfl⟩).mono fun a y m=>⟨0,aX,trivial,fun U h=> ?_⟩;obtain⟨X,W,J⟩:=h;cases W;haveI q:=J2l J rfl
 match a,m with
 |0,m=>exact nomatch m
 |_+1,_=>
  refine⟨U,fun j I=>(J2k J j I).trans ?_,rfl, ?_,rfl,rfl⟩
  ·match j,I with
   |0,_=>rfl
   |1,_=>rfl
   |2,_=>rfl
   |3,_=>rfl
   |4,_=>rfl
   |5,_=>rfl
  ·show(_::_::(⟨_,lst (Z1 (U.w 2).o) _,_⟩:Sl)::_)=_;rw[q];rfl
end
theorem Zt8 {vs:List Value}{a b c v:Value}(h:v∈Q6 vs a b c):v∈vs:=by
 dsimp only[Q6,rV] at h;simp only[eU] at h;obtain⟨i,_,e⟩:=h;have e:vs[i]?=some v:=by simp only[<-e];simp
 exact aZ e
theorem s10 {a b:Int}(j:0<=a)(m:b<=60):(if a<b then(b-a+10-1)/10 else 0)<=6:=by
 split
 ·exact Int.le_of_lt_add_one (oI (by decide) (by lia))
 ·decide
theorem Zk7 {vs:List Value}(k:Nat)(a:k<=9)(t u s:Nat):(Q6 vs (.int k t) (.int 60 u) (.int 10 s)).length<=6:=by
 dsimp only[Q6,rV];refine aK (List.length_filterMap_le _ _) ?_;dsimp only[sliceRange,sliceBounds,Z08];simp only[aE,dK];show(if(10:Int)>0 then _ else _:Int).toNat<=6;rw[if_pos (by decide)];simp
 split<;>exact s10 (Int.le_max_left _ _) (Int.max_le.2 ⟨(by decide:(0:Int)<=60),Int.min_le_left _ _⟩)
noncomputable def enQ(it:Nat)(k:Int)(v:Value):Obj:=⟨.type "enumerate",none, .fields ⟨[.none, .bool false, .ref it, .int k 0, .none,v]⟩,⟨[]⟩⟩
abbrev NuI:=I7 Nat Value Nat Nat (Nat->Nat) Nat (I7 Nat (List Value) Nat Obj Nat Nat (I3 Nat Nat (List Value)))
noncomputable def Zq4(t:Nat->Nat):List Value:=[.int 0 (t 0), .int 7 (t 1), .int 12 (t 2), .int 20 (t 3), .int 85 (t 4), .int 33 (t 5), .int 6 (t 6), .int 4 (t 7), .int 31 (t 8), .int 18 (t 9)]
def Jai:List Str:=[st "k",st "base"]
def Jaj(i:NuI):Env:=Z0w Zpi (st "law.<locals>.") 309 i.7.3 i.7.5 [(st "script",i.7.6)]
def Jhg(i:NuI):Code:= .compLoop Zpi 0 (.ref i.1) (.ref i.6) (Jaj i)
def Jhh(i:NuI):Code:= .compStart Zpi 0 (.ref i.1) (.ref i.6) (Jaj i)
def Jak(k:Nat)(i:NuI)(a:Obj):List Sl:=[⟨i.1,enQ i.3 (Int.ofNat k) i.2, .no⟩,⟨i.3,tiO i.4 k, .no⟩,⟨i.4,Qj (Zq4 i.5), .no⟩,⟨i.6,lst i.7.2 i.7.1, .no⟩,⟨i.7.3,a, .no⟩,⟨i.7.6,J8 (.ref i.7.7.1), .no⟩,⟨i.7.7.1,lst i.7.7.3 i.7.7.2, .no⟩]
def pNu(k:Nat)(i:NuI):List Sl:=match k with
 |0=>Jak 0 i (Qx (Z3 i.7.4))
 |k+1=>Jak (k+1) i (Z2n Jai i.7.4)
def rNu(i:NuI)(U:Ph):Result×List Sl:=(.ok .next,[⟨i.1,(U.w 0).o, .no⟩,⟨i.3,(U.w 1).o, .no⟩,⟨i.4,Qj (Zq4 i.5), .no⟩,⟨i.6,lst (Z1 (U.w 3).o) (Z3 (U.w 3).o), .no⟩,⟨i.7.3,Z2n Jai (U.w 4).o, .no⟩,⟨i.7.6,J8 (.ref i.7.7.1), .no⟩,⟨i.7.7.1,lst i.7.7.3 i.7.7.2, .no⟩])
def dNu(A:List Value)(k:Nat)(X:List Value):Prop:=∃a l,Zc A=some a/\Zc X=some (a++l)/\l.length+k=10
def Z60(vs A:List Value):Prop:=(∀v∈vs,∃x t,v= .int x t)/\vs.length<=63/\A.length<=20/\∃a,Zc A=some a
def Zzw(env:Env)(S:List Sl):Option NuI:=match env.frame with
 |some f=>(match S with
   |[e,it,tp,acc,d,cs,l]=>some ⟨e.a,Z1n e.o 5,it.a,tp.a,fun j=>Z6 ((Z1 tp.o).getD j .none),acc.a,Z3 acc.o,Z1 acc.o,d.a,d.o,f,cs.a,l.a,Z3 l.o,Z1 l.o⟩
   |_=>none)
 |none=>none
def fNu(k:Nat):Zi NuI where
 code:=Jhg
 P:=pNu k
 cond i:=some (Z60 i.7.7.3 i.7.2/\i.7.2.length<=10+k)
 F i _ U:=rNu i U
 k:=7
 ext c S:=match c with| .compLoop _ _ _ _ env=>Zzw env S|_=>none
 d:=Zf 3
 u:=Ze 3
 z:=true
 D:=some fun i y U=>dNu i.7.2 k (Z1 (U.w 3).o)
def Zxr:Zi NuI where
 code:=Jhh
 P:=pNu 0
 cond i:=some (Z60 i.7.7.3 i.7.2/\i.7.2=[])
 F i _ U:=rNu i U
 k:=7
 ext c S:=match c with| .compStart _ _ _ _ env=>Zzw env S|_=>none
 d:=Zf 3
 u:=Ze 3
 z:=true
 D:=some fun i y U=>dNu i.7.2 0 (Z1 (U.w 3).o)
def gNu(k:Nat):G:=⟨[Zpg.ctr,fMd.ctr,Zcf.ctr,Zar.ctr,(fNu (k+1)).ctr],Z0o⟩
def Jhi:G:=⟨[(fNu 0).ctr],Z0o⟩
def Z3z(vs A:List Value)(T k:Nat)(z:Int):Prop:=(Gd.no=Gd.no/\Qu (.int (Int.ofNat k) T)/\Qu (.int 60 (aO T 3))/\Qu (.int 10 (aO T 4))/\Z08 (.int 10 (aO T 4))≠some 0/\vs.length<=1000)/\∀a:Ph,(Z1 (a.w 0).o=Q6 vs (.int (Int.ofNat k) T) (.int 60 (aO T 3)) (.int 10 (aO T 4)))->(Zxm (Z1 (a.w 0).o) [] 0/\0=0/\([]:List Value)=[])/\((Z1 (a.w 0).o≠[]->∀j:Ph,(dMd (Z1 (a.w 0).o) [] 0 (Z1 (j.w 2).o))->(∃I,Zc (Z1 (j.w 2).o)=some I)/\∀q:Ph,(A.length<=1000)/\∀Y:Ph,(Z60 vs (A++[Value.int (dF z (Y6 (Z1 (j.w 2).o))) q.t])/\(A++[Value.int (dF z (Y6 (Z1 (j.w 2).o))) q.t]).length<=10+(k+1))/\∀J:Ph,(dNu (A++[Value.int (dF z (Y6 (Z1 (j.w 2).o))) q.t]) (k+1) (Z1 (J.w 3).o))->(True)/\(dNu A k (Z1 (J.w 3).o)))/\((Z1 (a.w 0).o=[]->∀m:Ph,(dMd (Z1 (a.w 0).o) [] 0 (Z1 (m.w 2).o))->(∃I,Zc (Z1 (m.w 2).o)=some I)/\∀y:Ph,(A.length<=1000)/\∀X:Ph,(Z60 vs (A++[Value.int (dF z (Y6 (Z1 (m.w 2).o))) y.t])/\(A++[Value.int (dF z (Y6 (Z1 (m.w 2).o))) y.t]).length<=10+(k+1))/\∀W:Ph,(dNu (A++[Value.int (dF z (Y6 (Z1 (m.w 2).o))) y.t]) (k+1) (Z1 (W.w 3).o))->(True)/\(dNu A k (Z1 (W.w 3).o)))/\True))
theorem Z61 {vs A:List Value}{k:Nat}(z:Int)(hk:k<=9)(h0:Z60 vs A)(h1:A.length<=10+k)(T:Nat):Z3z vs A T k z:=by
 unfold Z3z;have st:∀(V:List Value) (z:Int) (m:Nat) (U:Ph),dNu (A++[.int z m]) (k+1) (Z1 (U.w 3).o)->dNu A k (Z1 (U.w 3).o):=by
  intro _ z m U h;obtain⟨_,_,_,W,I⟩:=h0;obtain⟨ys,l,X,e2,e3⟩:=h;rw[Z05 I] at X;injection X with X
  subst X;exact⟨W,z::l,I,by simp only[e2,eD];rfl,by simp only[bQ];exact Yy [] [_,_] [.n Za8 lQ8] [] (.n Zct lQ8) rfl e3⟩
 have ap:∀(z:Int) (m:Nat),Z60 vs (A++[.int z m])/\(A++[Value.int z m]).length<=10+(k+1):=by
  intro z m;refine Z7 fun k'=> ?_;obtain⟨Z,a2,a3,W,I⟩:=h0;refine k' ?_;exact⟨⟨Z,a2,by simp only[aV,bA];exact Zm [] [_,_] [.n Zr (.a lQ8 Yi), .n Yi (.n 9)] (.n Y8 (.n 20)) rfl h1 hk,_,Z05 I⟩,by simp only[aV,bA];exact dG h1⟩
 refine Z7 fun k'=> ?_;obtain⟨Z,a2,a3,xs0,hx0⟩:=id h0;have key:∀j:Ph,(Z1 (j.w 0).o=Q6 vs (.int (Int.ofNat k) T) (.int 60 (aO T 3)) (.int 10 (aO T 4)))->Zxm (Z1 (j.w 0).o) [] 0:=by
  intro j J;have i1:∀v∈Z1 (j.w 0).o,∃x t,v= .int x t:=fun v hv=>by rw[J] at hv;exact Z v (Zt8 hv)
  have l1:(Z1 (j.w 0).o).length<=6:=by rw[J];exact Zk7 k (hk) _ _ _
  exact⟨⟨i1,fun y y=>rfl⟩,l1,by simp;exact aK l1 (by decide),[],rfl⟩
 have Y:∀j q:Ph,dMd (Z1 (j.w 0).o) [] 0 (Z1 (q.w 2).o)->∃W,Zc (Z1 (q.w 2).o)=some W:=by
  rintro j q ⟨ys,_,e⟩;exact⟨_,e⟩
 refine k' ?_;refine⟨⟨rfl, .inr ⟨_,_,rfl⟩, .inr ⟨_,_,rfl⟩, .inr ⟨_,_,rfl⟩,by simp[Z08],(aK a2 (by decide))⟩,fun j J=>⟨⟨key j J,rfl,rfl⟩,fun y q D2=>⟨Y j q D2,fun U3=>⟨by lia,fun U4=>⟨ap _ _,fun U5 D5=>⟨trivial,st [] _ _ _ D5⟩⟩⟩⟩,fun y U6 D6=>⟨Y j U6 D6,fun U7=>⟨by lia,fun U8=>⟨ap _ _,fun U9 D9=>⟨trivial,st [] _ _ _ D9⟩⟩⟩⟩,trivial⟩⟩
theorem Z62(k:Nat)(h:Za (vW (w2 w b c)) (fNu (k+1)).ctr):J5 (vW (w2 w b c)) (gNu k):=
 gC (Zsm _) (gC (Je1 w b c) (gC (Zdw _) (gC (Z8c _) (gC h (gN (Z01 _))))))
theorem J2m:Za (vW (w2 w b c)) (fNu 10).ctr:=by
 refine(fNu 10).okD (fun i j=> ?_);obtain⟨e,J,it,W,t,acc,m,A,d,o,f,cs,l,n,vs⟩:=i;obtain⟨I,_⟩:=j _ rfl;obtain⟨_,_,_,q,a⟩:=I;exact zD4 Ym (fun y=>7) (Z4 0x1080747e23e6de010 .nil) (p:=(True)/\(dNu A 10 A)) (fun y y=>by kernel_rfl) (by exact⟨trivial,q,[],a,by rw[gX];exact a,rfl⟩)
theorem Jal:Za (vW (w2 w b c)) (fNu 9).ctr:=by
 have j:=Z62 w b c 9 (J2m w b c);refine(fNu 9).okD (fun i q=> ?_);obtain⟨e,J,it,W,t,acc,m,A,d,o,f,cs,l,n,vs⟩:=i;obtain⟨I,a⟩:=q _ rfl;exact Z5q j (fun y=>7) (Z5m (.two (Z5n .nil) (J1 (.two (Z5o .nil) .nil)))) (p:=fun N T=>Z3z vs A T 9 18) (fun y y=>by kernel_rfl) fun N T=>(Z61 18 (cB _) I a T)
theorem Jam:Za (vW (w2 w b c)) (fNu 8).ctr:=by
 have j:=Z62 w b c 8 (Jal w b c);refine(fNu 8).okD (fun i q=> ?_);obtain⟨e,J,it,W,t,acc,m,A,d,o,f,cs,l,n,vs⟩:=i;obtain⟨I,a⟩:=q _ rfl;exact Z5q j (fun y=>7) (Z5m (.two (Z5n .nil) (J1 (.two (Z5o .nil) .nil)))) (p:=fun N T=>Z3z vs A T 8 31) (fun y y=>by kernel_rfl) fun N T=>(Z61 31 (gL _) I a T)
theorem Jan:Za (vW (w2 w b c)) (fNu 7).ctr:=by
 have j:=Z62 w b c 7 (Jam w b c);refine(fNu 7).okD (fun i q=> ?_);obtain⟨e,J,it,W,t,acc,m,A,d,o,f,cs,l,n,vs⟩:=i;obtain⟨I,a⟩:=q _ rfl;exact Z5q j (fun y=>7) (Z5m (.two (Z5n .nil) (J1 (.two (Z5o .nil) .nil)))) (p:=fun N T=>Z3z vs A T 7 4) (fun y y=>by kernel_rfl) fun N T=>(Z61 4 (bO _ _) I a T)
theorem Jao:Za (vW (w2 w b c)) (fNu 6).ctr:=by
 have j:=Z62 w b c 6 (Jan w b c);refine(fNu 6).okD (fun i q=> ?_);obtain⟨e,J,it,W,t,acc,m,A,d,o,f,cs,l,n,vs⟩:=i;obtain⟨I,a⟩:=q _ rfl;exact Z5q j (fun y=>7) (Z5m (.two (Z5n .nil) (J1 (.two (Z5o .nil) .nil)))) (p:=fun N T=>Z3z vs A T 6 6) (fun y y=>by kernel_rfl) fun N T=>(Z61 6 (bO _ _) I a T)
theorem Jap:Za (vW (w2 w b c)) (fNu 5).ctr:=by
 have j:=Z62 w b c 5 (Jao w b c);refine(fNu 5).okD (fun i q=> ?_);obtain⟨e,J,it,W,t,acc,m,A,d,o,f,cs,l,n,vs⟩:=i;obtain⟨I,a⟩:=q _ rfl;exact Z5q j (fun y=>7) (Z5m (.two (Z5n .nil) (J1 (.two (Z5o .nil) .nil)))) (p:=fun N T=>Z3z vs A T 5 33) (fun y y=>by kernel_rfl) fun N T=>(Z61 33 (bO _ _) I a T)
theorem Jaq:Za (vW (w2 w b c)) (fNu 4).ctr:=by
 have j:=Z62 w b c 4 (Jap w b c);refine(fNu 4).okD (fun i q=> ?_);obtain⟨e,J,it,W,t,acc,m,A,d,o,f,cs,l,n,vs⟩:=i;obtain⟨I,a⟩:=q _ rfl;exact Z5q j (fun y=>7) (Z5m (.two (Z5n .nil) (J1 (.two (Z5o .nil) .nil)))) (p:=fun N T=>Z3z vs A T 4 85) (fun y y=>by kernel_rfl) fun N T=>(Z61 85 (bO _ _) I a T)
theorem Jar:Za (vW (w2 w b c)) (fNu 3).ctr:=by
 have j:=Z62 w b c 3 (Jaq w b c);refine(fNu 3).okD (fun i q=> ?_);obtain⟨e,J,it,W,t,acc,m,A,d,o,f,cs,l,n,vs⟩:=i;obtain⟨I,a⟩:=q _ rfl;exact Z5q j (fun y=>7) (Z5m (.two (Z5n .nil) (J1 (.two (Z5o .nil) .nil)))) (p:=fun N T=>Z3z vs A T 3 20) (fun y y=>by kernel_rfl) fun N T=>(Z61 20 (bO _ _) I a T)
theorem Jas:Za (vW (w2 w b c)) (fNu 2).ctr:=by
 have j:=Z62 w b c 2 (Jar w b c);refine(fNu 2).okD (fun i q=> ?_);obtain⟨e,J,it,W,t,acc,m,A,d,o,f,cs,l,n,vs⟩:=i;obtain⟨I,a⟩:=q _ rfl;exact Z5q j (fun y=>7) (Z5m (.two (Z5n .nil) (J1 (.two (Z5o .nil) .nil)))) (p:=fun N T=>Z3z vs A T 2 12) (fun y y=>by kernel_rfl) fun N T=>(Z61 12 (bO _ _) I a T)
theorem Jat:Za (vW (w2 w b c)) (fNu 1).ctr:=by
 have j:=Z62 w b c 1 (Jas w b c);refine(fNu 1).okD (fun i q=> ?_);obtain⟨e,J,it,W,t,acc,m,A,d,o,f,cs,l,n,vs⟩:=i;obtain⟨I,a⟩:=q _ rfl;exact Z5q j (fun y=>7) (Z5m (.two (Z5n .nil) (J1 (.two (Z5o .nil) .nil)))) (p:=fun N T=>Z3z vs A T 1 7) (fun y y=>by kernel_rfl) fun N T=>(Z61 7 (bO _ _) I a T)
theorem Jau:Za (vW (w2 w b c)) (fNu 0).ctr:=by
 have j:=Z62 w b c 0 (Jat w b c);refine(fNu 0).okD (fun i q=> ?_);obtain⟨e,J,it,W,t,acc,m,A,d,o,f,cs,l,n,vs⟩:=i;obtain⟨I,a⟩:=q _ rfl;exact Z5q j (fun y=>7) (Z5m (.two (Z5n .nil) (J1 (.two (Z5o .nil) .nil)))) (p:=fun N T=>Z3z vs A T 0 0) (fun y y=>by kernel_rfl) fun N T=>(Z61 0 (bP _) I a T)
theorem Jav:Za (vW (w2 w b c)) Zxr.ctr:=by
 have I:J5 (vW (w2 w b c)) Jhi:=⟨fun x J=>by rw[aM.mp J];exact Jau w b c,Z01 _⟩;refine Zxr.okD (fun i W=> ?_);obtain⟨e,X,it,Y,t,acc,m,A,d,o,f,cs,l,n,vs⟩:=i;obtain⟨q,j⟩:=W _ rfl;dsimp only at q j;cases c
 ·cases b
  ·exact zD I (fun y=>7) (Z4 0x147e23e0de6050423ecfe .nil) (p:=(Z60 vs A/\A.length<=10+0)/\∀a:Ph,(dNu A 0 (Z1 (a.w 3).o))->(True)/\(dNu A 0 (Z1 (a.w 3).o))) (fun y y=>by kernel_rfl) (by exact⟨⟨q,by rw[j];exact bP _⟩,fun U h=>⟨trivial,h⟩⟩)
  ·exact zD I (fun y=>7) (Z4 0x147e23e0de6050423ecfe .nil) (p:=(Z60 vs A/\A.length<=10+0)/\∀a:Ph,(dNu A 0 (Z1 (a.w 3).o))->(True)/\(dNu A 0 (Z1 (a.w 3).o))) (fun y y=>by kernel_rfl) (by exact⟨⟨q,by rw[j];exact bP _⟩,fun U h=>⟨trivial,h⟩⟩)
 ·exact zD I (fun y=>7) (Z4 0x147e23e0de6050423e48e .nil) (p:=(Z60 vs A/\A.length<=10+0)/\∀a:Ph,(dNu A 0 (Z1 (a.w 3).o))->(True)/\(dNu A 0 (Z1 (a.w 3).o))) (fun y y=>by kernel_rfl) (by exact⟨⟨q,by rw[j];exact bP _⟩,fun U h=>⟨trivial,h⟩⟩)
def g6(o:Obj):Nat->Int:=fun j=>vI ((Qc o).getD j .none)
def Z0r(o:Obj):Int:=1+(Y6 (Z1 o)).fmod 3
def Z0c(o:Obj):Str:=vS ((Z1 o).getD 2 .none)
def Z4y(o:Obj):Int:=vI ((Z1 o).getD 3 .none)
theorem Zfw(o:Obj)(j:Nat)(h:j<6):g6 o j=vI ((Z1 o).getD j .none):=Z3d j h
theorem Zxs(vs:List Value):Qj vs=Z7h (Qj vs):=by kernel_rfl
theorem Zxt(vs:List Value)(n:Nat):lst vs n=Z7h (lst vs n):=by kernel_rfl
theorem Zxu:∀{vs:List Value}{ns:List Int},Zc vs=some ns->∀v∈vs,∃x t,v= .int x t:=by
 intro a
 induction a with
 |nil=>
  intro _ _ v h;exact absurd h aD
 |cons w vs ih=>
  intro ns e v h;refine Z7 fun j=> ?_;obtain⟨x,t,r,rfl,q,rfl⟩:=Z18 e;rcases aC.mp h with rfl|h
  ·exact j (⟨x,t,rfl⟩)
  ·exact j (ih q v h)
theorem Zlf(x:Int)(t:Nat){vs:List Value}{ns:List Int}(h:Zc vs=some ns):Zc (.int x t::vs)=some (x::ns):=by
 show(match Zc vs with|some r=>some (x::r)|none=>none)=_;rw[h]
theorem Zxv:∀{A B:List Value}{a b:List Int},Zc A=some a->Zc B=some b->Zc (A++B)=some (a++b):=by
 intro y
 induction y with
 |nil=>
  intro B a b j m;cases j;exact m
 |cons v A ih=>
  intro B a b j m;obtain⟨x,t,r,rfl,q,rfl⟩:=Z18 j;exact Zlf x t (ih q m)
theorem Zt9:∀(k:Nat){A:List Value}{a:List Int},Zc A=some a->Zc (A.drop k)=some (a.drop k):=by
 intro m
 induction m with
 |zero=>
  intro _ _ h;exact h
 |succ k ih=>
  intro j;cases j with
  |nil=>
   intro a h;cases h;rfl
  |cons v A=>
   intro a h;obtain⟨x,t,r,rfl,q,rfl⟩:=Z18 h;exact ih q
theorem Zje:∀{vs:List Value}{ns:List Int},Zc vs=some ns->Y6 vs=ns.sum:=by
 intro a
 induction a with
 |nil=>
  intro ns e;cases e;rfl
 |cons v vs ih=>
  intro ns e;obtain⟨x,t,r,rfl,q,rfl⟩:=Z18 e;show x+Y6 vs=_;simp only[ih q,dM]
theorem Zxw(t:Nat):∀n:Nat,Zc (aY n (.int 0 t))=some (aY n 0):=by
 intro a
 induction a with
 |zero=>
  exact rfl
 |succ n ih=>
  simp only[dT,dT];exact Zlf 0 t (ih)
theorem Jaw:∀(Z:List Value),Z.length<=6->∀t:Nat,Q6 Z (.int (-1) t) .none .none=Z.drop (Z.length-1)
 |[],_,t=>by kernel_rfl
 |[a],_,t=>by kernel_rfl
 |[a,b],_,t=>by kernel_rfl
 |[a,b,c],_,t=>by kernel_rfl
 |[a,b,c,d],_,t=>by kernel_rfl
 |[a,b,c,d,e],_,t=>by kernel_rfl
 |[a,b,c,d,e,f],_,t=>by kernel_rfl
 |_::_::_::_::_::_::_::_,h,_=>by simp only[bQ] at h;lia
theorem Zxx:∀(A B:List Int),A.length=B.length->(∀d∈A,0<=d/\d<256)->(∀d∈B,0<=d/\d<256)->Z0b A=Z0b B->A=B:=by
 intro y
 induction y with
 |nil=>
  intro j;cases j with
  |nil=>
   intro _ _ _ _;exact rfl
  |cons _ _=>
   intro h _ _ _;simp at h
 |cons a A ih=>
  intro j;cases j with
  |nil=>
   intro h _ _ _;simp at h
  |cons b B=>
   intro h q I e;haveI e:a+256*Z0b A=b+256*Z0b B:=e;haveI W:=q a (.head _);haveI X:=I b (.head _);haveI J:a=b:=by lia
   simp only[J,ih B (by simpa using h) (fun d m=>q d (.tail _ m)) (fun d m=>I d (.tail _ m)) (by lia)]
theorem Zq5:∀n:Nat,Z0b (aY n 0)=0:=by
 intro a
 induction a with
 |zero=>
  exact rfl
 |succ n ih=>
  simp only[dT];show(0:Int)+256*Z0b _=0;rw[ih];rfl
noncomputable def Z7j(x:Nat->Int):List Int:=[x 0,x 1,x 2,x 3,x 4,x 5]
theorem Z6j(x:Nat->Int):dgV x=x 0+256*(x 1+256*(x 2+256*(x 3+256*(x 4+256*x 5)))):=by
 unfold dgV;haveI m:Int.ofNat (cO 2 8)=256:=rfl;haveI j:Int.ofNat (cO 2 24)=16777216:=rfl;haveI q:∀a b:Int,dF a b=a+b:=fun y y=>rfl;haveI I:∀a b:Int,eE a b=a*b:=fun y y=>rfl;simp only[m,j,q,I];lia
theorem J2n(x:Nat->Int):dgV x=Z0b (Z7j x):=by
 rw[Z6j];unfold Z7j;simp only[Z0b];exact Yy [_,_,_,_,_,_] [] [] [] (.z (.a Jb (.m 256 (.a Y3 (.m 256 (.a Q5 (.m 256 (.a lQ9 (.m 256 (.a Z2c (.m 256 Z7q)))))))))) (.a Jb (.m 256 (.a Y3 (.m 256 (.a Q5 (.m 256 (.a lQ9 (.m 256 (.a Z2c (.m 256 (.a Z7q (.m 256 Qs))))))))))))) rfl
theorem J2o(x:Nat->Int):(shL x).sum=dgV x:=by
 simp only[Z6j];unfold shL;haveI W:Int.ofNat (cO 2 0)=1:=rfl;haveI J:Int.ofNat (cO 2 8)=256:=rfl;haveI I:Int.ofNat (cO 2 16)=65536:=rfl;haveI q:Int.ofNat (cO 2 24)=16777216:=rfl;haveI j:Int.ofNat (cO 2 32)=4294967296:=rfl;haveI m:Int.ofNat (cO 2 40)=1099511627776:=rfl;haveI X:∀a b:Int,eE a b=a*b:=fun y y=>rfl;simp only[W,J,I,q,j,m,X,dM,rG];lia
theorem Ze1 {x:Nat->Int}(h:∀j,j<6->0<=x j/\x j<=20):Z2v x:=fun j a=>⟨(h j a).1,by have:=(h j a).2;exact cJ this (by decide)⟩
theorem Zjf {x y d:Nat->Int}(h:∀j,j<6->y j-x j=d j):dgV y-dgV x=dgV d:=by
 rw[Z6j,Z6j,Z6j,<-h 0 (by decide),<-h 1 (by decide),<-h 2 (by decide),<-h 3 (by decide),<-h 4 (by decide),<-h 5 (by decide)];exact Yy [_,_,_,_,_,_,_,_,_,_,_,_] [] [] [] (.z (.s (.a Jb (.m 256 (.a Y3 (.m 256 (.a Q5 (.m 256 (.a lQ9 (.m 256 (.a Z2c (.m 256 Z7q)))))))))) (.a (.v 6) (.m 256 (.a (.v 7) (.m 256 (.a (.v 8) (.m 256 (.a (.v 9) (.m 256 (.a (.v 10) (.m 256 (.v 11)))))))))))) (.a (.s Jb (.v 6)) (.m 256 (.a (.s Y3 (.v 7)) (.m 256 (.a (.s Q5 (.v 8)) (.m 256 (.a (.s lQ9 (.v 9)) (.m 256 (.a (.s Z2c (.v 10)) (.m 256 (.s Z7q (.v 11))))))))))))) rfl
theorem Zcp {a r R:Int}(h:0<=a/\a<=20)(g:0<=r/\r<=R):0<=a+256*r/\a+256*r<=20+256*R:=
 ⟨jL h.1 (nG (by decide) g.1),qV h.2 (iU g.2 (by decide))⟩
theorem Zxy {d:Nat->Int}(h:∀j,j<6->0<=d j/\d j<=20):0<=dgV d/\dgV d<256^6:=by
 haveI q:=Zcp (h 0 (by decide)) (Zcp (h 1 (by decide)) (Zcp (h 2 (by decide)) (Zcp (h 3 (by decide)) (Zcp (h 4 (by decide)) (h 5 (by decide))))));rw[Z6j];exact⟨q.1,pH q.2 (by decide)⟩
theorem Zet:∀(a:Int)(l:List Int),(a::l).drop l.length=[(a::l).getLastD 0]
 |a,[]=>rfl
 |a,b::l=>Zet b l
structure Zb6(d:Nat->Int)(Z:List Value)(ds:List Int):Prop where
 e:Zc Z=some ds
 l6:ds.length<=6
 fill:ds++aY (6-ds.length) 0=Z7j d
 last:ds=[]\/ds.getLastD 0≠0
theorem Jax {d:Nat->Int}(h:∀j,j<6->0<=d j/\d j<=20){Z:List Value}(y:igO (dgV d) (Zc Z)):∃a,Zb6 d Z a:=by
 refine Z7 fun I=> ?_;obtain⟨a,e,m,b,v,q⟩:=y;refine I ?_;refine⟨a,e,m, ?_,q⟩;refine Zxx _ _ (by simp only[aV,oB];show a.length+(6-a.length)=6;lia) (fun x hx=> ?_) (fun x hx=> ?_) ?_
 ·rcases aG.mp hx with hx|hx
  ·exact b x hx
  ·rw[(oR.mp hx).2];lia
 ·simp only[Z7j,aC,aD,or_false] at hx;rcases hx with rfl|rfl|rfl|rfl|rfl|rfl
  ·have:=h 0 (eO _);lia
  ·have:=h 1 (bO _ _);lia
  ·have:=h 2 (bO _ _);lia
  ·have:=h 3 (bO _ _);lia
  ·have:=h 4 (gL _);lia
  ·have:=h 5 (cB _);lia
 ·simp only[Zjb,Zq5,v,J2n];lia
theorem Zb6.len {d:Nat->Int}{Z:List Value}{a:List Int}(F:Zb6 d Z a):Z.length=a.length:=Z3b F.e
theorem Zb6.end_ {d:Nat->Int}{Z:List Value}{j:List Int}(F:Zb6 d Z j)(t:Nat):(∃l,Zc (Q6 Z (.int (-1) t) .none .none)=some l)/\Zc (Q6 Z (.int (-1) t) .none .none)≠some [0]:=by
 haveI m:=F.len;haveI y:=F.l6;rw[Jaw Z (aK (aT m) y) t,Zt9 _ F.e];refine⟨⟨_,rfl⟩,fun z=> ?_⟩;injection z with z
 rcases F.last with q|q
 ·rw[q] at z;simp at z
 ·apply q;cases j with
  |nil=>rfl
  |cons a j=>
   rw[m] at z;haveI z:(a::j).drop j.length=[0]:=z;rw[Zet] at z;injection z with z
theorem Zb6.all {d:Nat->Int}{Z:List Value}{a:List Int}(F:Zb6 d Z a)(t:Nat):Zc (Z++Z3e [.int 0 t] (6-Int.ofNat Z.length))=some (Z7j d):=by
 haveI j:=F.len;haveI m:=F.l6;haveI e:Z3e [.int 0 t] (6-Int.ofNat Z.length)=aY (6-a.length) (.int 0 t):=by
  unfold Z3e;rw[Zb4]
  congr 1
  rw[j];exact Int.toNat_sub 6 a.length
 simp only[e,Zxv F.e (Zxw t _),F.fill]
structure Jhj(n m room:Int):Prop where
 a:Zau (-n-1) (room+1)
 b:Zau (n+1) (-room-1)
 qa:(-n-1).fdiv (room+1)=-m-1
 ra:(-n-1).fmod (room+1)=room
 qb:(n+1).fdiv (-room-1)=-m-1
 rb:(n+1).fmod (-room-1)=-room
theorem Jay {n m room:Int}(h:n=m*(room+1))(m0:0<=m)(r1:1<=room)(r3:room<=3)(W:n<=10):Jhj n m room:=by
 obtain⟨k,_,_⟩:=Zl5 (d:=m) (r:=room+1) m0 (by lia) (cJ (cG h.symm) W);rw[<-h] at k;haveI Y:bN (-n-1)=n:=by rw[Z5a];lia
 haveI Z:bN (-(n+1))=n:=by rw[Z5a];lia
 haveI r:room=1\/room=2\/room=3:=by lia
 haveI fr:∀a b q j:Int,b*q+j=a->(0<=j/\j<b)->a.fdiv b=q/\a.fmod b=j:=fun a b q j e I=>by
  have:=Int.fdiv_fmod_unique (a:=a) (b:=b) (r:=j) (q:=q) (by lia);exact this.mpr ⟨(Yy [_,_,_] [] [Zg3] [] (.z (.a Y3 Jb) Q5) rfl e),I.1,I.2⟩
 haveI fn:∀a b q j:Int,b*q+j=a->(b<j/\j<=0)->a.fdiv b=q/\a.fmod b=j:=fun a b q j e I=>by
  have y:=fr (-a) (-b) q (-j) (by rw[Int.neg_mul];lia) (by lia);rw[Int.neg_fdiv_neg] at y;refine⟨y.1, ?_⟩;haveI J:=Int.mul_fdiv_add_fmod a b;rw[y.1] at J;exact Yy [_,_,_,_] [] [Zg3] [.z (.a Jb lQ9) Q5] (.z Y3 lQ9) rfl J e
 obtain⟨a1,a2⟩:=fr (-n-1) (room+1) (-m-1) room (by
  rw[h];rcases r with rfl|rfl|rfl<;>lia) (by lia)
 obtain⟨b1,X⟩:=fn (n+1) (-room-1) (-m-1) (-room) (by
  rw[h];rcases r with rfl|rfl|rfl<;>lia) (by lia)
 refine⟨.inr (.inl (by rw[Y];exact k)), .inr (.inr ?_),a1,a2,b1,X⟩;simp only[Z,show-(-room-1)=room+1 by lia];exact k
theorem Jaz {o1 o2:Obj}{g1 g2:Gd}(h:Z0p o1 g1 o2 g2):isU Zpx o1 g1/\isU Zj8 o2 g2:=by
 obtain⟨o,rfl,rfl,rfl,rfl⟩:=h;cases o with
 |none=>exact⟨⟨none,rfl,rfl⟩,⟨none,rfl,rfl⟩⟩
 |some c=>exact⟨⟨some c.1,rfl,rfl⟩,⟨some c.2,rfl,rfl⟩⟩
theorem Zeu(c1 c2:Cd):Z0p (Yt 195 133 4 Z3v c1).o (Yt 195 133 4 Z3v c1).g (Yt 202 148 4 Z2q c2).o (Yt 202 148 4 Z2q c2).g:=⟨some (c1,c2),rfl,rfl,rfl,rfl⟩
theorem Zlg(o:Obj):1<=Z0r o/\Z0r o<=3:=by
 unfold Z0r;rw[cM _ (by decide)];lia
theorem Jb0 {X:List Value}{l:List Int}(h:Zc X=some l)(a:l.length=10):Zq2 X [] 0:=by
 haveI j:=Z3b h;exact⟨⟨Zxu h,fun y y=>rfl,(j.trans a)⟩,(aK (aT j) (aT a)),by simp;exact Zm [] [_,_] [Yl, .n Yi lQ8] (.n Zr (.n 500)) rfl (aT j) (aT a),[],rfl⟩
theorem Je5 {X:List Value}{l:List Int}(h:Zc X=some l)(a:l.length=10)(o:Obj):Zij X (Z0r o) [] (.tab []) [] (.tab []) [] (.tab []):=
 ⟨l,h,a,(Zlg o).1,(Zlg o).2,⟨none,rfl,rfl,rfl,rfl⟩,⟨none,rfl,rfl⟩⟩
theorem Jb1 {X:List Value}(h:dNu [] 0 X):∃l,Zc X=some l/\l.length=10:=by
 refine Z7 fun q=> ?_;obtain⟨y,l,a,m,j⟩:=h;cases a;exact q (⟨l,m,j⟩)
def Z2x:List Str:=[st "a",st "b",st "c",st "d",st "e",st "f"]
noncomputable def Zjg(s:Str)(t k:Nat):Obj:=⟨.type "str_ascii_iterator",none, .fields ⟨[.str s t, .int (Int.ofNat k) 0]⟩,⟨[]⟩⟩
def ckT(a:Str):List (Int×Str):=[(Z3w a (st "a"),st "a"),(Z3w a (st "b"),st "b"),(Z3w a (st "c"),st "c"),(Z3w a (st "d"),st "d"),(Z3w a (st "e"),st "e"),(Z3w a (st "f"),st "f")]
def dTc(a:Str)(X:List Is):Prop:=X.map Is.ck=ckT a
abbrev Z90:=I7 Nat Nat Nat Str Nat Nat (I4 Nat Nat Obj Nat)
def Zzx(i:Z90):Env:=Z0w Zwx (st "law.<locals>.") 309 i.7.2 i.7.4 [(st "tape",i.3)]
def Je6(i:Z90):Code:= .compLoop Zwx 0 (.ref i.1) (.ref i.6) (Zzx i)
def Je7(i:Z90):Code:= .compStart Zwx 0 (.ref i.1) (.ref i.6) (Zzx i)
def Jb2(i:Z90):List Sl:=[⟨i.1,Zjg (st "abcdef") i.2 0, .no⟩]++[⟨i.6,lst [] i.7.1, .no⟩,⟨i.7.2,Qx (Z3 i.7.3), .no⟩]++[⟨i.3,J8 (.str i.4 i.5), .no⟩]
def Jb3(i:Z90)(U:Ph):Result×List Sl:=(.ok .next,[⟨i.1,(U.w 0).o, .no⟩]++[⟨i.6,lst ((Zp (U.w 1).g).map Is.ref) (Z3 (U.w 1).o), .is (Zp (U.w 1).g)⟩,⟨i.7.2,Z2n [st "letter"] (U.w 2).o, .no⟩]++[⟨i.3,J8 (.str i.4 i.5), .no⟩])
def Zta(env:Env)(S:List Sl):Option Z90:=match env.frame with
 |some f=>(match S with
   |[it,acc,d,ct]=>some ⟨it.a,Z6 (Z1n it.o 0),ct.a,(Jf ct.o).1,(Jf ct.o).2,acc.a,Z3 acc.o,d.a,d.o,f⟩
   |_=>none)
 |none=>none
def Zq6:Zi Z90 where
 code:=Je6
 P i:=Jb2 i
 cond i:=some (True)
 F i _ U:=Jb3 i U
 k:=4
 ext c S:=match c with| .compLoop _ _ _ _ env=>Zta env S|_=>none
 d:=Zf 3
 u:=Ze 3
 z:=true
 D:=some fun i y U=>dTc i.4 (Zp (U.w 1).g)
def Zq7:Zi Z90 where
 code:=Je7
 P i:=Jb2 i
 cond i:=some (True)
 F i _ U:=Jb3 i U
 k:=4
 ext c S:=match c with| .compStart _ _ _ _ env=>Zta env S|_=>none
 d:=Zf 3
 u:=Ze 3
 z:=true
 D:=some fun i y U=>dTc i.4 (Zp (U.w 1).g)
def Jhk:G:=⟨[Zik.ctr],[]⟩
def Je8:G:=⟨[(Zq6).ctr],[]⟩
theorem Je9:J5 (vW (w2 w b c)) (Jhk):=
 gC (Zil _) Ym
theorem J2p:Za (vW (w2 w b c)) (Zq6).ctr:=by
 refine(Zq6).okD (fun i j=> ?_);obtain⟨it,u,Z,a,tt,acc,m,d,o,f⟩:=i;obtain _:=j _ rfl;exact zD4 (Je9 w b c) (fun y=>4) (Z4 0x10b0a0203040506076490801777707070888080818798866682e717787755550505066606061677664b6e05550505157655333303030b6e14754422220202033303031374331104e0 .nil) (p:=∀J q Y X I W:Ph,True/\ckT a=ckT a) (fun y y=>by kernel_rfl) fun y y y y y y=>⟨trivial,rfl⟩
theorem J2q:Za (vW (w2 w b c)) (Zq7).ctr:=by
 have J:J5 (vW (w2 w b c)) (Je8):=⟨fun x I=>by rw[aM.mp I];exact J2p w b c,fun y I=>absurd I aD⟩;refine(Zq7).okD (fun i W=> ?_);obtain⟨it,u,X,a,tt,acc,m,d,o,f⟩:=i;obtain _:=W _ rfl;cases c
 ·cases b
  ·exact zD J (fun y=>4) (Z4 0x1a9ecfe .nil) (p:=(True)/\∀j:Ph,(dTc a (Zp (j.w 1).g))->(True)/\(dTc a (Zp (j.w 1).g))) (fun y y=>by kernel_rfl) (by exact⟨trivial,fun U q=>⟨trivial,q⟩⟩)
  ·exact zD J (fun y=>4) (Z4 0x1a9ecfe .nil) (p:=(True)/\∀j:Ph,(dTc a (Zp (j.w 1).g))->(True)/\(dTc a (Zp (j.w 1).g))) (fun y y=>by kernel_rfl) (by exact⟨trivial,fun U q=>⟨trivial,q⟩⟩)
 ·exact zD J (fun y=>4) (Z4 0x1a9e48e .nil) (p:=(True)/\∀j:Ph,(dTc a (Zp (j.w 1).g))->(True)/\(dTc a (Zp (j.w 1).g))) (fun y y=>by kernel_rfl) (by exact⟨trivial,fun U q=>⟨trivial,q⟩⟩)
abbrev Fc:=Nat×Nat×Bool
def Zq8(f:Nat->Int)(e:Fc):Prop:=match e.2.2 with|true=>f e.1<f e.2.1|false=>f e.1<=f e.2.1
noncomputable def Zq9(p:Fc->Bool):List Fc->Bool
 |[]=>false
 |e::l=>match p e with|true=>true|false=>Zq9 p l
set_option tactic.hygienic true in theorem Zlh {p:Fc->Bool}:∀{l:List Fc},Zq9 p l=true->∃e∈l,p e=true
 |e::l,h=>by
  dsimp only[Zq9] at h
  split at h
  ·rename_i q;exact⟨e, .head _,q⟩
  ·obtain⟨x,hx,q⟩:=Zlh h;exact⟨x, .tail _ hx,q⟩
noncomputable def Zjh(F:List Fc):Nat->Nat->Nat->Bool->Bool
 |0,_,_,_=>false
 |n+1,a,b,s=>Zq9 (fun e=>match cK e.1 a with
  |false=>false
  |true=>match cK e.2.1 b with
   |true=>(match e.2.2 with|true=>true|false=>eK s)
   |false=>Zjh F n e.2.1 b (match e.2.2 with|true=>false|false=>s)) F
set_option tactic.hygienic true in theorem Ze2 {f:Nat->Int}{F:List Fc}(hF:∀e∈F,Zq8 f e):∀n a b s,Zjh F n a b s=true->(match s with|true=>f a<f b|false=>f a<=f b):=by
 intro z0_
 induction z0_ with
 |zero=>
  intro a b s h;contradiction
 |succ n ih=>
  intro a b s h;refine Z7 fun k'=> ?_;obtain⟨⟨x,y,t⟩,he,q⟩:=Zlh h;have k:=hF _ he;simp only at q
  split at q
  ·contradiction
  ·rename_i e1;have e1:=cU e1;subst e1;dsimp only[Zq8] at k
   split at q
   ·rename_i e2;haveI e2:=cU e2;subst e2;cases t
    ·cases s
     ·exact k' (k)
     ·contradiction
    ·cases s
     ·exact k' (eQ k)
     ·exact k' (k)
   ·haveI ih:=ih y b _ q;cases t<;>cases s<;>simp only at ih k⊢<;>lia
noncomputable def Zqa(F:List Fc):List Nat->Bool
 |[]=>true
 |a::r=>match r with
  |[]=>true
  |b::_=>match Zjh F 6 a b (dE b a) with|true=>Zqa F r|false=>false
noncomputable def Zqb(p:List Nat):Nat->Bool
 |0=>true
 |n+1=>match p.any (cK n) with|true=>Zqb p n|false=>false
def Zzy(F:List Fc)(p:List Nat):Bool:=match cK p.length 6 with
 |true=>(match Zqb p 6 with|true=>Zqa F p|false=>false)
 |false=>false
noncomputable def Z5f(F:List Fc):KasT (Array Nat)->Bool
 | .ret p=>Zzy F p.toList
 | .ask i j k=>match Zjh F 6 i j true with
  |true=>Z5f F (k true)
  |false=>match Zjh F 6 j i false with
   |true=>Z5f F (k false)
   |false=>match Z5f ((i,j,true)::F) (k true) with
    |true=>Z5f ((j,i,false)::F) (k false)
    |false=>false
def stB(f:Nat->Int)(a b:Nat):Prop:=f a<f b\/(f a=f b/\a<b)
theorem Zev {f:Nat->Int}{a b c:Nat}(m:stB f a b)(j:stB f b c):stB f a c:=
 m.elim (fun p=> .inl (j.elim (rR p) fun q=>q.1▸p)) fun p=>j.elim (fun q=> .inl (p.1.symm▸q)) fun q=> .inr ⟨p.1.trans q.1,fV p.2 q.2⟩
set_option tactic.hygienic true in theorem Zli {f:Nat->Int}{F:List Fc}(hF:∀e∈F,Zq8 f e):∀p,Zqa F p=true->p.Pairwise (stB f)
 |[],_=>List.Pairwise.nil
 |[a],_=>jZ _ a
 |a::b::r,h=>by
  unfold Zqa at h;simp only at h
  split at h
  ·rename_i q;haveI ih:=Zli hF (b::r) h;haveI d:=Ze2 hF _ _ _ _ q;haveI ab:stB f a b:=by
    unfold stB;cases z:dE b a with
    |true=>simp only[z] at d;exact .inl d
    |false=>
     simp only[z] at d;have:¬b<=a:=fun y=>by rw[kQ y] at z;contradiction
     haveI d:f a<=f b:=d;lia
   rw[dO] at ih⊢;refine⟨fun c hc=> ?_,dO.mpr ih⟩;rcases aC.mp hc with rfl|hc
   ·exact ab
   ·exact Zev ab (ih.1 c hc)
  ·contradiction
set_option tactic.hygienic true in theorem J2r {p:List Nat}:∀n,Zqb p n=true->∀i,i<n->i∈p:=by
 intro z0_
 induction z0_ with
 |zero=>
  intro _ i h;exact absurd h (fY i)
 |succ n ih=>
  intro h i hi;dsimp only[Zqb] at h
  split at h
  ·rename_i q;haveI hO404:=mC.mp q;haveI x:=fC (hO404);haveI hx:=(bF (hO404)).1;haveI e:=(bF (hO404)).2;rcases gV.mp hi with z|z
   ·exact ih h i z
   ·rw[z,cU e];exact hx
  ·contradiction
set_option tactic.hygienic true in theorem Z4z {f:Nat->Int}:∀(t:KasT (Array Nat))(F:List Fc),(∀e∈F,Zq8 f e)->Z5f F t=true->
  (Jh (fun i j=>decide (f i<f j)) t).toList.Pairwise (stB f)/\(Jh (fun i j=>decide (f i<f j)) t).toList.length=6/\∀i,i<6->i∈(Jh (fun i j=>decide (f i<f j)) t).toList
 | .ret p,F,hF,h=>by
  dsimp only[Z5f,Zzy] at h;refine Z7 fun k'=> ?_
  split at h
  ·rename_i q1
   split at h
   ·rename_i q2;exact k' (⟨Zli hF _ h,cU q1,J2r 6 q2⟩)
   ·contradiction
  ·contradiction
 | .ask i j k,F,hF,h=>by
  dsimp only[Z5f] at h;show(Jh _ (k (decide (f i<f j)))).toList.Pairwise (stB f)/\_;refine Z7 fun k'=> ?_
  split at h
  ·rename_i q;haveI d:=Ze2 hF _ _ _ _ q;haveI d:f i<f j:=d;refine k' ?_;simp only[decide_eq_true d];simp only[Jh,decide_eq_true d];exact Z4z (k true) F hF h
  ·split at h
   ·rename_i q;have d:=Ze2 hF _ _ _ _ q;have d:f j<=f i:=d;have d':¬f i<f j:=(cR (d));refine k' ?_;simp only[Jh,decide_eq_false d'];exact Z4z (k false) F hF h
   ·split at h
    ·rename_i q
     by_cases c:f i<f j
     ·refine k' ?_;simp only[Jh,decide_eq_true c];exact Z4z (k true) ((i,j,true)::F) (fun e he=>(aC.mp he).elim (fun z=>z▸c) (hF e)) q
     ·refine k' ?_;simp only[Jh,decide_eq_false c];exact Z4z (k false) ((j,i,false)::F) (fun e he=>(aC.mp he).elim (fun z=>z▸(show f j<=f i by lia)) (hF e)) h
    ·contradiction
theorem Jea:Z5f [] (cD 6)=true:=by kernel_rfl
theorem Zzz(f:Nat->Int):(Jh (fun i j=>decide (f i<f j)) (cD 6)).toList.Pairwise (stB f)/\(Jh (fun i j=>decide (f i<f j)) (cD 6)).toList.length=6/\∀i,i<6->i∈(Jh (fun i j=>decide (f i<f j)) (cD 6)).toList:=
 Z4z _ [] (fun y h=>absurd h aD) Jea
def Kp(h h':Heap):Prop:=∀b o,h.get? b=some o->h'.get? b=some o
def KpX(a:Addr)(h h':Heap):Prop:=∀b o,b≠a->h.get? b=some o->h'.get? b=some o
section
variable {prog:Program}{w:World}{A:Around}{E:Value->Shared->Prop}{s:Shared}
theorem J2s {a:Addr}{n:Nat}{vs:List Value}{f:Value}{kz:List Int}{P:PySem.Fin->Shared->Prop}(ho:s.heap.get? a=some (bL "list" vs.toArray n))(h2:2<=vs.length)(Z:vs.length<64)(hlen:kz.length=vs.length)
  (turn:∀i,i<vs.length->∀h tk,KpX a s.heap h->aU (cP prog w) A (call f [vs.getD i Value.none]) (fun v s'=>∃h' tk' t,Kp h h'/\v= .int (kz.getD i 0) t/\s'={s with heap:=h',toks:=tk'}) (fun y y=>False) {s with heap:=h,toks:=tk})
  (ha:Z74 vs.length (fun i j=>decide (kz.getD i 0<kz.getD j 0)) (cD vs.length))
  (h:∀h' tk c,KpX a s.heap h'->h'.get? a=some (bL "list" ((Jh (fun i j=>decide (kz.getD i 0<kz.getD j 0)) (cD vs.length)).toList.map fun i=>vs.getD i Value.none).toArray c)->P (.done (.ret .none)) {s with heap:=h',toks:=tk}):
  aU (cP prog w) A (ksk_tree a f false) P E s:=by
 have hal:a<s.heap.objs.size:=cV ho;haveI s1:=dY s.heap a (bK fun y=>(#[]:Array Value));obtain⟨W,ho1⟩:∃W,(s.heap.update a (bK fun y=>(#[]:Array Value))).get? a=some (bL "list" #[] W):=⟨_,gI ho fun y=>#[]⟩;have hkS:((s.heap.update a (bK fun y=>(#[]:Array Value))).push (bL "tuple" vs.toArray 0)).objs.size=s.heap.objs.size+1:=by rw[qR,mH]
 unfold ksk_tree;refine aA (nC ho rfl ?_);refine aA (gK ho rfl ?_ (by rw[dL,bV];lia) (bP _));refine aA (kG ho1 rfl ?_);refine aA (lR ?_ (by show vs.length<=_;rw[bV];lia));refine aA (kM ?_ (bP _));refine eC ?_;haveI I:KpX a s.heap (((s.heap.update a (bK fun y=>(#[]:Array Value))).push (bL "tuple" vs.toArray 0)).push (bL "list" #[] 0)):=fun b o q e=>
  aQ _ (aQ _ (by rw[dQ _ _ _ _ q];exact e))
 haveI at1:(((s.heap.update a (bK fun y=>(#[]:Array Value))).push (bL "tuple" vs.toArray 0)).push (bL "list" #[] 0)).get? a=some (bL "list" #[] W):=aQ _ (aQ _ ho1);haveI atk:(((s.heap.update a (bK fun y=>(#[]:Array Value))).push (bL "tuple" vs.toArray 0)).push (bL "list" #[] 0)).get? (s.heap.objs.size+1)=some (bL "list" #[] 0):=by
  rw[<-hkS];exact bT _ rfl
 show aU (cP prog w) A (ksk_rest a f false vs.toArray W (.ref ((s.heap.update a (bK fun y=>(#[]:Array Value))).push (bL "tuple" vs.toArray 0)).objs.size)) P E {s with heap:=((s.heap.update a (bK fun y=>(#[]:Array Value))).push (bL "tuple" vs.toArray 0)).push (bL "list" #[] 0)};rw[hkS]
 generalize ((s.heap.update a (bK fun y=>(#[]:Array Value))).push (bL "tuple" vs.toArray 0)).push (bL "list" #[] 0)=H at I at1 atk
 have hka:s.heap.objs.size+1≠a:=oD (eF hal);have hkn:∀b o,s.heap.get? b=some o->b≠s.heap.objs.size+1:=fun b o e=>fH (eF (cV e))
 generalize s.heap.objs.size+1=kS at atk hka hkn
 unfold ksk_rest;refine aA (jU ?_)
 first
  |rw[List.forIn_toArray]
  |(rw[<-oN];simp only[List.toList_toArray])
  |rw[<-oN]
 refine aA (ksk_fold (fun i s'=>∃h' tk m e,s'={s with heap:=h',toks:=tk}/\KpX a s.heap h'/\h'.get? a=some (bL "list" #[] W)/\h'.get? kS=some (bL "list" m e)/\IntsAre m.toList (kz.take i)) vs 0 {s with heap:=H}
  ⟨H,s.toks,#[],0,rfl,I,at1,atk,by simpa using IntsAre.nil⟩ ?step ?done)
 case step=>
  rintro j x s' hx ⟨h',tk,m,e,rfl,k1,k2,k3,J⟩;simp only[dH] at J⊢;have hj:j<vs.length:=(bJ.mp hx).1;have hxv:x=vs.getD j Value.none:=by rw[aI,hx];rfl
  have hkj:kz[j]?=some (kz.getD j 0):=by rw[aI,aS (by lia)];rfl
  have hz:m.size<=vs.length:=by
   have h1:=J.length;simp only[eI,mI] at h1;lia
  rw[hxv];refine aA (kJ (bC (turn j hj h' tk k1) (fun v s'' he=> ?_) fun y y hF=>hF.elim));refine Z7 fun k'=> ?_;obtain⟨g,tk2,t2,hg,rfl,rfl⟩:=he;refine k' ?_
  try dsimp only
  have nk:=hg _ _ k3;have na:=hg _ _ k2;have s2:=dY g kS (bK (·.push (.int (kz.getD j 0) t2)));obtain⟨c2,hc2⟩:∃c2,(g.update kS (bK (·.push (.int (kz.getD j 0) t2)))).get? kS=some (bL "list" (m.push (.int (kz.getD j 0) t2)) c2):=⟨_,gI nk (·.push (.int (kz.getD j 0) t2))⟩;have ek:kz.take (j+1)=kz.take j++[kz.getD j 0]:=by rw[pF,hkj];simp
  have ea:(m.push (Value.int (kz.getD j 0) t2)).toList=m.toList++[Value.int (kz.getD j 0) t2]:=by simp
  refine aA (gK nk rfl ?_ (by rw[bV];lia) (aK (aT (Array.size_push ..)) (by rw[bV];exact Zm [] [_,_] [Yl, .n Z4h Zfx] (.n Y8 Zlq) rfl hz Z)));refine aH ⟨rfl,_,_,m.push (.int (kz.getD j 0) t2),c2,rfl,fun b o q eb=> ?_, ?_,hc2,by rw[ea,ek];exact ksk_snoc J⟩
  ·exact(s2.2 b (hkn b o eb)).trans (hg _ _ (k1 b o q eb))
  ·exact(s2.2 a hka.symm).trans na
 case done=>
  rintro s' ⟨h',tk,m,e,rfl,k1,k2,k3,J⟩;have Y:IntsAre m.toList kz:=by
   have e3:kz.take (0+vs.length)=kz:=iC (Zm [] [_,_] [Yl] (.n Zr (.a Qs Yi)) rfl (aT hlen));rw[e3] at J;exact J
  have hsz:m.size=vs.length:=by
   have h1:=Y.length;simp only[eI] at h1;exact h1.trans hlen
  try dsimp only
  refine aA (nC k3 rfl ?_);dsimp only[ksk_end]
  try dsimp only
  simp only[cA,if_false];have hn2:¬vs.toArray.size<2:=by rw[dL];exact cQ (h2)
  rw[if_neg hn2,if_neg hn2];rw[ksk_kind Y (by rw[hsz];exact h2)];refine aA (aH ?_);obtain⟨kl⟩:=m;have hkl:kl.length=vs.length:=hsz;have X:∀i,i<vs.length->∃t,kl.getD i Value.none= .int (kz.getD i 0) t:=fun i hi=>by
   have:kz[i]?=some (kz.getD i 0):=by rw[aI,aS (by lia)];rfl
   obtain⟨t,ht⟩:=Y.get i _ this;have ht:kl[i]?=some (.int (kz.getD i 0) t):=ht;exact⟨t,by rw[aI,ht];rfl⟩
  haveI run:=kat_run (prog:=prog) (w:=w) (A:=A) (E:=E) (κ:=oneType') (Q:=fun st' s'=>∃p:Array Nat,p.size=vs.length/\arrOf st'=p.map (kas_item (kl.toArray.zip vs.toArray))/\sR st'=none/\(p=Jh (fun i j=>decide (kz.getD i 0<kz.getD j 0)) (cD vs.length)/\s'={s with heap:=h',toks:=tk}))
   (ks:=kl) (vs:=vs) (G:=fun p s'=>p=Jh (fun i j=>decide (kz.getD i 0<kz.getD j 0)) (cD vs.length)/\s'={s with heap:=h',toks:=tk}) hkl h2 Z (fun p' st' s' a1 a2 a3 a4=>⟨p',a1,a2,a3,a4⟩)
   (Z75 (lt:=fun i j=>decide (kz.getD i 0<kz.getD j 0)) (fun i j C hi hj q=>by
    obtain⟨t,et⟩:=X i hi;obtain⟨u,eu⟩:=X j hj;unfold rD;rw[et,eu];exact oneLt_int q) _ ha ⟨rfl,rfl⟩)
  refine aA (bC run ?_ fun y y e=>e);rintro⟨⟨⟩,st'⟩ s' ⟨p,hp,har,hf,ep,rfl⟩;subst ep;dsimp only[ksk_tail]
  try dsimp only
  haveI hout:=kat_snds hkl har;haveI hsz3:(jD ((Jh (fun i j=>decide (kz.getD i 0<kz.getD j 0)) (cD vs.length)).toList.map fun i=>vs.getD i Value.none)).size=vs.length:=by simp only[dL,aE,eI,hp]
  rw[hout];haveI s2:=dY h' kS (bK fun y=>(#[]:Array Value));have na1:(h'.update kS (bK fun y=>(#[]:Array Value))).get? a=some (bL "list" #[] W):=(s2.2 a hka.symm).trans k2;obtain⟨c2,hc2⟩:∃c2,((h'.update kS (bK fun y=>(#[]:Array Value))).update a (bK fun y=>jD ((Jh (fun i j=>decide (kz.getD i 0<kz.getD j 0)) (cD vs.length)).toList.map fun i=>vs.getD i Value.none))).get? a=some (bL "list" (jD ((Jh (fun i j=>decide (kz.getD i 0<kz.getD j 0)) (cD vs.length)).toList.map fun i=>vs.getD i Value.none)) c2):=⟨_,gI na1 fun y=>_⟩;refine aA (gK k3 rfl ?_ (by rw[hsz,bV];lia) (bP _));refine aA (kF ?_);refine aA (kG na1 rfl ?_);refine aA (gK na1 rfl ?_ (bP _) (aK (aT hsz3) (by rw[bV];exact Zm [] [_] [.n Y8 Zfx] (.n Zr Zlq) rfl Z)));rw[hf];simp only[bne_self_eq_false,cA,if_false];exact aH (h _ _ c2 (fun b o q e=>by rw[dQ _ _ _ _ q];exact(s2.2 b (hkn b o e)).trans (k1 b o q e)) hc2)
theorem J2t {l a:Addr}{vs:List Value}{kz:List Int}{R:Result->Shared->Prop}(hl:s.heap.IsList l vs.toArray)(h2:2<=vs.length)(h64:vs.length<64)(Z:kz.length=vs.length)
  (turn:∀i,i<vs.length->∀h tk,Kp s.heap h->aU (cP prog w) A.in1.in1 (call (.ref a) [vs.getD i Value.none]) (fun v s'=>∃h' tk' t,Kp h h'/\v= .int (kz.getD i 0) t/\s'={s with heap:=h',toks:=tk'}) (fun y y=>False) {s with heap:=h,toks:=tk})
  (X:Z74 vs.length (fun i j=>decide (kz.getD i 0<kz.getD j 0)) (cD vs.length))
  (hR:∀h' tk D c,Kp s.heap h'->s.heap.get? D=none->h'.get? D=some (bL "list" ((Jh (fun i j=>decide (kz.getD i 0<kz.getD j 0)) (cD vs.length)).toList.map fun i=>vs.getD i Value.none).toArray c)->R (.ok (.ret (.ref D))) {s with heap:=h',toks:=tk}):
  bR (cP prog w) A (.call (.builtin "sorted") ⟨[.ref l],[(aB "key", .ref a)]⟩) R s:=by
 refine eH plain_sorted entry_sorted ?_;have body:aU (cP prog w) A.in1 (jO ⟨[.ref l],[(aB "key", .ref a)]⟩) (fun fin s'=>match fin with
   | .done f=>R (.ok f) s'
   | .again c'=>c'.quiet=true/\bR (cP prog w) A c' R s') (fun e s'=>R (.error e) s') s:=by
  unfold jO;refine aA (m:=checkCount "sorted" 1 1 _) (aH ?_);refine aA (collect_list hl ?_ (by rw[bV];lia));refine aA (kM ?_ (by rw[bV];lia));have W:((s.heap.push (bL "list" #[] 0)).update s.heap.objs.size (bK (·++vs.toArray))).objs.size=s.heap.objs.size+1:=by
   rw[mH,qR]
  haveI Y:(((s.heap.push (bL "list" #[] 0)).update s.heap.objs.size (bK (·++vs.toArray))).push (bL "list" vs.toArray 0)).get? (s.heap.objs.size+1)=some (bL "list" vs.toArray 0):=by
   simp only[<-W];exact bT _ rfl
  haveI I:∀b o,s.heap.get? b=some o->(((s.heap.push (bL "list" #[] 0)).update s.heap.objs.size (bK (·++vs.toArray))).push (bL "list" vs.toArray 0)).get? b=some o:=fun b o q=>by
   haveI J:b<s.heap.objs.size:=cV q;rw[jP _ _ _ (by simp only[W];exact fH (eF J)),dQ _ _ _ _ (fH J),jP _ _ _ (fH J)];exact q
  haveI ne:∀b o,s.heap.get? b=some o->b≠s.heap.objs.size+1:=fun b o q=>fH (eF (cV q));show aU _ _ _ _ _ {s with heap:=((s.heap.push (bL "list" #[] 0)).update s.heap.objs.size (bK (·++vs.toArray))).push (bL "list" vs.toArray 0)};rw[W];refine aA (eC (wpAny_call_entry_kw sS ⟨_,Y,rfl⟩ sG ?body (ksk_l1 _ _)))
  case body=>
   show aU (cP prog w) A.in1.in1 (Builtin.«list.sort» ⟨[.ref (s.heap.objs.size+1)],[(aB "key", .ref a)]⟩) _ _ _;simp only[ksk_t1];refine J2s (s:={s with heap:=((s.heap.push (bL "list" #[] 0)).update s.heap.objs.size (bK (·++vs.toArray))).push (bL "list" vs.toArray 0)}) Y h2 h64 Z
    (fun i hi h tk q=>turn i hi h tk fun b o e=>q b o (ne b o e) (I b o e)) X ?_
   intro h' tk c q e;refine⟨_,rfl,aH ?_⟩;exact hR h' tk _ c (fun b o e=>q b o (ne b o e) (I b o e)) (oH (gL _)) e
 simp only[kO,kind_sorted];haveI X:jW "sorted" ⟨[.ref l],[(aB "key", .ref a)]⟩:=ksk_s1 _ _;cases hsig:iR "sorted" with
 |none=>exact aH body
 |some sig=>
  simp only[jW,hsig] at X;haveI h2:fN "sorted" sig ⟨[.ref l],[(aB "key", .ref a)]⟩=pure ():=X;show aU _ A.in1 (fN "sorted" sig ⟨[.ref l],[(aB "key", .ref a)]⟩) _ _ s;simp only[h2];exact aH body
end
def Zji:Expr:=Z8g (Zdt (Z8f (Zhn (Z1r 13)) 0)) 0
noncomputable def cKz(j:Nat)(e:Is)(_:Cd):Code:= .call (.ref j) ⟨[.ref e.a],[]⟩
def pKz(j:Nat)(a:Cd)(l:Nat)(o:Obj)(e:Is):List Sl:=[Z48 j Zji [] .none a,⟨l,o, .is [e]⟩]
theorem Jeb(j:Nat)(a:Cd)(l:Nat)(o:Obj)(e:Is):J7 (vW (w2 w b c)) true false (Zf 2) (Ze 2) (cKz j e a) (pKz j a l o e) (fun U=>(.ok (.ret (.int (-e.c) (Z6 U.rv))),pKz j a l o e)):=
 zN2 Ym 2 (Z4 0x1e3e113013013131310119e .nil) (p:=True) (fun y y=>by kernel_rfl) trivial
theorem St.rebase {v:V}{B:Zt}{lg:Lg}{s:Shared}(st:St v B lg s){W:List Sl}(I:∀x∈W,Ji s.heap x)(q:∀x∈W,x.a∈lg.sl.map Sl.a)(X:(W.map Sl.a).Nodup):
  St v ⟨s,W.map Sl.a,[]⟩ ⟨s.heap.objs.size,0,s.toks,0,W⟩ s:=by
 haveI m:∀x∈W,v.kt.get x.a=none:=fun x J=>by
  obtain⟨y,j,e⟩:=aN.mp (q x J);rw[<-e];exact st.rep.low y j
 exact⟨⟨rfl,I,X,m,st.rep.kt,st.rep.stat,fun y j=> .inr (aL j),fun z z e z z=>e,fun z z e z=>e,st.rep.nolim,st.rep.big,fun b Y=>absurd Y aD⟩,rfl,rfl,rfl,rfl⟩
theorem Kp.trans {a b c:Heap}(j:Kp a b)(m:Kp b c):Kp a c:=fun x o e=>m x o (j x o e)
theorem Ztb {v:V}{m y:Shared}{P:List Sl}{n t:Nat}(st:St v ⟨m,P.map Sl.a,[]⟩ ⟨n,0,t,0,P⟩ y)(I:∀x∈P,m.heap.get? x.a=some x.o)(J:∀x∈P,Zy x.g=true):Kp m.heap y.heap:=by
 intro b o e
 by_cases q:b∈P.map Sl.a
 ·obtain⟨x,j,rfl⟩:=aN.mp q;haveI k:=(st.old.plain j (J x j)).1;rw[I x j] at e;cases e;exact k
 ·exact st.rep.frame b o e q aD
def skL(L:List Is):List Is:=(Jh (fun i j=>decide ((L.map fun e=>-e.c).getD i 0<(L.map fun e=>-e.c).getD j 0)) (cD 6)).toList.map fun i=>L.getD i Zo
abbrev SkI:=I5 Nat Nat (List Is) Nat Cd
def cSk(i:SkI):Code:= .call (.builtin "sorted") ⟨[.ref i.1],[(st "key", .ref i.4)]⟩
def pSk(i:SkI):List Sl:=[⟨i.1,lst (i.3.map Is.ref) i.2, .is i.3⟩,Z48 i.4 Zji [] .none i.5]
def fSk:Zi SkI where
 code:=cSk
 P:=pSk
 cond i:=some (i.3.length=6)
 F i _ U:=(.ok (.ret (.ref (U.w 0).a)),⟨(U.w 0).a,lst ((skL i.3).map Is.ref) (Z3 (U.w 0).o), .is (skL i.3)⟩::pSk i)
 k:=2
 nn _:=1
 ext _ S:=match S with
  |[r,f]=>(match r.g with
   | .is L=>some ⟨r.a,Z3 r.o,L,f.a,Yn f.g⟩
   |_=>none)
  |_=>none
 d:=Zf 3
 u:=Ze 3
 z:=true
theorem Jhl:Z9g 6 (cD 6)=true:=by kernel_rfl
theorem Jhm:okT 6 (cD 6)=true:=by kernel_rfl
theorem Jec:Za (vW (w2 w b c)) fSk.ctr:=by
 refine fSk.ok (fun i hc=> ?_);have h6:=hc _ rfl;obtain⟨l,n,L,Z,cd⟩:=i;simp only at h6;intro A s hh out fr hz hA X;haveI hn:=hz rfl;subst hn;haveI sl0:(⟨l,lst (L.map Is.ref) n, .is L⟩:Sl)∈pSk ⟨l,n,L,Z,cd⟩:= .head _;haveI sl1:Z48 Z Zji [] .none cd∈pSk ⟨l,n,L,Z,cd⟩:= .tail _ (.head _);have hO6037:=X.old.plain sl0 rfl;have at0:=hO6037.1;have g0:=hO6037.2;haveI hO6055:=X.old.plain sl1 rfl;haveI at1:=hO6055.1;haveI g1:=hO6055.2;have J:(L.map Is.ref).length=6:=by rw[aE];exact h6
 haveI klen:(L.map fun e=>-e.c).length=(L.map Is.ref).length:=by simp only[aE,aE]
 refine J2t (A:=A) (vs:=L.map Is.ref) (kz:=L.map fun e=>-e.c) ⟨_,at0,rfl,n,rfl⟩ (aK (by decide) (aT J.symm)) (Zm [] [_] [.n Zr (.n 6)] Zlt rfl (aT J)) klen ?_ (by rw[J];exact Zc3 _ Jhm) ?_
 ·intro i Y h tk I;simp only[J,<-h6] at Y;haveI hm:L.getD i Zo∈L:=by rw[aI,aS Y];exact dD Y
  haveI ek:(L.map fun e=>-e.c).getD i 0=-(L.getD i Zo).c:=by
   simp only[aI,bE,aS Y,aI,aS Y];rfl
  rw[Z4t L i Y,ek]
  generalize L.getD i Zo=e at hm
  haveI st1:=X.kept (h':=h) (tk:=tk) I (Qv X I);haveI st2:=st1.rebase (W:=pKz Z cd l (lst (L.map Is.ref) n) e) (fun x m=>by
    simp only[pKz,aC,aD,or_false] at m;rcases m with rfl|rfl
    ·exact Je (s:=Z48 Z Zji [] .none cd) (g:=(Z48 Z Zji [] .none cd).g) rfl (I _ _ at1) (g1.mono fun b o e y=>I b o e)
    ·exact Je (s:=⟨l,lst (L.map Is.ref) n, .no⟩) (g:= .is [e]) rfl (I _ _ at0) (fun x m=>by rw[aM.mp m];exact I _ _ (g0 e hm)))
   (fun x m=>by
    simp only[pKz,aC,aD,or_false] at m;rcases m with rfl|rfl
    ·exact .tail _ (.head _)
    ·exact .head _)
   (by
    haveI nd:=X.rep.nodup;haveI nd:[l,Z].Nodup:=nd;show[Z,l].Nodup;simp only[bM,aM,aD,not_false_eq_true,gJ,and_true] at nd⊢;exact fun z=>nd z.symm)
  haveI q:=Jeb w b c Z cd l (lst (L.map Is.ref) n) e A.in1.in1 {s with heap:=h,toks:=tk} none [] [] (fun y=>rfl)
   ⟨aK hA.depth (show(690:Nat)<=760 by decide),by
    haveI h1:A.units<=7000:=hA.units;show A.units+1+1<=7500;exact Zm [] [_] [.n Zr (.n 7000)] (.n (.a Y8 Q4) (.n 7500)) rfl h1,hA.hh,fun y z=>nomatch z⟩ st2
  refine nU (cC q ?_);rintro r s' ⟨_,_,_,U,rfl,st'⟩;refine⟨s'.heap,s'.toks,Z6 U.rv,Ztb st' (fun x m=> ?_) (fun x m=> ?_),rfl, ?_⟩
  ·simp only[pKz,aC,aD,or_false] at m;rcases m with rfl|rfl
   ·exact I _ _ at1
   ·exact I _ _ at0
  ·simp only[pKz,aC,aD,or_false] at m;rcases m with rfl|rfl<;>rfl
  ·haveI e1:=st'.gens;haveI e2:=st'.drawn;haveI e3:=st'.os;obtain⟨hp,g,dr,tk',os'⟩:=s';simp only at e1 e2 e3;simp only[e1,e2,e3]
 ·intro h' tk D cc I hD hd;haveI p6:=(Zzz fun i=>(L.map fun e=>-e.c).getD i 0);have hlt:∀i∈(Jh (fun i j=>decide ((L.map fun e=>-e.c).getD i 0<(L.map fun e=>-e.c).getD j 0)) (cD 6)).toList,i<L.length:=by
   rw[h6];exact Z76 _ Jhl
  rw[J] at hd;haveI ed:((Jh (fun i j=>decide ((L.map fun e=>-e.c).getD i 0<(L.map fun e=>-e.c).getD j 0)) (cD 6)).toList.map fun i=>(L.map Is.ref).getD i Value.none)=(skL L).map Is.ref:=by
   unfold skL;simp only[bS];exact eN fun i Y=>Z4t L i (hlt i Y)
  rw[ed,Z5s] at hd;haveI gs:Y1 h' (.is (skL L)):=fun e he=>by
   unfold skL at he;obtain⟨i,Y,rfl⟩:=aN.mp he;haveI hl:=hlt i Y;haveI hm:L.getD i Zo∈L:=by rw[aI,aS hl];exact dD hl
   exact I _ _ (g0 _ hm)
  haveI st:=X.keptNew (h':=h') (tk:=tk) I (Qv X I) (D:=⟨D,lst ((skL L).map Is.ref) cc, .is (skL L)⟩) hD (Je (s:=⟨D,lst ((skL L).map Is.ref) cc, .no⟩) (g:= .is (skL L)) rfl hd gs);exact⟨0,aX,trivial,⟨h'.objs.size-8,tk, .none,fun y=>⟨D,lst ((skL L).map Is.ref) cc, .no⟩⟩,rfl,st⟩
abbrev RvI:=I5 Nat Nat (List Is) Nat Nat
noncomputable def cRv(i:RvI):Code:= .call (.builtin "list.__getitem__") ⟨[.ref i.1, .ref i.4],[]⟩
def pRv(i:RvI):List Sl:=[⟨i.1,lst (i.3.map Is.ref) i.2, .is i.3⟩,⟨i.4,slO .none .none (.int (-1) i.5), .no⟩]
def fRv:Zi RvI where
 code:=cRv
 P:=pRv
 cond i:=some (i.3.length=6)
 F i _ U:=(.ok (.ret (.ref (U.w 0).a)),⟨(U.w 0).a,lst (i.3.reverse.map Is.ref) (Z3 (U.w 0).o), .is i.3.reverse⟩::pRv i)
 k:=2
 nn _:=1
 ext _ S:=match S with
  |[l,x]=>(match l.g with
   | .is L=>some ⟨l.a,Z3 l.o,L,x.a,Z6 (Z1n x.o 2)⟩
   |_=>none)
  |_=>none
 d:=Zf 0
 u:=Ze 0
theorem Jhn(v:Nat->Is)(t:Nat):Q6 (((aJ 6).map v).map Is.ref) .none .none (.int (-1) t)=((aJ 6).map v).reverse.map Is.ref:=by kernel_rfl
theorem Jed(w:World):Za (vW w) fRv.ctr:=by
 refine fRv.ok (fun i hc=> ?_);have q:=hc _ rfl;obtain⟨l,n,L,sl,t⟩:=i;simp only at q;intro A s hh out fr _ hA j;have a:=j.old.plain (s:=⟨l,LW.lst (L.map Is.ref) n, .is L⟩) (.head _) rfl;have X:=a.1;have Z:=a.2;haveI m:=j.old.plain (s:=⟨sl,slO .none .none (.int (-1) t), .no⟩) (.tail _ (.head _)) rfl;haveI W:=m.1;haveI er:Q6 (L.map Is.ref) .none .none (.int (-1) t)=L.reverse.map Is.ref:=by
  obtain⟨v,e⟩:=Z4o Zo q;rw[e];exact Jhn v t
 refine Zck (l:=l) (sl:=sl) (vs:=L.map Is.ref) X W (.inl rfl) (.inl rfl) (.inr ⟨-1,t,rfl⟩) (by simp[Z08]) (by rw[aE];exact aK (aT q) (by decide)) ?_;rw[er];haveI J:∀I o,s.heap.get? I=some o->(s.heap.push (LW.lst (L.reverse.map Is.ref) 0)).get? I=some o:=fun I o e=>aQ _ e;haveI gs:Y1 (s.heap.push (LW.lst (L.reverse.map Is.ref) 0)) (.is L.reverse):=fun e Y=>J _ _ (Z e (mJ.mp Y));haveI st:=j.keptNew (tk:=s.toks) J (Qv j J) (D:=⟨s.heap.objs.size,LW.lst (L.reverse.map Is.ref) 0, .is L.reverse⟩) (Z0j s.heap) (Je (s:=⟨s.heap.objs.size,LW.lst (L.reverse.map Is.ref) 0, .no⟩) (g:= .is L.reverse) rfl (bT _ rfl) gs);exact⟨0,aX,trivial,⟨(s.heap.push (LW.lst (L.reverse.map Is.ref) 0)).objs.size-8,s.toks, .none,fun y=>⟨s.heap.objs.size,LW.lst (L.reverse.map Is.ref) 0, .no⟩⟩,rfl,st⟩
abbrev ReI:=I7 Nat Obj Nat Str Nat Nat (I7 Nat (List Is) Nat Nat (List Is) Cd (I2 Cd Cd))
def pRe(i:ReI):List Sl:=[⟨i.1,frO i.2 (Zpu i.2 i.6 i.7.3), .no⟩,⟨i.3,J8 (.str i.4 i.5), .no⟩,⟨i.6,lst (i.7.2.map Is.ref) i.7.1, .is i.7.2⟩,⟨i.7.3,lst (i.7.5.map Is.ref) i.7.4, .is i.7.5⟩,Z7i [k1 i.7.6,k2 i.7.7.1,k3 i.7.7.2]]
def gRe:G:=⟨[Zq7.ctr,fSk.ctr,fRv.ctr],Z7g⟩
def Jho:LW.K Flow:=fun f lg hs=>match f with| .ret v=>Z55 v lg 1 hs fun y W y=>Z8.ob (.val v) (.val (.bool true)) (Z8.ob (.val (.bool (Zy (Qo v lg W|>.w 0).g))) (.val (.bool true)) (Z53 W [⟨307,Zv (Zu (Qo v lg W|>.w 0).o),(Qo v lg W|>.w 0).g⟩] (Z8.fin True)))|_=>Zd "the return"
def J00(w:World)(i:ReI)(m j cm a q cs N T:Nat)(hs:Hs):Z8:=
 (Ql (vW w) gRe 100000).sx [Z1r 13] (Zsz i.1 i.3 m j cm a q cs) Zj5 ⟨aO N 8,0,T,0,pRe i⟩ hs Jho fun y y y=>Zd "an exception at the return"
theorem Jhp(f:Nat)(fo:Obj)(ct:Nat)(a:Str)(tt W no:Nat)(O:List Is)(sa ns:Nat)(S:List Is)(c1 c2 c3:Cd)(cl X cm Y ce cs:Nat)(hT:∀L:List Is,L.map Is.ck=ckT a->O.map Is.ck=(skL L).map Is.ck)(m:(Dt.is (O.map Is.ck)).ok)(h6:O.length=6)(hS:S.map Is.ck=O.reverse.map Is.ck)(N T:Nat):
  Z5 (J00 (w2 w b c) (⟨f,fo,ct,a,tt,W,no,O,sa,ns,S,c1,c2,c3⟩:ReI) cl X cm Y ce cs N T ((Z4 0x1011fc6e10f50000ef30a6e00ccc6ed501a5e820de94e08011104048e2110de1 .nil))):=by
 have q:(True)/\∀j:Ph,(dTc a (Zp (j.w 1).g))->((Zp (j.w 1).g).length=6)/\∀U2:Ph,((Dt.is (aF Is.ck O)).ok/\(Dt.is (aF Is.ck (skL (Zp (j.w 1).g)))).ok)/\(Dt.is (aF Is.ck O)=Dt.is (aF Is.ck (skL (Zp (j.w 1).g))))/\(O.length=6)/\∀Z:Ph,((Dt.is (aF Is.ck S)).ok/\(Dt.is (aF Is.ck O.reverse)).ok)/\(Dt.is (aF Is.ck S)=Dt.is (aF Is.ck O.reverse))/\True:=by
  refine⟨trivial,fun j I=>⟨?_,fun U2=> ?_⟩⟩
  ·have:=congrArg hN (show(Zp (j.w 1).g).map Is.ck=ckT a from I);rw[aE] at this;exact this
  ·have q:=hT _ I;have y:(Dt.is (O.reverse.map Is.ck)).ok:=fun p J=>m p (by rw[mK] at J;exact mJ.mp J);rw[<-q,hS];exact⟨⟨m,m⟩,rfl,h6,fun Z=>⟨⟨y,y⟩,rfl,trivial⟩⟩
 cases b<;>
 cases c<;>
 exact Zx (by kernel_rfl) q
theorem St.keptSet {v:V}{B:Zt}{n t:Nat}{sl:Sl}{rest:List Sl}{s:Shared}(st:St v B ⟨n,0,t,0,sl::rest⟩ s)(hx:Zy sl.g=true)(hc:¬Fix sl.o){h':Heap}{tk:Nat}
  (m:∀b o,b≠sl.a->s.heap.get? b=some o->h'.get? b=some o) (J:8<=h'.objs.size) {o':Obj} {g':Gd} (he:Zy g'=true) (ge:h'.get? sl.a=some o') (X:Y1 h' g'):
  St v B ⟨aO (h'.objs.size-8) 8,0,tk,0,⟨sl.a,o',g'⟩::rest⟩ {s with heap:=h',toks:=tk}:=by
 have R:=st.rep;haveI e8:aO (h'.objs.size-8) 8=h'.objs.size:=bG J;have h0:s.heap.get? sl.a=some sl.o:=(R.slots sl (.head _)).plain hx;have j:=R.low sl (.head _);have y:∀b o,s.heap.get? b=some o->Fix o->h'.get? b=some o:=fun b o e q=>m b o (by rintro rfl;rw[h0] at e;cases e;exact hc q) e;haveI nd:sl.a∉rest.map Sl.a/\(rest.map Sl.a).Nodup:=bM.mp R.nodup;refine⟨⟨by show h'.objs.size=aO (aO _ 8) 0;rw[e8],fun x hx'=> ?_,R.nodup,fun x hx'=> ?_,fun a o e=>m _ _ ?_ (R.kt a o e),R.stat,fun x hx'=> ?_,fun b o e Y q2=>m _ _ ?_ (R.frame b o e Y q2),fun b o e q=>y _ _ (R.tup b o e q) q,R.nolim.at fun o e=>m _ _ ?_ e,J,fun b W=> ?_⟩,rfl,st.gens,st.drawn,st.os⟩
 ·rcases aC.mp hx' with rfl|hx'
  ·exact Je (s:=⟨sl.a,o',g'⟩) he ge X
  ·refine(R.slots x (.tail _ hx')).mono (fun o e=>m _ _ (fun q=>nd.1 ?_) e) y;simp only[<-q];exact aL hx'
 ·rcases aC.mp hx' with rfl|hx'
  ·exact j
  ·exact R.low x (.tail _ hx')
 ·rintro rfl;rw[j] at e;contradiction
 ·rcases aC.mp hx' with rfl|hx'
  ·exact R.own sl (.head _)
  ·exact R.own x (.tail _ hx')
 ·rintro rfl;rcases R.own sl (.head _) with z|z
  ·rw[z] at e;contradiction
  ·exact Y z
 ·intro q;obtain⟨o2,e2⟩:=R.stat;rw[q,j] at e2;contradiction
 ·refine Z7 fun k'=> ?_;obtain⟨Z,I,o,h3,h4⟩:=R.frs b W;refine k' ?_;refine⟨Z,fun x hx'=> ?_,o,m _ _ (fun q=>I sl (.head _) q.symm) h3,h4⟩;rcases aC.mp hx' with rfl|hx'
  ·exact I sl (.head _)
  ·exact I x (.tail _ hx')
theorem J2u {w:World}{s:Shared}{B:Zt}{sl:Sl}{rest:List Sl}{n t:Nat}(st:St (vW w) B ⟨n,0,t,0,sl::rest⟩ s){h':Heap}(m:∀b o,b≠sl.a->s.heap.get? b=some o->h'.get? b=some o):8<=h'.objs.size:=by
 have e:(vW w).kt.get 310=some Zak:=by kernel_rfl
 have j:310≠sl.a:=fun q=>by
  have:=st.rep.low sl (.head _);rw[<-q,e] at this;cases this
 have h:310<h'.objs.size:=cV (m _ _ j (st.rep.kt _ _ e));exact lY (fV (by decide) h)
theorem J2v:∀{vs:List Value}{f:Nat->Int},(∀(j:Nat) (v:Value),vs[j]?=some v->∃t,v=Value.int (f j) t)->Zc vs=some ((aJ vs.length).map f):=by
 intro m
 induction m with
 |nil=>
  intro f _;exact rfl
 |cons v vs a=>
  intro f h;obtain⟨t,rfl⟩:=h 0 v rfl;haveI a:=a (f:=fun j=>f (j+1)) fun j v q=>h (j+1) v (by simpa using q);show(match Zc vs with|some r=>some (f 0::r)|none=>none)=_;simp only[a,bQ,nQ,aP,bS];rfl
structure LnI where
 r:Nat
noncomputable def cLn(i:LnI):Code:= .call (.builtin "list.__new__") ⟨[.type "list", .ref i.r],[]⟩
def fLn:Zi LnI where
 code:=cLn
 P _:=[]
 cond _:=none
 F _ _ U:=(.ok (.ret (.ref (U.w 0).a)),[⟨(U.w 0).a,LW.lst [] 0, .no⟩])
 k:=0
 nn _:=1
 ext c _:=match c with| .call _ ⟨[_, .ref r],[]⟩=>some ⟨r⟩|_=>none
 d:=Zf 0
 u:=Ze 0
theorem Jee(w:World):Za (vW w) fLn.ctr:=by
 refine fLn.ok (fun i y=> ?_);obtain⟨r⟩:=i;intro A s hh out fr _ J a;haveI q:bR (cP PySem.Challenge.pw_wb0105_01 w) A (.call (.builtin "list.__new__") ⟨[.type "list", .ref r],[]⟩) (wants (fun v s'=>v= .ref s.heap.objs.size/\s'={s with heap:=s.heap.push (LW.lst [] 0)}) (fun y y=>False)) s:=PySem.code_list_new _ ⟨rfl,rfl⟩;refine cC q fun x s' j=> ?_;cases x with
 |error e=>exact j.elim
 |ok f=>
  cases f with
  |ret v=>
   obtain⟨rfl,rfl⟩:=j;haveI I:∀m o,s.heap.get? m=some o->(s.heap.push (LW.lst [] 0)).get? m=some o:=fun m o e=>aQ _ e;haveI st:=a.keptNew (tk:=s.toks) I (Qv a I) (D:=⟨s.heap.objs.size,LW.lst [] 0, .no⟩) (Z0j s.heap) ⟨bT _ rfl,trivial⟩;exact⟨0,aX,trivial,⟨(s.heap.push (LW.lst [] 0)).objs.size-8,s.toks, .none,fun y=>⟨s.heap.objs.size,LW.lst [] 0, .no⟩⟩,rfl,st⟩
  |_=>exact j.elim
abbrev LiI:=I6 Nat Nat Int Nat Nat Nat
noncomputable def Zqc(x:Int)(t u v:Nat):Obj:=⟨.type "range",none, .fields ⟨[.int 0 t, .int x u, .int 1 v]⟩,⟨[]⟩⟩
noncomputable def cLi(i:LiI):Code:= .call (.builtin "list.__init__") ⟨[.ref i.1, .ref i.2],[]⟩
def pLi(i:LiI):List Sl:=[⟨i.1,LW.lst [] 0, .no⟩,⟨i.2,Zqc i.3 i.4 i.5 i.6, .no⟩]
def fLi:Zi LiI where
 code:=cLi
 P:=pLi
 cond i:=some (0<=i.3/\i.3<=1000)
 F i _ U:=(.ok (.ret .none),[⟨i.1,LW.lst (Z1 (U.w 0).o) (Z3 (U.w 0).o), .no⟩,⟨i.2,Zqc i.3 i.4 i.5 i.6, .no⟩])
 k:=2
 ext _ S:=match S with
  |[l,r]=>some ⟨l.a,r.a,vI (Z1n r.o 1),Z6 (Z1n r.o 0),Z6 (Z1n r.o 1),Z6 (Z1n r.o 2)⟩
  |_=>none
 d:=Zf 0
 u:=Ze 0
 z:=true
 D:=some fun i y U=>Zc (Z1 (U.w 0).o)=some ((aJ i.3.toNat).map Int.ofNat)
theorem J2w {prog:Program}{w:World}{A:Around}{s:Shared}{l r:Nat}{x:Int}{t u v:Nat}{R:Result->Shared->Prop}(hh:A.handled=none)(J:s.heap.get? l=some (LW.lst [] 0))(X:s.heap.get? r=some (Zqc x t u v))(h0:0<=x)(h1:x<=1000)
  (h:∀h' tk vs c,(∀b o,b≠l->s.heap.get? b=some o->h'.get? b=some o)->h'.get? l=some (LW.lst vs c)->Zc vs=some ((aJ x.toNat).map Int.ofNat)->R (.ok (.ret .none)) {s with heap:=h',toks:=tk}):
  bR (cP prog w) A (.call (.builtin "list.__init__") ⟨[.ref l, .ref r],[]⟩) R s:=by
 have W:lW 0 x 1=(x.toNat:Int):=by
  unfold lW;rw[if_pos (by decide)]
  by_cases q:0<x
  ·rw[if_pos q];lia
  ·rw[if_neg q];lia
 haveI Z:mX 0 x 1=true:=by
  unfold mX;rw[W];haveI f:∀y:Int,0<=y->y<=2000->lJ y=true:=fun y a b=>by
   unfold lJ;simp only[fM,decide_eq_true_eq];lia
  rw[f 0 (bX _) (aR _),f x h0 (cJ h1 (by decide)),f 1 (aR _) (aR _),f (x.toNat:Int) (aR _) (by lia),if_pos (by decide),f (x+(1-1)) (Zm [_] [] [Z6m] (.z Qs (.a Jb (.s Q4 Q4))) rfl h0) (by lia)];simp
 refine eH F.called_list.init.plain F.entry_list_init (F.called_list.init.check _ _ _ _ _ _ _ _ ⟨_,J,rfl⟩ (F.args_list_init_2 _ _)
  (PySem.wpAny_list_init_range (A:=A) hh X Z W (by lia) l J fun h' tk m c' hk Y I=> ?_))
 haveI ei:Zc m.toList=some ((aJ x.toNat).map Int.ofNat):=by
  have:=J2v (vs:=m.toList) (f:=Int.ofNat) fun j y hj=>by
   obtain⟨t',e⟩:=I.2 j y (by rw[<-fZ];exact hj);exact⟨t',by rw[e];congr 1;show(0:Int)+(j:Int)*1=Int.ofNat j;simp only[bZ];lia⟩
  rwa[eI,I.1] at this
 exact h h' tk m.toList c' hk Y ei
theorem Jef(w:World):Za (vW w) fLi.ctr:=by
 refine fLi.okD (fun i hc=> ?_);obtain⟨l,r,x,t,u,v⟩:=i;haveI a:=hc _ rfl;haveI W:=a.1;haveI m:=a.2;simp only at W m;intro A s hh out fr hz Z j;haveI J:=(j.rep.slots ⟨l,LW.lst [] 0, .no⟩ (.head _)).plain rfl;haveI q:=(j.rep.slots ⟨r,Zqc x t u v, .no⟩ (.tail _ (.head _))).plain rfl;refine J2w (by rw[Z.hh];exact hz rfl) J q W m fun h' tk vs c I Y X=> ?_;haveI st:=j.keptSet (h':=h') (tk:=tk) rfl Z4r I (J2u j I) (g':= .no) rfl Y trivial;exact⟨0,aX,trivial,⟨h'.objs.size-8,tk, .none,fun y=>⟨l,LW.lst vs c, .no⟩⟩,X,rfl,st⟩
def sxN(o:Jr)(env:Env)(x:Cx)(K:Lg->Hs->Z8):List Stmt->Lg->Hs->Z8:=
 List.rec (motive:=fun y=>Lg->Hs->Z8) K (fun st y a lg hs=>exS o st env x lg hs (fun f lg hs=>match f with| .next=>a lg hs|_=>Zd "a flow on the way") fun y y y=>Zd "an exception on the way")
def Zqd(o:Jr)(a:Expr)(env:Env)(x:Cx)(lg:Lg)(hs:Hs)(K:LW.K Value):Z8:=
 o.ev a env x lg hs (fun v lg hs=>o.tr Value (do let y<-Z11 a env v;kC a.pos;Zcz y) x lg hs K fun z z z=>Zd "iter") fun z z z=>Zd "iter"
def Zxz(o:Jr)(q m:List Stmt)(j:Expr)(a:Addr)(I:FuncData)(args:Args)(x:Cx)(lg:Lg)(hs:Hs)(K:List Stmt->Env->Cx->LW.K Value):Z8:=
 o.tr Code (Z97 a I args) (x.under (.call (.ref a) args)) lg hs (fun c lg hs=>match c with
  | .func body env=>Z8.ob (.code (.block body env)) (.code (.block q env)) (sxN o env (x.under (.func body env)) (fun lg hs=>Zqd o j env (x.under (.func body env)) lg hs (K body env (x.under (.func body env)))) m lg hs)
  |_=>Zd "no def") fun y y y=>Zd "the call"
def Jeg:FuncData:=match Zak.data with| .func fd=>fd|_=>default
def Jb4(s:Stmt):Expr:=Zgw s
def Z91(U:Ph):Yx:=⟨(U.w 5).a,(U.w 0).a,(U.w 1).a,(U.w 6).a,(U.w 6).o,(U.w 7).a,(U.w 7).o,(U.w 8).a,(U.w 8).o,(U.w 9).a,(U.w 9).o,(U.w 10).a,(Jf (U.w 10).o).1,(Jf (U.w 10).o).2,(U.w 11).a,none,(U.w 12).a,(U.w 13).a,Z3 (U.w 13).o,Z1 (U.w 13).o,(U.w 14).a,(Z9h (U.w 14).o).1,(Z9h (U.w 14).o).2,(U.w 15).a,Z3 (U.w 15).o,[],(U.w 16).a,Z3 (U.w 16).o,[],(U.w 2).a,(U.w 3).a,(U.w 4).a⟩
def Zjj(o:Obj)(j:Nat):Int:=vI ((Z1 o).getD j .none)
def Jb5(o:Obj)(j:Nat):Nat:=Z6 ((Z1 o).getD j .none)
def Jhq(U:Ph):List Sl:=[⟨(U.w 0).a,Qj [.ref (U.w 6).a, .ref (U.w 7).a], .no⟩,⟨(U.w 1).a,Qj [.none, .none], .no⟩,⟨(U.w 2).a,(U.w 2).o, .no⟩,⟨(U.w 3).a,(U.w 3).o, .no⟩,⟨(U.w 4).a,(U.w 4).o, .no⟩]++Y0 .none (frZ (Z91 U)) [] {Z91 U with o1:=Zjg (st "abcdef") (Z6 (Z1n (U.w 6).o 0)) 0,o2:=Yv none ⟨[]⟩ (U.w 8).a 0,o6:=lst (six (Zjj (U.w 8).o) (Jb5 (U.w 8).o)) (Z3 (U.w 8).o)}
def Z9s(a:Str)(m:Int)(x:Nat->Int)(vs:List Value):Prop:=0<=m/\a.cps.toList.length<=1000/\(∀j,j<6->0<=x j/\x j<=Jd a (Z2x.getD j (st ""))/\Jd a (Z2x.getD j (st ""))<=x j+m/\∃n,Zc vs=some ((aJ n).map Int.ofNat)/\x j+m+1<=(n:Int)/\n<=11)
def noE(g:Gd):Prop:=Zy g=true
def Zy0(i:Zim)(U:Ph):List Sl:=[⟨i.1,lst i.3 i.2, .no⟩,⟨195,Zv (Zu (U.w 19).o),(U.w 19).g⟩,⟨202,Zv (Zu (U.w 20).o),(U.w 20).g⟩,⟨297,Zv (Zu (U.w 21).o),(U.w 21).g⟩]
def Jb6(i:Zim)(q:List Stmt):List Stmt->Env->Cx->LW.K Value:=fun body env x it lg hs=>
 Z55 it lg 22 hs fun j W y=>match Z09 j with
  |true=>Z8.ob (.val it) (.val (.ref (Qo it lg W|>.w 5).a)) (Z8.ob (.code (.block body env)) (.code (.block q (Z1s (Z91 (Qo it lg W))))) (Z53 W (Jhq (Qo it lg W)++Zy0 i (Qo it lg W))
    (Z8.fin (Z9s (Z91 (Qo it lg W)).tape (Z91 (Qo it lg W)).m (Zjj (Qo it lg W|>.w 8).o) (Z91 (Qo it lg W)).vs/\noE (Qo it lg W|>.w 19).g/\noE (Qo it lg W|>.w 20).g/\noE (Qo it lg W|>.w 21).g))))
  |false=>Zd "twice"
def Jb7(P:Params):G:=⟨[Zxb.ctr,Zxr.ctr,Zcf.ctr,Jab.ctr,(fLr P).ctr,(Zpn P).ctr,(Zpp P).ctr,fLs.ctr,fLs.ctr,fLs.ctr,fLn.ctr,fLi.ctr,fDg.ctr,Zxp.ctr,fIg.ctr,Zq1.ctr,Zpg.ctr,fLl.ctr,Zx1.ctr,fAd.ctr,fDv.ctr],Z7g⟩
def Ztc(w:World)(i:Zim)(out:List Env)(N T:Nat)(hs:Hs):Z8:=
 Zxz (Ql (vW w) (Jb7 w.params) 100000) (Qm (Y2 31)) ((Qm (Y2 31)).take 12) (Jb4 Z1b) 310 Jeg ⟨[.ref i.1],[]⟩ ⟨305,Ze 11,none,frB true out⟩ ⟨aO N 8,0,T,0,Zin i⟩ hs (Jb6 i (Qm (Y2 31)))
abbrev Zqe(m a I j:Ph):Prop:=∀q:Ph,(Zau ((Int.ofNat (Z0c (a.w 0).o).cps.toList.length-Y6 (Qc (j.w 2).o))+1) (-(Z0r (m.w 2).o)-1)/\Z0p (Yt 195 133 4 Z3v (Yn (q.w 1).g)).o (Yt 195 133 4 Z3v (Yn (q.w 1).g)).g (Yt 202 148 4 Z2q (Yn (q.w 2).g)).o (Yt 202 148 4 Z2q (Yn (q.w 2).g)).g)/\∀y:Ph,(¬[((-(Int.ofNat (Z0c (a.w 0).o).cps.toList.length-Y6 (Qc (j.w 2).o))-1).fdiv ((Z0r (m.w 2).o)+1),(-(Int.ofNat (Z0c (a.w 0).o).cps.toList.length-Y6 (Qc (j.w 2).o))-1).fmod ((Z0r (m.w 2).o)+1)),(((Int.ofNat (Z0c (a.w 0).o).cps.toList.length-Y6 (Qc (j.w 2).o))+1).fdiv (-(Z0r (m.w 2).o)-1),((Int.ofNat (Z0c (a.w 0).o).cps.toList.length-Y6 (Qc (j.w 2).o))+1).fmod (-(Z0r (m.w 2).o)-1))]≠[(-(Z4y (a.w 0).o)-1,(Z0r (m.w 2).o)),(-(Z4y (a.w 0).o)-1,-(Z0r (m.w 2).o))])/\Z9s (Z0c (a.w 0).o) (Z4y (a.w 0).o) (g6 (j.w 2).o) (Z1 (I.w 0).o)/\noE (Yt 195 133 4 Z3v (Yn (y.w 1).g)).g/\noE (Yt 202 148 4 Z2q (Yn (y.w 2).g)).g/\noE (a.w 10).g
abbrev Zqf(q y I a m j:Ph):Prop:=∀W:Ph,(∃J,Zc (Qc (a.w 2).o)=some J)/\∀X:Ph,(Zau (-(Int.ofNat (Z0c (y.w 0).o).cps.toList.length-Y6 (Qc (a.w 2).o))-1) ((Z0r (q.w 2).o)+1)/\Z0p (Yt 195 133 4 Z3v (Yn (j.w 1).g)).o (Yt 195 133 4 Z3v (Yn (j.w 1).g)).g (Yt 202 148 4 Z2q (Yn (m.w 1).g)).o (Yt 202 148 4 Z2q (Yn (m.w 1).g)).g)/\Zqe q y I a
abbrev Zqg(X J Y I W q a y:Ph):Prop:=∀Z:Ph,([Value.int 0 (aO y.t 1)].length<=10/\-100<=6-Int.ofNat (Z1 (a.w 0).o).length/\6-Int.ofNat (Z1 (a.w 0).o).length<=100)/\∀j:Ph,(Z1 (j.w 0).o=Z3e [Value.int 0 (aO y.t 1)] (6-Int.ofNat (Z1 (a.w 0).o).length))->((Z1 (a.w 0).o).length<=1000/\(Z1 (j.w 0).o).length<=1000)/\∀m:Ph,(Z1 (m.w 0).o=Z1 (a.w 0).o++Z1 (j.w 0).o)->((∃l,Zc (Z1 (m.w 0).o)=some l)/\∃l,Zc (Qc (q.w 2).o)=some l)/\(¬Zc (Z1 (m.w 0).o)≠Zc (Qc (q.w 2).o))/\((Z0c (J.w 0).o).cps.toList.length<=1000)/\Zqf X J Y I W a
abbrev Zqh(X Y Z q W J y j I:Ph):Prop:=∀m:Ph,(¬(dgV (g6 (W.w 2).o)-dgV (g6 (q.w 2).o))≠Y6 (Z1 (I.w 3).o))/\(Gd.no=Gd.no/\Qu (.int (-1) (aO m.t 1))/\Qu .none/\Qu .none/\Z08 .none≠some 0/\(Z1 (j.w 0).o).length<=1000)/\∀a:Ph,(Z1 (a.w 0).o=Q6 (Z1 (j.w 0).o) (.int (-1) (aO m.t 1)) .none .none)->((∃l,Zc (Z1 (a.w 0).o)=some l)/\∃l,Zc [Value.int 0 a.t]=some l)/\(¬Zc (Z1 (a.w 0).o)=Zc [Value.int 0 a.t])/\((Z1 (j.w 0).o).length<=1000)/\Zqg X Y Z q J y j a
abbrev Zqi(J W X m y I a:Ph):Prop:=∀q:Ph,(igO (dgV (g6 (y.w 2).o)-dgV (g6 (m.w 2).o)) (Zc (Z1 (q.w 0).o)))->(lst (Qc (a.w 2).o) (Z3 (a.w 2).o)=Z7h (lst (Qc (a.w 2).o) (Z3 (a.w 2).o)))/\∀Z:Ph,(Z2v (g6 (a.w 2).o))/\∀j:Ph,(Zc (Z1 (j.w 3).o)=some (shL (g6 (a.w 2).o)))->(∃Y,Zc (Z1 (j.w 3).o)=some Y)/\Zqh J W X m y I a q j
abbrev Zqj(J j W m:Ph):Prop:=∀a:Ph,(Z5z (J3 (j.w 6).g) (Z1 (a.w 2).o))->(Z2v (g6 (a.w 2).o)/\isU Zj8 (Zv (Zu (j.w 9).o)) (j.w 9).g)/\∀y:Ph,(Z2v (g6 (m.w 2).o)/\isU Zj8 (Yt 202 148 4 Z2q (Yn (y.w 1).g)).o (Yt 202 148 4 Z2q (Yn (y.w 1).g)).g)/\∀I q:Ph,(Zxo (g6 (a.w 2).o) (Z4y (j.w 0).o) (Z1 (q.w 2).o))->((0<=(dgV (g6 (a.w 2).o)-dgV (g6 (m.w 2).o))/\(dgV (g6 (a.w 2).o)-dgV (g6 (m.w 2).o))<256^6)/\isU Zpx (Zv (Zu (j.w 8).o)) (j.w 8).g)/\Zqi J j W m a I q
abbrev Zqk(q a:Ph):Prop:=∀y I:Ph,(0<=Int.ofNat (Z0c (a.w 0).o).cps.toList.length+1/\Int.ofNat (Z0c (a.w 0).o).cps.toList.length+1<=1000)/\∀m:Ph,(Zc (Z1 (m.w 0).o)=some (aF Int.ofNat (aJ (Int.ofNat (Z0c (a.w 0).o).cps.toList.length+1).toNat)))->(HN (J3 (a.w 3).g)/\(J3 (a.w 3).g).length<=4)/\∀j:Ph,(Z5y (J3 (a.w 3).g) (Z1 (j.w 2).o))->(HN (J3 (a.w 6).g)/\(J3 (a.w 6).g).length<=4)/\Zqj q a m j
abbrev Zql(m j:Ph):Prop:=∀y:Ph,(Zij (Z1 (m.w 3).o) (Z0r (j.w 2).o) [] (Gd.tab []) [] (Gd.tab []) [] (Gd.tab []))/\∀a:Ph,(Zpf (Z1 (m.w 3).o) (Z0r (j.w 2).o) (J3 (a.w 3).g) (J3 (a.w 6).g) (Z0c (a.w 0).o) (Z4y (a.w 0).o) (Zu (a.w 8).o) (a.w 8).g (Zu (a.w 9).o) (a.w 9).g (Zu (a.w 10).o) (a.w 10).g)->∀q:Ph,((Z0c (a.w 0).o).cps.toList.length<=1000)/\Zqk j a
theorem Jeh(l n:Nat)(vs:List Value)(out:List Env)(hv:∀v∈vs,∃x t,v= .int x t)(h63:vs.length<=63)(N T:Nat):
  Z5 (Ztc (w2 w b c) ⟨l,n,vs⟩ out N T ((Z4 0x11048e4024102022d0003edd0d0b048e403022fae48e0de770 (.two (Z4 0x104df04cf04bf04af04ef042df042ef045f02bf044f043f042f049f025f030400048f047f046f0102fae1022f022f22f1000de45f0e3e02004053a143f113ff42f113ef042f041f15f01140f140f0041f040f15f013ff113ff03ff3ff101af33ff00838f00210f093ff000914fa1a00013f1148e10812f3df003cf2019000511f6660039f401303e048ea030210ffae06c6e35f0de35f35f35f035f0ff034f034f34f34f34f100e11102bf048e8020ef1060662df102ff08d02df002ff05d02df02df2df2df2df100e111018f017f016f025f048e0ef02710c0cc26f111b4e010f023f048eb02610909923f1ef1ef23f23fbae30e0100c11b48e10110de1816f000de16f16f13f13f17f17f18f18f30e17f117f17f17f0ff013fb4e0450aee10f11013111 .nil) (Y9 .nil))))):=by
 have q:(Qj (Zq4 fun j=>aO T j)=Z7h (Qj (Zq4 fun j=>aO T j)))/\∀U1:Ph,(Z60 vs []/\([]:List Value)=[])/\∀Y:Ph,(dNu [] 0 (Z1 (Y.w 3).o))->(Zq2 (Z1 (Y.w 3).o) [] 0/\0=0/\([]:List Value)=[])/\(((Z1 (Y.w 3).o)≠[]->∀U3:Ph,(Jaa (Z1 (Y.w 3).o) [] 0 (Z1 (U3.w 2).o))->(∃xs,Zc (Z1 (U3.w 2).o)=some xs)/\Zql Y U3)/\(¬(Z1 (Y.w 3).o)=[])/\True):=by
  refine⟨Zxs _,fun U1=>⟨⟨⟨hv,h63,bP _,[],rfl⟩,rfl⟩,fun Y e2=> ?_⟩⟩;obtain⟨l0,hX,hX10⟩:=Jb1 e2;have hXl:=Z3b hX;have hne:Z1 (Y.w 3).o≠[]:=fun z=>by rw[z] at hXl;simp at hXl;lia
  refine⟨⟨Jb0 hX hX10,rfl,rfl⟩,⟨fun u U3 e3=> ?_,hne,trivial⟩⟩;obtain⟨_,_,e3⟩:=e3;refine⟨⟨_,e3⟩,fun U4=>⟨Je5 hX hX10 _,fun W e5 U6=> ?_⟩⟩;obtain⟨R,⟨ns,S,hns,inv,t2,t3⟩,eL⟩:=e5;have n10:ns.length<=10:=by
   rw[hX] at hns;cases hns;lia
  obtain⟨u5,u2⟩:=Jaz t2;obtain⟨tl10⟩:(Z0c (W.w 0).o).cps.toList.length<=10/\True:=⟨by
   have:=congrArg hN inv.tp;rw[aE] at this;have:=bY Qd ns;lia,trivial⟩
  refine⟨by lia,fun U7 U8=>⟨⟨by rw[bZ];lia,by rw[bZ];lia⟩,fun U9 e9=> ?_⟩⟩;have X:=Zt2 inv n10 (x:=fun j=>valN (Qy (J3 (W.w 3).g) (Z0 (J9 (Qk j))))) (y:=fun j=>valN (Qy (J3 (W.w 6).g) (Z0 (Qk j)))) (fun u u=>rfl) (fun u u=>rfl);refine⟨⟨X.2.1,X.2.2.1⟩,fun J e10=>⟨⟨X.2.2.2.1,X.2.2.2.2⟩,fun U11 e11=> ?_⟩⟩;have hx:∀j,j<6->g6 (J.w 2).o j=valN (Qy (J3 (W.w 3).g) (Z0 (J9 (Qk j)))):=fun j m=>by rw[Zfw _ j m];exact e10 j m
  have hy:∀j,j<6->g6 (U11.w 2).o j=valN (Qy (J3 (W.w 6).g) (Z0 (Qk j))):=fun j m=>by rw[Zfw _ j m];exact e11 j m
  have F:=(Zt2 inv n10 hx hy).1;rw[<-eL] at F;have hdu:∀I:Ph,Zxo (g6 (U11.w 2).o) (Z4y (W.w 0).o) (Z1 (I.w 2).o)->(∀j,j<6->g6 (U11.w 2).o j-g6 (J.w 2).o j=g6 (I.w 2).o j)/\∀j,j<6->0<=g6 (I.w 2).o j/\g6 (I.w 2).o j<=20:=fun I Z=>by
   have m0:=F.m0;have m1:=F.m1;refine⟨fun j m=> ?_,fun j m=> ?_⟩
   ·rw[F.due j m,Zfw (I.w 2).o j m];exact(Z j m).symm
   ·rw[Zfw (I.w 2).o j m,show vI ((Z1 (I.w 2).o).getD j Value.none)=_ from Z j m]
    by_cases z:g6 (U11.w 2).o j≠0
    ·rw[if_pos z];lia
    ·rw[if_neg z];lia
  refine⟨⟨Ze1 F.y0,u2⟩,fun U12=>⟨⟨Ze1 fun j m=>⟨(F.x0 j m).1,by have:=(F.x0 j m).2;lia⟩,some _,rfl,rfl⟩,fun U13 I Z=> ?_⟩⟩;obtain⟨d1,d2⟩:=hdu I Z;rw[Zjf d1];refine⟨⟨Zxy d2,u5⟩,fun U15 e15=>⟨Zxt _ _,fun U16=>⟨Ze1 d2,fun U17 e17=>⟨⟨_,e17⟩,fun U18=>⟨fun z=>z ?_, ?_⟩⟩⟩⟩⟩
  ·rw[Zjf d1,Zje e17,J2o]
  obtain⟨ds,G⟩:=Jax d2 (Zjf d1▸e15);have gl:=G.len;have g6l:=G.l6;refine⟨⟨rfl, .inr ⟨_,_,rfl⟩, .inl rfl, .inl rfl,by simp[Z08],by lia⟩,fun U19 e19=> ?_⟩;obtain⟨q1,q2⟩:=G.end_ (aO U18.t 1);rw[<-e19] at q1 q2;refine⟨⟨q1,_,rfl⟩,q2,by lia,fun U20=>⟨⟨by simp,by rw[bZ];lia,by rw[bZ];lia⟩,fun U21 e21=> ?_⟩⟩;have l21:(Z1 (U21.w 0).o).length<=1000:=by
   rw[e21];unfold Z3e;rw[Zb4,oB,bZ];lia
  refine⟨⟨by lia,l21⟩,fun U22 e22=> ?_⟩;have e6:Zc (Qc (I.w 2).o)=some (Z7j (g6 (I.w 2).o)):=rfl;have e22':Zc (Z1 (U22.w 0).o)=some (Z7j (g6 (I.w 2).o)):=by rw[e22,e21];exact G.all _
  refine⟨⟨⟨_,e22'⟩,_,e6⟩,fun z=>z (e22'.trans e6.symm),by lia,fun U23=>⟨⟨_,rfl⟩,fun U24=> ?_⟩⟩;have en:Int.ofNat (Z0c (W.w 0).o).cps.toList.length-Y6 (Qc (J.w 2).o)=Z4y (W.w 0).o*(Z0r (U3.w 2).o+1):=by
   have e:Y6 (Qc (J.w 2).o)=g6 (J.w 2).o 0+(g6 (J.w 2).o 1+(g6 (J.w 2).o 2+(g6 (J.w 2).o 3+(g6 (J.w 2).o 4+g6 (J.w 2).o 5)))):=by
    rw[Zje (ns:=Z7j (g6 (J.w 2).o)) rfl];unfold Z7j;simp only[dM,rG];lia
   rw[e];exact F.lost
  haveI x:=fun j m=>(F.x0 j m).1;have V:=Jay en F.m0 F.r1 F.r3 (en▸Zm [_,_,_,_,_,_,_] [_] [.z Jb (.s Zr (.a Y3 (.a Q5 (.a lQ9 (.a Z2c (.a Z7q (.v 6))))))), .n Zr lQ8,Zcu, .z Qs Q5, .z Qs lQ9, .z Qs Z2c, .z Qs Z7q, .z Qs (.v 6)] (.z Jb lQ8) rfl (cG F.lost.symm) tl10 (x 0 (by decide)) (x 1 (by decide)) (x 2 (by decide)) (x 3 (by decide)) (x 4 (by decide)) (x 5 (by decide)));refine⟨⟨V.a,Zeu _ _⟩,fun U25=>⟨⟨V.b,Zeu _ _⟩,fun U26=>⟨fun z=>z ?_, ?_⟩⟩⟩
  ·rw[V.qa,V.ra,V.qb,V.rb]
  ·refine⟨⟨F.m0,by lia,fun j m=>⟨(F.x0 j m).1,F.lo j m,F.hi j m,(Z0c (W.w 0).o).cps.toList.length+1, ?_, ?_,by lia⟩⟩,rfl,rfl,by obtain⟨c,_,q⟩:=t3;unfold noE;rw[q];cases c<;>rfl⟩
   ·rw[e9];congr 2
   ·have:=F.top j m;lia
 cases b<;>
 cases c<;>
 exact Zx (by kernel_rfl) q
structure Z92(z ti to i1 i2 l2:Addr):Prop where
 tiz:ti≠z
 toz:to≠z
 i1z:i1≠z
 i2z:i2≠z
 tito:ti≠to
 tii1:ti≠i1
 tii2:ti≠i2
 toi1:to≠i1
 toi2:to≠i2
 i12:i1≠i2
 l2z:l2≠z
 l2to:l2≠to
 l2i1:l2≠i1
 l2i2:l2≠i2
section
variable {prog:Program}{w:World}{A:Around}{E:Value->Shared->Prop}{s:Shared}
theorem J2x {z q j I J l2:Addr}{k1 k2 ch:Nat}{sx:Str}{st:Tok}{ys:Array Value}{y a b:Value}{Q:Value->Shared->Prop}(D:Z92 z q j I J l2)
  (hz:lK s.heap z q j .none) (hti:gM s.heap q (.ref I) (.ref J)) (hto:gM s.heap j a b)
  (h1:s.heap.IsStrIter I "str_ascii_iterator" sx st k1) (h2:s.heap.IsListIter J l2 k2) (hl2:s.heap.IsList l2 ys) (hx:sx.cps[k1]?=some ch) (hy:ys[k2]?=some y)
  (hQ:∀h',lK h' z q j (dP s.heap.objs.size)->gM h' j (.str ⟨#[ch]⟩ s.toks) y->h'.IsStrIter I "str_ascii_iterator" sx st (k1+1)->h'.IsListIter J l2 (k2+1)->gM h' s.heap.objs.size (.str ⟨#[ch]⟩ s.toks) y->h'.objs.size=s.heap.objs.size+1->
   (∀c o,c≠z->c≠j->c≠I->c≠J->s.heap.get? c=some o->h'.get? c=some o)->Q (.ref s.heap.objs.size) {s with heap:=h',toks:=s.toks+1}):
  aU (cP prog w) A (Builtin.«zip.__next__» ⟨[.ref z],[]⟩) (fun fin s'=>∃v,fin= .done (.ret v)/\Q v s') E s:=by
 show aU _ _ (mA (.ref z) 2>>=_) _ _ _;refine aA (eJ hz rfl (x:= .bool false) rfl ?_);show aU _ _ (mA (.ref z) 3>>=_) _ _ _;refine aA (eJ hz rfl (x:= .ref q) rfl ?_);refine aA (fX hti rfl ?_);show aU _ _ (dW (.ref z)>>=_) _ _ _;refine aA ?_;unfold dW;refine aA (eJ hz rfl (x:= .none) rfl (aH ?_));dsimp only[if_true];refine aA (jU ?_);refine aA (eJ hz rfl (x:= .ref j) rfl ?_);refine aA (iK hz (by simp) fun g1 z1 Z=> ?_);replace z1:lK g1 z q j .ellipsis:=z1;refine aA ?_;simp only[pU,qG,gU,jG];refine aA (aA (cH ?_));show aU _ _ (iE (.ref I)>>=_) _ _ _;haveI h1':g1.IsStrIter I "str_ascii_iterator" sx st k1:=by obtain⟨o,ho,r⟩:=h1;exact⟨o,Z.extBut _ _ D.i1z ho,r⟩
 refine aA (wpAny_nextOf_ascii_item h1' hx fun g2 n1 X=>aH ?_);haveI to2:gM g2 j a b:=X.extBut _ _ D.toi1 (Z.extBut _ _ D.toz hto);refine aA (fX to2 rfl ?_);refine aA (qH to2 fun g3 to3 Y=> ?_);replace to3:gM g3 j (.str ⟨#[ch]⟩ s.toks) b:=to3;refine aA (kF (aH ?_));refine aA (aA (cH ?_));show aU _ _ (iE (.ref J)>>=_) _ _ _;refine aA (wpAny_nextOf_list_item (((h2.extBut Z.extBut D.i2z).extBut X.extBut D.i12.symm).extBut Y.extBut D.toi2.symm)
  (((hl2.extBut Z.extBut D.l2z).extBut X.extBut D.l2i1).extBut Y.extBut D.l2to) hy fun g4 n2 s4=>aH ?_)
 haveI to4:gM g4 j (.str ⟨#[ch]⟩ s.toks) b:=s4.extBut _ _ D.toi2 to3;refine aA (fX to4 rfl ?_);refine aA (qH to4 fun m W s5=> ?_);replace W:gM m j (.str ⟨#[ch]⟩ s.toks) y:=W;refine aA (kF (aH (aH ?_)));refine aA (fX W rfl ?_);refine aA (lR ?_);have hsz:m.objs.size=s.heap.objs.size:=by rw[s5.1,s4.1,Y.1,X.1,Z.1]
 have z5:lK m z q j .ellipsis:=s5.extBut _ _ D.toz.symm (s4.extBut _ _ D.i2z.symm (Y.extBut _ _ D.toz.symm (X.extBut _ _ D.i1z.symm z1)));have k5:∀c o,c≠z->c≠j->c≠I->c≠J->s.heap.get? c=some o->m.get? c=some o:=fun c o c1 c2 c3 c4 e=>
  s5.extBut _ _ c2 (s4.extBut _ _ c4 (Y.extBut _ _ c2 (X.extBut _ _ c3 (Z.extBut _ _ c1 e))))
 have n15:m.IsStrIter I "str_ascii_iterator" sx st (k1+1):=by
  obtain⟨o,ho,r⟩:=n1;exact⟨o,s5.extBut _ _ D.toi1.symm (s4.extBut _ _ D.i12 (Y.extBut _ _ D.toi1.symm ho)),r⟩
 have n25:m.IsListIter J l2 (k2+1):=n2.extBut s5.extBut D.toi2.symm;have ltz:z<m.objs.size:=cV z5;show aU _ _ (jK (.ref z) (.ref m.objs.size)>>=_) _ _ _;refine aA ?_;dsimp only[jK];haveI z6:lK (m.push {cls:= .type "tuple",data:= .seq #[.str ⟨#[ch]⟩ s.toks,y]}) z q j .ellipsis:=aQ _ z5;refine aA (iK z6 (by simp) fun g7 z7 s7=> ?_);replace z7:lK g7 z q j (dP m.objs.size):=z7;refine iK z7 (by simp) fun g8 z8 s8=> ?_;replace z8:lK g8 z q j (dP m.objs.size):=z8;have up:∀c o,c≠z->m.get? c=some o->g8.get? c=some o:=fun c o c1 e=>s8.extBut _ _ c1 (s7.extBut _ _ c1 (aQ _ e));have t8:gM g8 m.objs.size (.str ⟨#[ch]⟩ s.toks) y:=s8.extBut _ _ (oD ltz) (s7.extBut _ _ (oD ltz) (bT _ rfl));have sz8:g8.objs.size=m.objs.size+1:=by rw[s8.1,s7.1,kT]
 rw[hsz] at z8 t8 sz8;refine aH ⟨_,rfl, ?_⟩;show Q (.ref m.objs.size) _;rw[hsz];exact hQ g8 z8 (up _ _ D.toz W) (by obtain⟨o,ho,r⟩:=n15;exact⟨o,up _ _ D.i1z ho,r⟩) (n25.at fun o e=>up _ o D.i2z e) t8 sz8 fun c o c1 c2 c3 c4 e=>up c o c1 (k5 c o c1 c2 c3 c4 e)
theorem Jb8 {z I W j i2:Addr}{k1:Nat}{Y:Str}{st:Tok}{a b:Value}{Q:PySem.Fin->Shared->Prop}(hh:A.handled=none)(d1:j≠z)
  (J:lK s.heap z I W .none) (hti:gM s.heap I (.ref j) (.ref i2))
  (h1:s.heap.IsStrIter j "str_ascii_iterator" Y st k1) (hx:Y.cps[k1]?=none)
  (hE:∀h' e,(∀c o,c≠z->c≠j->s.heap.get? c=some o->h'.get? c=some o)->(∃o,h'.get? e=some o/\o.cls= .type "StopIteration")->E (.ref e) {s with heap:=h'}):
  aU (cP prog w) A (Builtin.«zip.__next__» ⟨[.ref z],[]⟩) Q E s:=by
 show aU _ _ (mA (.ref z) 2>>=_) _ _ _;refine aA (eJ J rfl (x:= .bool false) rfl ?_);show aU _ _ (mA (.ref z) 3>>=_) _ _ _;refine aA (eJ J rfl (x:= .ref I) rfl ?_);refine aA (fX hti rfl ?_);show aU _ _ (dW (.ref z)>>=_) _ _ _;refine aA ?_;unfold dW;refine aA (eJ J rfl (x:= .none) rfl (aH ?_));dsimp only[if_true];refine aA (jU ?_);refine aA (eJ J rfl (x:= .ref W) rfl ?_);refine aA (iK J (by simp) fun g1 Z s1=> ?_);replace Z:lK g1 z I W .ellipsis:=Z;refine aA ?_;dsimp only[pU,qG,gU,jG];refine aA (aA (cH ?_));show aU _ _ (iE (.ref j)>>=_) _ _ _;haveI h1':g1.IsStrIter j "str_ascii_iterator" Y st k1:=by obtain⟨o,ho,r⟩:=h1;exact⟨o,s1.extBut _ _ d1 ho,r⟩
 refine aA (wpAny_nextOf_ascii_end hh h1' hx fun g2 e s2 he=> ?_);obtain⟨oe,m,X⟩:=he;haveI z2:lK g2 z I W .ellipsis:=s2 _ _ d1.symm Z;have hez:e≠z:=fun q=>by cases q;rw[z2] at m;cases m;simp at X
 exact iK z2 (by simp) fun g3 y s3=>hE g3 e (fun c o c1 c2 q=>s3.extBut _ _ c1 (s2 _ _ c2 (s1.extBut _ _ c1 q))) ⟨oe,s3.extBut _ _ hez m,X⟩
theorem Zjk {z I j m q J:Addr}{k1 k2 ch:Nat}{W:Str}{st:Tok}{ys:Array Value}{y a b:Value}{Q:Option Value->Shared->Prop}(D:Z92 z I j m q J)
  (Z:lK s.heap z I j .none) (Y:gM s.heap I (.ref m) (.ref q)) (X:gM s.heap j a b)
  (h1:s.heap.IsStrIter m "str_ascii_iterator" W st k1) (h2:s.heap.IsListIter q J k2) (hl2:s.heap.IsList J ys) (hx:W.cps[k1]?=some ch) (hy:ys[k2]?=some y)
  (hQ:∀h',lK h' z I j (dP s.heap.objs.size)->gM h' j (.str ⟨#[ch]⟩ s.toks) y->h'.IsStrIter m "str_ascii_iterator" W st (k1+1)->h'.IsListIter q J (k2+1)->gM h' s.heap.objs.size (.str ⟨#[ch]⟩ s.toks) y->h'.objs.size=s.heap.objs.size+1->
   (∀c o,c≠z->c≠j->c≠m->c≠q->s.heap.get? c=some o->h'.get? c=some o)->Q (some (.ref s.heap.objs.size)) {s with heap:=h',toks:=s.toks+1}):
  aU (cP prog w) A (kH (.ref z)) Q E s:=by
 haveI hT:s.TypeIs (.ref z) "zip":=⟨_,Z,rfl⟩;unfold kH;exact aA (kJ (fW (name:=aB "__next__") hT F.slot_zip_next
  (iY F.slot_zip_next hT F.entry_zip_next
   (J2x D Z Y X h1 h2 hl2 hx hy fun h' a1 a2 a3 a4 a5 a6 a7=>aH (hQ h' a1 a2 a3 a4 a5 a6 a7)) (F.args_zip_next_1 _))))
theorem Zk8 {z I to j i2:Addr}{k1:Nat}{q:Str}{st:Tok}{Q:Option Value->Shared->Prop}(hh:A.handled=none)(d1:j≠z)
  (m:lK s.heap z I to .none) (J:gM s.heap I (.ref j) (.ref i2))
  (W:s.heap.IsStrIter j "str_ascii_iterator" q st k1) (Y:q.cps[k1]?=none)
  (Z:∀h',(∀c o,c≠z->c≠j->s.heap.get? c=some o->h'.get? c=some o)->Q none {s with heap:=h'}):aU (cP prog w) A (kH (.ref z)) Q E s:=by
 haveI y:s.TypeIs (.ref z) "zip":=⟨_,m,rfl⟩;unfold kH;refine aA (kJ (fW (name:=aB "__next__") y F.slot_zip_next
  (iY F.slot_zip_next y F.entry_zip_next (Jb8 (a:= .none) (b:= .none) hh d1 m J W Y fun h' e hk X=> ?_) (F.args_zip_next_1 _))))
 refine Z7 fun k'=> ?_;obtain⟨o,ho,hc⟩:=X;refine k' ?_;refine aA (jA (T:="StopIteration") (b:=true) ⟨o,ho,hc⟩ sU ?_);exact aH (Z _ hk)
end
theorem St.anew {v:V}{s:Shared}{W:List Sl}(Y:∀x∈W,Ji s.heap x)(Z:(W.map Sl.a).Nodup)(q:∀x∈W,v.kt.get x.a=none)(kt:∀a o,v.kt.get a=some o->s.heap.get? a=some o)
  (m:∃o,v.kt.get pV=some o) (I:s.heap.NoLimit) (j:8<=s.heap.objs.size):St v ⟨s,W.map Sl.a,[]⟩ ⟨aO (s.heap.objs.size-8) 8,0,s.toks,0,W⟩ s:=
 ⟨⟨(bG j).symm,Y,Z,q,kt,m,fun y J=> .inr (aL J),fun z z e z z=>e,fun z z e z=>e,I,j,fun b X=>absurd X aD⟩,rfl,rfl,rfl,rfl⟩
structure ALw(A:Around):Prop where
 d:A.depth<=310
 u:A.units<=Ze 10
 h:A.handled=none
theorem ALw.ok {A:Around}(h:ALw A)(B:Zt):Jn B Zj5 A:=⟨h.d,h.u,h.h,fun y e=>nomatch e⟩
theorem Ztd {v:V}{o:Jr}(O:Jm v o){target:Expr}{it:Value}{body orelse:List Stmt}{env:Env}{A:Around}(q:ALw A){X:Result->Shared->Prop}{s:Shared}{P:Value->Shared->Prop}
  (hn:∀(Q:Option Value->Shared->Prop) (E:Value->Shared->Prop),(∀val s',P val s'->Q (some val) s')->aU (M v) A (kH it) Q E s)
  (hP:∀val s',P val s'->∃B lg hs K,Z5 (Zb3 o target it body env val Zj5 lg hs (nxK K))/\St v B lg s'/\∀m,Zn v B K (.ok .next) m->bR (M v) A (.forLoop target it body orelse env) X m):
  bR (M v) A (.forLoop target it body orelse env) X s:=by
 refine jM ?_;rw[Qf];show aU _ _ ((lT target it body orelse env).onRaise (fun x=>do fI x env;dI x)) _ _ s;refine cH ?_;unfold lT;refine aA (bW (aA (cH ?_)));refine hn _ _ ?_;intro val s' h;refine Z7 fun k'=> ?_;obtain⟨B,lg,hs,K,hg,hst,hK⟩:=hP val s' h;unfold Zb3 at hg;refine k' ?_;simp only;refine aA (Zd7 O hg hst (q.ok B) ?_);rintro s1 ⟨lg1,Z,j,I⟩;rw[Z2f] at j;have h1:=O.tr B _ _ _ lg1 Z _ _ _ s1 j I (q.ok B);refine aA (bC h1 ?_ (fun e s' h=>(Yg h).elim));rintro _ s2 ⟨Y,hs2,hg2,y⟩;refine aA (bC (O.sx B body env _ Y hs2 _ _ _ s2 hg2 y (q.ok B)) ?_ (fun e s' h=>(Yg h).elim));rintro f s3 ⟨W,hs3,a,J⟩;cases f with
 |next=>exact aH ⟨rfl,hK s3 ⟨W,hs3,a,J⟩⟩
 |cont=>exact(Z2 a).elim
 |brk=>exact(Z2 a).elim
 |ret v=>exact(Z2 a).elim
theorem Zy1 {v:V}{target:Expr}{it:Value}{body:List Stmt}{env:Env}{A:Around}{a:Result->Shared->Prop}{s:Shared}
  (j:∀(Q:Option Value->Shared->Prop) (E:Value->Shared->Prop),(∀s',a (.ok .next) s'->Q none s')->aU (M v) A (kH it) Q E s):
  bR (M v) A (.forLoop target it body [] env) a s:=by
 refine jM ?_;rw[Qf];show aU _ _ ((lT target it body [] env).onRaise (fun x=>do fI x env;dI x)) _ _ s;refine cH ?_;unfold lT;refine aA (bW (aA (cH ?_)));refine j _ _ ?_;intro s' h;refine aH ⟨rfl, ?_⟩;refine jM ?_;rw[Qf];show aU _ _ (do return PySem.Fin.done (<-(nA [] env).onRaise (fun x=>do fI x env;dI x))) _ _ s';exact aA (cH (nO (aH h)))
structure Led(X:List Nat)(s0 s:Shared):Prop where
 kp:∀b o,s0.heap.get? b=some o->b∉X->s.heap.get? b=some o
 gens:s.gens=s0.gens
 os:s.os=s0.os
theorem Led.trans {X:List Nat}{a b c:Shared}(h:Led X a b)(g:Led X b c):Led X a c:=⟨fun x o e n=>g.kp x o (h.kp x o e n) n,g.gens.trans h.gens,g.os.trans h.os⟩
theorem Led.wider {X Y:List Nat}{a b:Shared}(h:Led X a b)(g:∀x∈X,x∈Y):Led Y a b:=⟨fun x o e n=>h.kp x o e fun q=>n (g x q),h.gens,h.os⟩
theorem St.led {v:V}{B:Zt}{lg:Lg}{s:Shared}(h:St v B lg s)(a:B.fr=[]):Led B.keep B.s s:=⟨fun b o e n=>h.rep.frame b o e n (by rw[a];exact aD),h.gens,h.os⟩
structure LpS(v:V)(s0:Shared)(fr:Obj)(cs:List (Int×Int×Cd))(i:Yx)(k:Nat)(x:Nat->Int)(s:Shared):Prop where
 ld:Led (i.to::(Y0 .none fr cs i).map Sl.a) s0 s
 sv:∃B lg,lg.sl=Y0 .none fr cs i/\St v B lg s
 ti:gM s.heap i.ti (.ref i.i1) (.ref i.i2)
 to:∃a b,gM s.heap i.to a b/\∀n t,a≠ .int n t
 lo:v.kt.get i.to=none
 nd:(i.ti::i.to::(Y0 .none fr cs i).map Sl.a).Nodup
 s1:∃t,i.o1.cls= .type "str_ascii_iterator"/\i.o1.data= .fields #[.str (st "abcdef") t, .int (Int.ofNat k) 0]
 s2:i.o2.cls= .type "list_iterator"/\i.o2.data= .fields #[.ref i.l6, .int (Int.ofNat k) 0]
 s6:∃vs n,i.o6=lst vs n/\∀j,j<6->∃t,vs[j]?=some (.int (x j) t)
theorem Zjl {I m z a j y:Nat}{r:List Nat}(h:(I::m::z::a::j::y::r).Nodup):Z92 z I m a j y:=by
 simp only[bM,aC,not_or] at h;refine Z7 fun k'=> ?_;obtain⟨⟨W,X,h3,Y,h5,-⟩,⟨g1,g2,g3,g4,-⟩,⟨Z,f2,f3,-⟩,⟨J,e2,-⟩,⟨d1,-⟩,-⟩:=h;refine k' ?_;exact⟨X,g1,fun q=>Z q.symm,fun q=>f2 q.symm,W,h3,Y,g2,g3,J,fun q=>f3 q.symm,fun q=>g4 q.symm,fun q=>e2 q.symm,fun q=>d1 q.symm⟩
theorem Zlj {h h':Heap}{z I J X:Nat}{Y o1 o2:Obj}{a b:Value}(hz:h.get? z=some Y)(cz:Y.cls= .type "zip")(m:gM h I a b)(Z:∀n t,a≠ .int n t)(h1:h.get? J=some o1)(c1:o1.cls= .type "str_ascii_iterator")
  (h2:h.get? X=some o2) (c2:o2.cls= .type "list_iterator") (hk:∀c o,c≠z->c≠I->c≠J->c≠X->h.get? c=some o->h'.get? c=some o) {g:Gd} (hg:g= .no\/(∃L,g= .is L)\/∃l,g= .tab l) (W:Y1 h g):Y1 h' g:=by
 have y:∀c o,h.get? c=some o->o.cls≠ .type "zip"->o.cls≠ .type "str_ascii_iterator"->o.cls≠ .type "list_iterator"->c≠I->h'.get? c=some o:=fun c o e n1 n2 n3 n4=>by
  refine hk c o (fun q=> ?_) n4 (fun q=> ?_) (fun q=> ?_) e<;>subst q
  ·rw[hz] at e;cases e;exact n1 cz
  ·rw[h1] at e;cases e;exact n2 c1
  ·rw[h2] at e;cases e;exact n3 c2
 rcases hg with rfl|⟨L,rfl⟩|⟨l,rfl⟩
 ·trivial
 ·intro e he;haveI q:=W e he;refine y _ _ q (by simp[Zag]) (by simp[Zag]) (by simp[Zag]) fun z=> ?_;rw[z,m] at q;injection q with q
  injection q with _ _ q
  injection q with q
  injection q with q
  injection q with q
  exact Z _ _ q
 ·intro p hp;haveI j:=W p hp;haveI q:=j.1;haveI c:=j.2;refine⟨y _ _ q (by rw[c];simp) (by rw[c];simp) (by rw[c];simp) fun z=> ?_,c⟩;rw[z,m] at q;injection q with q
  rw[<-q] at c;simp at c
theorem Z6k {j:Value}{fr:Obj}{cs:List (Int×Int×Cd)}{i:Yx}:∀y∈Y0 j fr cs i,y.g= .no\/(∃L,y.g= .is L)\/∃l,y.g= .tab l:=by
 intro y a;simp only[Y0,aC,aD,or_false] at a;rcases a with rfl|rfl|rfl|rfl|rfl|rfl|rfl|rfl|rfl|rfl|rfl|rfl|rfl<;>first|exact .inl rfl|exact .inr (.inl ⟨_,rfl⟩)|exact .inr (.inr ⟨_,rfl⟩)
theorem Z7k {g:Gd}(a:g= .no\/(∃L,g= .is L)\/∃l,g= .tab l):Zy g=true:=by
 rcases a with rfl|⟨L,rfl⟩|⟨l,rfl⟩<;>rfl
def Zqm(w:World)(g:G)(fr:Yx->Obj)(cs:List (Int×Int×Cd)):Prop:=∀(i:Yx) (a u lt:Nat) (j:Str) (q:Int),Ze0 i.vs q i.m j i.tape i.O i.S->∀(N T:Nat),∃hs,
 Z5 (Zpv w g i a ((Y0 (dP (Int.ofNat a)) (fr i) cs i).take 1++⟨a,Yf (.str j u) (.int q lt), .no⟩::(Y0 (dP (Int.ofNat a)) (fr i) cs i).drop 1) N T hs
  (Jj 1 (fun y=>13) (fun y=>True) (fun y U=>dTu (Jd i.tape j) j i.O i.S (Zp (U.w 10).g) (Zp (U.w 11).g)) (fun y=>rTu i)))
theorem tuN:Zqm (w2 w b c) Zxh frZ []:=fun i j u lt q a h N T=>⟨_,Jdo w b c i.z i.ti i.to i.i1 i.o1 i.i2 i.o2 i.l6 i.o6 i.f i.fo i.ct i.tape i.tt i.cl i.lv i.cn i.ln i.nl i.vs i.cm i.m i.mt i.oa i.no i.O i.sa i.ns i.S i.ca i.ce i.cs j u lt q a h N T⟩
theorem tuS(c1 c2 j:Cd):Zqm (w2 w b c) Zxi frY [k1 c1,k2 c2,k3 j]:=fun i q u lt y a h N T=>⟨_,Jdp w b c i.z i.ti i.to i.i1 i.o1 i.i2 i.o2 i.l6 i.o6 i.f i.fo i.ct i.tape i.tt i.cl i.lv i.cn i.ln i.nl i.vs i.cm i.m i.mt i.oa i.no i.O i.sa i.ns i.S i.ca i.ce i.cs q u lt y a c1 c2 j h N T⟩
def Zy2(i:Yx)(U:Ph):Yx:={i with fo:=(U.w 4).o,lv:=ceV (U.w 6).o,O:=Zp (U.w 10).g,no:=Z3 (U.w 10).o,S:=Zp (U.w 11).g,ns:=Z3 (U.w 11).o}
theorem Jb9(i:Yx)(U:Ph):rTu i U=(.ok .next,Y0 .none (frY (Zy2 i U)) [k1 (cdN (U.w 12).g 0),k2 (cdN (U.w 12).g 1),k3 (cdN (U.w 12).g 2)] (Zy2 i U)):=rfl
theorem Jba:∀k,k<6->∃ch,(st "abcdef").cps[k]?=some ch/\Z2x.getD k (st "")=⟨#[ch]⟩
 |0,_=>⟨97,by decide+kernel,by decide+kernel⟩
 |1,_=>⟨98,by decide+kernel,by decide+kernel⟩
 |2,_=>⟨99,by decide+kernel,by decide+kernel⟩
 |3,_=>⟨100,by decide+kernel,by decide+kernel⟩
 |4,_=>⟨101,by decide+kernel,by decide+kernel⟩
 |5,_=>⟨102,by decide+kernel,by decide+kernel⟩
 |n+6,h=>absurd h (cQ (bO _ _))
noncomputable def Yx.go(i:Yx)(o1 o2:Obj):Yx:={i with o1:=o1,o2:=o2}
section
variable {v:Value}{f:Obj}{cs:List (Int×Int×Cd)}{i:Yx}
theorem Jbb:⟨i.z,Zb2 v i.ti i.to, .no⟩∈Y0 v f cs i:= .head _
theorem Zy3:⟨i.i1,i.o1, .no⟩∈Y0 v f cs i:= .tail _ (.head _)
theorem Zy4:⟨i.i2,i.o2, .no⟩∈Y0 v f cs i:= .tail _ (.tail _ (.head _))
theorem Jhr:⟨i.l6,i.o6, .no⟩∈Y0 v f cs i:= .tail _ (.tail _ (.tail _ (.head _)))
end
theorem Z5g {k:KT}{a b:Nat}{o:Obj}(e:k.get a=some o)(n:k.get b=none):a≠b:=fun q=>by rw[q,n] at e;cases e
theorem Zlk {w:World}{g:G}(GO:J5 (vW w) g){fr:Yx->Obj}{cs:List (Int×Int×Cd)}(TG:Zqm w g fr cs)(frI:∀i o1 o2,fr (i.go o1 o2)=fr i){A:Around}(hA:ALw A){i:Yx}{k:Nat}{x:Nat->Int}{s s0:Shared}
  (H:LpS (vW w) s0 (fr i) cs i k x s) (hk:k<6) (ok:Ze0 i.vs (x k) i.m (Z2x.getD k (st "")) i.tape i.O i.S) {R0:Result->Shared->Prop}
  (nx:∀Y c1 c2 c3 s',Z1s Y=Z1s i->Y.z=i.z->Y.tape=i.tape->Y.m=i.m->Y.vs=i.vs->(Y.to::(Y0 .none (frY Y) [k1 c1,k2 c2,k3 c3] Y).map Sl.a)=(i.to::(Y0 .none (fr i) cs i).map Sl.a)->LpS (vW w) s0 (frY Y) [k1 c1,k2 c2,k3 c3] Y (k+1) x s'->dTu (Jd i.tape (Z2x.getD k (st ""))) (Z2x.getD k (st "")) i.O i.S Y.O Y.S->
   bR (M (vW w)) A (.forLoop (Z4w Z1b) (.ref i.z) (Q8 Z1b) [] (Z1s i)) R0 s'):
  bR (M (vW w)) A (.forLoop (Z4w Z1b) (.ref i.z) (Q8 Z1b) [] (Z1s i)) R0 s:=by
 refine Z7 fun k'=> ?_;obtain⟨B,lg,elg,X⟩:=H.sv;have I:∀y∈Y0 .none (fr i) cs i,s.heap.get? y.a=some y.o/\Y1 s.heap y.g:=fun y hy=>X.old.plain (elg▸hy) (Z7k (Z6k y hy));have low:∀y∈Y0 .none (fr i) cs i,(vW w).kt.get y.a=none:=fun y hy=>X.rep.low y (elg▸hy);have D:Z92 i.z i.ti i.to i.i1 i.i2 i.l6:=Zjl H.nd;have z0:=(I _ Jbb).1;have a1:=(I _ Zy3).1;have a2:=(I _ Zy4).1;haveI a6:=(I _ Jhr).1;obtain⟨t,c1,d1⟩:=H.s1;obtain⟨c2,d2⟩:=H.s2;obtain⟨vs,n,e6,hv⟩:=H.s6;obtain⟨lt,hx⟩:=hv k hk;obtain⟨ch,hc,hl⟩:=Jba k hk;obtain⟨a,b,hto,hab⟩:=H.to;rw[hl] at ok nx;have l0:=low _ Jbb;have l1:=low _ Zy3;have l2:=low _ Zy4;have hT:∀y∈Y0 .none (fr i) cs i,y.a≠s.heap.objs.size:=fun y hy q=>by
  have:=(I y hy).1;rw[q,Z0j] at this;contradiction
 have lowT:(vW w).kt.get s.heap.objs.size=none:=by
  cases q:(vW w).kt.get s.heap.objs.size with
  |none=>rfl
  |some o=>
   have:=X.rep.kt _ _ q;rw[Z0j] at this;contradiction
 refine k' ?_;refine Ztd (Z13 GO 100000) hA (P:=fun val s'=>∃h',val= .ref s.heap.objs.size/\s'={s with heap:=h',toks:=s.toks+1}/\lK h' i.z i.ti i.to (dP s.heap.objs.size)/\gM h' i.to (.str ⟨#[ch]⟩ s.toks) (.int (x k) lt)/\h'.IsStrIter i.i1 "str_ascii_iterator" (st "abcdef") t (k+1)/\h'.IsListIter i.i2 i.l6 (k+1)/\gM h' s.heap.objs.size (.str ⟨#[ch]⟩ s.toks) (.int (x k) lt)/\h'.objs.size=s.heap.objs.size+1/\
   (∀c o,c≠i.z->c≠i.to->c≠i.i1->c≠i.i2->s.heap.get? c=some o->h'.get? c=some o))
  (fun Q E hQ=>Zjk (ys:=vs.toArray) D z0 H.ti hto ⟨_,a1,c1,d1⟩ ⟨_,a2,c2,d2⟩ ⟨_,a6,by rw[e6];rfl,n,by rw[e6];rfl⟩ hc (by simpa using hx) fun h' z1 t1 n1 Z p1 sz J=>hQ _ _ ⟨h',rfl,rfl,z1,t1,n1,Z,p1,sz,J⟩) ?_
 rintro val s' ⟨h',rfl,rfl,z1,t1,⟨o1,b1,f1,g1⟩,⟨o2,b2,f2,g2⟩,p1,sz,J⟩;refine Z7 fun k'=> ?_;obtain⟨hs,hg⟩:=TG (i.go o1 o2) s.heap.objs.size s.toks lt ⟨#[ch]⟩ (x k) ok (h'.objs.size-8) (s.toks+1);obtain⟨W,hW⟩:∃W:List Sl,W=⟨i.z,Zb2 (dP (Int.ofNat s.heap.objs.size)) i.ti i.to, .no⟩::⟨s.heap.objs.size,Yf (.str ⟨#[ch]⟩ s.toks) (.int (x k) lt), .no⟩::⟨i.i1,o1, .no⟩::⟨i.i2,o2, .no⟩::(Y0 .none (fr i) cs i).drop 3:=⟨_,rfl⟩;haveI eW:(Y0 (dP (Int.ofNat s.heap.objs.size)) (fr (i.go o1 o2)) cs (i.go o1 o2)).take 1++⟨s.heap.objs.size,Yf (.str ⟨#[ch]⟩ s.toks) (.int (x k) lt), .no⟩::(Y0 (dP (Int.ofNat s.heap.objs.size)) (fr (i.go o1 o2)) cs (i.go o1 o2)).drop 1=W:=by
  simp only[hW,frI];rfl
 rw[eW] at hg;have hd3:∀y∈(Y0 .none (fr i) cs i).drop 3,y∈Y0 .none (fr i) cs i:=fun y hy=>fD hy;haveI nd3:(i.ti::i.to::i.z::i.i1::i.i2::((Y0 .none (fr i) cs i).drop 3).map Sl.a).Nodup:=H.nd;haveI nd4:=nd3;simp only[bM,aC,not_or] at nd4;obtain⟨⟨q1,q2,q3,q4,q5⟩,⟨r1,r2,r3,r4⟩,⟨u1,u2,u3⟩,⟨v1,v2⟩,w1,w2⟩:=nd4;haveI st1:St (vW w) ⟨{s with heap:=h',toks:=s.toks+1},W.map Sl.a,[]⟩ ⟨aO (h'.objs.size-8) 8,0,s.toks+1,0,W⟩ {s with heap:=h',toks:=s.toks+1}:=by
  rw[hW];refine St.anew ?_ ?_ ?_ ?_ X.rep.stat ?_ ?_
  ·intro y hy;rcases aC.mp hy with rfl|hy
   ·exact Je (s:=⟨i.z,Zb2 (dP (Int.ofNat s.heap.objs.size)) i.ti i.to, .no⟩) (g:= .no) rfl z1 trivial
   rcases aC.mp hy with rfl|hy
   ·exact Je (s:=⟨s.heap.objs.size,Yf (.str ⟨#[ch]⟩ s.toks) (.int (x k) lt), .no⟩) (g:= .no) rfl p1 trivial
   rcases aC.mp hy with rfl|hy
   ·exact Je (s:=⟨i.i1,o1, .no⟩) (g:= .no) rfl b1 trivial
   rcases aC.mp hy with rfl|hy
   ·exact Je (s:=⟨i.i2,o2, .no⟩) (g:= .no) rfl b2 trivial
   ·haveI hm:=aL (f:=Sl.a) hy;haveI hO1879:=I y (hd3 y hy);haveI k1:=hO1879.1;haveI k2:=hO1879.2;refine Je (s:=y) (g:=y.g) (Z7k (Z6k y (hd3 y hy))) (J _ _ (fun q=>u3 (q▸hm)) (fun q=>r4 (q▸hm)) (fun q=>v2 (q▸hm)) (fun q=>w1 (q▸hm)) k1) ?_;exact Zlj z0 rfl hto hab a1 c1 a2 c2 J (Z6k y (hd3 y hy)) k2
  ·show(i.z::s.heap.objs.size::i.i1::i.i2::((Y0 .none (fr i) cs i).drop 3).map Sl.a).Nodup;haveI m3:s.heap.objs.size∉((Y0 .none (fr i) cs i).drop 3).map Sl.a:=fun z=>by
    obtain⟨y,hy,e⟩:=aN.mp z;exact hT y (hd3 y hy) e
   haveI m0:=hT _ (show _∈_ from List.Mem.head _);haveI m1:=hT _ Zy3;haveI m2:=hT _ Zy4;simp only[bM,aC,not_or];exact⟨⟨m0,u1,u2,u3⟩,⟨fun q=>m1 q.symm,fun q=>m2 q.symm,m3⟩,⟨v1,v2⟩,w1,w2⟩
  ·intro y hy;rcases aC.mp hy with rfl|hy
   ·exact l0
   rcases aC.mp hy with rfl|hy
   ·exact lowT
   rcases aC.mp hy with rfl|hy
   ·exact l1
   rcases aC.mp hy with rfl|hy
   ·exact l2
   ·exact low y (hd3 y hy)
  ·exact fun a' o e=>J a' o (Z5g e l0) (Z5g e H.lo) (Z5g e l1) (Z5g e l2) (X.rep.kt _ _ e)
  ·obtain⟨os,eo⟩:=X.rep.stat;exact X.rep.nolim.at fun o e=>J _ o (Z5g eo l0) (Z5g eo H.lo) (Z5g eo l1) (Z5g eo l2) e
  ·show 8<=h'.objs.size;have:=X.rep.big;lia
 refine k' ?_;refine⟨_,_,hs,_,hg,st1, ?_⟩;intro s'' hp;obtain⟨j,hj,-,U,hD,-,st2⟩:=Z2l hp;simp only[Jb9] at st2;refine nx (Zy2 (i.go o1 o2) U) _ _ _ s'' rfl rfl rfl rfl rfl rfl ⟨?_,⟨_,_,rfl,st2⟩, ?_,⟨_,_,st2.rep.tup i.to _ t1 (.inl rfl),fun u u q=>by contradiction⟩,H.lo,H.nd,⟨t,f1,g1⟩,⟨f2,g2⟩,⟨vs,n,e6,hv⟩⟩ hD
 ·refine H.ld.trans ⟨fun c o e n=> ?_,st2.gens,st2.os⟩;haveI Z:c∉i.to::i.z::i.i1::i.i2::((Y0 .none (fr i) cs i).drop 3).map Sl.a:=n;simp only[aC,not_or] at Z;refine st2.led rfl|>.kp c o (J c o Z.2.1 Z.1 Z.2.2.1 Z.2.2.2.1 e) ?_
  show c∉W.map Sl.a;rw[hW];simp only[aP,aC,not_or];exact⟨Z.2.1,fH (cV e),Z.2.2.1,Z.2.2.2.1,Z.2.2.2.2⟩
 ·exact st2.rep.tup i.ti _ (J _ _ D.tiz D.tito D.tii1 D.tii2 H.ti) (.inl rfl)
theorem Jei:J5 (vW (w2 w b c)) Zxh:=
 gC (Zil _) (gC (Zsy w b c) (gC (Zxd w b c) (gC (Zzs w b c) (gC (Zzt w b c) (gN (Z4x _))))))
theorem Jej:J5 (vW (w2 w b c)) Zxi:=
 gC (Zil _) (gC (Zsy w b c) (gC (Zxf w b c) (gC (Zzs w b c) (gC (Zzt w b c) (gN (Z4x _))))))
noncomputable def Z23(i:Yx)(c1 c2 a:Cd):ReI:=⟨i.f,i.fo,i.ct,i.tape,i.tt,i.oa,i.no,i.O,i.sa,i.ns,i.S,c1,c2,a⟩
theorem Jbc {w:World}{A:Around}(hA:ALw A){i:Yx}{x:Nat->Int}{c1 c2 J:Cd}{s s0:Shared}(H:LpS (vW w) s0 (frY i) [k1 c1,k2 c2,k3 J] i 6 x s){R0:Result->Shared->Prop}
  (nx:∀N T s',Led (i.to::(Y0 .none (frY i) [k1 c1,k2 c2,k3 J] i).map Sl.a) s0 s'->St (vW w) ⟨s',(pRe (Z23 i c1 c2 J)).map Sl.a,[]⟩ ⟨aO N 8,0,T,0,pRe (Z23 i c1 c2 J)⟩ s'->R0 (.ok .next) s'):
  bR (M (vW w)) A (.forLoop (Z4w Z1b) (.ref i.z) (Q8 Z1b) [] (Z1s i)) R0 s:=by
 refine Z7 fun k'=> ?_;obtain⟨B,lg,elg,W⟩:=H.sv;have I:∀y∈Y0 .none (frY i) [k1 c1,k2 c2,k3 J] i,s.heap.get? y.a=some y.o/\Y1 s.heap y.g:=fun y m=>W.old.plain (elg▸m) (Z7k (Z6k y m));have low:∀y∈Y0 .none (frY i) [k1 c1,k2 c2,k3 J] i,(vW w).kt.get y.a=none:=fun y m=>W.rep.low y (elg▸m);have D:Z92 i.z i.ti i.to i.i1 i.i2 i.l6:=Zjl H.nd;have z0:=(I ⟨i.z,Zb2 .none i.ti i.to, .no⟩ (.head _)).1;have a1:=(I ⟨i.i1,i.o1, .no⟩ (.tail _ (.head _))).1;have a2:=(I ⟨i.i2,i.o2, .no⟩ (.tail _ (.tail _ (.head _)))).1;have l0:=low ⟨i.z,Zb2 .none i.ti i.to, .no⟩ (.head _);have l1:=low ⟨i.i1,i.o1, .no⟩ (.tail _ (.head _));obtain⟨t,e1,d1⟩:=H.s1;obtain⟨e2,d2⟩:=H.s2;obtain⟨a,b,hto,hab⟩:=H.to;have nd3:(i.ti::i.to::i.z::i.i1::i.i2::((Y0 .none (frY i) [k1 c1,k2 c2,k3 J] i).drop 3).map Sl.a).Nodup:=H.nd;have nd4:=nd3;simp only[bM,aC,not_or] at nd4;obtain⟨⟨q1,q2,q3,q4,q5⟩,⟨r1,r2,r3,r4⟩,⟨u1,u2,u3⟩,⟨v1,v2⟩,w1,w2⟩:=nd4;refine k' ?_;refine Zy1 fun Q E hQ=>Zk8 hA.h D.i1z z0 H.ti ⟨_,a1,e1,d1⟩ (by decide+kernel) fun h' hk=>hQ _ (nx (h'.objs.size-8) s.toks _ (H.ld.trans ⟨fun c o e n=> ?_,rfl,rfl⟩) ?_)
 ·simp only[Y0,aP,aC,not_or] at n;exact hk c o n.2.1 n.2.2.1 e
 have rest:∀y∈(Y0 .none (frY i) [k1 c1,k2 c2,k3 J] i).drop 3,h'.get? y.a=some y.o/\Y1 h' y.g/\y.a≠i.z/\y.a≠i.i1:=fun y m=>by
  haveI hm:=aL (f:=Sl.a) m;haveI hy3:=fD m;haveI Y:=I y hy3;haveI k1':=Y.1;haveI k2':=Y.2;exact⟨hk _ _ (fun q=>u3 (q▸hm)) (fun q=>v2 (q▸hm)) k1',Zlj z0 rfl hto hab a1 e1 a2 e2 (fun c o n1 j n3 j e=>hk c o n1 n3 e) (Z6k y hy3) k2',fun q=>u3 (q▸hm),fun q=>v2 (q▸hm)⟩
 have Z:∀y∈pRe (Z23 i c1 c2 J),y∈(Y0 .none (frY i) [k1 c1,k2 c2,k3 J] i).drop 3:=by
  intro y m;simp only[pRe,Z23,aC,aD,or_false] at m;simp only[Y0,List.drop_succ_cons,kW,aC,aD,or_false];rcases m with rfl|rfl|rfl|rfl|rfl
  ·exact .inr (.inl rfl)
  ·exact .inr (.inr (.inl rfl))
  ·exact .inr (.inr (.inr (.inr (.inr (.inr (.inr (.inl rfl)))))))
  ·exact .inr (.inr (.inr (.inr (.inr (.inr (.inr (.inr (.inl rfl))))))))
  ·exact .inr (.inr (.inr (.inr (.inr (.inr (.inr (.inr (.inr rfl))))))))
 refine St.anew ?_ ?_ ?_ ?_ W.rep.stat ?_ ?_
 ·intro y m;haveI X:=rest y (Z y m);haveI g1:=X.1;haveI g2:=X.2.1;exact Je (s:=y) (g:=y.g) (Z7k (Z6k y (fD (Z y m)))) g1 g2
 ·haveI h5:([i.l6,i.f,i.ct,i.cl,i.cn,i.ln,i.cm,i.oa,i.sa,307]:List Nat).Nodup:=(nd3.sublist (pB 5 _):_);haveI h6:([i.f,i.ct,i.oa,i.sa,307]:List Nat).Sublist [i.l6,i.f,i.ct,i.cl,i.cn,i.ln,i.cm,i.oa,i.sa,307]:=
   .cons _ (.cons_cons _ (.cons_cons _ (.cons _ (.cons _ (.cons _ (.cons _ (.refl _)))))))
  exact h6.nodup h5
 ·exact fun y m=>low y (fD (Z y m))
 ·intro a' o e;refine hk a' o (fun q=> ?_) (fun q=> ?_) (W.rep.kt _ _ e)<;>subst q
  ·rw[l0] at e;contradiction
  ·rw[l1] at e;contradiction
 ·obtain⟨os,eo⟩:=W.rep.stat;refine W.rep.nolim.at fun o e=>hk _ o (fun q=> ?_) (fun q=> ?_) e<;>rw[q] at eo
  ·rw[l0] at eo;contradiction
  ·rw[l1] at eo;contradiction
 ·show 8<=h'.objs.size;have:=cV (rest (Z7i [k1 c1,k2 c2,k3 J]) (Z _ (.tail _ (.tail _ (.tail _ (.tail _ (.head _))))))).1;have:307<h'.objs.size:=this;exact aK (by decide) this
noncomputable def Bld(a:Str):Nat->List Is->List Is->Prop
 |0,O,S=>O=[]/\S=[]
 |k+1,O,S=>∃m j,Bld a k m j/\dTu (Jd a (Z2x.getD k (st ""))) (Z2x.getD k (st "")) m j O S
theorem Ze3 {α:Type}(L:List α)(a:Nat)(x:α):(L.take a++x::L.drop a).length=L.length+1:=by
 rw[aV,bQ,<-gW,<-aV,cT]
theorem Zjm(L:List Is)(a:Nat)(x:Is):(insI L a x).length=L.length+1:=Ze3 L a x
theorem Bld.len {a:Str}:∀{k:Nat}{O S:List Is},Bld a k O S->O.length=k/\S.length=k
 |0,O,S,h=>by obtain⟨rfl,rfl⟩:=h;exact⟨rfl,rfl⟩
 |k+1,O,S,h=>by
  refine Z7 fun m=> ?_;obtain⟨I,y,j,e,q,_,_,rfl,rfl⟩:=h;have:=j.len;refine m ?_;rw[Zjm,Zjm];lia
theorem J2y {k:Nat}(a:k<6):Z2x.getD k (st "")∈Z2a:=by
 rw[aI,aS (show k<Z2x.length from a)];exact dD (l:=Z2x) a
theorem Zll {a:Str}{m:Int}{x:Nat->Int}{vs:List Value}(D:Z9s a m x vs){k:Nat}(j:k<6){O S:List Is}(y:Bld a k O S):Ze0 vs (x k) m (Z2x.getD k (st "")) a O S:=by
 haveI d1:=D.1;haveI Y:=D.2.1;haveI I:=D.2.2;refine Z7 fun k'=> ?_;obtain⟨q,X,e3,n,W,Z,J⟩:=I k j;have:=y.len;exact k' (⟨⟨n,W,Z,J⟩,q,d1,X,e3,J2y j,Y,by lia,by lia⟩)
theorem Jbd {fr:Obj}{cs:List (Int×Int×Cd)}{i:Yx}{c1 c2 m:Cd}:(pRe (Z23 i c1 c2 m)).map Sl.a⊆i.to::(Y0 .none fr cs i).map Sl.a:=by
 intro y j;simp only[pRe,Z23,aP,fE,aC,aD,or_false] at j;simp only[Y0,aP,fE,aC,aD,or_false];rcases j with rfl|rfl|rfl|rfl|rfl
 ·simp
 ·simp
 ·simp
 ·simp
 ·simp[Z7i]
theorem J01(w:World)(b c:Bool){A:Around}(J:ALw A){x:Nat->Int}{m:Int}{j:Str}{vs:List Value}{z:Nat}{env:Env}(D:Z9s j m x vs){W:Result->Shared->Prop}
  (s0:Shared) (Z:List Nat) (I:∀i c1 c2 q N T s',Z1s i=env->i.tape=j->Bld j 6 i.O i.S->(pRe (Z23 i c1 c2 q)).map Sl.a⊆Z->Led Z s0 s'->St (vW (w2 w b c)) ⟨s',(pRe (Z23 i c1 c2 q)).map Sl.a,[]⟩ ⟨aO N 8,0,T,0,pRe (Z23 i c1 c2 q)⟩ s'->W (.ok .next) s'):
  ∀n k,k+n=6->∀i c1 c2 q s,(i.to::(Y0 .none (frY i) [k1 c1,k2 c2,k3 q] i).map Sl.a)=Z->LpS (vW (w2 w b c)) s0 (frY i) [k1 c1,k2 c2,k3 q] i k x s->i.tape=j->i.m=m->i.vs=vs->i.z=z->Z1s i=env->Bld j k i.O i.S->
   bR (M (vW (w2 w b c))) A (.forLoop (Z4w Z1b) (.ref z) (Q8 Z1b) [] env) W s
 |0,k,hk,i,c1,c2,q,s,eZ,H,e1,e2,e3,e4,e5,hB=>by
  obtain rfl:k=6:=(hk);rw[<-e4,<-e5];exact Jbc J H fun N T s' ld st'=>I i c1 c2 q N T s' e5 e1 hB (by simp only[<-eZ];exact Jbd) (eZ▸ld) st'
 |n+1,k,hk,i,c1,c2,q,s,eZ,H,e1,e2,e3,e4,e5,hB=>by
  rw[<-e4,<-e5];refine Zlk (Jej w b c) (tuS w b c c1 c2 q) (fun y y y=>rfl) J H (by lia) (by simp only[e1,e2,e3];exact Zll D (by lia) hB) fun i' d1 d2 d3 s' f1 f2 f3 f4 f5 f6 Y X=> ?_;rw[e4,e5];exact J01 w b c J D s0 Z I n (k+1) (Yy [] [_,_] [.n Za8 (.n 6)] [] (.n Zct (.n 6)) rfl hk) i' d1 d2 d3 s' (f6.trans eZ) Y (f3.trans e1) (f4.trans e2) (f5.trans e3) (f2.trans e4) (f1.trans e5) ⟨_,_,hB,by rw[e1] at X;exact X⟩
theorem J2z{A:Around}(X:ALw A){x:Nat->Int}{i:Yx}(D:Z9s i.tape i.m x i.vs){W:Result->Shared->Prop}{s s0:Shared}(H:LpS (vW (w2 w b c)) s0 (frZ i) [] i 0 x s)(hO:i.O=[])(hS:i.S=[])
  (q:∀j c1 c2 I N T s',Z1s j=Z1s i->j.tape=i.tape->Bld i.tape 6 j.O j.S->(pRe (Z23 j c1 c2 I)).map Sl.a⊆(i.to::(Y0 .none (frZ i) [] i).map Sl.a)->Led (i.to::(Y0 .none (frZ i) [] i).map Sl.a) s0 s'->St (vW (w2 w b c)) ⟨s',(pRe (Z23 j c1 c2 I)).map Sl.a,[]⟩ ⟨aO N 8,0,T,0,pRe (Z23 j c1 c2 I)⟩ s'->W (.ok .next) s'):
  bR (M (vW (w2 w b c))) A (.forLoop (Z4w Z1b) (.ref i.z) (Q8 Z1b) [] (Z1s i)) W s:=by
 haveI J:Bld i.tape 0 i.O i.S:=⟨hO,hS⟩;refine Zlk (Jei w b c) (tuN w b c) (fun y y y=>rfl) X H (by lia) (Zll D (by lia) J) fun j d1 d2 Y s' f1 f2 f3 f4 f5 f6 Z hd=> ?_;exact J01 w b c X D s0 _ q 5 1 rfl j d1 d2 Y s' f6 Z f3 f4 f5 f2 f1 ⟨_,_,J,hd⟩
def tT(a:Str)(j:Nat):Int×Str:=(ckT a).getD j Jc
def fT(a:Str)(j:Nat):Int:=-(tT a j).1
theorem Z7l {f:Nat->Int}{a:Nat}:¬stB f a a:=fun h=>h.elim (jX _) fun q=>jS _ q.2
theorem Zte {f:Nat->Int}{a b:Nat}(h:stB f a b)(g:stB f b a):False:=Z7l (Zev h g)
theorem Zlm {f:Nat->Int}:∀(A B:List Nat),A.Pairwise (stB f)->B.Pairwise (stB f)->(∀x,x∈A↔x∈B)->A=B:=by
 intro I
 induction I with
 |nil=>
  intro j;cases j with
  |nil=>
   intro _ _ _;exact rfl
  |cons b B=>
   intro _ _ h;exact absurd ((h b).mpr (.head _)) aD
 |cons a A ih=>
  intro j;cases j with
  |nil=>
   intro _ _ h;exact absurd ((h a).mp (.head _)) aD
  |cons b B=>
   intro X W h;obtain⟨y,Y⟩:=dO.mp X;obtain⟨m,J⟩:=dO.mp W;haveI e:a=b:=by
    rcases aC.mp ((h a).mp (.head _)) with q|q
    ·exact q
    ·rcases aC.mp ((h b).mpr (.head _)) with r|r
     ·exact r.symm
     ·exact(Zte (m a q) (y b r)).elim
   subst e
   congr 1
   refine ih B Y J fun x=>⟨fun q=> ?_,fun q=> ?_⟩
   ·rcases aC.mp ((h x).mp (.tail _ q)) with r|r
    ·subst r;exact(Z7l (y x q)).elim
    ·exact r
   ·rcases aC.mp ((h x).mpr (.tail _ q)) with r|r
    ·subst r;exact(Z7l (m x q)).elim
    ·exact r
theorem Ztf {α:Type}{R:α->α->Prop}{L:List α}{d x:α}{a:Nat}(h:L.Pairwise R)(I:∀i,i<a->i<L.length->R (L.getD i d) x)(J:∀i,a<=i->i<L.length->R x (L.getD i d)):(L.take a++x::L.drop a).Pairwise R:=by
 have g:∀i (m:i<L.length),L.getD i d=L[i]:=fun i m=>by simp only[aI,aS m];rfl
 have t1:∀y∈L.take a,R y x:=fun y hy=>by
  refine Z7 fun Y=> ?_;obtain⟨i,m,e⟩:=lH hy;rw[mI] at m;rw[oZ] at e;have:=I i (by lia) (by lia);rw[g i (by lia),e] at this;refine Y ?_;exact this
 have t2:∀y∈L.drop a,R x y:=fun y hy=>by
  obtain⟨i,m,e⟩:=lH hy;rw[pR] at m;rw[pA] at e;have:=J (a+i) (mR _ _) (by lia);simp only[g (a+i) (by lia),e] at this;exact this
 haveI hs:(L.take a++L.drop a).Pairwise R:=by rw[cT];exact h
 haveI j:=lC.mp hs;haveI X:=j.1;haveI W:=j.2.1;haveI Z:=j.2.2;exact lC.mpr ⟨X,dO.mpr ⟨t2,W⟩,fun u q y hy=>by
  rcases aC.mp hy with rfl|hy
  ·exact t1 u q
  ·exact Z u q y hy⟩
theorem Zln {α:Type}{L:List α}{x y:α}{a:Nat}:y∈L.take a++x::L.drop a↔y=x\/y∈L:=by
 haveI e:y∈L↔y∈L.take a++L.drop a:=by rw[cT]
 simp only[e];simp only[aG,aC];exact⟨fun h=>by rcases h with h|h|h<;>simp[h],fun h=>by rcases h with h|h|h<;>simp[h]⟩
theorem J02 {α:Type}{R:α->α->Prop}{L:List α}{d:α}(h:L.Pairwise R){i j:Nat}(m:i<j)(a:j<L.length):R (L.getD i d) (L.getD j d):=by
 simp only[aI,aS (show i<L.length by lia),aI,aS a];exact fA.mp h i j (by lia) a m
theorem Zlo {α:Type}{L:List α}{d:α}{i:Nat}(a:i<L.length):L.getD i d∈L:=by
 simp only[aI,aS a];exact dD _
theorem Ze4 {a:Str}{O:List Is}{p:List Nat}(e:O.map Is.ck=p.map (tT a)){i:Nat}(j:i<p.length):(O.getD i Zo).c=-fT a (p.getD i 0):=by
 haveI h:=Q9 O i;rw[e] at h;rw[aI,bE,aS j] at h;haveI m:(tT a (p.getD i 0)).1=(O.getD i Zo).c:=by
  rw[aI (l:=p),aS j];exact congrArg kY h
 unfold fT;lia
theorem Z9t {α β:Type}(f:α->β)(L:List α)(a:Nat)(x:α):(L.take a++x::L.drop a).map f=(L.map f).take a++f x::(L.map f).drop a:=by
 simp only[bB,aP,qT,qU]
structure Zy5(tape:Str)(k:Nat)(O S:List Is)(p q:List Nat):Prop where
 eo:O.map Is.ck=p.map (tT tape)
 es:S.map Is.ck=q.map (tT tape)
 po:p.Pairwise (stB (fT tape))
 ps:q.Pairwise fun a b=>stB (fT tape) b a
 mo:∀x,x∈p↔x<k
 ms:∀x,x∈q↔x<k
 lo:p.length=k
 ls:q.length=k
theorem Zy6 {a:Str}{k:Nat}(hk:k<8){O S O' S':List Is}{p q:List Nat}{F:Int}{le:Str}(H:Zy5 a k O S p q)(Z:tT a k=(F,le))(hd:dTu F le O S O' S'):∃p' q',Zy5 a (k+1) O' S' p' q':=by
 refine Z7 fun k'=> ?_;obtain⟨e,X,c1,c2,rfl,rfl⟩:=hd;obtain⟨W,I,po,ps,mo,ms,lo,ls⟩:=H;have lO:O.length=k:=by rw[<-aE (f:=Is.ck),W,aE,lo]
 have lS:S.length=k:=by rw[<-aE (f:=Is.ck),I,aE,ls]
 have hF:fT a k=-F:=by unfold fT;rw[Z]
 have ec:e.c=F:=congrArg kY c1;have Y:X.c=F:=congrArg kY c2;obtain⟨-,r2,r3,r4⟩:=Z2p (f:=fun i=>¬-e.c< -(O.getD i Zo).c) (N:=O.length) (fun i j J hj h=>by
  rcases pJ J with z|z
  ·rw[z];exact h
  ·have w:=J02 (d:=0) po z (by lia);rw[Ze4 W (by lia)] at h⊢;unfold stB at w;lia) 8 0 O.length (by lia) (by lia) (by lia)
 obtain⟨-,s2,s3,s4⟩:=Z2p (f:=fun i=>(S.getD i Zo).c<X.c) (N:=S.length) (fun i j J hj h=>by
  rcases pJ J with z|z
  ·rw[z];exact h
  ·have w:=J02 (d:=0) ps z (by lia);rw[Ze4 I (by lia)] at h⊢;unfold stB at w;lia) 8 0 S.length (by lia) (by lia) (by lia)
 refine k' ?_;refine⟨p.take (kR O e)++k::p.drop (kR O e),q.take (kL S X)++k::q.drop (kL S X), ?_, ?_, ?_, ?_, ?_, ?_, ?_, ?_⟩
 ·unfold insI;simp only[Z9t,Z9t,W,c1,Z]
 ·unfold insI;simp only[Z9t,Z9t,I,c2,Z]
 ·refine Ztf (d:=0) po (fun i y m=> ?_) (fun i y m=> ?_)
  ·haveI h:=r3 i (bP _) y;rw[Ze4 W m,ec] at h;have:=(mo _).mp (Zlo (d:=0) m);unfold stB;lia
  ·have h:=r4 i y (by lia);rw[Ze4 W m,ec] at h;unfold stB;lia
 ·refine Ztf (d:=0) ps (fun i y m=> ?_) (fun i y m=> ?_)
  ·have h:=s3 i (bP _) y;simp only[Ze4 I m,Y] at h;unfold stB;lia
  ·haveI h:=s4 i y (by lia);simp only[Ze4 I m,Y] at h;have:=(ms _).mp (Zlo (d:=0) m);unfold stB;lia
 ·intro x;rw[Zln,mo];lia
 ·intro x;rw[Zln,ms];lia
 ·rw[Ze3,lo]
 ·rw[Ze3,ls]
theorem Jhs(a:Str):∀k,k<6->tT a k=(Jd a (Z2x.getD k (st "")),Z2x.getD k (st ""))
 |0,_=>rfl
 |1,_=>rfl
 |2,_=>rfl
 |3,_=>rfl
 |4,_=>rfl
 |5,_=>rfl
 |n+6,h=>absurd h (cQ (bO _ _))
theorem J30 {a:Str}:∀{k:Nat}{O S:List Is},k<=6->Bld a k O S->∃p q,Zy5 a k O S p q:=by
 intro m
 induction m with
 |zero=>
  intro O S _ h;obtain⟨rfl,rfl⟩:=h;exact⟨[],[],rfl,rfl, .nil, .nil,fun x=>by simp,fun x=>by simp,rfl,rfl⟩
 |succ k ih=>
  intro O S j h;refine Z7 fun I=> ?_;obtain⟨W,X,J,y⟩:=h;obtain⟨p,q,H⟩:=ih (lZ j) J;refine I ?_;exact Zy6 (aK j (by decide)) H (Jhs a k (j)) y
theorem Jek {f:Nat->Int}{p L:List Nat}(j:p.Pairwise (stB f))(m:∀x,x∈p↔x<6)(q:p.length=6)(a:L.Pairwise (stB f))(J:∀i,i<6->i∈L)(I:L.length=6):p=L:=by
 have e:p=L.filter fun x=>decide (x<6):=Zlm _ _ j (a.sublist dR) fun x=>by
  rw[cI,m];exact⟨fun h=>⟨J x h,decide_eq_true h⟩,fun h=>of_decide_eq_true h.2⟩
 haveI y:(L.filter fun x=>decide (x<6))=L:=dR.eq_of_length (by simp only[<-e,q,I]);exact e.trans y
structure Jht(tape:Str)(O S:List Is):Prop where
 hT:∀L:List Is,L.map Is.ck=ckT tape->O.map Is.ck=(skL L).map Is.ck
 hd:(Dt.is (O.map Is.ck)).ok
 h6:O.length=6
 hS:S.map Is.ck=O.reverse.map Is.ck
theorem Jel(a:Str):∀k,cF (tT a k).2=true
 |0=>by show cF (st "a")=true;decide+kernel
 |1=>by show cF (st "b")=true;decide+kernel
 |2=>by show cF (st "c")=true;decide+kernel
 |3=>by show cF (st "d")=true;decide+kernel
 |4=>by show cF (st "e")=true;decide+kernel
 |5=>by show cF (st "f")=true;decide+kernel
 |n+6=>by show cF Jc.2=true;decide+kernel
theorem Jem {a:Str}{O S:List Is}(h:Bld a 6 O S):Jht a O S:=by
 obtain⟨p,q,m,es,X,Z,I,ms,Y,ls⟩:=J30 (cB 6) h;refine⟨fun L J=> ?_, ?_, ?_, ?_⟩
 ·haveI ef:(fun i=>(L.map fun e=>-e.c).getD i 0)=fT a:=by
   funext i
   dsimp only[fT,tT];rw[<-J,Q9];simp only[aI,aI,bE];cases L[i]?<;>rfl
  haveI j:=Zzz fun i=>(L.map fun e=>-e.c).getD i 0;haveI W:=j.1;haveI s2:=j.2.1;haveI s3:=j.2.2;rw[ef] at W;haveI e:=Jek X I Y W s3 s2;unfold skL;simp only[bS,<-e,m];refine eN fun i y=> ?_;show tT a i=(L.getD i Zo).ck;rw[<-Q9,J];rfl
 ·rw[m];intro r hr;obtain⟨i,-,rfl⟩:=aN.mp hr;exact Jel a i
 ·simp only[<-aE (f:=Is.ck),m,aE,Y]
 ·haveI e:p=q.reverse:=Zlm _ _ X (List.pairwise_reverse.mpr Z) fun x=>by rw[mJ,I,ms]
  simp only[es,mK,m,e,mK,List.reverse_reverse]
section
variable {v:V}{o:Jr}
theorem Jbe(O:Jm v o){B:Zt}{env:Env}{x:Cx}{K:Lg->Hs->Z8}{A:Around}{rest:List Stmt}{Q:Flow->Shared->Prop}{E:Value->Shared->Prop}(Y:Jn B x A)
  (Z:∀lg hs s,Z5 (K lg hs)->St v B lg s->aU (M v) A (nA rest env) Q E s):∀(q:List Stmt) (lg:Lg) (hs:Hs) (s:Shared),Z5 (sxN o env x K q lg hs)->St v B lg s->aU (M v) A (nA (q++rest) env) Q E s:=by
 intro W
 induction W with
 |nil=>
  intro lg hs s j m;exact Z lg hs s j m
 |cons st r ih=>
  intro lg hs s j m;haveI j:Z5 (exS o st env x lg hs (fun f lg hs=>match f with| .next=>sxN o env x K r lg hs|_=>Zd "a flow on the way") fun y y y=>Zd "an exception on the way"):=j;refine nL (bC (Zyh O j m Y) ?_ (fun y y h=>(Yg h).elim));rintro f s1 ⟨J,X,a,I⟩;cases f with
  |next=>exact ih J X s1 a I
  |brk=>exact(Z2 a).elim
  |cont=>exact(Z2 a).elim
  |ret w=>exact(Z2 a).elim
theorem Jbf(O:Jm v o){B:Zt}{target a:Expr}{body orelse:List Stmt}{W:Pos}{env:Env}{x:Cx}{lg:Lg}{hs:Hs}{K:LW.K Value}{A:Around}{s:Shared}{Q:Flow->Shared->Prop}{E:Value->Shared->Prop}
  (hg:Z5 (Zqd o a env x lg hs K)) (hst:St v B lg s) (I:Jn B x A)
  (hK:∀it lg hs s,Z5 (K it lg hs)->St v B lg s->bR (M v) (A.mark none) (.forLoop target it body orelse env) (fun r s=>∃f,r= .ok f/\Q f s) s):aU (M v) A (exec (.For target a body orelse W) env) Q E s:=by
 unfold Zqd at hg;simp only[arm_exec_For];refine aA (bW (aA (bC (O.ev B _ env x lg hs _ _ A s hg hst I) ?_ (fun y y h=>(Yg h).elim))));rintro w s1 ⟨Z,X,j,q⟩;rw[Z24,Zbd] at j;refine Zkh (bC (O.tr B _ _ _ Z X _ _ _ s1 j q I) (fun y y h=>h) (fun y y h=>(Yg h).elim)) ?_;rintro it s2 ⟨J,hs2,Y,m⟩;refine oV (cC (hK it J hs2 s2 Y m) ?_);rintro r s3 ⟨f,rfl,h⟩;exact h
set_option tactic.hygienic true in theorem J31(O:Jm v o){B:Zt}{b0 pre tail:List Stmt}{target iter:Expr}{body orelse:List Stmt}{pos:Pos}{a:Addr}{fd:FuncData}{args:Args}{x:Cx}{lg:Lg}{hs:Hs}{K:List Stmt->Env->Cx->LW.K Value}{A:Around}{s:Shared}{ob:Obj}{R0:Result->Shared->Prop}
  (hb:b0=pre++ .For target iter body orelse pos::tail) (hg:Z5 (Zxz o b0 pre iter a fd args x lg hs K)) (ho:s.heap.get? a=some ob) (hd:ob.data= .func fd) (hgen:fd.scope.isGenerator=false) (hco:fd.scope.isCoroutine=false) (hx:x.d<=900) (hst:St v B lg s) (ha:Jn B x A)
  (hK:∀env it lg hs s,Z5 (K b0 env (x.under (.func b0 env)) it lg hs)->St v B lg s->Jn B (x.under (.func b0 env)) (A.deeper env)->
   bR (M v) ((A.deeper env).mark none) (.forLoop target it body orelse env) (fun r s=>r= .ok .next/\aU (M v) (A.deeper env) (nA tail env) (fun f s=>R0 (.ok (.ret (Z52 f))) s) (fun _ _=>False) s) s):
  bR (M v) A (.call (.ref a) args) R0 s:=by
 unfold Zxz at hg;refine jM ?_;show aU _ _ (qZ (.ref a) args) _ _ s;dsimp only[qZ];refine aA (wpAny_load ho ?_);simp only[hd];simp only[Zee a fd args hgen hco];refine aA (bC (O.tr B Code _ _ lg hs _ _ _ s hg hst (ha.under rfl)) ?_ (fun e s' h=>(Yg h).elim));rintro code s' ⟨lg',hs',hg',hst'⟩;simp only at hg';refine Z7 fun k'=> ?_
 split at hg'
 ·rename_i bd env;obtain⟨e1,hg2⟩:=J0 hg';injection e1 with e1
  injection e1 with e1
  subst e1;refine k' ?_;refine aA (rK hst'.rep.nolim ?_ (aH ⟨rfl, ?_⟩))
  ·have h2:=(ha.under (c:= .call (.ref a) args) rfl).depth;simp only[Cx.under] at h2;show _<1000;exact Zm [] [_,_] [Yl, .n Yi (.n 900)] Ztj rfl h2 hx
  ·refine codeAny_func ?_;have had:=ha.deeper env bd;have key:aU (M v) (A.deeper env) (nA (pre++ .For target iter body orelse pos::tail) env) (fun f s=>R0 (.ok (.ret (Z52 f))) s) (fun _ _=>False) s':=by
    refine Jbe O had (fun lg1 hs1 s1 hg1 hst1=> ?_) pre lg' hs' s' hg2 hst';refine nL (Jbf O hg1 hst1 had fun it lg2 hs2 s2 hg3 hst2=>cC (hK env it lg2 hs2 s2 hg3 hst2 had) ?_);rintro r s3 ⟨rfl,h⟩;exact⟨.next,rfl,h⟩
   rw[<-hb] at key;refine bC key (fun f s1 h=> ?_) (fun _ _ h=>h.elim);cases f<;>exact h
 ·exact k' ((Z2 hg').elim)
end
noncomputable def Jhu(s:Stmt):Pos:=match s with| .For _ _ _ _ p=>p|_=>default
theorem Ztg:Qm (Y2 31)=(Qm (Y2 31)).take 12++ .For (Z4w Z1b) (Jb4 Z1b) (Q8 Z1b) [] (Jhu Z1b)::[Z1r 13]:=by kernel_rfl
theorem Jhv:J5 (vW (w2 w b c)) gRe:=
 gC (J2q w b c) (gC (Jec w b c) (gC (Jed _) (gN (Z4x _))))
theorem Jen:J5 (vW (w2 w b c)) (Jb7 (w2 w b c).params):=
 gC (J9r _) (gC (Jav w b c) (gC (Zdw _) (gC (Jae w b c) (gC (Jcy w b c) (gC (J23 w b c) (gC (J25 w b c) (gC (Z9p _) (gC (Z9p _) (gC (Z9p _) (gC (Jee _) (gC (Jef _) (gC (Jdr w b c) (gC (Jah w b c) (gC (Jdu w b c) (gC (J2j w b c) (gC (Zsm _) (gC (Zzj _) (gC (J9e _) (gC (Jda _) (gC (Zzd w b c) (gN (Z4x _))))))))))))))))))))))
noncomputable def Z93:List Nat:=[195,202,297,307]
structure Zy7(s:Shared)(r:Result)(s':Shared):Prop where
 r:r= .ok (.ret (.bool true))
 ld:Led Z93 s s'
 tb:∀t∈Z93,∃vs,s'.heap.get? t=some (Zv vs)
set_option tactic.hygienic true in theorem J32{A:Around}(hA:ALw A){i:Yx}{c1 c2 c3:Cd}{N T:Nat}{s:Shared}(hB:Bld i.tape 6 i.O i.S)(hst:St (vW (w2 w b c)) ⟨s,(pRe (Z23 i c1 c2 c3)).map Sl.a,[]⟩ ⟨aO N 8,0,T,0,pRe (Z23 i c1 c2 c3)⟩ s):
  aU (M (vW (w2 w b c))) A (nA [Z1r 13] (Z1s i)) (fun f s'=>(.ok (.ret (Z52 f)):Result)= .ok (.ret (.bool true))/\Led ((pRe (Z23 i c1 c2 c3)).map Sl.a) s s'/\∃vs,s'.heap.get? 307=some (Zv vs)) (fun _ _=>False) s:=by
 haveI F:=Jem hB;haveI hg:=Jhp w b c i.f i.fo i.ct i.tape i.tt i.oa i.no i.O i.sa i.ns i.S c1 c2 c3 i.cl i.cn i.cm i.ca i.ce i.cs F.hT F.hd F.h6 F.hS N T;unfold J00 at hg;refine bC ((Z13 (Jhv w b c) 100000).sx _ [Z1r 13] (Z1s i) Zj5 _ _ _ _ A s hg hst (hA.ok _)) ?_ (fun _ _ h=>(Yg h).elim);rintro f s1 ⟨lg1,hs1,hg1,hst1⟩;cases f with
 |ret w=>
  refine Z7 fun k'=> ?_;obtain⟨js,W,S,hs2,eS,eW,hW,hg2⟩:=Z0n hst1.old 1 hg1;obtain⟨e,hg3⟩:=J0 hg2;injection e with e
  obtain⟨e2,hg4⟩:=J0 hg3;injection e2 with e2
  injection e2 with e2
  obtain⟨e3,-⟩:=Z0m hg4;refine k' ?_;rw[e];refine⟨rfl,hst1.led rfl,Zu (Qo w lg1 W|>.w 0).o, ?_⟩
  generalize Qo w lg1 W=U at*
  have:=hW ⟨307,Zv (Zu (U.w 0).o),(U.w 0).g⟩ (by rw[e3];exact .head _);unfold Ji at this
  split at this
  ·rename_i q;rw[show(U.w 0).g=_ from q] at e2;cases e2
  ·exact this.1
 |next=>exact(Z2 hg1).elim
 |brk=>exact(Z2 hg1).elim
 |cont=>exact(Z2 hg1).elim
theorem Jbg {B:Zt}{out:List Env}{A:Around}{env:Env}{y:List Stmt}(a:Jn B (Cx.under ⟨305,Ze 11,none,frB true out⟩ (.func y env)) A):ALw A:=by
 haveI j:=a.depth;haveI m:=a.units;haveI I:A.depth<=306:=j;haveI q:A.units<=3003:=m;exact⟨(aK I (by decide)),by show A.units<=3500;exact aK q (by decide),a.hh⟩
set_option tactic.hygienic true in theorem Zjn {h:Heap}{t:Nat}{l:List Value}{g:Gd}(s:Ji h ⟨t,Zv l,g⟩)(e:Zy g=true):h.get? t=some (Zv l):=by
 unfold Ji at s
 split at s
 ·rename_i q;rw[show g=_ from q] at e;contradiction
 ·exact s.1
theorem Jeo:(vW (w2 w b c)).kt.get 310=some Zak:=by kernel_rfl
set_option tactic.hygienic true in theorem Zy8{A:Around}{l n:Nat}{vs:List Value}{out:List Env}{N T:Nat}{s:Shared}(hv:∀v∈vs,∃x t,v= .int x t)(h63:vs.length<=63)(ha:Jn ⟨s,[l,195,202,297,307],[]⟩ ⟨305,Ze 11,none,frB true out⟩ A)
  (hst:St (vW (w2 w b c)) ⟨s,[l,195,202,297,307],[]⟩ ⟨aO N 8,0,T,0,Zin ⟨l,n,vs⟩⟩ s):bR (M (vW (w2 w b c))) A (Jgy ⟨l,n,vs⟩) (Zy7 s) s:=by
 have hg:=Jeh w b c l n vs out hv h63 N T;unfold Ztc at hg;haveI e310:=Jeo w b c;have hl0:=(hst.old.plain (s:=⟨l,lst vs n, .no⟩) (.head _) rfl).1;refine J31 (Z13 (Jen w b c) 100000) Ztg hg (hst.rep.kt _ _ e310) rfl rfl rfl (show 305<=900 by lia) hst ha fun env it lg hs s' hg' hst' ha'=> ?_;have hA:=Jbg ha';have hAm:ALw ((A.deeper env).mark none):=⟨hA.d,hA.u,by show(none:Option Value).or (A.deeper env).handled=none;rw[hA.h];rfl⟩;unfold Jb6 at hg';obtain⟨js,W,S,hs2,eS,eW,hW,hg2⟩:=Z0n hst'.old 22 hg'
 split at hg2
 ·rename_i hdis;obtain⟨e1,hg3⟩:=J0 hg2;injection e1 with e1
  obtain⟨e2,hg4⟩:=J0 hg3;injection e2 with e2
  injection e2 with _ e2
  obtain⟨e3,hg5⟩:=Z0m hg4;obtain⟨D,x19,x20,x21⟩:=Zaf hg5
  generalize Qo it lg W=U at*
  have nd:(W.map Sl.a).Nodup:=by rw[eW];exact Z1f hst'.rep.nodup eS hdis
  have big:=hst'.rep.big;have st2:St (vW (w2 w b c)) ⟨s,[l,195,202,297,307],[]⟩ ⟨s'.heap.objs.size,0,s'.toks,0,W⟩ s':=hst'.adr hW (Z33 eS eW) nd _ _ hst'.rep.size hst'.toks;subst e1 e2;obtain⟨i,hi⟩:∃i:Yx,i={Z91 U with o1:=Zjg (st "abcdef") (Z6 (Z1n (U.w 6).o 0)) 0,o2:=Yv none ⟨[]⟩ (U.w 8).a 0,o6:=lst (six (Zjj (U.w 8).o) (Jb5 (U.w 8).o)) (Z3 (U.w 8).o)}:=⟨_,rfl⟩;have eT:Z1s (Z91 U)=Z1s i:=by rw[hi];rfl
  have ez:(U.w 5).a=i.z:=by rw[hi];rfl
  have eW2:W=[⟨i.ti,Qj [.ref i.i1, .ref i.i2], .no⟩,⟨i.to,Qj [.none, .none], .no⟩,⟨(U.w 2).a,(U.w 2).o, .no⟩,⟨(U.w 3).a,(U.w 3).o, .no⟩,⟨(U.w 4).a,(U.w 4).o, .no⟩]++Y0 .none (frZ i) [] i++Zy0 ⟨l,n,vs⟩ U:=by
   rw[e3,hi];rfl
  have hD:Z9s i.tape i.m (Zjj (U.w 8).o) i.vs:=by rw[hi];exact D
  have hP:∀y∈Y0 .none (frZ i) [] i,y∈W:=fun y hy=>by rw[eW2];exact List.mem_append_left _ (oE _ hy)
  have hO:∀y∈Zy0 ⟨l,n,vs⟩ U,y∈W:=fun y hy=>by rw[eW2];exact oE _ hy
  have m0:(⟨i.ti,Qj [.ref i.i1, .ref i.i2], .no⟩:Sl)∈W:=by rw[eW2];exact .head _
  have m1:(⟨i.to,Qj [.none, .none], .no⟩:Sl)∈W:=by rw[eW2];exact .tail _ (.head _)
  have gl:s'.heap.get? l=some (lst vs n):=(st2.old.plain (hO ⟨l,lst vs n, .no⟩ (.head _)) rfl).1;have g195:=Zjn (hW _ (hO ⟨195,Zv (Zu (U.w 19).o),(U.w 19).g⟩ (.tail _ (.head _)))) x19;have g202:=Zjn (hW _ (hO ⟨202,Zv (Zu (U.w 20).o),(U.w 20).g⟩ (.tail _ (.tail _ (.head _))))) x20;have g297:=Zjn (hW _ (hO ⟨297,Zv (Zu (U.w 21).o),(U.w 21).g⟩ (.tail _ (.tail _ (.tail _ (.head _)))))) x21;have nd5:(i.ti::i.to::(U.w 2).a::(U.w 3).a::(U.w 4).a::((Y0 .none (frZ i) [] i).map Sl.a++[l,195,202,297])).Nodup:=by rw[eW2] at nd;exact nd
  have ndZ:(i.to::((Y0 .none (frZ i) [] i).map Sl.a++[l,195,202,297])).Nodup:=nd5.sublist (.cons _ (.cons_cons _ (.cons _ (.cons _ (.cons _ (.refl _))))));have ndA:=hV.mp (show((i.to::(Y0 .none (frZ i) [] i).map Sl.a)++[l,195,202,297]).Nodup from ndZ);have apZ:∀t∈[l,195,202,297],t∉i.to::(Y0 .none (frZ i) [] i).map Sl.a:=fun t ht q=>ndA.2.2 t q t ht rfl;have own:∀a∈i.to::(Y0 .none (frZ i) [] i).map Sl.a,a=307\/s.heap.get? a=none:=fun a ha=>by
   have hm:a∈W.map Sl.a:=by
    rcases aC.mp ha with rfl|ha
    ·exact aL (f:=Sl.a) m1
    ·obtain⟨y,hy,rfl⟩:=aN.mp ha;exact aL (hP y hy)
   obtain⟨y,hy,rfl⟩:=aN.mp hm;rcases st2.rep.own y hy with q|q
   ·exact .inr q
   ·have q:y.a=l\/y.a=195\/y.a=202\/y.a=297\/y.a=307:=by simpa using q
    rcases q with q|q|q|q|q
    ·exact absurd ha (apZ _ (by rw[q];exact .head _))
    ·exact absurd ha (apZ _ (by rw[q];exact .tail _ (.head _)))
    ·exact absurd ha (apZ _ (by rw[q];exact .tail _ (.tail _ (.head _))))
    ·exact absurd ha (apZ _ (by rw[q];exact .tail _ (.tail _ (.tail _ (.head _)))))
    ·exact .inl q
  have ld0:Led Z93 s s':=⟨fun x o e n'=>by
   by_cases ex:x=l
   ·rw[ex] at e⊢;rw[hl0] at e;rw[gl,<-e]
   ·refine(st2.led rfl).kp x o e fun q=> ?_;have q:x=l\/x=195\/x=202\/x=297\/x=307:=by simpa using q
    refine n' ?_;simp only[Z93,aC,aD,or_false];rcases q with q|q
    ·exact absurd q ex
    ·exact q,st2.gens,st2.os⟩
  rw[eT] at hA hAm⊢;rw[ez];refine J2z w b c (i:=i) (s0:=s') (x:=Zjj (U.w 8).o) hAm hD ⟨⟨fun _ _ e _=>e,rfl,rfl⟩,⟨_,_,rfl,st2.adr (fun y hy=>hW y (hP y hy)) (fun y hy=>aL (hP y hy)) ?_ _ _ st2.rep.size st2.toks⟩,(st2.old.plain m0 rfl).1,⟨_,_,(st2.old.plain m1 rfl).1,fun _ _ q=>by cases q⟩,st2.rep.low _ m1, ?_,⟨Z6 (Z1n (U.w 6).o 0),by rw[hi];rfl,by rw[hi];rfl⟩,⟨by rw[hi];rfl,by rw[hi];rfl⟩,⟨_,Z3 (U.w 8).o,by rw[hi], ?_⟩⟩ (by rw[hi];rfl) (by rw[hi];rfl) ?_
  ·have:=ndA.1;exact(bM.mp this).2
  ·have h6:(i.ti::i.to::(Y0 .none (frZ i) [] i).map Sl.a).Sublist (i.ti::i.to::(U.w 2).a::(U.w 3).a::(U.w 4).a::((Y0 .none (frZ i) [] i).map Sl.a++[l,195,202,297])):= .cons_cons _ (.cons_cons _ (.cons _ (.cons _ (.cons _ (List.sublist_append_left _ _)))));exact h6.nodup nd5
  ·intro j hj
   match j,hj with
   |0,_=>exact⟨_,rfl⟩
   |1,_=>exact⟨_,rfl⟩
   |2,_=>exact⟨_,rfl⟩
   |3,_=>exact⟨_,rfl⟩
   |4,_=>exact⟨_,rfl⟩
   |5,_=>exact⟨_,rfl⟩
   |_+6,h=>exact absurd h (cQ (bO _ _))
  ·intro i' d1 d2 d3 N' T' s'' f1 f2 hB sub ld st3;refine⟨rfl, ?_⟩;rw[<-f1];rw[<-f1] at hA;refine bC (J32 w b c hA (by rw[f2];exact hB) st3) (fun f s3 h=> ?_) (fun _ _ h=>h);obtain⟨r1,r2,r3⟩:=h;have ld2:Led (i.to::(Y0 .none (frZ i) [] i).map Sl.a) s' s3:=ld.trans (r2.wider sub);refine⟨r1,⟨fun x o e n'=> ?_,ld2.gens.trans ld0.gens,ld2.os.trans ld0.os⟩,fun t ht=> ?_⟩
   ·refine ld2.kp x o (ld0.kp x o e n') fun q=> ?_;rcases own x q with z|z
    ·exact n' (by rw[z];exact .tail _ (.tail _ (.tail _ (.head _))))
    ·rw[z] at e;cases e
   ·simp only[Z93,aC,aD,or_false] at ht;rcases ht with rfl|rfl|rfl|rfl
    ·exact⟨_,ld2.kp _ _ g195 (apZ _ (.tail _ (.head _)))⟩
    ·exact⟨_,ld2.kp _ _ g202 (apZ _ (.tail _ (.tail _ (.head _))))⟩
    ·exact⟨_,ld2.kp _ _ g297 (apZ _ (.tail _ (.tail _ (.tail _ (.head _)))))⟩
    ·exact r3
 ·exact(Z2 hg2).elim
theorem J33(w:World):∃a b c,w=w2 a b c:=⟨w,w.params.followText "special-get-raises",w.params.followText "comprehension-iter-twice",by
 dsimp only[w2];rw[nR,nR]⟩
theorem Z9u {h h':Heap}{c P:Nat}{o:Obj}{vs:Array Value}(m:h.get? c=some o)(J:o={o with cls:= .type "code",data:= .fields vs}) (q:vs[11]?=some (.ref P)) (y:h.get? P=some (Zv [])) {more:List Value} (e:h'.get? P=some (Zv more)) {o':Obj} (I:h.get? P=some o'):asItWas h h' P o':=by
 have a:h.TableAt c P #[]:=table_at m J q y rfl;haveI j:o'=Zv []:=cW (I.symm.trans a.2);subst j;exact .inr (.inl ⟨a.isCodeTable,rfl,#[],more.toArray,rfl,by rw[e];simp[Zv]⟩)
theorem Za4 {h h':Heap}(k:∀b o,h.get? b=some o->h'.get? b=some o):∀{K:Frag},rH h K->rH h' K:=by
 intro a
 induction a with
 |nil=>
  intro _;exact trivial
 |cons _ _ ih=>
  intro A;exact⟨k _ _ A.1,ih A.2⟩
theorem Zy9 {h:Heap}{K:Frag}{t:KT}(H:rH h K)(e:KT.of K=t):KT.Holds h 1 0 t:=e▸holds_of H
theorem Jbh {w:World}{s:Shared}(H:rH s.heap (Z9b w.params)){vs:List Value}(q:s.heap.objs.size=312)(hl:s.heap.get? 311=some {cls:= .type "list",data:= .seq vs.toArray}) (hv:∀v∈vs,∃x t,v= .int x t) (Z:vs.length<=63) (nl:s.heap.NoLimit):
  bR (cP PySem.Challenge.pw_wb0105_01 w) callerA (.call (.ref 310) ⟨[.ref 311],[]⟩) (Zy7 s) s:=by
 obtain⟨J,X,I,W,-,-,-,-,H⟩:=H;have Hk:KT.Holds s.heap 1 0 (kt w.params):=Zy9 H (by kernel_rfl);obtain⟨m,b,c,rfl⟩:=J33 w;have Y:St (vW (w2 m b c)) ⟨s,[311,195,202,297,307],[]⟩ ⟨aO 304 8,0,s.toks,0,Zin ⟨311,0,vs⟩⟩ s:=by
  refine⟨⟨q, ?_,(show([311,195,202,297,307]:List Nat).Nodup by decide), ?_,fun a o e=>kt_at Hk e,⟨_,(by kernel_rfl:(vW (w2 m b c)).kt.get pV=some (o2 (w2 m b c).params))⟩, ?_,fun z z e z z=>e,fun z z e z=>e,nl,(aK (by decide) (aT q.symm)),fun b hb=>absurd hb aD⟩,rfl,rfl,rfl,rfl⟩
  ·intro y j;simp only[Zin,aC,aD,or_false] at j;rcases j with rfl|rfl|rfl|rfl|rfl
   ·exact Je (s:=⟨311,lst vs 0, .no⟩) (g:= .no) rfl hl trivial
   ·exact Je (s:=⟨195,Zv [], .no⟩) (g:= .tab []) rfl J (fun z h=>absurd h aD)
   ·exact Je (s:=⟨202,Zv [], .no⟩) (g:= .tab []) rfl X (fun z h=>absurd h aD)
   ·exact Je (s:=⟨297,Zv [], .no⟩) (g:= .tab []) rfl I (fun z h=>absurd h aD)
   ·exact Je (s:=⟨307,Zv [], .no⟩) (g:= .tab []) rfl W (fun z h=>absurd h aD)
  ·intro y j;simp only[Zin,aC,aD,or_false] at j;rcases j with rfl|rfl|rfl|rfl|rfl<;>kernel_rfl
  ·intro y j;exact .inr (aL (f:=Sl.a) j)
 exact Zy8 m b c (out:=[]) hv Z ⟨(show 301<=305 by omega),(show 4<=3000 by omega),rfl,fun p e=>by cases e;exact⟨rfl,fun z h=>absurd h aD,fun z h=>absurd h aD⟩⟩ Y
theorem Zya {w:World}{s:Shared}(H:rH s.heap (Z9b w.params)){r:Result}{s':Shared}(L:Zy7 s r s'){j:ClaimW}{f:Str->Option Addr}{a:ExcName->Option Value}{args:List WData}(J:s.gens=#[])(m:∀cls,j.raises args cls=false)(I:j.post args (.bool true) args=true):
  GoodWG j f a args s (.ok (.ret (.bool true))) s':=by
 refine⟨.inl ⟨_,_,[],rfl,m,ReadsW.bool true,I,fun y=>⟨gJ,fun y W=>(nomatch W)⟩⟩,⟨fun b o e=> ?_,fun b o e=> ?_⟩,L.ld.os, .of_eq (L.ld.gens.trans J)⟩
 ·by_cases hb:b∈Z93
  ·obtain⟨vs,q⟩:=L.tb b hb;simp only[Z93,aC,aD,or_false] at hb;rcases hb with rfl|rfl|rfl|rfl
   ·exact Z9u H.2.2.2.2.1 rfl (by kernel_rfl) H.1 q e
   ·exact Z9u H.2.2.2.2.2.1 rfl (by kernel_rfl) H.2.1 q e
   ·exact Z9u H.2.2.2.2.2.2.1 rfl (by kernel_rfl) H.2.2.1 q e
   ·exact Z9u H.2.2.2.2.2.2.2.1 rfl (by kernel_rfl) H.2.2.2.1 q e
  ·exact .inl (L.ld.kp b o e hb)
 ·by_cases hb:b∈Z93
  ·obtain⟨vs,q⟩:=L.tb b hb;exact⟨_,q⟩
  ·exact⟨_,L.ld.kp b o e hb⟩
theorem Jbi {vs:List Value}{ns:List Int}(h:IntsAre vs ns):∀v∈vs,∃x t,v= .int x t:=by
 induction h with
 |nil=>exact fun y h=>absurd h aD
 |cons n t _ ih=>
  intro v hv;rcases aC.mp hv with rfl|hv
  ·exact⟨n,t,rfl⟩
  ·exact ih v hv
theorem J34 {w:World}{m s:Shared}(H:rH m.heap (Z9b w.params)){R:WRecords}{as:List Addr}{ns:List Int}{vs:List Value}(L:Laid R w m s [ofPy (PyData.list (ns.map PyData.int))] [.ref 311] as)(y:s.heap.IsList 311 vs.toArray)(X:IntsAre vs ns)(hb:vs.length=ns.length/\ns.length<=2^20)(Z:¬((63:Nat):Int)<(ns.length:Int))
  (q:s.heap.objs.size=311+1) (J:s.heap.NoLimit) (Y:s.gens=#[]) {j:ClaimW} {f:Str->Option Addr} {a:ExcName->Option Value} {args:List WData} (I:∀cls,j.raises args cls=false) (W:j.post args (.bool true) args=true):
  aU (cP PySem.Challenge.pw_wb0105_01 w) callerA (call (.ref 310) [.ref 311]) (fun v s'=>GoodWG j f a args s (.ok (.ret v)) s') (fun e s'=>GoodWG j f a args s (.error e) s') s:=
 nU (cC (Jbh (Za4 L.keeps H) q (script_obj L y) (Jbi X) (by lia) J) fun r s' h=>by
  rw[h.r];exact Zya (Za4 L.keeps H) h Y I W)
section
open PySem.W.ZRun
def Jhw(s:Stmt):DefRec:=⟨match s with| .FunctionDef n _ _ _ _ _ _ _ _ _=>n|_=>aB "",Zyi s,Qm s,Zqy s,match s with| .FunctionDef _ _ _ _ _ _ _ _ _ p=>p|_=>⟨0,0,0,0⟩⟩
theorem Jhx:PySem.Challenge.rw_wb0105_01.Holds:=by
 refine holds_law Jep fun J=> ?_;refine holds_openX (q:=Z7m) (loose:=Zcq) (XP:=XL Z7m []) (d:=Jhw (Y2 31)) (kwd:=[]) J36 (fun s e=>xl_of s (oJ.mp e).1) XL.keeps (by kernel_rfl) (by kernel_rfl) (by kernel_rfl) (fun s e=>recFacts_of (oJ.mp e).2) (by kernel_rfl) J (by kernel_rfl) ⟨rfl,rfl,rfl,rfl,rfl,by decide+kernel⟩ ?hw ?hc
 case hw=>w_witness2
 intro w s₀ s₁ mg mb G y fa o pm cd doc dV kV ho hd hcd hD hmg hg args vals as L I W Z Y X;obtain⟨ZA,ZI,ZN,ZT⟩:=z_facts (fun P=>(by kernel_rfl:Zqn=(Z9b P).map (·.1))) y;refine Ground.open G ?_;intro T B D TE TW
 wrow_args I W Z Y X
 obtain⟨j,m⟩:=script_at L;rw[ZN] at j m;subst j;have a:=hmg.symm.trans (mg_of (v:= .ref 310) (InK.keeps _ _ _ ZI L.keeps) (Top.g T) (by kernel_rfl));injection a with a
 injection a with a
 subst a
 all_lens
 exact J34 ZA L (by assumption) (by assumption) (by assumption) (by assumption) m (Top.nolimit T) hg (fun z=>rfl) (by first|wrow_post|kernel_rfl)
end
end
end LW
open PySem PySem.W PySem.W.X PySem.W.ZRun PyProof.Rows
theorem PySem.Challenge.cw_wb0105_01_holds : PySem.Challenge.rw_wb0105_01.Holds :=
  LW.Jhx
