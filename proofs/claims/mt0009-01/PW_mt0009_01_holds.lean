import PyProof.Rows.All
import Wide.All
import OpenK.AllK
import Wide.FinOn
import PyProof.ZipIter
import KE.KSortTup
import PySem.Challenge.RW_mt0009_01
set_option Elab.async false
set_option autoImplicit false
set_option linter.all false
set_option maxRecDepth 100000
set_option genInjectivity false
set_option genSizeOf false
set_option tactic.hygienic false
set_option maxHeartbeats 0
namespace Mine
open PySem PySem.W PyProof.Rows
open _root_.Array renaming length_toList→aJ,toList_push→bX,toList_append→b7,getElem?_toList→cy,getElem?_eq_getElem→gr,toList_extract→gE,getElem_toList→kZ,toList_reverse→lc
open _root_.Bool renaming false_eq_true→bv,and_eq_true_iff→cF,eq_iff_iff→de,eq_false_iff→gF,and_eq_true→g7,and_false→mC,rec→oM,false_ne_true→sN
open _root_.Classical renaming byContradiction→mM
open _root_.Eq renaming symm→cB
open _root_.Int renaming le_trans→cx,ofNat_lt→cI,ofNat_le→dX,le_of_lt→ef,natCast_nonneg→ey,toNat_natCast→fB,le_refl→iq,not_lt→jA,add_comm→jI,ne_of_lt→jJ,ofNat_sub→kK,zero_add→lU,add_sub_cancel→mD,lt_irrefl→n6,ofNat_inj→n8
open _root_.List renaming mem_cons→aC,mem_singleton→aD,getElem?_eq_getElem→aW,mem_append→bw,append_assoc→bK,length_append→bL,range→bO,not_mem_nil→bT,mem_map→b9,pairwise_append→cw,getD_eq_getElem?_getD→cC,length_cons→cS,take_append_drop→ds,append_nil→du,Pairwise→dz,cons_append→dD,length_take→dE,forIn_cons→dS,take_length→dY,range'→d7,Perm→d9,length_map→eh,pairwise_cons→ez,drop_eq_getElem_cons→eX,extract_eq_take_drop→eY,pairwise_iff_getElem→eZ,map_cons→ft,mem_of_mem_take→fx,mem_range→fy,filter_eq_nil_iff→fR,lookup_cons→fY,length_singleton→f9,mem_of_getElem?→gH,mem_of_mem_drop→gI,take_add_one→gJ,flatMap_append→gY,map_append→iB,mem_filter→iC,size_toArray→iN,mem_append_left→iZ,nodup_nil→i5,replicate→i6,getElem?_eq_some_iff→jk,nil_append→jy,getElem_take→jK,pairwise_lt_range→jL,take_of_length_le→jM,length_filter_le→kt,perm_append_comm→ku,filter_cons→kC,mem_iff_getElem→lg,nodup_cons→lz,getElem_of_mem→lP,reverse_append→lQ,find?_eq_none→mE,getElem?_append_right→mF,flatMap_cons→nG,mem_range'_1→nH,all_eq_true→oP,cons→oQ,length_drop→oR,length_eq_zero_iff→oT,map_nil→pG,range_succ_eq_map→pH,foldl_cons→qf,length_nil→qg,range_succ→qh
open _root_.List.Pairwise renaming nil→dg
open _root_.List.Perm renaming append_left→f8,append_right→ir,trans→qc
open _root_.Min renaming min→fU
open _root_.Nat renaming sub_add_cancel→aa,le_trans→aj,le_antisymm→ak,lt_of_lt_of_le→av,le_of_eq→aA,lt_or_gt_of_ne→aK,min_le_left→aN,sub_le→aO,le_of_lt→aR,zero_le→aX,le_of_not_lt→aZ,le_refl→bd,min_le_right→br,min_eq_left→bz,le_of_ble_eq_true→bI,sub_eq_zero_of_le→bR,lt_of_le_of_lt→bV,le_add_left→ci,le_add_right→co,mul_div_le→cr,le_sub_one_of_lt→cG,add_le_add_right→cN,le_of_add_right_le→cX,zero_add→cY,lt_of_le_of_ne→c9,min_eq_right→df,not_lt_zero→dv,le_of_lt_succ→dH,le_total→dI,sub_one_lt_of_lt→dQ,lt_irrefl→dT,lt_of_not_le→dZ,ne_of_lt→ei,add_le_of_le_sub→eB,le_max_right→eC,succ_pos→eO,lt_mul_div_succ→eR,add_zero→fu,add_le_add_left→fG,lt_trans→fS,not_le_of_lt→fZ,mul_le_mul_left→gZ,add_comm→iu,pos_of_ne_zero→iw,lt_of_succ_lt→iO,lt_succ_of_le→iP,not_lt→i7,add_sub_cancel→jB,lt_add_of_pos_right→jH,add_le_add→jN,eq_zero_of_not_pos→jO,sub_zero→jP,eq_of_beq_eq_true→kx,le_sub_of_add_le'→ky,lt_succ_self→kD,succ_le_succ→kE,beq→lV,add_right_comm→mG,sub_lt_left_of_lt_add→mP,ble→nL,lt_trichotomy→nM,mul_zero→pI,ne_of_gt→pJ,sub_self→pK
open _root_.Ne renaming symm→dM
open _root_.Option renaming some→fW,map_eq_none_iff→pL
open _root_.Option.some renaming inj→iE,injEq→jQ
open _root_.Prod renaming mk→jf
open _root_.Prod.mk renaming injEq→dU
open _root_.Pure renaming pure→cJ
open _root_.PyProof renaming noPylong_of_log2→gV
open _root_.PyProof.Rows renaming Keyed→a0,arrOf→bi,SortSt→bm,wpS_bind→bn,pendingOf→bJ,wpS_pure→bW,IntsAre→cf,wpS_forRange→f4,SortKind→gb,get?_update_seq→iG,MethodCall_→jo,seqObj→j6,slot_tupleiter_next→kU,wpS→kW,wpS_modify→oH,failedOf→pC,wpS_mono→pD,wpS_get→q7
open _root_.PySem renaming wpAny_bind→ae,Value→ag,Shared→am,wpAny_pure→ao,Expr→au,wpAny_execs_nil→aw,Heap→ay,model→aB,starEach→aE,wpAny→aF,Addr→aH,wpAny_mono→aL,Str→aM,World→aP,Around→aS,Program→aV,Params→bF,SetTable→bH,wpAny_holding→bM,wpAny_assignInOrder_more→bQ,Str→bU,Builtin→cc,mainGlobals→cu,Obj→cA,eval→cO,PyData→cU,wpAny_call_entry→db,builtinLookup_eq_fast→dc,callEnv→di,wpAny_newObj_type→dq,rawInt→dy,sysModules→dF,valueAt→dG,Pos→dJ,FuncData→dP,Flow→dW,OsState→d6,builtinsNs→ej,foldedSetIterable→er,intKind→eu,sizeLine_eq→ew,compEnvC→eD,isSubtype_type→eG,typeLookup_type→eJ,execs→eK,wpAny_Call_Name_kw→eL,wpAny_askSetting→eP,wpAny_callSpecial?_slot→eQ,assign→eT,letTemporaryGo→fb,sizeLine→fc,standAt→fe,wpAny_rule→fg,wpAny_setField→fh,exec→fA,Stmt→fC,bootBuiltins→fD,wpAny_assignInOrder_none→fF,wpAny_seqItems→fH,wpAny_call→f0,call→f6,holding→gf,wpAny_standAt→gp,getMethod→gx,Env→gy,backTo→gK,callWith→g9,codeAny→hW,wpAny_truthy_bool→ig,NameKind→iD,recursionLimit→iH,wpAny_eqBool_int→iI,wpAny_field→iQ,wpAny_of_eq→iR,behindInMarks→i9,compareOp→ja,swappedStores→jb,swapsWith→jc,wpAny_setState_of→jl,bindArgs→js,isInstance→jt,typeLookup→jv,Tok→jR,callEnvC→jT,wpAny_attempt→jY,importedModules→j1,builtinKind→kA,argsOk→ll,entryFor→lr,wpAny_pyIter_list→lw,typeOf→mh,wpAny_Assign_two→mj,Sem→mw,codeAny_call_builtin→mH,codeAny_builtin→mT,codeAny_of_tree→mU,wpAny_specialOf→nC,codeAny_forLoop_any→nT,isSubtype→ou,pickOrder→ow,treeTable→oG,cameBackBy→oZ,checkBoundCall→o0,Walks→ql,interactive→qm,wpAny_pyIter_slot→qo,DictEntry→rc,cellsFrom→rg,codeAny_call_def→ri,entryFor_of_tree→rj,storeName→rv,wpAny_For→rx,call_meets→rK,wpAny_Expr→sD,letOwnedTupleGo→sK,wpAny_updateSeq→sL,call→sP
open _root_.PySem.Builtin.List renaming listFitsIndex→gG
open _root_.PySem.Builtin.Range renaming rangeSize→ra
open _root_.PySem.Builtin.Tuple renaming tupleExact→qq
open _root_.PySem.Challenge renaming pw_mt0009_01→lB,rw_mt0009_01→lC
open _root_.PySem.F renaming called_set→fk,slot_dict_get→kz,plainAttrs_dict→oU,plainAttrs_list→oV
open _root_.PySem.Heap renaming get?_push_of_some→bo,get?_push_size→bG,SameBut→cq,lt_size→cK,get?_update_self→fw,get?_update_other→gc,size_push→lf,get?_update_ne→nF,dictOf_iff→sI
open _root_.PySem.Heap.SameBut renaming update→cj
open _root_.PySem.Manifest renaming AttrKind→qj,varargsMethods→rd
open _root_.PySem.Manifest.AttrKind renaming method→qt
open _root_.PySem.NameKind renaming cell→e8
open _root_.PySem.Obj renaming mapSeq→dj,mapFields→i8
open _root_.PySem.PyData renaming keyHash→aQ
open _root_.PySem.SeqAt renaming EqAt→lW
open _root_.PySem.SetTable renaming below→c4,grown→jr
open _root_.PySem.SetTable.below renaming go→qk
open _root_.PySem.Str renaming ofString→cL,ofString_eq_toList→rG
open _root_.PySem.Value renaming type→dk,int→gu,none→kc,ref→oo
open _root_.PySem.W renaming hideAll→bp,hideAll_get→bq,hideAll_none→cQ,Looks→dn,instObj→dA,of_hideAll→fE,codeRec_of→f7,findIn→hY,SharedT→lF,codeIn→oa,boot_heap→pB,behindTheImports→rH,emptyDict→rP
open _root_.PySem.W.Fast renaming tw4202317264376624991→f5,tw13482112738370960269→jq
open _root_.PySem.W.Looks renaming of_pure→d8,ld→mN
namespace N
inductive E|x (i:Nat)|k (n:Nat)|s (i n:Nat)|p (a b:E)|m (n:Nat) (a:E)|r (a:E) (n:Nat)
noncomputable def at':List Nat→Nat→Nat
 | [],_=>0
 | a::_,0=>a
 | _::l,i+1=>at' l i
noncomputable def E.d (c:List Nat):E→Nat
 | .x i=>at' c i
 | .k n=>n
 | .s i n=>at' c i+n
 | .p a b=>a.d c+b.d c
 | .m n a=>n*a.d c
 | .r a n=>a.d c*n
noncomputable def on:Nat→List Nat
 | 0=>[1]
 | i+1=>0::on i
noncomputable def ad:List Nat→List Nat→List Nat
 | [],q=>q
 | a::p,[]=>a::p
 | a::p,b::q=>(a+b)::ad p q
noncomputable def sc (n:Nat):List Nat→List Nat
 | []=>[]
 | a::p=>n*a::sc n p
noncomputable def E.q:E→List Nat
 | .x i=>0::on i
 | .k n=>[n]
 | .s i n=>n::on i
 | .p a b=>ad a.q b.q
 | .m n a=>sc n a.q
 | .r a n=>sc n a.q
noncomputable def dt:List Nat→List Nat→Nat
 | a::l,b::m=>a*b+dt l m
 | _,_=>0
noncomputable def ge:List Nat→List Nat→Bool
 | _,[]=>true
 | [],b::q=>(b==0) && ge [] q
 | a::p,b::q=>nL b a && ge p q
inductive H|o|le (l r:E) (t:H)|lt (l r:E) (t:H)|eq (l r:E) (t:H)|qe (l r:E) (t:H)|nl (l r:E) (t:H)|ne (l r:E) (t:H)|ff (t:H)|w (n:Nat) (t:H)
noncomputable def H.im (c:List Nat) (g:Prop):H→Prop
 | .o=>g
 | .le l r t=>l.d c≤r.d c→t.im c g
 | .lt l r t=>l.d c<r.d c→t.im c g
 | .eq l r t=>l.d c=r.d c→t.im c g
 | .qe l r t=>l.d c=r.d c→t.im c g
 | .nl l r t=>¬l.d c<r.d c→t.im c g
 | .ne l r t=>¬l.d c≤r.d c→t.im c g
 | .ff t=>False→t.im c g
 | .w _ t=>t.im c g
noncomputable def H.g (c:List Nat):H→Prop
 | .le l r t=>t.im c (l.d c≤r.d c)
 | .lt l r t=>t.im c (l.d c<r.d c)
 | .nl l r t=>t.im c (¬l.d c<r.d c)
 | .ne l r t=>t.im c (¬l.d c≤r.d c)
 | .ff t=>t.im c False
 | _=>True
noncomputable def H.a:H→Nat→List Nat→List Nat→Bool
 | .o,_,p,q=>ge p q
 | .le l r t,n,p,q=>t.a 1 (ad (sc n l.q) p) (ad (sc n r.q) q)
 | .lt l r t,n,p,q=>t.a 1 (ad (sc n (ad [1] l.q)) p) (ad (sc n r.q) q)
 | .eq l r t,n,p,q=>t.a 1 (ad (sc n l.q) p) (ad (sc n r.q) q)
 | .qe l r t,n,p,q=>t.a 1 (ad (sc n r.q) p) (ad (sc n l.q) q)
 | .nl l r t,n,p,q=>t.a 1 (ad (sc n r.q) p) (ad (sc n l.q) q)
 | .ne l r t,n,p,q=>t.a 1 (ad (sc n (ad [1] r.q)) p) (ad (sc n l.q) q)
 | .ff _,_,_,_=>true
 | .w n t,_,p,q=>t.a n p q
noncomputable def H.k (u:Nat):H→Bool
 | .le l r t=>t.a 1 (ad (sc (u+1) r.q) [u]) (sc (u+1) l.q)
 | .lt l r t=>t.a 1 (ad (sc (u+1) r.q) [u]) (sc (u+1) (ad [1] l.q))
 | .nl l r t=>t.a 1 (ad (sc (u+1) l.q) [u]) (sc (u+1) r.q)
 | .ne l r t=>t.a 1 (ad (sc (u+1) l.q) [u]) (sc (u+1) (ad [1] r.q))
 | .ff t=>t.a 1 [] [1]
 | _=>true
theorem lq (c:List Nat):dt c []=0:=by cases c<;>rfl
theorem s7:∀(c p q:List Nat),dt c (ad p q)=dt c p+dt c q
 | c,[],q=>by rw [lq,cY];rfl
 | c,a::p,[]=>by rw [lq];rfl
 | [],a::p,b::q=>rfl
 | x::c,a::p,b::q=>by
  show x*(a+b)+dt c (ad p q)=x*a+dt c p+(x*b+dt c q)
  rw [s7 c p q,Nat.mul_add,Nat.add_add_add_comm]
theorem rN (n:Nat):∀c p,dt c (sc n p)=n*dt c p
 | c,[]=>by rw [show sc n []=[] from rfl,lq,pI]
 | [],a::p=>(pI n).symm
 | x::c,a::p=>by
  show x*(n*a)+dt c (sc n p)=n*(x*a+dt c p)
  rw [rN n c p,Nat.mul_add,Nat.mul_left_comm]
theorem zK:∀c i,dt c (on i)=at' c i
 | [],0=>rfl
 | [],_+1=>rfl
 | a::c,0=>by show a*1+dt c []=a;rw [lq,Nat.mul_one,fu]
 | a::c,i+1=>by show a*0+dt c (on i)=at' c i;rw [zK c i,pI,cY]
theorem E.qd (c:List Nat):∀e:E,dt (1::c) e.q=e.d c
 | .x i=>by show 1*0+dt c (on i)=at' c i;rw [zK,pI,cY]
 | .k n=>by show 1*n+dt c []=n;rw [lq,Nat.one_mul,fu]
 | .s i n=>by show 1*n+dt c (on i)=at' c i+n;rw [zK,Nat.one_mul,iu]
 | .p a b=>by show dt _ (ad a.q b.q)=a.d c+b.d c;rw [s7,a.qd c,b.qd c]
 | .m n a=>by show dt _ (sc n a.q)=n*a.d c;rw [rN,a.qd c]
 | .r a n=>by show dt _ (sc n a.q)=a.d c*n;rw [rN,a.qd c,Nat.mul_comm]
theorem zX:∀c p q,ge p q=true→dt c q≤dt c p
 | c,p,[]=>fun O=>by rw [lq];exact aX _
 | [],p,b::q=>fun O=>aX _
 | x::c,[],b::q=>fun h=>by
  have h:=cF.mp (show ((b==0) && ge [] q)=true from h)
  have e:=eq_of_beq h.1
  have:=zX c [] q h.2
  rw [lq] at this
  show x*b+dt c q≤0
  rw [e,pI,cY];exact this
 | x::c,a::p,b::q=>fun h=>by
  have h:=cF.mp (show (nL b a && ge p q)=true from h)
  exact jN (gZ x (bI h.1)) (zX c p q h.2)
theorem one (c q:List Nat):dt (1::c) (ad [1] q)=dt (1::c) q+1:=by
 rw [s7,iu];show _+(1*1+dt c [])=_;rw [lq]
theorem st {c p q l r:List Nat} {n:Nat} (h:dt c l≤dt c r) (e:dt c (ad (sc n r) q)≤dt c (ad (sc n l) p)):dt c q≤dt c p:=by
 rw [s7,s7,rN,rN] at e
 exact Nat.le_of_add_le_add_left (aj (cN (gZ n h) _) e)
theorem un {c l r:List Nat} {u:Nat} (h:dt (1::c) (sc (u+1) l)≤dt (1::c) (ad (sc (u+1) r) [u])):dt (1::c) l≤dt (1::c) r:=by
 rw [s7,rN,rN,show dt (1::c) [u]=u by show 1*u+dt c []=u;rw [lq,Nat.one_mul,fu]] at h
 refine aZ fun k=>?_
 have:=aj (gZ (u+1) (show _+1≤_ from k)) h
 rw [Nat.mul_add,Nat.mul_one] at this
 exact absurd (Nat.le_of_add_le_add_left this) (Nat.not_succ_le_self u)
theorem E.le {c:List Nat} {l r:E}:dt (1::c) l.q≤dt (1::c) r.q↔l.d c≤r.d c:=by rw [E.qd,E.qd]
theorem E.lt {c:List Nat} {l r:E}:dt (1::c) (ad [1] l.q)≤dt (1::c) r.q↔l.d c<r.d c:=by rw [one,E.qd,E.qd];rfl
theorem go (c:List Nat) (g:Prop):∀(t:H) (n:Nat) (p q:List Nat),t.a n p q=true→(dt (1::c) q≤dt (1::c) p→g)→t.im c g
 | .o,n,p,q=>fun h k=>k (zX _ p q h)
 | .le l r t,n,p,q=>fun e k h=>go c g t _ _ _ e fun l=>k (st (E.le.mpr h) l)
 | .lt l r t,n,p,q=>fun e k h=>go c g t _ _ _ e fun l=>k (st (E.lt.mpr h) l)
 | .eq l r t,n,p,q=>fun e k h=>go c g t _ _ _ e fun l=>k (st (E.le.mpr (aA h)) l)
 | .qe l r t,n,p,q=>fun e k h=>go c g t _ _ _ e fun l=>k (st (E.le.mpr (aA h.symm)) l)
 | .nl l r t,n,p,q=>fun e k h=>go c g t _ _ _ e fun l=>k (st (E.le.mpr (i7.mp h)) l)
 | .ne l r t,n,p,q=>fun e k h=>go c g t _ _ _ e fun l=>k (st (E.lt.mpr (Nat.not_le.mp h)) l)
 | .ff t,n,p,q=>fun e k h=>h.elim
 | .w m t,n,p,q=>fun e k=>go c g t _ _ _ e k
theorem lu (c:List Nat) (u:Nat):∀t:H,t.k u=true→t.g c
 | .le l r t=>fun h=>go c _ t 1 _ _ h fun l=>E.le.mp (un l)
 | .lt l r t=>fun h=>go c _ t 1 _ _ h fun l=>E.lt.mp (un l)
 | .nl l r t=>fun h=>go c _ t 1 _ _ h fun l=>i7.mpr (E.le.mp (un l))
 | .ne l r t=>fun h=>go c _ t 1 _ _ h fun l=>Nat.not_le.mpr (E.lt.mp (un l))
 | .ff t=>fun h=>go c _ t 1 [] [1] h fun l=>absurd (show 1*1+dt c []≤0 from l) (by rw [lq];exact Nat.not_succ_le_zero _)
 | .o=>fun O=>trivial
 | .eq _ _ _=>fun O=>trivial
 | .qe _ _ _=>fun O=>trivial
 | .w _ _=>fun O=>trivial
end N
theorem τ:true=true:=rfl
noncomputable abbrev aq:N.E:=.x 0
noncomputable abbrev ar:N.E:=.x 1
noncomputable abbrev az:N.E:=.x 2
noncomputable abbrev aI:N.E:=.x 3
noncomputable abbrev bx:N.E:=.x 4
noncomputable abbrev cV:N.E:=.x 5
noncomputable abbrev ee:N.E:=.x 6
noncomputable abbrev jj:N.E:=.x 7
noncomputable abbrev tU:N.E:=.x 8
noncomputable abbrev G8:N.E:=.x 9
theorem oK {a:Nat} (t:N.H) (h:t.k 0=true):t.g [a]:=N.lu _ 0 t h
theorem Jj {a:Nat} (u:Nat) (t:N.H) (h:t.k u=true):t.g [a]:=N.lu _ u t h
theorem cW {a b:Nat} (t:N.H) (h:t.k 0=true):t.g [a,b]:=N.lu _ 0 t h
theorem GH {a b:Nat} (u:Nat) (t:N.H) (h:t.k u=true):t.g [a,b]:=N.lu _ u t h
theorem c8 {a b c:Nat} (t:N.H) (h:t.k 0=true):t.g [a,b,c]:=N.lu _ 0 t h
theorem A5 {a b c:Nat} (u:Nat) (t:N.H) (h:t.k u=true):t.g [a,b,c]:=N.lu _ u t h
theorem cR {a b c d:Nat} (t:N.H) (h:t.k 0=true):t.g [a,b,c,d]:=N.lu _ 0 t h
theorem DJ {a b c d:Nat} (u:Nat) (t:N.H) (h:t.k u=true):t.g [a,b,c,d]:=N.lu _ u t h
theorem eW {a b c d e:Nat} (t:N.H) (h:t.k 0=true):t.g [a,b,c,d,e]:=N.lu _ 0 t h
theorem GI {a b c d e:Nat} (u:Nat) (t:N.H) (h:t.k u=true):t.g [a,b,c,d,e]:=N.lu _ u t h
theorem kr {a b c d e f:Nat} (t:N.H) (h:t.k 0=true):t.g [a,b,c,d,e,f]:=N.lu _ 0 t h
theorem H8 {a b c d e f:Nat} (u:Nat) (t:N.H) (h:t.k u=true):t.g [a,b,c,d,e,f]:=N.lu _ u t h
theorem sM {a b c d e f i:Nat} (t:N.H) (h:t.k 0=true):t.g [a,b,c,d,e,f,i]:=N.lu _ 0 t h
theorem H9 {a b c d e f i:Nat} (u:Nat) (t:N.H) (h:t.k u=true):t.g [a,b,c,d,e,f,i]:=N.lu _ u t h
theorem sG {a b c d e f i j:Nat} (t:N.H) (h:t.k 0=true):t.g [a,b,c,d,e,f,i,j]:=N.lu _ 0 t h
theorem IK {a b c d e f i j:Nat} (u:Nat) (t:N.H) (h:t.k u=true):t.g [a,b,c,d,e,f,i,j]:=N.lu _ u t h
theorem Fm {a b c d e f i j k:Nat} (t:N.H) (h:t.k 0=true):t.g [a,b,c,d,e,f,i,j,k]:=N.lu _ 0 t h
theorem G7 {a b c d e f i j k:Nat} (u:Nat) (t:N.H) (h:t.k u=true):t.g [a,b,c,d,e,f,i,j,k]:=N.lu _ u t h
theorem GJ {a b c d e f i j k l:Nat} (t:N.H) (h:t.k 0=true):t.g [a,b,c,d,e,f,i,j,k,l]:=N.lu _ 0 t h
theorem w7 (k n:Nat):(max 0 (fU (if ((k:Nat):Int)<0 then (k:Int)+n else k) (n:Int))).toNat=fU k n:=by
 rw [if_neg (jA.mpr (ey k)),Int.max_eq_right (Int.le_min.mpr ⟨ey k,ey n⟩)]
 rcases dI k n with h|h
 ·rw [Int.min_eq_left (dX.mpr h),bz h];rfl
 ·rw [Int.min_eq_right (dX.mpr h),df h];rfl
theorem Fz (k n:Nat) (hk:0<k):(max 0 (fU (if -((k:Nat):Int)<0 then -(k:Int)+n else -(k:Int)) (n:Int))).toNat=n-k:=by
 rw [if_pos (Int.neg_neg_of_pos (Int.natCast_pos.mpr hk)),Int.min_eq_left (Int.add_le_of_le_sub_right (by rw [Int.sub_self];exact Int.neg_nonpos_of_nonneg (ey k))),jI,←Int.sub_eq_add_neg]
 rcases dI k n with h|h
 ·rw [←kK h,Int.max_eq_right (ey _),fB]
 ·rw [Int.max_eq_left (Int.sub_nonpos_of_le (dX.mpr h)),bR h];rfl
theorem cs {a b:Nat} (h:b≤a):(a:Int)-b=((a-b:Nat):Int):=(kK h).symm
theorem Iq {i d:Nat} (h:d≤i+1):(i:Int)-d+1=((i+1-d:Nat):Int):=by
 rw [kK h,Int.natCast_add];show (i:Int)-d+1=(i:Int)+1-d;rw [Int.sub_eq_add_neg,Int.sub_eq_add_neg,Int.add_right_comm]
theorem Ir {x a s:Nat} (h:a+s≤x):((x-(a+s):Nat):Int)=(x:Int)-a-s:=by
 rw [kK h,Int.natCast_add,Int.sub_sub]
theorem ml {a b c n:Nat} (q:fU (a-b) c=n+1):b<a:=Nat.lt_of_sub_pos (av (by rw [q];exact eO n) (aN (a-b) c))
theorem mr {a b c n:Nat} (q:fU c (a-b)=n+1):b<a:=Nat.lt_of_sub_pos (av (by rw [q];exact eO n) (br c (a-b)))
theorem IA {x x' y y' z z':Int} (e1:x=x') (e2:y=y'):z<z'↔(x<x'∨(x=x'∧(y<y'∨(y=y'∧z<z')))):=by
 subst e1 e2
 exact ⟨fun h=>.inr ⟨rfl,.inr ⟨rfl,h⟩⟩,fun h=>h.elim (fun h=>absurd h (n6 _)) fun h=>h.2.elim (fun h=>absurd h (n6 _)) fun h=>h.2⟩
theorem Iz {x x' y y' z z':Int} (e1:x=x') (e2:y≠y'):y<y'↔(x<x'∨(x=x'∧(y<y'∨(y=y'∧z<z')))):=by
 subst e1
 exact ⟨fun h=>.inr ⟨rfl,.inl h⟩,fun h=>h.elim (fun h=>absurd h (n6 _)) fun h=>h.2.elim id fun h=>absurd h.1 e2⟩
theorem Iy {x x':Int} {p:Prop} (e1:x≠x'):x<x'↔(x<x'∨(x=x'∧p)):=⟨.inl,fun h=>h.elim id fun h=>absurd h.1 e1⟩
theorem nk {n:Nat}:((n:Int)-1).toNat=n-1:=Int.toNat_sub n 1
theorem Fa {i n k:Nat} (h:i<n-k):k+i<n:=by rw [iu];exact Nat.add_lt_of_lt_sub h
theorem ED {p q n:Nat} {P Q:Int} (hp:(p:Int)=P) (hq:(q:Int)=Q) (h:fU p q=n):(n:Int)=if Q<P then Q else P:=by
 subst hp hq h
 by_cases k:(q:Int)<p
 ·rw [if_pos k,df (aR (cI.mp k))]
 ·rw [if_neg k,bz (aZ fun z=>k (cI.mpr z))]
theorem Hv {n:Nat} (h:n≤2^20):((n+1:Nat):Int)<2^62:=cI.mpr (bV (kE h) (by decide))
theorem DV {n:Nat} (h:n≤2^20):n+1≤2^24:=aj (kE h) (by decide)
theorem nn {α:Type} {e:Option α} {x:α} {C:Prop} (a:e=none) (b:e=some x):C:=by subst a;cases b
theorem bZ {x y:Nat}:x≤x-y+y:=Nat.sub_le_iff_le_add.mp (bd _)
theorem gq {X:Prop} (H:∀G:Prop,(X→G)→G):X:=H X id
theorem il {α:Type} {P:α→Prop}:∀x∈([]:List α),P x:=fun O h=>nomatch h
theorem qZ {α:Type} {a b:α} (h:a≠b):a∉[b]:=fun q=>h (aD.mp q)
theorem A6 {α:Type} {a b c:α} (h:a≠b) (k:a≠c):a∉[b,c]:=fun q=>(aC.mp q).elim h (qZ k)
theorem Jh {α:Type} {a b c d:α} (h:a≠b) (k:a≠c) (l:a≠d):a∉[b,c,d]:=fun q=>(aC.mp q).elim h (A6 k l)
theorem Jc {α:Type} {a b:α} {l:List α} (h:a∉b::l):a≠b:=fun q=>h (q▸.head _)
theorem Ji {α:Type} {a b:α} {l:List α} (h:a∉b::l):a∉l:=fun q=>h (.tail _ q)
theorem cp {a b:Nat} (h:b<a):(a:Int)-1=((a-1:Nat):Int):=cs (bV (aX b) h)
theorem Ip {a b c n:Nat} (h:b<a) (k:a+c≤n):a-1+(c+1)≤n:=by omega
theorem ca {a b c:Nat} (h:a+b<c):(a:Int)+b<c:=cI.mpr h
theorem cn {a b c:Nat} (h:¬a+b<c):¬(a:Int)+b<c:=fun z=>h (cI.mp z)
theorem cl {a b:Nat} (h:a<b):(a:Int)<b:=cI.mpr h
theorem cm {a b:Nat} (h:¬a<b):¬(a:Int)<b:=fun z=>h (cI.mp z)
theorem c0 {n:Nat}:0≤(n:Int):=ey n
theorem GQ {a b:Nat}:0≤(a:Int)+b:=ey (a+b)
theorem Bv {n:Nat} : -2^62≤(n:Int):=cx (by decide) (ey n)
theorem c6 {n m:Nat} (h:n≤m) (k:Nat.blt m (2^62)=true):(n:Int)<2^62:=cI.mpr (bV h (bI k))
theorem c7 {n m:Nat} (h:n≤m) (k:Nat.blt m (2^63)=true):(n:Int)<2^63:=cI.mpr (bV h (bI k))
theorem ck {n m k:Nat} (h:n≤m) (q:nL m k=true):n≤k:=aj h (bI q)
theorem ce {a b:Nat}:(a:Int)=b↔a=b:=n8
theorem ct {a b:Nat}:(a:Int)<b↔a<b:=cI
theorem GR {a b c:Nat} (h:b<a) (k:a≤c):((a-1:Nat):Int)<c:=cI.mpr (av (Nat.sub_lt (bV (aX b) h) Nat.one_pos) k)
theorem IG {x t s n:Nat} (h:t≤x) (k:x+s≤n):x-t+(t+s)≤n:=by rw [←Nat.add_assoc,aa h];exact k
theorem Il {n m:Nat} (h:n≤m) (k:Nat.blt (1+m) (2^63)=true):1+(n:Int)<2^63:=cI.mpr (bV (fG h 1) (bI k))
theorem Ik {n:Nat}:(1+(n:Int)-1).toNat=n:=by rw [jI,mD];rfl
theorem Ih {n:Nat}:0≤1+(n:Int)-1:=by rw [jI,mD];exact c0
theorem Ii {n m:Nat} (h:n≤m) (k:Nat.blt m (2^63)=true):1+(n:Int)-1<2^63:=by rw [jI,mD];exact c7 h k
theorem IR {a b c:Nat}:(a:Int) - -(b:Int)+c=((a+b+c:Nat):Int):=by rw [Int.sub_neg];rfl
theorem q4 {q:Int} (a:0≤q) (b:q<4):q=0∨q=1∨q=2∨q=3:=by omega
theorem nb {N:Int} {y:Nat} (n1:200≤N) (n2:N≤400) (h:y≤372) : -2^62≤N-y∧N-y<2^62∧(N-y).toNat≤400:=by omega
theorem zl {N:Int} {y z:Nat} (n1:200≤N) (n2:N≤400) (h:y≤372) (e:z=(N-y).toNat+y):200≤z∧z≤400:=by omega
theorem Io {a b c:Nat}:(a:Int)+b=c↔a+b=c:=n8
theorem Ig {n:Nat}:0≤1+(n:Int):=ey (1+n)
theorem Ij {n:Nat}:(1+(n:Int)).toNat=n+1:=iu 1 n
theorem Jg {n:Nat}:1+(n:Int)-1=n:=by rw [jI,mD]
theorem gn {g:Prop} (f:¬g→False):g:=mM f
inductive g8 {α1:Sort _} {α2:Sort _} (p:α1→α2→Prop):Prop
 | mk (a1:α1) (a2:α2) (h:p a1 a2):g8 p
inductive lT {α1:Sort _} {α2:Sort _} {α3:Sort _} (p:α1→α2→α3→Prop):Prop
 | mk (a1:α1) (a2:α2) (a3:α3) (h:p a1 a2 a3):lT p
inductive oN {α1:Sort _} {α2:Sort _} {α3:Sort _} {α4:Sort _} (p:α1→α2→α3→α4→Prop):Prop
 | mk (a1:α1) (a2:α2) (a3:α3) (a4:α4) (h:p a1 a2 a3 a4):oN p
inductive zf {α1:Sort _} {α2:Sort _} {α3:Sort _} {α4:Sort _} {α5:Sort _} (p:α1→α2→α3→α4→α5→Prop):Prop
 | mk (a1:α1) (a2:α2) (a3:α3) (a4:α4) (a5:α5) (h:p a1 a2 a3 a4 a5):zf p
inductive xN {α1:Sort _} {α2:Sort _} {α3:Sort _} {α4:Sort _} {α5:Sort _} {α6:Sort _} (p:α1→α2→α3→α4→α5→α6→Prop):Prop
 | mk (a1:α1) (a2:α2) (a3:α3) (a4:α4) (a5:α5) (a6:α6) (h:p a1 a2 a3 a4 a5 a6):xN p
inductive DM {α1:Sort _} {α2:Sort _} {α3:Sort _} {α4:Sort _} {α5:Sort _} {α6:Sort _} {α7:Sort _} (p:α1→α2→α3→α4→α5→α6→α7→Prop):Prop
 | mk (a1:α1) (a2:α2) (a3:α3) (a4:α4) (a5:α5) (a6:α6) (a7:α7) (h:p a1 a2 a3 a4 a5 a6 a7):DM p
inductive Ff {α1:Sort _} {α2:Sort _} {α3:Sort _} {α4:Sort _} {α5:Sort _} {α6:Sort _} {α7:Sort _} {α8:Sort _} (p:α1→α2→α3→α4→α5→α6→α7→α8→Prop):Prop
 | mk (a1:α1) (a2:α2) (a3:α3) (a4:α4) (a5:α5) (a6:α6) (a7:α7) (a8:α8) (h:p a1 a2 a3 a4 a5 a6 a7 a8):Ff p
inductive Hf {α1:Sort _} {α2:Sort _} {α3:Sort _} {α4:Sort _} {α5:Sort _} {α6:Sort _} {α7:Sort _} {α8:Sort _} {α9:Sort _} (p:α1→α2→α3→α4→α5→α6→α7→α8→α9→Prop):Prop
 | mk (a1:α1) (a2:α2) (a3:α3) (a4:α4) (a5:α5) (a6:α6) (a7:α7) (a8:α8) (a9:α9) (h:p a1 a2 a3 a4 a5 a6 a7 a8 a9):Hf p
inductive jn (p1 p2 p3:Prop):Prop
 | mk (x1:p1) (x2:p2) (x3:p3):jn p1 p2 p3
inductive lO (p1 p2 p3 p4:Prop):Prop
 | mk (x1:p1) (x2:p2) (x3:p3) (x4:p4):lO p1 p2 p3 p4
inductive qp (p1 p2 p3 p4 p5:Prop):Prop
 | mk (x1:p1) (x2:p2) (x3:p3) (x4:p4) (x5:p5):qp p1 p2 p3 p4 p5
inductive uB (p1 p2 p3 p4 p5 p6:Prop):Prop
 | mk (x1:p1) (x2:p2) (x3:p3) (x4:p4) (x5:p5) (x6:p6):uB p1 p2 p3 p4 p5 p6
inductive xM (p1 p2 p3 p4 p5 p6 p7:Prop):Prop
 | mk (x1:p1) (x2:p2) (x3:p3) (x4:p4) (x5:p5) (x6:p6) (x7:p7):xM p1 p2 p3 p4 p5 p6 p7
inductive DK (p1 p2 p3 p4 p5 p6 p7 p8:Prop):Prop
 | mk (x1:p1) (x2:p2) (x3:p3) (x4:p4) (x5:p5) (x6:p6) (x7:p7) (x8:p8):DK p1 p2 p3 p4 p5 p6 p7 p8
inductive Fn (p1 p2 p3 p4 p5 p6 p7 p8 p9 p10:Prop):Prop
 | mk (x1:p1) (x2:p2) (x3:p3) (x4:p4) (x5:p5) (x6:p6) (x7:p7) (x8:p8) (x9:p9) (x10:p10):Fn p1 p2 p3 p4 p5 p6 p7 p8 p9 p10
noncomputable abbrev sh (s:am) (h:ay) (t:Nat):am:={ s with heap:=h,toks:=t}
noncomputable abbrev oE (s:am) (h:ay) (t:Nat) (d:Drawn):am:={ s with heap:=h,toks:=t,drawn:=d}
def rfA:Lean.Syntax:=(Lean.Unhygienic.run `(Lean.Parser.Tactic.tacticSeq| first|rfl|(intro _;rfl)|(intro _ _;rfl))).raw
def rfB:Lean.Syntax:=(Lean.Unhygienic.run `(Lean.Parser.Tactic.tacticSeq| intro _;kernel_rfl!)).raw
def rfD:Lean.Syntax:=(Lean.Unhygienic.run `(Lean.Parser.Tactic.tacticSeq| decide +kernel)).raw
def rfE:Lean.Syntax:=(Lean.Unhygienic.run `(Lean.Parser.Tactic.tacticSeq| first|with_unfolding_all rfl|(intro _;with_unfolding_all rfl)|(intro _ _;with_unfolding_all rfl))).raw
noncomputable def iF (l:List (bU×ag)):bU→Option ag:=fun y=>l.lookup y
noncomputable def gC (x:bU) (v:ag):List (bU×ag)→List (bU×ag)
 | []=>[(x,v)]
 | p::l=>if x==p.1 then (x,v)::l else p::gC x v l
theorem ki (x:bU) (v:ag) (y:bU):∀l:List (bU×ag),(gC x v l).lookup y=if y=x then some v else l.lookup y
 | []=>by
  delta gC
  rw [fY]
  by_cases h:y=x
  ·simp [h]
  ·have h2:(y==x)=false:=by simpa using h
   rw [h2,if_neg h]
 | p::l=>by
  unfold gC
  by_cases h:x=p.1
  ·have:(x==p.1)=true:=by simpa using h
   rw [if_pos this,fY,fY]
   by_cases h':y=x
   ·simp [h']
   ·have h2:(y==x)=false:=by simpa using h'
    have h3:(y==p.1)=false:=by refine h▸?_;exact h2
    rw [h2,h3,if_neg h']
  ·have:¬(x==p.1)=true:=by simpa using h
   rw [if_neg this,fY,fY,ki x v y l]
   by_cases h':y=p.1
   ·have h2:y≠x:=fun e=>h (e▸h')
    simp [h',if_neg (h'▸h2)]
   ·have h2:(y==p.1)=false:=by simpa using h'
    rw [h2]
theorem Bs (x:bU) (v:ag) (l:List (bU×ag)):(fun y=>if y=x then some v else iF l y)=iF (gC x v l):=by
 funext y
 exact (ki x v y l).symm
noncomputable def fr (n:Int) (v:ag):Prop:=∃t,v=.int n t
theorem fr.mk (n:Int) (t:jR):fr n (.int n t):=⟨t,rfl⟩
noncomputable def Ev (prog:aV) (w:aP) (A:aS) (env:gy) (h:ay) (e:au) (P:ag→Prop):Prop:=
 ∀(s:am) (Q:ag→am→Prop) (E:ag→am→Prop),s.heap=h→(∀v tk,P v→Q v { s with toks:=tk})→aF (aB prog w) A (cO e env) Q E s
noncomputable def Et (prog:aV) (w:aP) (A:aS) (env:gy) (h:ay) (e:au) (b:Bool):Prop:=
 ∀(s:am) (Q:Bool→am→Prop) (E:ag→am→Prop),s.heap=h→(∀tk,Q b { s with toks:=tk})→aF (aB prog w) A (isTrue e env (cO e env)) Q E s
section
variable {prog:aV} {w:aP} {A:aS} {env:gy} {h:ay}
theorem Ev.use {e:au} {P:ag→Prop} (H:Ev prog w A env h e P) {s:am} {Q:ag→am→Prop} {E:ag→am→Prop} (hs:s.heap=h) (k:∀v tk,P v→Q v { s with toks:=tk}) :
  aF (aB prog w) A (cO e env) Q E s:=H s Q E hs k
theorem Ev.mono {e:au} {P P':ag→Prop} (H:Ev prog w A env h e P) (k:∀v,P v→P' v):Ev prog w A env h e P':=
 fun s Q E hs hq=>H s Q E hs fun v tk hp=>hq v tk (k v hp)
theorem Ev.int {n:Int} {k:Nat} {pos:dJ}:Ev prog w A env h (.Constant (.int n) k pos) (fr n):=
 fun s Q E O hq=>wpAny_Constant_int (hq _ _ ⟨_,rfl⟩)
theorem Ev.bin {l r:au} {op:Operator} {pos:dJ} {a b c:Int} (hl:Ev prog w A env h l (fr a)) (hr:Ev prog w A env h r (fr b))
  (hop:∀(t u:jR) (s:am) (Q:ag→am→Prop) (E:ag→am→Prop),s.heap=h→(∀t tk,Q (.int c t) { s with toks:=tk})→aF (aB prog w) A (binaryOp op (.int a t) (.int b u)) Q E s) :
  Ev prog w A env h (.BinOp l op r pos) (fr c):=fun s Q E hs hq=>by
 refine wpAny_BinOp (hl s _ _ hs fun v tk hv=>?_)
 obtain ⟨t,rfl⟩:=hv
 refine hr _ _ _ hs fun v' tk' hv'=>?_
 obtain ⟨u,rfl⟩:=hv'
 exact hop t u _ _ _ hs fun t' tk2=>hq _ _ ⟨_,rfl⟩
theorem Ev.add {l r:au} {pos:dJ} {a b:Int} (hl:Ev prog w A env h l (fr a)) (hr:Ev prog w A env h r (fr b)):Ev prog w A env h (.BinOp l .Add r pos) (fr (a+b)):=
 Ev.bin hl hr fun O O O O O O k=>P.add_int (k _ _)
theorem Ev.sub {l r:au} {pos:dJ} {a b:Int} (hl:Ev prog w A env h l (fr a)) (hr:Ev prog w A env h r (fr b)):Ev prog w A env h (.BinOp l .Sub r pos) (fr (a-b)):=
 Ev.bin hl hr fun O O O O O O k=>P.sub_int (k _ _)
theorem Ev.mul {l r:au} {pos:dJ} {a b:Int} (hl:Ev prog w A env h l (fr a)) (hr:Ev prog w A env h r (fr b)) (hm:IntMulOk a b):Ev prog w A env h (.BinOp l .Mult r pos) (fr (a*b)):=
 Ev.bin hl hr fun O O O O O O k=>P.mul_int (k _ _) hm
theorem Ev.fdiv {l r:au} {pos:dJ} {a b:Int} (hl:Ev prog w A env h l (fr a)) (hr:Ev prog w A env h r (fr b)) (hb:b≠0) (hp:cc.divisionGoesByPylong a b=false):Ev prog w A env h (.BinOp l .FloorDiv r pos) (fr (a.fdiv b)):=
 Ev.bin hl hr fun O O O O O O k=>floordiv_int hb (k _ _) (.inl hp)
theorem Ev.fmod {l r:au} {pos:dJ} {a b:Int} (hl:Ev prog w A env h l (fr a)) (hr:Ev prog w A env h r (fr b)) (hb:b≠0):Ev prog w A env h (.BinOp l .Mod r pos) (fr (a.fmod b)):=
 Ev.bin hl hr fun O O O O O O k=>mod_int' hb (k _ _)
theorem Et.cmp {l r:au} {op:CmpOp} {pos:dJ} {P P':ag→Prop} {b:Bool} (hl:Ev prog w A env h l P) (hr:Ev prog w A env h r P')
  (hop:∀(x y:ag),P x→P' y→∀(s:am) (Q:ag→am→Prop) (E:ag→am→Prop),s.heap=h→(∀tk,Q (.bool b) { s with toks:=tk})→aF (aB prog w) A (ja op x y) Q E s)
  (hm:autoParam (i9 op r=false) rfE):Et prog w A env h (.Compare l [op] [r] pos) b:=fun s Q E hs hq=>by
 refine wpAny_isTrue_Compare1 (hl s _ _ hs fun v tk hv=>hr _ _ _ hs fun v' tk' hv'=>hop v v' hv hv' _ _ _ hs fun tk2=>?_) hm
 exact ig (hq _)
theorem Ev.cmp {l r:au} {op:CmpOp} {pos:dJ} {P P':ag→Prop} {b:Bool} (hl:Ev prog w A env h l P) (hr:Ev prog w A env h r P')
  (hop:∀(x y:ag),P x→P' y→∀(s:am) (Q:ag→am→Prop) (E:ag→am→Prop),s.heap=h→(∀tk,Q (.bool b) { s with toks:=tk})→aF (aB prog w) A (ja op x y) Q E s)
  (hm:autoParam (i9 op r=false) rfE):Ev prog w A env h (.Compare l [op] [r] pos) (· = .bool b):=fun s Q E hs hq=>by
 refine wpAny_Compare1 (hl s _ _ hs fun v tk hv=>hr _ _ _ hs fun v' tk' hv'=>hop v v' hv hv' _ _ _ hs fun tk2=>?_) hm
 exact hq _ _ rfl
noncomputable def eI (o:CmpOp) (a b:Int):Bool:=@CmpOp.casesOn (fun O=>Bool) o (a==b) (a != b) (decide (a<b)) (decide (a≤b)) (decide (a>b)) (decide (a≥b)) false false false false
noncomputable def sj (o:CmpOp):Bool:=@CmpOp.casesOn (fun O=>Bool) o true true true true true true false false false false
theorem w8 {op:CmpOp} {a b:Int} (ho:sj op=true) {x y:ag} (hx:fr a x) (hy:fr b y) {s:am} {Q:ag→am→Prop} {E:ag→am→Prop} (k:Q (.bool (eI op a b)) s) :
  aF (aB prog w) A (ja op x y) Q E s:=by
 obtain ⟨t,rfl⟩:=hx
 obtain ⟨u,rfl⟩:=hy
 cases op with
 | Eq=>exact P.eq_int k
 | NotEq=>exact P.ne_int k
 | Lt=>exact P.lt_int k
 | LtE=>exact P.le_int k
 | Gt=>exact P.gt_int k
 | GtE=>exact P.ge_int k
 | _=>cases ho
theorem Et.ints {l r:au} {op:CmpOp} {pos:dJ} {a b:Int} (hl:Ev prog w A env h l (fr a)) (hr:Ev prog w A env h r (fr b)) (ho:autoParam (sj op=true) rfA)
  (hm:autoParam (i9 op r=false) rfE):Et prog w A env h (.Compare l [op] [r] pos) (eI op a b):=
 Et.cmp hl hr (fun O O hx hy s Q E O k=>w8 ho hx hy (k s.toks)) hm
theorem Ev.ints {l r:au} {op:CmpOp} {pos:dJ} {a b:Int} (hl:Ev prog w A env h l (fr a)) (hr:Ev prog w A env h r (fr b)) (ho:autoParam (sj op=true) rfA)
  (hm:autoParam (i9 op r=false) rfE):Ev prog w A env h (.Compare l [op] [r] pos) (· = .bool (eI op a b)):=
 Ev.cmp hl hr (fun O O hx hy s Q E O k=>w8 ho hx hy (k s.toks)) hm
noncomputable def jd (prog:aV) (w:aP) (A:aS) (env:gy) (h:ay) (es:List au) (pos:dJ) (whole:mw ag) (b:Bool):Prop:=
 ∀(s:am) (Q:Bool→am→Prop) (E:ag→am→Prop),s.heap=h→(∀tk,Q b { s with toks:=tk})→aF (aB prog w) A (isTrue (.BoolOp .And es pos) env whole) Q E s
theorem jd.nil {pos:dJ} {whole:mw ag}:jd prog w A env h [] pos whole true:=fun s O O O hq=>isTrue_and_nil (hq s.toks)
theorem jd.no {x:au} {rest:List au} {pos:dJ} {whole:mw ag} (hx:Et prog w A env h x false):jd prog w A env h (x::rest) pos whole false:=fun s Q E hs hq=>
 isTrue_and (hx s _ _ hs fun tk=>by simp only [bv,if_false];exact hq tk)
theorem jd.yes {x:au} {rest:List au} {pos:dJ} {whole:mw ag} {b:Bool} (hx:Et prog w A env h x true) (hr:jd prog w A env h rest pos whole b):jd prog w A env h (x::rest) pos whole b:=fun s Q E hs hq=>
 isTrue_and (hx s _ _ hs fun tk=>by simp only [if_true];exact hr _ _ _ hs fun tk'=>hq tk')
theorem Et.and {es:List au} {pos:dJ} {b:Bool} (H:∀whole,jd prog w A env h es pos whole b):Et prog w A env h (.BoolOp .And es pos) b:=fun s Q E hs hq=>H _ s Q E hs hq
end
namespace MP
theorem o6:lr table "map.__iter__" = some cc.«dict_keyiterator.__iter__»:=
 entryFor_alias (id':= "dict_keyiterator.__iter__") (by kernel_rfl) (by first|rfl|decide +kernel|(unfold String.splitOn;simp +decide [String.splitOnAux])) (by decide +kernel) (by kernel_rfl)
theorem mro:mroOf (.type "map")=cJ [.type "map",.type "object"]:=by rw [mroOf_type];kernel_rfl
theorem wv:jv (.type "map") "__new__" = cJ (some (.builtin "map.__new__")):=by rw [eJ,dc];kernel_rfl
theorem yT:Slot "map" "__init__" "object.__init__" :=
 .of (owner:= "object") (n:= "__init__") (by rw [eJ,dc];kernel_rfl) (by decide +kernel) (by decide +kernel) (by decide +kernel)
  (by first|exact .inl (by decide +kernel)|exact .inr (by decide +kernel)) (by rw [eG];kernel_rfl)
theorem tE:Slot "map" "__iter__" "map.__iter__" :=
 .of (owner:= "map") (n:= "__iter__") (by rw [eJ,dc];kernel_rfl) (by decide +kernel) (by decide +kernel) (by decide +kernel)
  (by first|exact .inl (by decide +kernel)|exact .inr (by decide +kernel)) (by rw [eG];kernel_rfl)
theorem gj:Slot "map" "__next__" "map.__next__" :=
 .of (owner:= "map") (n:= "__next__") (by rw [eJ,dc];kernel_rfl) (by decide +kernel) (by decide +kernel) (by decide +kernel)
  (by first|exact .inl (by decide +kernel)|exact .inr (by decide +kernel)) (by rw [eG];kernel_rfl)
theorem tA:Manifest.owners.lookup (String.ofList ['p','a','m'].reverse)=some Manifest.sig_map:=by kernel_rfl
theorem xS (a:ag):ll "map.__iter__" ⟨[a],[]⟩:=by
 unfold ll;rw [signature?_of (id:= "map.__iter__") (n:=['_','_','r','e','t','i','_','_']) (o:=['p','a','m']) (by kernel_rfl) tA];kernel_rfl
theorem nN (a:ag):ll "map.__next__" ⟨[a],[]⟩:=by
 unfold ll;rw [signature?_of (id:= "map.__next__") (n:=['_','_','t','x','e','n','_','_']) (o:=['p','a','m']) (by kernel_rfl) tA];kernel_rfl
theorem l4:lr table "map.__next__" = some cc.«map.__next__»:=rj (by kernel_rfl)
theorem yh:lr table "map.__new__" = some cc.«map.__new__»:=rj (by kernel_rfl)
theorem DY:TypeCalled "map" "map.__new__" "object.__init__" :=
 ⟨by decide +kernel,by decide +kernel,⟨_,_,mro⟩,madeBy_type mro wv (by decide +kernel),by decide +kernel,by rw [eG];kernel_rfl,yT⟩
theorem AW (a b:ag):checkTypeCall "map" ⟨[a,b],[]⟩=cJ ():=by kernel_rfl
theorem Cq (a b:ag):checkBuiltinCall "map.__new__" ⟨[.type "map",a,b],[]⟩=cJ ():=by kernel_rfl
theorem sub:ou (.type "map") (.type "map")=cJ true:=by rw [eG];kernel_rfl
theorem Gy:jv (.type "map") "__len__" = cJ none:=by rw [eJ,dc];kernel_rfl
theorem EY:jv (.type "map") "__length_hint__" = cJ none:=by rw [eJ,dc];kernel_rfl
noncomputable abbrev oh (h:ay) (z T:aH) (f:ag):Prop:=h.get? z=some { cls:=.type "map",dict:=none,data:=.fields #[.ref T,f],slots:=#[]}
noncomputable abbrev qP (h:ay) (T:aH) (a:ag):Prop:=h.get? T=some { cls:=.type "tuple",data:=.seq #[a]}
section
variable {prog:aV} {w:aP} {A:aS} {E:ag→am→Prop} {s:am}
theorem wG {z T:aH} {f:ag} {Q:ag→am→Prop} (hz:oh s.heap z T f) (h:Q (.ref z) s):aF (aB prog w) A (pyIter (.ref z)) Q E s:=by
 have hT:s.TypeIs (.ref z) "map" :=⟨_,hz,rfl⟩
 refine qo hT tE (db tE hT o6 ?_ (xS _))
 skip
 exact ao ⟨_,rfl, "map",_,hT,gj.lookup,h⟩
noncomputable abbrev GW (h:ay) (l:aH):ay:=h.push { cls:=.type "list_iterator",data:=.fields #[.ref l,.int 0 0]}
noncomputable abbrev GX (h:ay) (l:aH):ay:=(GW h l).push { cls:=.type "tuple",data:=.seq #[.ref h.objs.size]}
noncomputable abbrev Gj (h:ay) (l:aH) (f:ag):ay:=(GX h l).push { cls:=.type "map",data:=.fields #[.ref (GW h l).objs.size,f]}
theorem yA (l:aH) (xs:Array ag) (f:ag):Meets (cc.«map.__new__» ⟨[.type "map",f,.ref l],[]⟩) (fun O R s=>s.heap.IsList l xs∧R (.ok (.ret (.ref (GX s.heap l).objs.size))) { s with heap:=Gj s.heap l f}):=
 .of_wp fun prog w A R s h=>by
  obtain ⟨hp,g,d,tk,os⟩:=s;have hl1:=h.1;have h:=h.2
  have hsub:=sub
  have hL1:ay.IsList (am.heap ⟨hp,g,d,tk,os⟩) l xs:=hl1
  wp_walk using lw hL1
  exact ⟨_,rfl,h⟩
theorem zB {l:aH} {xs:Array ag} {f:ag} {Q:ag→am→Prop} (hl:s.heap.IsList l xs)
  (h:∀h',oh h' (s.heap.objs.size+2) (s.heap.objs.size+1) f→qP h' (s.heap.objs.size+1) (.ref s.heap.objs.size)→h'.IsListIter s.heap.objs.size l 0→h'.objs.size=s.heap.objs.size+3→
   (∀c o,s.heap.get? c=some o→h'.get? c=some o)→Q (.ref (s.heap.objs.size+2)) { s with heap:=h'}):aF (aB prog w) A (sP (.type "map") [f,.ref l]) Q E s:=by
 refine callType_new DY (by decide) (AW _ _) (Cq _ _) (fun obj=>F.args_object_init_3 obj _ _) yh (yA l xs f) ⟨hl,?_⟩
 have z1:(GW s.heap l).objs.size=s.heap.objs.size+1:=lf ..
 have z2:(GX s.heap l).objs.size=s.heap.objs.size+2:=by rw [lf,z1]
 have z3:(Gj s.heap l f).objs.size=s.heap.objs.size+3:=by rw [lf,z2]
 have g3:(Gj s.heap l f).get? (GX s.heap l).objs.size=some _:=bG _ rfl
 have g2:(Gj s.heap l f).get? (GW s.heap l).objs.size=some _:=bo _ (bG _ rfl)
 have g1:(Gj s.heap l f).get? s.heap.objs.size=some _:=bo _ (bo _ (bG _ rfl))
 show _∧_
 rw [z2,z1] at g3
 rw [z1] at g2
 rw [z2]
 exact ⟨⟨_,g3,rfl⟩,h _ g3 g2 ⟨_,g1,rfl,rfl⟩ z3 fun b o x=>bo _ (bo _ (bo _ x))⟩
end
end MP
theorem fv {α:Type} {P:α→Prop} {a b:α} (h1:P a) (h2:P b):∀x∈[a,b],P x:=by
 intro x hx
 simp only [aC,bT,or_false] at hx
 rcases hx with rfl|rfl<;>assumption
theorem da {α:Type} {P:α→Prop} {a:α} (h1:P a):∀x∈[a],P x:=by
 intro x hx
 obtain rfl:=aD.mp hx
 exact h1
theorem lv {α:Type} {P:α→Prop} {a b c:α} (h1:P a) (h2:P b) (h3:P c):∀x∈[a,b,c],P x:=by
 intro x hx
 simp only [aC,bT,or_false] at hx
 rcases hx with rfl|rfl|rfl<;>assumption
theorem qD {α:Type} {P:α→Prop} {a b c d:α} (h1:P a) (h2:P b) (h3:P c) (h4:P d):∀x∈[a,b,c,d],P x:=by
 intro x hx
 simp only [aC,bT,or_false] at hx
 rcases hx with rfl|rfl|rfl|rfl<;>assumption
theorem Ag {α:Type} {P:α→Prop} {a b c d e:α} (h1:P a) (h2:P b) (h3:P c) (h4:P d) (h5:P e):∀x∈[a,b,c,d,e],P x:=fun x hx=>(aC.mp hx).elim (fun q=>q▸h1) (qD h2 h3 h4 h5 x)
theorem Gl {α:Type} {P:α→Prop} {a b c d e f g:α} (h1:P a) (h2:P b) (h3:P c) (h4:P d) (h5:P e) (h6:P f) (h7:P g):∀x∈[a,b,c,d,e,f,g],P x:=fun x hx=>(aC.mp hx).elim (fun q=>q▸h1) fun hx=>(aC.mp hx).elim (fun q=>q▸h2) (Ag h3 h4 h5 h6 h7 x)
theorem GY {h:ay} {L R b:aH} {o:cA} (h1:h.get? L=none) (h2:h.get? R=none) (q:h.get? b=some o):b∉[L,R]:=fun z=>fv (P:=fun x=>h.get? x=some o→False) (nn h1) (nn h2) b z q
theorem qn {h:ay} {a b:aH} {o:cA} (x:h.get? a=some o) (y:h.get? b=none):a≠b:=fun q=>nn (q▸y) x
theorem EV {h:ay} {a b:aH} {p:cA→Prop} (x:∃o,h.get? a=some o∧p o) (y:h.get? b=none):a≠b:=let ⟨_,z,_⟩:=x;qn z y
theorem Jb {h:ay} {a b:aH} (x:∃o,h.get? a=some o) (y:h.get? b=none):a≠b:=let ⟨_,z⟩:=x;qn z y
noncomputable def ba (D:List aH) (h h':ay):Prop:=∀b o,h.get? b=some o→b∉D→h'.get? b=some o
theorem ba.refl (D:List aH) (h:ay):ba D h h:=fun O O e O=>e
theorem ba.trans {D:List aH} {h h' h'':ay} (a:ba D h h') (b:ba D h' h''):ba D h h'':=fun x o e n=>b x o (a x o e n) n
theorem ba.mono {D D':List aH} {h h':ay} (a:ba D h h') (s:∀x∈D,x∈D'):ba D' h h':=fun x o e n=>a x o e fun m=>n (s x m)
theorem ba.get {h h':ay} (a:ba [] h h') {b:aH} {o:cA} (e:h.get? b=some o):h'.get? b=some o:=a b o e (by simp)
theorem ba.all {h h':ay} (a:ba [] h h'):∀b o,h.get? b=some o→h'.get? b=some o:=fun O O e=>a.get e
theorem ba.push (D:List aH) (h:ay) (o:cA):ba D h (h.push o):=fun O O e O=>bo _ e
theorem ba.same {a:aH} {h h':ay} (hs:cq a h h'):ba [a] h h':=fun b O e n=>(hs.2 b (fun q=>n (by simp [q]))).trans e
noncomputable def FA (e:gy):List aH:=e.locals::e.cells.map (·.2)
theorem em {α β:Type} [BEq α] [LawfulBEq α] {x:α} {v:β}:∀{l:List (α×β)},l.lookup x=some v→(x,v)∈l
 | p::l,h=>by
  rw [fY] at h
  cases q:x==p.1 with
  | true=>rw [q] at h;cases h;rw [beq_iff_eq.mp q];exact .head _
  | false=>rw [q] at h;exact .tail _ (em h)
noncomputable def m0 (e:gy) (x:bU):Bool:=e.scope.kind==.function && (match e.kindOf x with|some .local=>true|some .cell=>(e.cells.lookup x).isSome|_=>false)
structure St (g:ay) (e:gy) (h:ay) (m:List (bU×ag)) (c:List (aH×cA)):Prop where
 ns:∃ml,h.Ns e.locals ml∧∀x v,iF m x=some v→e.kindOf x=some .local→ml x=some v
 cl:∀x a,e.cells.lookup x=some a→∃v?,h.IsCell a v? ∧∀v,iF m x=some v→v? = some v
 apart:e.cells.Pairwise fun x y=>x.2≠y.2
 away:∀p∈e.cells,p.2≠e.locals
 keep:∀b o,g.get? b=some o→h.get? b=some o
 off:∀a∈FA e,g.get? a=none
 lie:∀a∈FA e,∃o,h.get? a=some o
 own:∀p∈c,h.get? p.1=some p.2∧p.1∉FA e∧g.get? p.1=none
section
variable {g h h':ay} {e:gy} {m:List (bU×ag)} {c:List (aH×cA)}
theorem FA.loc:e.locals∈FA e:=.head _
theorem FA.cell {x:bU} {a:aH} (hc:e.cells.lookup x=some a):a∈FA e:=.tail _ (b9.mpr ⟨(x,a),em hc,rfl⟩)
theorem St.get {a:aH} {o:cA} (S:St g e h m c) (hm:(a,o)∈c):h.get? a=some o:=(S.own _ hm).1
theorem St.less {c':List (aH×cA)} (S:St g e h m c) (hs:∀p∈c',p∈c):St g e h m c':={ S with own:=fun p hp=>S.own p (hs p hp)}
theorem St.forget {m':List (bU×ag)} (S:St g e h m c) (hs:∀x v,iF m' x=some v→iF m x=some v):St g e h m' c:=
 { S with ns:=let ⟨ml,a,b⟩:=S.ns;⟨ml,a,fun x v hx=>b x v (hs x v hx)⟩,cl:=fun x a ha=>let ⟨v,p,q⟩:=S.cl x a ha;⟨v,p,fun u hu=>q u (hs x u hu)⟩}
theorem pN {m':List (bU×ag)} {P:bU→ag→Prop} (hs:∀p∈m',P p.1 p.2):∀x v,iF m' x=some v→P x v:=fun x v hx=>hs (x,v) (em hx)
theorem St.names {m':List (bU×ag)} (S:St g e h m c) (hs:∀p∈m',iF m p.1=some p.2):St g e h m' c:=S.forget (pN hs)
theorem St.kept {h0:ay} {D:List aH} (S:St (bp h0 D) e h m c):ba D h0 h:=fun b o e n=>S.keep b o (bq D e n)
theorem St.move {D:List aH} (S:St g e h m c) (hk:ba D h h') (hF:∀a∈FA e,a∉D) (hg:∀b∈D,g.get? b=none) (hc:∀p∈c,p.1∉D):St g e h' m c where
 ns:=by obtain ⟨ml,a,b⟩:=S.ns;exact ⟨ml,a.at' fun o q=>hk _ o q (hF _ FA.loc),b⟩
 cl:=fun x a ha=>by obtain ⟨v,⟨o,p,r⟩,q⟩:=S.cl x a ha;exact ⟨v,⟨o,hk _ _ p (hF _ (FA.cell ha)),r⟩,q⟩
 apart:=S.apart
 away:=S.away
 keep:=fun b o q=>hk b o (S.keep b o q) (fun z=>by exact nn (hg b z) q)
 off:=S.off
 lie:=fun a ha=>by obtain ⟨o,q⟩:=S.lie a ha;exact ⟨o,hk _ _ q (hF a ha)⟩
 own:=fun p hp=>⟨hk _ _ (S.own p hp).1 (hc p hp),(S.own p hp).2⟩
theorem St.grow (S:St g e h m c) (hk:ba [] h h'):St g e h' m c:=S.move hk (by simp) (by simp) (by simp)
theorem St.rebase (S:St g e h m c) (D:List aH) (hF:∀a∈FA e,a∈D) (hc:∀p∈c,p.1∈D):St (bp h D) e h m c:=
 { S with keep:=fun O O q=>fE D q,off:=fun a ha=>cQ D (hF a ha),own:=fun p hp=>⟨(S.own p hp).1,(S.own p hp).2.1,cQ D (hc p hp)⟩}
theorem uJ {x:bU} {v:ag} (m:List (bU×ag)) (y:bU):iF (gC x v m) y=if y=x then some v else iF m y:=ki x v y m
theorem St.setL {ml:bU→Option ag} {x:bU} {v:ag} (S:St g e h m c) (hl:∀y u,iF m y=some u→e.kindOf y=some .local→ml y=some u) (hn:h'.Ns e.locals (fun y=>if y=x then some v else ml y)) (hs:cq e.locals h h')
  (hx:e.cells.lookup x=none):St g e h' (gC x v m) c where
 ns:=⟨_,hn,fun y u hy hk=>by
  rw [uJ] at hy
  by_cases q:y=x
  ·rw [if_pos q] at hy ⊢;exact hy
  ·rw [if_neg q] at hy ⊢;exact hl y u hy hk⟩
 cl:=fun y a ha=>by
  obtain ⟨v',p,q⟩:=S.cl y a ha
  refine ⟨v',p.sameBut hs fun z=>S.away _ (em ha) z,fun u hu=>?_⟩
  rw [uJ] at hu
  by_cases q':y=x
  ·rw [q',hx] at ha;cases ha
  ·rw [if_neg q'] at hu;exact q u hu
 apart:=S.apart
 away:=S.away
 keep:=fun b o q=>(hs.2 b (fun z=>by rw [z,S.off _ FA.loc] at q;cases q)).trans (S.keep b o q)
 off:=S.off
 lie:=fun a ha=>by
  by_cases q:a=e.locals
  ·obtain ⟨o,_,_,q_⟩:=hn;have ho:=q_.1;clear q_;exact ⟨o,q▸ho⟩
  ·obtain ⟨o,ho⟩:=S.lie a ha;exact ⟨o,(hs.2 a q).trans ho⟩
 own:=fun p hp=>⟨(hs.2 p.1 (fun z=>(S.own p hp).2.1 (z▸FA.loc))).trans (S.own p hp).1,(S.own p hp).2⟩
theorem AF {x y:bU} {a:aH}:∀{l:List (bU×aH)},(l.Pairwise fun x y=>x.2≠y.2)→(x,a)∈l→(y,a)∈l→x=y:=fun {l}=>by
 induction l with
 | nil=>exact fun O h=>nomatch h
 | cons p l ih=>
  intro hp hx hy
  obtain ⟨h1,h2⟩:=ez.mp hp
  cases hx with
  | head=>cases hy with
   | head=>rfl
   | tail _ hy=>exact absurd rfl (h1 (y,a) hy)
  | tail _ hx=>cases hy with
   | head=>exact absurd rfl (h1 (x,a) hx)
   | tail _ hy=>exact ih h2 hx hy
theorem St.setC {x:bU} {v:ag} {b:aH} (S:St g e h m c) (hb:e.cells.lookup x=some b) (hn:h'.IsCell b (some v)) (hs:cq b h h') (hx:e.kindOf x≠some .local):St g e h' (gC x v m) c where
 ns:=by
  obtain ⟨ml,p,q⟩:=S.ns
  refine ⟨ml,p.sameBut hs (dM (S.away _ (em hb))),fun y u hy hk=>?_⟩
  rw [uJ] at hy
  by_cases z:y=x
  ·exact absurd (z▸hk) hx
  ·rw [if_neg z] at hy;exact q y u hy hk
 cl:=fun y a ha=>by
  by_cases z:y=x
  ·subst z
   replace ha:=hb▸ha;cases ha
   refine ⟨_,hn,fun u hu=>?_⟩
   rw [uJ,if_pos rfl] at hu;exact hu
  ·obtain ⟨v',p,q⟩:=S.cl y a ha
   refine ⟨v',p.sameBut hs fun w=>z (AF S.apart (em ha) (w▸em hb)),fun u hu=>?_⟩
   rw [uJ,if_neg z] at hu;exact q u hu
 apart:=S.apart
 away:=S.away
 keep:=fun b' o q=>(hs.2 b' (fun z=>by rw [z,S.off _ (FA.cell hb)] at q;cases q)).trans (S.keep b' o q)
 off:=S.off
 lie:=fun a ha=>by
  by_cases q:a=b
  ·obtain ⟨o,q_⟩:=hn;have ho:=q_.1;clear q_;exact ⟨o,q▸ho⟩
  ·obtain ⟨o,ho⟩:=S.lie a ha;exact ⟨o,(hs.2 a q).trans ho⟩
 own:=fun p hp=>⟨(hs.2 p.1 (fun z=>(S.own p hp).2.1 (z▸FA.cell hb))).trans (S.own p hp).1,(S.own p hp).2⟩
theorem St.add {a:aH} {o:cA} {h0:ay} (S0:St g e h0 m c) (hk:ba [] h0 h) (ho:h.get? a=some o) (hn:h0.get? a=none):St g e h m ((a,o)::c):=by
 have S:=S0.grow hk
 refine { S with own:=fun p hp=>?_}
 rcases aC.mp hp with rfl|hp
 ·refine ⟨ho,fun q=>?_,?_⟩
  ·obtain ⟨o',q'⟩:=S0.lie _ q
   simp only at q'
   exact nn hn q'
  ·cases q:g.get? a with
   | none=>rfl
   | some o'=>have:=S0.keep a o' q;exact nn hn this
 ·exact S.own p hp
theorem St.push (S:St g e h m c) (o:cA) (hf:autoParam (o.isFreed=false) rfA):St g e (h.push o) m ((h.objs.size,o)::c):=by
 refine S.add (.push _ _ _) (bG _ hf) ?_
 cases hq:h.get? h.objs.size with
 | none=>rfl
 | some o'=>exact absurd (cK hq) (dT _)
theorem St.change {a:aH} {o o':cA} {pre post:List (aH×cA)} (S:St g e h m (pre++(a,o)::post)) (hk:ba [a] h h') (ho:h'.get? a=some o')
  (h1:∀p∈pre,p.1≠a) (h2:∀p∈post,p.1≠a):St g e h' m (pre++(a,o')::post):=by
 have ha:=S.own (a,o) (by simp)
 have S':St g e h' m (pre++post):=by
  refine (S.less (c':=pre++post) fun p hp=>?_).move hk (fun b hb q=>?_) (fun b hb=>?_) (fun p hp q=>?_)
  ·rcases bw.mp hp with hp|hp<;>simp [hp]
  ·obtain rfl:b=a:=by simpa using q
   exact ha.2.1 hb
  ·obtain rfl:b=a:=by simpa using hb
   exact ha.2.2
  ·have q:p.1=a:=by simpa using q
   rcases bw.mp hp with hp|hp
   ·exact h1 p hp q
   ·exact h2 p hp q
 refine { S' with own:=fun p hp=>?_}
 rcases bw.mp hp with hp|hp
 ·exact S'.own p (by simp [hp])
 ·rcases aC.mp hp with rfl|hp
  ·exact ⟨ho,ha.2⟩
  ·exact S'.own p (by simp [hp])
end
section
variable {prog:aV} {w:aP} {A:aS} {E:ag→am→Prop} {s:am} {g:ay} {m:List (bU×ag)} {c:List (aH×cA)} {e:gy}
theorem xG {x:bU} {v:ag} {Q:ag→am→Prop} (S:St g e s.heap m c) (hv:iF m x=some v) (hl:m0 e x=true) (k:Q v s):aF (aB prog w) A (loadName e x) Q E s:=by
 unfold m0 at hl
 obtain ⟨hk,hl⟩:=cF.mp hl
 have hk:e.scope.kind=.function:=by simpa using hk
 split at hl
 ·rename_i q
  obtain ⟨ml,a,b⟩:=S.ns
  exact wpAny_loadName_local hk q a (b x v hv q) k
 ·rename_i q
  obtain ⟨a,ha⟩:=Option.isSome_iff_exists.mp hl
  obtain ⟨v',p,q'⟩:=S.cl x a ha
  exact wpAny_loadName_cell hk q ha (q' v hv▸p) k
 ·cases hl
theorem Ev.nm {h:ay} {x:bU} {pos:dJ} {v:ag} (S:St g e h m c) (hv:autoParam (iF m x=some v) rfA) (hl:autoParam (m0 e x=true) rfA)
  (hd:autoParam ((x==("__debug__" : bU))=false) rfD):Ev prog w A e h (.Name x pos) (· = v):=fun s Q E hs hq=>by
 subst hs
 exact wpAny_Name (xG S hv hl (hq v s.toks rfl)) hd
theorem Ev.nmI {h:ay} {x:bU} {pos:dJ} {n:Int} {t:jR} (S:St g e h m c) (hv:autoParam (iF m x=some (.int n t)) rfA) (hl:autoParam (m0 e x=true) rfA)
  (hd:autoParam ((x==("__debug__" : bU))=false) rfD):Ev prog w A e h (.Name x pos) (fr n):=(Ev.nm S hv hl hd).mono fun O e=>⟨t,e⟩
noncomputable def kI (e:gy) (x:bU):Bool:=m0 e x && (e.kindOf x==some .cell || (e.cells.lookup x).isNone)
theorem bE {x:bU} {v:ag} {Q:Unit→am→Prop} (S:St g e s.heap m c) (k:∀h' tk,St g e h' (gC x v m) c→Q () (sh s h' tk))
  (hl:autoParam (kI e x=true) rfA):aF (aB prog w) A (rv e x v) Q E s:=by
 skip
 obtain ⟨hl,hc⟩:=cF.mp hl
 obtain ⟨hk,hl⟩:=cF.mp hl
 have hk:e.scope.kind=.function:=by simpa using hk
 split at hl
 ·rename_i q
  obtain ⟨ml,a,b⟩:=S.ns
  have hc:e.cells.lookup x=none:=by simpa [q] using hc
  exact wpAny_storeName_local q a (fun h' hn hs=>k h' _ (S.setL b hn hs hc)) (by rw [hk];rfl)
 ·rename_i q
  obtain ⟨a,ha⟩:=Option.isSome_iff_exists.mp hl
  obtain ⟨v',p,q'⟩:=S.cl x a ha
  exact wpAny_storeName_cell hk q ha p fun h' hn hs=>k h' _ (S.setC ha hn hs (by rw [q];intro z;cases z))
 ·cases hl
theorem fz {x:bU} {px pos:dJ} {ex:au} {P:ag→Prop} {Q:dW→am→Prop} (S:St g e s.heap m c) (H:Ev prog w A e s.heap ex P)
  (k:∀v h' tk,P v→St g e h' (gC x v m) c→Q .next (sh s h' tk))
  (hs:autoParam (jc ex (some (.Name x px)) pos.line e=cJ false) rfA)
  (hl:autoParam (kI e x=true) rfA):aF (aB prog w) A (fA (.Assign [.Name x px] ex pos) e) Q E s:=
 wpAny_Assign_Name (H s _ _ rfl fun v tk hv=>bE (s:={ s with toks:=tk}) S (fun h' tk' S'=>k v h' tk' hv S') hl) hs
noncomputable abbrev IP (prog:aV) (w:aP) (A:aS) (rest:List fC) (env:gy) (Q:dW→am→Prop) (E:ag→am→Prop):dW→am→Prop:=fun f s'=>f=.next∧aF (aB prog w) A (eK rest env) Q E s'
theorem wq {M:Model} {A:aS} {α:Type} {m:mw α} {Q:α→am→Prop} {E:ag→am→Prop} {s:am} (H:∀R:α→am→Prop,(∀x s',Q x s'→R x s')→aF M A m R E s):aF M A m Q E s:=H Q fun O O q=>q
theorem aT {env:gy} {st:fC} {rest:List fC} {Q:dW→am→Prop} (H:aF (aB prog w) A (fA st env) (IP prog w A rest env Q E) E s):aF (aB prog w) A (eK (st::rest) env) Q E s:=
 wpAny_execs_cons (aL H (fun f s' h=>by obtain ⟨rfl,h⟩:=h;exact h) fun O O x=>x)
theorem fV {env:gy} {test:au} {body orelse:List fC} {pos:dJ} {b:Bool} {Q:dW→am→Prop} (H:Et prog w A env s.heap test b)
  (k:∀tk:Nat,aF (aB prog w) A (eK (if b then body else orelse) env) Q E { s with toks:=tk}):aF (aB prog w) A (fA (.If test body orelse pos) env) Q E s:=
 wpAny_If (H s _ _ rfl fun tk=>by cases b<;>exact k tk)
end
noncomputable def DR (s:am) (dw:Nat→ay→Prop) (Q:dW→am→Prop) (n:Nat) (f:dW) (s₃:am):Prop:=match f with
 | .next|.cont=>lT fun h tk n'=>jn (s₃=(sh s h tk)) (n'<n) (dw n' h)
 | .brk=>Q .next s₃
 | .ret v=>Q (.ret v) s₃
theorem lM {prog:aV} {w:aP} {A:aS} {s:am} {env:gy} {test:au} {body:List fC} {pos:dJ} {Q:dW→am→Prop} (dw:Nat→ay→Prop) {n₀:Nat} (h0:dw n₀ s.heap)
  (turn:∀(n:Nat) (h:ay),dw n h→∃b,jn (Et prog w A env h test b) ((b=false→∀tk':Nat,Q .next (sh s h tk'))) ((b=true→∀tk':Nat,aF (aB prog w) A (eK body env) (DR s dw Q n) (fun O O=>False) (sh s h tk')))) :
  aF (aB prog w) A (fA (.While test body [] pos) env) Q (fun O O=>False) s:=by
 refine wpAny_While (codeAny_whileLoop (fun n s'=>g8 fun h tk=>s'=(sh s h tk)∧dw n h) ?_ n₀ ⟨s.heap,s.toks,rfl,h0⟩)
 rintro n s' ⟨h,tk,rfl,hI⟩
 obtain ⟨b,hT,hf,ht⟩:=turn n h hI
 refine hT _ _ _ rfl fun tk'=>?_
 cases b with
 | false=>
  skip
  exact aw (hf rfl tk')
 | true=>
  dsimp only
  refine aL (ht rfl tk') (fun f s₃ h₃=>?_) fun O O x=>x.elim
  cases f with
  | next=>obtain ⟨h',tk2,n',rfl,hn,hI'⟩:=h₃;exact ⟨n',hn,h',tk2,rfl,hI'⟩
  | cont=>obtain ⟨h',tk2,n',rfl,hn,hI'⟩:=h₃;exact ⟨n',hn,h',tk2,rfl,hI'⟩
  | brk=>exact h₃
  | ret v=>exact h₃
noncomputable def cz (o:cA):Bool:=match o.data with
 | .fields _=>(match o.cls with
  | .type t=>!(["list_iterator", "tuple_iterator", "range_iterator", "longrange_iterator", "enumerate", "dict_itemiterator", "dict_keyiterator", "dict_valueiterator", "set_iterator", "map", "zip"]:List String).contains t
  | _=>true)
 | _=>true
noncomputable def zn (s:am) (D:List aH) (h:ay) (dw:Nat→ay→Prop) (Q:dW→am→Prop) (i:Nat) (f:dW) (s₃:am):Prop:=match f with
 | .next|.cont=>g8 fun h' tk=>jn (s₃=(sh s h' tk)) (ba D h h') (dw (i+1) h')
 | .brk=>Q .next s₃
 | .ret v=>Q (.ret v) s₃
theorem wQ {prog:aV} {w:aP} {A:aS} {s:am} {env:gy} {target:au} {body:List fC} {Q:dW→am→Prop} {I:aH} {fp wr:List aH} {n:Nat} {P:Nat→ag→Prop} {S:Nat→ay→Prop}
  (W:ql prog w A I fp wr n P S) (D:List aH) (dw:Nat→ay→Prop) (hst:S 0 s.heap) (h0:dw 0 s.heap) (hD:∀b∈fp,b∉D)
  (hit:∀i h,S i h→∀b∈wr,∀o,h.get? b=some o→cz o=false) (B:aH→Prop) (hB:∀b∈wr,¬B b)
  (stab:∀i h h',dw i h→(∀b o,h.get? b=some o→cz o=true∨b∈D∨B b→h'.get? b=some o)→dw i h')
  (turn:∀i v h tk,i<n→P i v→S (i+1) h→dw i h→aF (aB prog w) A (sK target (.ref I) v) (fun O s₁=>s₁=(sh s h s₁.toks)∧aF (aB prog w) A (eT target env v) (fun O s₂=>aF (aB prog w) A (eK body env) (zn s D h dw Q i) (fun O O=>False) s₂) (fun O O=>False) s₁) (fun O O=>False) (sh s h tk))
  (done:∀h tk,dw n h→Q .next (sh s h tk)) :
  hW (aB prog w) A (.forLoop target (.ref I) body [] env) (fun r s'=>match r with|.ok f=>Q f s'|.error e=>oZ (aB prog w) A env (fun O O=>False) e s') s:=by
 have st:∀i h h',S i h→dw i h→(∀b o,b∉wr→h.get? b=some o→h'.get? b=some o)→dw i h':=fun i h h' hS hI hk=>stab i h h' hI fun b o e hb=>by
  refine hk b o (fun q=>?_) e
  rcases hb with hb|hb|hb
  ·replace hb:=(hit i h hS b q o e)▸hb;cases hb
  ·exact hD b (W.sub b q) hb
  ·exact hB b q hb
 refine nT (fun k s'=>lT fun h tk i=>qp (s'=(sh s h tk)) (S i h) (dw i h) (i≤n) (k=n+1-i)) ?_ (n+1) ⟨s.heap,s.toks,0,rfl,hst,h0,aX _,rfl⟩
 rintro k s' ⟨h,tk,i,rfl,hS,hI,hi,rfl⟩
 by_cases hlt:i<n
 ·refine W.item i _ _ _ hlt hS fun v h₁ tk₁ hP hS₁ hk₁=>?_
  have hI₁:=st i h h₁ hS hI hk₁
  refine aL (turn i v h₁ tk₁ hlt hP hS₁ hI₁) (fun O s₁ h₁'=>?_) fun O O x=>x.elim
  have h₁':=h₁'.2
  refine aL h₁' (fun O s₂ h₂=>aL h₂ (fun f s₃ h₃=>?_) fun O O x=>x.elim) fun O O x=>x.elim
  have go:(g8 fun h' tk=>jn (s₃=(sh s h' tk)) (ba D h₁ h') (dw (i+1) h'))→∃m,m<n+1-i∧lT fun h tk i=>qp (s₃=(sh s h tk)) (S i h) (dw i h) (i≤n) (m=n+1-i):=by
   rintro ⟨h',tk',rfl,hkp,hI'⟩
   exact ⟨n+1-(i+1),by exact cR (.lt aq ar (.le (.s 2 1) (.p ar aI) (.eq (.p aq (.s 3 1)) (.s 2 1) .o))) τ bZ (aa (cW (.le (.s 0 1) (.s 1 1) (.le aq ar .o)) τ hi)),h',tk',i+1,rfl,W.frame _ _ _ hS₁ fun b hb o e=>hkp b o e (hD b hb),hI',hlt,rfl⟩
  cases f with
  | next=>exact go h₃
  | cont=>exact go h₃
  | brk=>exact h₃
  | ret v=>exact h₃
 ·have hin:i=n:=by exact ak hi (aZ hlt)
  subst hin
  refine W.done _ _ _ hS fun h₁ tk₁ hk₁=>aw ?_
  exact done h₁ tk₁ (st i h h₁ hS hI hk₁)
theorem HN (a:Char) (l:List Char):List.map Char.toNat (a::l)=a.toNat::List.map Char.toNat l:=rfl
theorem HO:List.map Char.toNat []=[]:=rfl
theorem Jf (l:List Nat):l.toArray=⟨l⟩:=rfl
noncomputable def uO (f:Nat):Nat→List Nat:=@Nat.rec (fun O=>Nat→List Nat) (fun O=>[]) (fun O ih n=>@oM (fun O=>List Nat) ((n % 256)::ih (n / 256)) [] (lV n 0)) f
noncomputable def uQ:List Char→Nat
 | []=>0
 | c::l=>c.toNat+256*uQ l
noncomputable def GB:List Char→Bool
 | []=>true
 | c::l=>nL 1 c.toNat && (nL c.toNat 255 && GB l)
theorem BL (l:List Char):GB l=true→uO l.length (uQ l)=l.map Char.toNat:=by
 induction l with
 | nil=>exact fun O=>rfl
 | cons c l ih=>
  intro h
  have h:=cF.mp (show (nL 1 c.toNat && (nL c.toNat 255 && GB l))=true from h)
  have h2:=cF.mp h.2
  have b:=iP (bI h2.1)
  show @oM (fun O=>List Nat) (((c.toNat+256*uQ l) % 256)::uO l.length ((c.toNat+256*uQ l) / 256)) [] (lV (c.toNat+256*uQ l) 0)=_
  rw [show lV (c.toNat+256*uQ l) 0=false from gF.mpr fun z=>Nat.not_succ_le_zero 0 (aj (bI h.1) (aA (Nat.eq_zero_of_add_eq_zero_right (kx z))))]
  show (_ % 256)::uO _ (_ / 256)=_
  rw [Nat.add_mul_mod_self_left,Nat.mod_eq_of_lt b,Nat.add_mul_div_left _ _ (by decide),Nat.div_eq_of_lt b,cY,ih h2.2]
  rfl
theorem E0 (l:List Char) (h:GB l=true):cL (String.ofList l)=⟨⟨uO l.length (uQ l)⟩⟩:=by
 rw [BL l h,rG,String.toList_ofList]
noncomputable def gA (k n:Nat):bU:=⟨⟨uO k n⟩⟩
theorem kQ (l:List Char) (k n:Nat) (hk:l.length=k) (hn:uQ l=n) (h:GB l=true):cL (String.ofList l)=gA k n:=hk▸hn▸E0 l h
noncomputable def GA:List Nat→Bool
 | []=>true
 | a::l=>nL a 255 && GA l
noncomputable def IM:(Nat→Nat→bU)→aV:=by
 apply (?m:∀f:(Nat→Nat→bU)→aV,(∀P:aV→Prop,(∀g,P (f g))→P lB)→(Nat→Nat→bU)→aV)
 ·intro P h
  delta lB
  conv=>arg 1;pattern (occs:=793) cL _;tactic=>exact kQ _ _ _ (by conv=>lhs;whnf) (by conv=>lhs;whnf) (by rfl)
  conv=>arg 1;pattern (occs:=720) cL _;tactic=>exact kQ _ _ _ (by conv=>lhs;whnf) (by conv=>lhs;whnf) (by rfl)
  conv=>arg 1;pattern (occs:=582) cL _;tactic=>exact kQ _ _ _ (by conv=>lhs;whnf) (by conv=>lhs;whnf) (by rfl)
  conv=>arg 1;pattern (occs:=420) cL _;tactic=>exact kQ _ _ _ (by conv=>lhs;whnf) (by conv=>lhs;whnf) (by rfl)
  conv=>arg 1;pattern (occs:=315) cL _;tactic=>exact kQ _ _ _ (by conv=>lhs;whnf) (by conv=>lhs;whnf) (by rfl)
  conv=>arg 1;pattern (occs:=298) cL _;tactic=>exact kQ _ _ _ (by conv=>lhs;whnf) (by conv=>lhs;whnf) (by rfl)
  conv=>arg 1;pattern (occs:=259) cL _;tactic=>exact kQ _ _ _ (by conv=>lhs;whnf) (by conv=>lhs;whnf) (by rfl)
  conv=>arg 1;pattern (occs:=250) cL _;tactic=>exact kQ _ _ _ (by conv=>lhs;whnf) (by conv=>lhs;whnf) (by rfl)
  simp only [rG,String.reduceToList]
  dsimp only [HN,HO,Jf]
  simp only [Char.reduceToNat]
  generalize gA=g
  exact h g
 ·exact fun f O=>f
noncomputable def PQ:aV:=IM gA
theorem vo (x:Nat) (h:x<256):(Char.ofNat x).toNat=x:=by
 have:x.isValidChar:=Or.inl (by omega)
 unfold Char.ofNat
 rw [dif_pos this]
 show (UInt32.ofNatLT x _).toNat=x
 exact UInt32.toNat_ofNatLT
theorem tr:∀l:List Nat,GA l=true→(l.map Char.ofNat).map Char.toNat=l
 | [],_=>rfl
 | a::l,h=>by
  have h:=cF.mp (show (nL a 255 && GA l)=true from h)
  rw [ft,ft,tr l h.2,vo a (iP (bI h.1))]
noncomputable def gB (k n:Nat):bU:=@oM (fun O=>bU) (gA k n) (cL (String.ofList ((uO k n).map Char.ofNat))) (GA (uO k n))
theorem FE:gA=gB:=by
 funext k n
 unfold gB
 cases h:GA (uO k n) with
 | false=>rfl
 | true=>exact (show _=cL _ by rw [rG,String.toList_ofList,tr _ h];rfl)
theorem Ft:lB=PQ:=by
 unfold PQ
 rw [FE]
 kernel_rfl!
noncomputable def Bb (p:Nat→Bool) (l:List Nat):Bool:=
 @List.rec Nat (fun O=>Bool) false (fun a O ih=>@oM (fun O=>Bool) ih true (p a)) l
theorem Bc (p:Nat→Bool) (l:List Nat):Bb p l=l.any p:=by
 induction l with
 | nil=>rfl
 | cons a l ih=>
  show @oM (fun O=>Bool) (Bb p l) true (p a)=_
  rw [List.any_cons,←ih]
  cases p a<;>rfl
noncomputable def zw (as:Array Nat) (p:Nat→Bool) (a b:Nat):Bool:=
 @oM (fun O=>Bool) (Array.any as p a b) (Bb p as.toList) (lV a 0 && lV b as.size)
theorem sX:@Array.any Nat=zw:=by
 funext as p a b
 unfold zw
 cases h:(lV a 0 && lV b as.size) with
 | false=>rfl
 | true=>
  have h1:a=0:=kx (cF.mp h).1
  have h2:b=as.size:=kx (cF.mp h).2
  rw [h1,h2]
  show _=Bb p as.toList
  rw [Bc,Array.any_toList]
noncomputable def Cr:cc:=by
 apply (?m:∀f,f5=f→cc)
 ·delta f5
  rw [sX]
 ·exact fun f O=>f
theorem Cs:f5=Cr:=by
 delta Cr f5
 rw [sX]
noncomputable def Fl (id:String):Option cc:=
 @oM (fun O=>Option cc) (PySem.W.Fast.tw14364793385576792824 id) (some Cr) (lV (jq id) 29827186395103491166823348853)
theorem uv:oG=Fl:=by
 rw [PySem.W.Fast.te14364793385576792824]
 funext id
 unfold Fl
 cases h:lV (jq id) 29827186395103491166823348853 with
 | false=>rfl
 | true=>
  have h1:=kx h
  show PySem.W.Fast.tw1115789885857029328.find (jq id)=some Cr
  rw [h1,←Cs]
  kernel_rfl!
section
section force
variable {α β:Type}
noncomputable def zQ (f:α→(α→β)→β) (l:List α):(List α→β)→β:=
 @List.rec α (fun O=>(List α→β)→β) (fun k=>k []) (fun a O ih k=>f a fun a'=>ih fun l'=>k (a'::l')) l
theorem uS {f:α→(α→β)→β} (h:∀a k,f a k=k a):∀(l:List α) (k:List α→β),zQ f l k=k l
 | [],_=>rfl
 | a::l,k=>by
  show f a (fun a'=>zQ f l fun l'=>k (a'::l'))=_
  rw [h,uS h l]
noncomputable def zN (f:α→(α→β)→β) (a:Array α) (k:Array α→β):β:=@Array.rec α (fun O=>β) (fun l=>zQ f l fun l'=>k ⟨l'⟩) a
theorem uf {f:α→(α→β)→β} (h:∀a k,f a k=k a) (a:Array α) (k:Array α→β):zN f a k=k a:=by cases a;exact uS h _ _
noncomputable def BQ (f:α→(α→β)→β) (o:Option α) (k:Option α→β):β:=@Option.rec α (fun O=>β) (k none) (fun a=>f a fun a'=>k (some a')) o
theorem ug {f:α→(α→β)→β} (h:∀a k,f a k=k a) (a:Option α) (k:Option α→β):BQ f a k=k a:=by
 cases a with
 | none=>rfl
 | some a=>exact h _ _
noncomputable def ro (n:Nat) (k:Nat→β):β:=@oM (fun O=>β) (k n) (k n) (lV n 0)
theorem rz (n:Nat) (k:Nat→β):ro n k=k n:=by unfold ro;cases lV n 0<;>rfl
noncomputable def sT (v:ag) (k:ag→β):β:=
 @ag.rec (fun O=>β) (k .none) (k .ellipsis) (k .notImplemented) (fun b=>k (.bool b)) (fun i t=>ro t fun t=>k (.int i t)) (fun x t=>ro t fun t=>k (.float x t)) (fun s t=>ro t fun t=>k (.str s t))
  (fun b t=>ro t fun t=>k (.bytes b t)) (fun n=>k (.type n)) (fun i=>k (.builtin i)) (fun a=>ro a fun a=>k (.ref a)) v
theorem nV (v:ag) (k:ag→β):sT v k=k v:=by cases v<;>simp only [sT,rz]
noncomputable def Ef (e:rc) (k:rc→β):β:=@rc.rec (fun O=>β) (fun h a b=>sT a fun a=>sT b fun b=>k ⟨h,a,b⟩) e
theorem BN (e:rc) (k:rc→β):Ef e k=k e:=by
 cases e
 simp only [Ef,nV]
noncomputable def zO (d:Data) (k:Data→β):β:=
 @Data.rec (fun O=>β) (k .plain) (fun v=>sT v fun v=>k (.prim v)) (fun a n=>zN sT a fun a=>ro n fun n=>k (.seq a n)) (fun a n=>zN Ef a fun a=>ro n fun n=>k (.dict a n)) (fun a n t=>k (.set a n t)) (fun b n=>k (.bytearray b n))
  (fun c=>BQ sT c fun c=>k (.cell c)) (fun f=>k (.func f)) (fun c=>k (.cls c)) (fun a=>zN sT a fun a=>k (.fields a)) (k .freed) d
theorem zP (d:Data) (k:Data→β):zO d k=k d:=by
 cases d<;>simp only [zO,nV,uf nV,uf BN,ug nV,rz]
noncomputable def BO (o:cA) (k:cA→β):β:=@cA.rec (fun O=>β) (fun c d dt sl=>sT c fun c=>BQ ro d fun d=>zO dt fun dt=>zN (BQ sT) sl fun sl=>k ⟨c,d,dt,sl⟩) o
theorem BP (o:cA) (k:cA→β):BO o k=k o:=by
 cases o
 simp only [BO,nV,ug rz,zP,uf (ug nV)]
noncomputable def GS (t:BT):(BT→β)→β:=@BT.rec (fun O=>(BT→β)→β) (fun k=>k .nil) (fun o O O l r k=>BO o fun o=>l fun l=>r fun r=>k (.node o l r)) t
theorem wm:∀(t:BT) (k:BT→β),GS t k=k t
 | .nil,_=>rfl
 | .node o l r,k=>by
  show BO o (fun o=>GS l fun l=>GS r fun r=>k (.node o l r))=_
  rw [BP,wm l,wm r]
noncomputable def GU (s:lF) (k:lF→β):β:=@lF.rec (fun O=>β) (fun t n l g d tk os=>GS t fun t=>ro n fun n=>ro tk fun tk=>k ⟨t,n,l,g,d,tk,os⟩) s
theorem Eh (s:lF) (k:lF→β):GU s k=k s:=by
 cases s
 simp only [GU,wm,rz]
end force
noncomputable def bt (os:List cA):Nat→Nat→Nat→BT
 | 0,_,_=>.nil
 | f+1,a,b=>match os[b]? with
  | some o=>.node o (bt os f (2*a) (a+b)) (bt os f (2*a) (2*a+b))
  | none=>.nil
noncomputable def oA:cA:={ cls:=.type "tuple",data:=.seq #[]}
noncomputable def oB:cA:={ cls:=.none,data:=.fields #[]}
noncomputable def oC:cA:={ cls:=.type "code",data:=.fields #[.str (cL "<module>") 182,.str (cL "<module>") 183,.str (cL "/claim/cut.py") 184,.int 1 0,.int 0 0,.int 0 0,.int 0 0,
    .int 0 0,.ref 11,.bool false,.int 181 0,.ref 12,.none,.none,.none,.none,.int 185 0,.int 1 0,.str (cL "/claim/cut.py") 186]}
noncomputable def oD:cA:={ cls:=.type "frame",slots:=#[some (.ref 13),some (.ref 3),some (.ref 3),none,some (.str (cL "__main__") 164),none,some (.ref 0)]}
noncomputable def CF (P:bF):List cA:=[boot_o_0 P,boot_o_1 P,boot_o_2 P,boot_o_3 P,boot_o_4 P,boot_o_5 P,boot_o_6 P,boot_o_7 P,boot_o_8 P,boot_o_9 P,boot_o_10 P,oA,oB,oC,oD]
noncomputable def G1 (w:aP) (os:d6):lF:=⟨bt (CF w.params) 5 1 0,15,{},⟨[]⟩,boot_drawn,187,os⟩
noncomputable def BM:gy:={ scope:=PQ.main.scope,locals:=mainNs,globals:=mainNs,cells:=[],code:=.ref 13,frame:=some 14}
noncomputable def mx:Code:=.body (rH PQ) BM
noncomputable def Fk (a n:Nat):List fC:=((rH PQ).drop a).take n
noncomputable def H6 (a n:Nat) (pos:dJ):Thread:=⟨(PySem.W.Fast.tw12563942051412417395 (Fk a n) BM).wrap doneF deadEnd id id,mx,pos,[topFrame ⟨0,0,0,0⟩]⟩
noncomputable def Rn (N a n:Nat) (pos:dJ) (w:aP) (s:lF):=PySem.W.Fast.tw10110043849684766642 Fl PQ w 11 (some (.ref 6)) 1 N s (H6 a n pos)
noncomputable def next (r:Option (dW×lF×Code×dJ)) (os:d6):lF:=@Option.rec _ (fun O=>lF) ⟨.nil,0,{},⟨[]⟩,boot_drawn,0,os⟩ (fun r=>GU r.2.1 id) r
end
noncomputable def g6 (i:Nat):fC:=(PQ.main.body[i]?).getD (.Pass ⟨0,0,0,0⟩)
noncomputable def sJ:fC→List fC
 | .ClassDef _ _ _ b _ _ _ _ _ _ _=>b
 | .FunctionDef _ _ b _ _ _ _ _ _ _=>b
 | .For _ _ b _ _=>b
 | .If _ b _ _=>b
 | .While _ b _ _=>b
 | _=>[]
noncomputable def Fj:fC→au
 | .For _ i _ _ _=>i
 | .While t _ _ _=>t
 | _=>.Constant .none 0 ⟨0,0,0,0⟩
noncomputable def eA (i j:Nat):fC:=((sJ (g6 i))[j]?).getD (.Pass ⟨0,0,0,0⟩)
noncomputable def zJ (l:List fC):bU:=(docOf l).getD ⟨#[]⟩
noncomputable def kM (st:fC) (t:jR):ag:=.str (zJ (sJ st)) t
noncomputable def D9 (i:Nat) (t:jR):ag:=.str (zJ (sJ (g6 i))) t
noncomputable def kO (st:fC) (qual:bU) (dV doc pm:ag) (an:Option aH) (cd:ag):cA:=match st with
 | .FunctionDef name args body _ _ _ scope _ _ _=>⟨.type "function",none,.func (fnOf name qual args body scope dV .none doc pm an cd .none),#[]⟩
 | _=>⟨.none,none,.plain,#[]⟩
noncomputable def DD:bU:=⟨#[95,95,110,97,109,101,95,95]⟩
noncomputable def eo:bU:=⟨#[108,97,119,95,109,116,48,48,48,57,95,48,49]⟩
noncomputable def zc:bU:=⟨#[95,95,100,111,99,95,95]⟩
noncomputable def vO:bU:=⟨#[95,95,112,97,99,107,97,103,101,95,95]⟩
noncomputable def xL:bU:=⟨#[95,95,108,111,97,100,101,114,95,95]⟩
noncomputable def DG:bU:=⟨#[95,95,115,112,101,99,95,95]⟩
noncomputable def qa:bU:=⟨#[95,95,97,110,110,111,116,97,116,105,111,110,115,95,95]⟩
noncomputable def tR:bU:=⟨#[95,95,98,117,105,108,116,105,110,115,95,95]⟩
noncomputable def DC:bU:=⟨#[95,95,102,105,108,101,95,95]⟩
noncomputable def bS:bU:=⟨#[47,99,108,97,105,109,47,99,117,116,46,112,121]⟩
noncomputable def xJ:bU:=⟨#[95,95,99,97,99,104,101,100,95,95]⟩
noncomputable def DH:bU:=⟨#[95,119,97,108,108]⟩
noncomputable def mu:bU:=⟨#[95,116,117,112,108,101,103,101,116,116,101,114]⟩
noncomputable def ko:bU:=⟨#[77,97,116,99,104]⟩
noncomputable def lN:bU:=⟨#[95,99,97,108,99,117,108,97,116,101,95,114,97,116,105,111]⟩
noncomputable def eM:bU:=⟨#[83,101,113,117,101,110,99,101,77,97,116,99,104,101,114]⟩
noncomputable def j9:bU:=⟨#[95,108,97,119,95,114,117,110,115]⟩
noncomputable def j8:bU:=⟨#[95,108,97,119,95,107,101,112,116]⟩
noncomputable def jw:bU:=⟨#[95,108,97,119,95,99,111,100,101,115]⟩
noncomputable def zd:bU:=⟨#[108,97,119]⟩
noncomputable def Fe:bU:=⟨#[95,95,110,101,119,95,95]⟩
noncomputable def mn:bU:=⟨#[77,97,116,99,104,46,95,95,110,101,119,95,95]⟩
noncomputable def iy:bU:=⟨#[67,114,101,97,116,101,32,110,101,119,32,105,110,115,116,97,110,99,101,32,111,102,32,77,97,116,99,104,40,97,44,32,98,44,32,115,105,122,101,41]⟩
noncomputable def bY:bU:=⟨#[99,112,121,51,49,51,46,100,105,102,102,108,105,98]⟩
noncomputable def A2:bU:=⟨#[95,109,97,107,101]⟩
noncomputable def mo:bU:=⟨#[77,97,116,99,104,46,95,109,97,107,101]⟩
noncomputable def iz:bU:=⟨#[77,97,107,101,32,97,32,110,101,119,32,77,97,116,99,104,32,111,98,106,101,99,116,32,102,114,111,109,32,97,32,115,101,113,117,101,110,99,101,32,111,114,32,105,116,101,114,97,98,108,101]⟩
noncomputable def rD:bU:=⟨#[95,95,109,111,100,117,108,101,95,95]⟩
noncomputable def jZ:bU:=⟨#[95,95,102,105,114,115,116,108,105,110,101,110,111,95,95]⟩
noncomputable def pZ:bU:=⟨#[77,97,116,99,104,40,97,44,32,98,44,32,115,105,122,101,41]⟩
noncomputable def A4:bU:=⟨#[95,95,115,108,111,116,115,95,95]⟩
noncomputable def xK:bU:=⟨#[95,102,105,101,108,100,115]⟩
noncomputable def mA:bU:=⟨#[95,102,105,101,108,100,95,100,101,102,97,117,108,116,115]⟩
noncomputable def vP:bU:=⟨#[95,114,101,112,108,97,99,101]⟩
noncomputable def tT:bU:=⟨#[95,95,114,101,112,108,97,99,101,95,95]⟩
noncomputable def DE:bU:=⟨#[95,95,114,101,112,114,95,95]⟩
noncomputable def xI:bU:=⟨#[95,97,115,100,105,99,116]⟩
noncomputable def q8:bU:=⟨#[95,95,103,101,116,110,101,119,97,114,103,115,95,95]⟩
noncomputable def q9:bU:=⟨#[95,95,109,97,116,99,104,95,97,114,103,115,95,95]⟩
noncomputable def za:bU:=⟨#[97]⟩
noncomputable def zb:bU:=⟨#[98]⟩
noncomputable def DF:bU:=⟨#[115,105,122,101]⟩
noncomputable def gS:bU:=⟨#[95,95,115,116,97,116,105,99,95,97,116,116,114,105,98,117,116,101,115,95,95]⟩
noncomputable def A0:bU:=⟨#[]⟩
noncomputable def A1:bU:=⟨#[95,95,105,110,105,116,95,95]⟩
noncomputable def gk:bU:=⟨#[83,101,113,117,101,110,99,101,77,97,116,99,104,101,114,46,95,95,105,110,105,116,95,95]⟩
noncomputable def qO:bU:=⟨#[115,101,116,95,115,101,113,115]⟩
noncomputable def fO:bU:=⟨#[83,101,113,117,101,110,99,101,77,97,116,99,104,101,114,46,115,101,116,95,115,101,113,115]⟩
noncomputable def qM:bU:=⟨#[115,101,116,95,115,101,113,49]⟩
noncomputable def fM:bU:=⟨#[83,101,113,117,101,110,99,101,77,97,116,99,104,101,114,46,115,101,116,95,115,101,113,49]⟩
noncomputable def qN:bU:=⟨#[115,101,116,95,115,101,113,50]⟩
noncomputable def fN:bU:=⟨#[83,101,113,117,101,110,99,101,77,97,116,99,104,101,114,46,115,101,116,95,115,101,113,50]⟩
noncomputable def AZ:bU:=⟨#[95,95,99,104,97,105,110,95,98]⟩
noncomputable def fI:bU:=⟨#[83,101,113,117,101,110,99,101,77,97,116,99,104,101,114,46,95,95,99,104,97,105,110,95,98]⟩
noncomputable def iJ:bU:=⟨#[102,105,110,100,95,108,111,110,103,101,115,116,95,109,97,116,99,104]⟩
noncomputable def fJ:bU:=⟨#[83,101,113,117,101,110,99,101,77,97,116,99,104,101,114,46,102,105,110,100,95,108,111,110,103,101,115,116,95,109,97,116,99,104]⟩
noncomputable def io:bU:=⟨#[103,101,116,95,109,97,116,99,104,105,110,103,95,98,108,111,99,107,115]⟩
noncomputable def fK:bU:=⟨#[83,101,113,117,101,110,99,101,77,97,116,99,104,101,114,46,103,101,116,95,109,97,116,99,104,105,110,103,95,98,108,111,99,107,115]⟩
noncomputable def mq:bU:=⟨#[103,101,116,95,111,112,99,111,100,101,115]⟩
noncomputable def fL:bU:=⟨#[83,101,113,117,101,110,99,101,77,97,116,99,104,101,114,46,103,101,116,95,111,112,99,111,100,101,115]⟩
noncomputable def iA:bU:=⟨#[95,83,101,113,117,101,110,99,101,77,97,116,99,104,101,114,95,95,99,104,97,105,110,95,98]⟩
noncomputable def jG:bU:=⟨#[103,101,116,95,103,114,111,117,112,101,100,95,111,112,99,111,100,101,115]⟩
noncomputable def A3:bU:=⟨#[114,97,116,105,111]⟩
noncomputable def qb:bU:=⟨#[113,117,105,99,107,95,114,97,116,105,111]⟩
noncomputable def kY:bU:=⟨#[114,101,97,108,95,113,117,105,99,107,95,114,97,116,105,111]⟩
noncomputable def DB:bU:=⟨#[95,95,100,105,99,116,95,95]⟩
noncomputable def vQ:bU:=⟨#[95,95,119,101,97,107,114,101,102,95,95]⟩
noncomputable def I3 (P:bF):cA:=⟨(.type "dict"),none,(.dict #[⟨aQ P DD,(.str DD 165),(.str eo 583)⟩,⟨aQ P zc,(.str zc 166),.none⟩,⟨aQ P vO,(.str vO 167),.none⟩,⟨aQ P xL,(.str xL 168),(.builtin "__main__.__loader__#opaque")⟩,⟨aQ P DG,(.str DG 169),.none⟩,⟨aQ P qa,(.str qa 170),(.ref 6)⟩,⟨aQ P tR,(.str tR 171),(.ref 4)⟩,⟨aQ P DC,(.str DC 173),(.str bS 172)⟩,⟨aQ P xJ,(.str xJ 174),.none⟩,⟨aQ P DH,(.str DH 193),(.ref 21)⟩,⟨aQ P mu,(.str mu 252),(.ref 60)⟩,⟨aQ P ko,(.str ko 380),(.ref 135)⟩,⟨aQ P lN,(.str lN 388),(.ref 145)⟩,⟨aQ P eM,(.str eM 582),(.ref 242)⟩,⟨aQ P j9,(.str j9 597),(.ref 253)⟩,⟨aQ P j8,(.str j8 603),(.ref 258)⟩,⟨aQ P jw,(.str jw 623),(.ref 265)⟩,⟨aQ P zd,(.str zd 629),(.ref 270)⟩] 18),#[]⟩
noncomputable def HG (P:bF):cA:=⟨(.type "code"),none,(.fields #[(.str Fe 274),(.str mn 275),(.str bS 276),(.int (29) 0),(.int (4) 0),(.int (0) 0),(.int (0) 0),(.int (3) 0),(.ref 76),(.bool true),(.int (181) 0),(.ref 77),.none,(.ref 78),(.ref 79),(.ref 80),(.int (281) 0),(.int (29) 0),(.str bS 282)]),#[]⟩
noncomputable def HH (P:bF):cA:=kO (eA 3 4) mn .none (.str iy 283) (.str bY 194) none (.ref 81)
noncomputable def HI (P:bF):cA:=⟨(.type "code"),none,(.fields #[(.str A2 285),(.str mo 286),(.str bS 287),(.int (33) 0),(.int (2) 0),(.int (0) 0),(.int (0) 0),(.int (3) 0),(.ref 83),(.bool true),(.int (181) 0),(.ref 84),.none,(.ref 85),(.ref 86),(.ref 87),(.int (291) 0),(.int (33) 0),(.str bS 292)]),#[]⟩
noncomputable def HJ (P:bF):cA:=kO (eA 3 5) mo .none (.str iz 293) (.str bY 194) (some 92) (.ref 88)
noncomputable def HL (P:bF):cA:=⟨(.type "classmethod"),(some 90),(.fields #[(.ref 89),(.bool false)]),#[]⟩
noncomputable def FK (P:bF):cA:=⟨(.type "dict"),none,(.dict #[⟨aQ P rD,(.str rD 260),(.str bY 194)⟩,⟨aQ P jZ,(.str jZ 264),(.int (23) 263)⟩,⟨aQ P zc,(.str zc 266),(.str pZ 265)⟩,⟨aQ P A4,(.str A4 268),(.ref 73)⟩,⟨aQ P xK,(.str xK 272),(.ref 74)⟩,⟨aQ P mA,(.str mA 273),(.ref 75)⟩,⟨aQ P Fe,(.str Fe 284),(.ref 136)⟩,⟨aQ P A2,(.str A2 306),(.ref 91)⟩,⟨aQ P vP,(.str vP 317),(.ref 100)⟩,⟨aQ P tT,(.str tT 318),(.ref 100)⟩,⟨aQ P DE,(.str DE 326),(.ref 107)⟩,⟨aQ P xI,(.str xI 333),(.ref 114)⟩,⟨aQ P q8,(.str q8 341),(.ref 121)⟩,⟨aQ P q9,(.str q9 345),(.ref 122)⟩,⟨aQ P za,(.str za 355),(.ref 124)⟩,⟨aQ P zb,(.str zb 365),(.ref 127)⟩,⟨aQ P DF,(.str DF 375),(.ref 130)⟩,⟨aQ P gS,(.str gS 376),(.ref 132)⟩] 2),#[]⟩
noncomputable def FL (P:bF):cA:=⟨.type "type",none,.cls { name:=ko,bases:=[(.type "tuple")],mro:=[(.ref 135),(.type "tuple"),(.type "object")],ns:=134,qualname:=ko,hasDict:=false},#[(some (.ref 65)),none,(some (.str ko 253)),(some (.str ko 261)),(some .none),(some (.bool false))]⟩
noncomputable def FM (P:bF):cA:=⟨(.type "staticmethod"),none,(.fields #[(.ref 82)]),#[]⟩
noncomputable def Dr (P:bF):cA:=⟨(.type "tuple"),none,(.seq #[.none,(.str A0 404),(.str A0 405),(.bool true)] 0),#[]⟩
noncomputable def FN (P:bF):cA:=⟨(.type "code"),none,(.fields #[(.str A1 406),(.str gk 407),(.str bS 408),(.int (145) 0),(.int (5) 0),(.int (0) 0),(.int (0) 0),(.int (3) 0),(.ref 154),(.bool true),(.int (181) 0),(.ref 155),.none,(.ref 156),(.ref 157),(.ref 158),(.int (414) 0),(.int (145) 0),(.str bS 415)]),#[]⟩
noncomputable def FO (P:bF):cA:=kO (eA 5 1) gk (.ref 153) (kM (eA 5 1) 416) (.str bY 194) none (.ref 159)
noncomputable def FP (P:bF):cA:=⟨(.type "code"),none,(.fields #[(.str qO 418),(.str fO 419),(.str bS 420),(.int (173) 0),(.int (3) 0),(.int (0) 0),(.int (0) 0),(.int (3) 0),(.ref 161),(.bool true),(.int (181) 0),(.ref 162),.none,(.ref 163),(.ref 164),(.ref 165),(.int (424) 0),(.int (173) 0),(.str bS 425)]),#[]⟩
noncomputable def FQ (P:bF):cA:=kO (eA 5 2) fO .none (kM (eA 5 2) 426) (.str bY 194) none (.ref 166)
noncomputable def FR (P:bF):cA:=⟨(.type "code"),none,(.fields #[(.str qM 428),(.str fM 429),(.str bS 430),(.int (184) 0),(.int (2) 0),(.int (0) 0),(.int (0) 0),(.int (3) 0),(.ref 168),(.bool true),(.int (181) 0),(.ref 169),.none,(.ref 170),(.ref 171),(.ref 172),(.int (433) 0),(.int (184) 0),(.str bS 434)]),#[]⟩
noncomputable def FS (P:bF):cA:=kO (eA 5 3) fM .none (kM (eA 5 3) 435) (.str bY 194) none (.ref 173)
noncomputable def FT (P:bF):cA:=⟨(.type "code"),none,(.fields #[(.str qN 437),(.str fN 438),(.str bS 439),(.int (209) 0),(.int (2) 0),(.int (0) 0),(.int (0) 0),(.int (3) 0),(.ref 175),(.bool true),(.int (181) 0),(.ref 176),.none,(.ref 177),(.ref 178),(.ref 179),(.int (442) 0),(.int (209) 0),(.str bS 443)]),#[]⟩
noncomputable def FU (P:bF):cA:=kO (eA 5 4) fN .none (kM (eA 5 4) 444) (.str bY 194) none (.ref 180)
noncomputable def FV (P:bF):cA:=⟨(.type "code"),none,(.fields #[(.str AZ 446),(.str fI 447),(.str bS 448),(.int (236) 0),(.int (1) 0),(.int (0) 0),(.int (0) 0),(.int (3) 0),(.ref 182),(.bool true),(.int (181) 0),(.ref 183),.none,(.ref 184),(.ref 185),(.ref 186),(.int (461) 0),(.int (236) 0),(.str bS 462)]),#[]⟩
noncomputable def FW (P:bF):cA:=kO (eA 5 5) fI .none .none (.str bY 194) none (.ref 187)
noncomputable def Ds (P:bF):cA:=⟨(.type "tuple"),none,(.seq #[(.int (0) 464),.none,(.int (0) 465),.none] 0),#[]⟩
noncomputable def FX (P:bF):cA:=⟨(.type "code"),none,(.fields #[(.str iJ 466),(.str fJ 467),(.str bS 468),(.int (260) 0),(.int (5) 0),(.int (0) 0),(.int (0) 0),(.int (3) 0),(.ref 190),(.bool true),(.int (181) 0),(.ref 191),.none,(.ref 192),(.ref 193),(.ref 194),(.int (488) 0),(.int (260) 0),(.str bS 489)]),#[]⟩
noncomputable def FY (P:bF):cA:=kO (eA 5 6) fJ (.ref 189) (kM (eA 5 6) 490) (.str bY 194) none (.ref 195)
noncomputable def FZ (P:bF):cA:=⟨(.type "code"),none,(.fields #[(.str io 492),(.str fK 493),(.str bS 494),(.int (335) 0),(.int (1) 0),(.int (0) 0),(.int (0) 0),(.int (3) 0),(.ref 197),(.bool true),(.int (181) 0),(.ref 198),.none,(.ref 199),(.ref 200),(.ref 201),(.int (515) 0),(.int (335) 0),(.str bS 516)]),#[]⟩
noncomputable def F1 (P:bF):cA:=kO (eA 5 7) fK .none (kM (eA 5 7) 517) (.str bY 194) none (.ref 202)
noncomputable def F2 (P:bF):cA:=⟨(.type "code"),none,(.fields #[(.str mq 519),(.str fL 520),(.str bS 521),(.int (383) 0),(.int (1) 0),(.int (0) 0),(.int (0) 0),(.int (3) 0),(.ref 204),(.bool true),(.int (181) 0),(.ref 205),.none,(.ref 206),(.ref 207),(.ref 208),(.int (530) 0),(.int (383) 0),(.str bS 531)]),#[]⟩
noncomputable def F3 (P:bF):cA:=kO (eA 5 8) fL .none (kM (eA 5 8) 532) (.str bY 194) none (.ref 209)
noncomputable def F5 (P:bF):cA:=⟨(.type "dict"),none,(.dict #[⟨aQ P rD,(.str rD 396),(.str bY 194)⟩,⟨aQ P jZ,(.str jZ 400),(.int (70) 399)⟩,⟨aQ P zc,(.str zc 402),(D9 5 401)⟩,⟨aQ P A1,(.str A1 417),(.ref 160)⟩,⟨aQ P qO,(.str qO 427),(.ref 167)⟩,⟨aQ P qM,(.str qM 436),(.ref 174)⟩,⟨aQ P qN,(.str qN 445),(.ref 181)⟩,⟨aQ P iA,(.str iA 463),(.ref 188)⟩,⟨aQ P iJ,(.str iJ 491),(.ref 196)⟩,⟨aQ P io,(.str io 518),(.ref 203)⟩,⟨aQ P mq,(.str mq 533),(.ref 210)⟩,⟨aQ P jG,(.str jG 542),(.ref 218)⟩,⟨aQ P A3,(.str A3 551),(.ref 225)⟩,⟨aQ P qb,(.str qb 558),(.ref 232)⟩,⟨aQ P kY,(.str kY 565),(.ref 239)⟩,⟨aQ P gS,(.str gS 576),(.ref 240)⟩,⟨aQ P DB,(.str DB 578),(.ref 243)⟩,⟨aQ P vQ,(.str vQ 580),(.ref 244)⟩] 3),#[]⟩
noncomputable def F6 (P:bF):cA:=⟨.type "type",none,.cls { name:=eM,bases:=[(.type "object")],mro:=[(.ref 242),(.type "object")],ns:=241,qualname:=eM,hasDict:=true},#[none,none,(some (.str eM 389)),(some (.str eM 397)),(some (.builtin "object.__new__")),(some (.bool true))]⟩
noncomputable def F7 (P:bF):cA:=⟨(.type "code"),none,(.fields #[(.str j9 585),(.str j9 586),(.str bS 587),(.int (463) 0),(.int (3) 0),(.int (0) 0),(.int (0) 0),(.int (3) 0),(.ref 247),(.bool true),(.int (181) 0),(.ref 248),.none,(.ref 249),(.ref 250),(.ref 251),(.int (595) 0),(.int (463) 0),(.str bS 596)]),#[]⟩
noncomputable def F8 (P:bF):cA:=kO (g6 7) j9 .none .none (.str eo 583) none (.ref 252)
noncomputable def F9 (P:bF):cA:=⟨(.type "code"),none,(.fields #[(.str j8 598),(.str j8 599),(.str bS 600),(.int (474) 0),(.int (3) 0),(.int (0) 0),(.int (0) 0),(.int (3) 0),(.ref 254),(.bool true),(.int (181) 0),(.ref 255),.none,.none,.none,(.ref 256),(.int (601) 0),(.int (474) 0),(.str bS 602)]),#[]⟩
noncomputable def Ga (P:bF):cA:=kO (g6 8) j8 .none .none (.str eo 583) none (.ref 257)
noncomputable def Gb (P:bF):cA:=⟨(.type "code"),none,(.fields #[(.str jw 604),(.str jw 605),(.str bS 606),(.int (491) 0),(.int (3) 0),(.int (0) 0),(.int (0) 0),(.int (3) 0),(.ref 259),(.bool true),(.int (181) 0),(.ref 260),.none,(.ref 261),(.ref 262),(.ref 263),(.int (621) 0),(.int (491) 0),(.str bS 622)]),#[]⟩
noncomputable def Gc (P:bF):cA:=kO (g6 9) jw .none .none (.str eo 583) none (.ref 264)
noncomputable def Gd (P:bF):cA:=⟨(.type "code"),none,(.fields #[(.str zd 624),(.str zd 625),(.str bS 626),(.int (504) 0),(.int (1) 0),(.int (0) 0),(.int (0) 0),(.int (3) 0),(.ref 266),(.bool true),(.int (181) 0),(.ref 267),.none,.none,.none,(.ref 268),(.int (627) 0),(.int (504) 0),(.str bS 628)]),#[]⟩
noncomputable def Dt (P:bF):cA:=kO (g6 10) zd .none .none (.str eo 583) none (.ref 269)
noncomputable def I2 (P:bF):cA:=boot_o_2 P
noncomputable def KF (P:bF):Frag:=[(2,I2 P),(3,I3 P),(81,HG P),(82,HH P),(88,HI P),(89,HJ P),(91,HL P),(134,FK P),(135,FL P),(136,FM P),(153,Dr P),(159,FN P),(160,FO P),(166,FP P),(167,FQ P),(173,FR P),(174,FS P),(180,FT P),(181,FU P),(187,FV P),(188,FW P),(189,Ds P),(195,FX P),(196,FY P),(202,FZ P),(203,F1 P),(209,F2 P),(210,F3 P),(241,F5 P),(242,F6 P),(252,F7 P),(253,F8 P),(257,F9 P),(258,Ga P),(264,Gb P),(265,Gc P),(269,Gd P),(270,Dt P)]
noncomputable def KA:List aH:=[2,3,81,82,88,89,91,134,135,136,153,159,160,166,167,173,174,180,181,187,188,189,195,196,202,203,209,210,241,242,252,253,257,258,264,265,269,270]
noncomputable def l8:List bU:=[mu,ko,eM]
noncomputable def qv:aV:={ PQ with main:={ PQ.main with body:=[g6 0,g6 2,g6 3,g6 4,g6 5,g6 7,g6 8,g6 9,g6 10]}}
noncomputable abbrev HK:Hook:=kHook KF KA (fun O=>rfl)
noncomputable abbrev GP:am→Bool:=fun s=>xlAt qv [] s && recOk [] s
noncomputable abbrev p0:dJ:=⟨0,0,0,0⟩
noncomputable abbrev Fh:Option ag:=some (.ref 6)
noncomputable def S0 (w:aP) (os:d6):am:=⟨pB w.params,⟨[]⟩,boot_drawn,boot_toks,os⟩
theorem CG (w:aP) (os:d6):PySem.W.Fast.tw15667345088766844465 Fl PQ w 11 Fh 12 (S0 w os) (topStub PQ)=some ((G1 w os).abs,⟨PySem.W.Fast.tw11892475500146522536 Fl mx,mx,p0,[topFrame p0]⟩):=by kernel_rfl!
theorem xT (w:aP) (os:d6):PySem.W.Fast.tw14374325043358763698 Fl PQ w 11 Fh 1 1 (G1 w os).abs (blockOf (rH PQ) BM mx p0 [topFrame p0])=some (.next,(G1 w os).abs,mx,p0):=by kernel_rfl!
theorem BV (tb:String→Option cc) (p:aV) (w:aP) (s:am) (c:Code) (pos:dJ):topRun tb p w 11 Fh 2 s ⟨doneF .next,c,pos,[topFrame p0]⟩=some s:=by kernel_rfl!
noncomputable def r1 (w:aP) (os:d6):=Rn 500 0 3 p0 w (G1 w os)
noncomputable def s1 (w:aP) (os:d6):=next (r1 w os) os
noncomputable def r2 (w:aP) (os:d6):=Rn 1100 3 1 ⟨5,0,22,54⟩ w (s1 w os)
noncomputable def s2 (w:aP) (os:d6):=next (r2 w os) os
noncomputable def r3 (w:aP) (os:d6):=Rn 800 4 2 ⟨23,0,65,54⟩ w (s2 w os)
noncomputable def s3 (w:aP) (os:d6):=next (r3 w os) os
noncomputable def r4 (w:aP) (os:d6):=Rn 300 6 5 ⟨70,0,461,16⟩ w (s3 w os)
noncomputable def s4 (w:aP) (os:d6):=next (r4 w os) os
noncomputable abbrev obs (r:Option (dW×lF×Code×dJ)):=r.map fun r=>(r.1,r.2.2.1,r.2.2.2)
theorem HU (w:aP) (os:d6):obs (r1 w os)=some (.next,mx,⟨5,0,22,54⟩):=by kernel_rfl!
theorem HV (w:aP) (os:d6):obs (r2 w os)=some (.next,mx,⟨23,0,65,54⟩):=by kernel_rfl!
theorem HW (w:aP) (os:d6):obs (r3 w os)=some (.next,mx,⟨70,0,461,16⟩):=by kernel_rfl!
theorem HX (w:aP) (os:d6):obs (r4 w os)=some (.next,mx,⟨504,0,526,15⟩):=by kernel_rfl!
theorem Cu {r:Option (dW×lF×Code×dJ)} {os:d6} {f:dW} {c:Code} {p:dJ} (h:obs r=some (f,c,p)):r=some (f,next r os,c,p):=by
 cases r with
 | none=>cases h
 | some x=>
  obtain ⟨a,b,c',d⟩:=x
  simp only [obs,Option.map_some,jQ,dU] at h
  obtain ⟨rfl,rfl,rfl⟩:=h
  show some (a,b,c',d)=some (a,GU b id,c',d)
  rw [Eh];rfl
theorem xt {N a n:Nat} {pos pos':dJ} {w:aP} {s:lF} {os:d6} (h:obs (Rn N a n pos w s)=some (.next,mx,pos')) :
  segRun oG PQ w 11 Fh 1 N s.abs (piecesOf (Fk a n) BM mx pos [topFrame p0])=some (.next,(next (Rn N a n pos w s) os).abs,mx,pos'):=by
 refine segRun_of ?_
 have h':=Cu (os:=os) h
 unfold Rn H6 at h'
 delta Rn H6 piecesOf
 rw [PySem.W.Fast.te10110043849684766642,PySem.W.Fast.te12563942051412417395,uv]
 exact h'
theorem Bt:rH PQ=Fk 0 3++(Fk 3 1++(Fk 4 2++(Fk 6 5++[]))):=by kernel_rfl!
theorem CL (w:aP) (os:d6):topRun oG PQ w 11 Fh (12+(1+(500+(1100+(800+(300+2)))))) (S0 w os) (topStub PQ)=some (s4 w os).abs:=by
 refine go_top (by rw [PySem.W.Fast.te15667345088766844465,uv];exact CG w os) ?_
 rw [←PySem.W.Fast.te11892475500146522536,←uv]
 refine piece_block (by rw [PySem.W.Fast.te14374325043358763698,uv];exact xT w os) ?_
 rw [Bt]
 refine piece_app (xt (os:=os) (HU w os)) ?_
 refine piece_app (xt (os:=os) (HV w os)) ?_
 refine piece_app (xt (os:=os) (HW w os)) ?_
 refine piece_app (xt (os:=os) (HX w os)) ?_
 exact BV _ _ _ _ _ _
noncomputable abbrev Sub (g h:ay):Prop:=∀b o,g.get? b=some o→h.get? b=some o
theorem Sub.trans {a b c:ay} (x:Sub a b) (y:Sub b c):Sub a c:=fun p o e=>y p o (x p o e)
structure Cx (w:aP) (h:ay):Prop where
 K:(KF w.params).In h
 T:g8 fun mg mb=>TopRead qv (looseW qv l8) mg mb h
theorem Cx.sub {w:aP} {g h:ay} (C:Cx w g) (hs:Sub g h):Cx w h:=⟨C.K.keeps hs,let ⟨a,b,T⟩:=C.T;⟨a,b,T.keeps hs⟩⟩
noncomputable def bC (h:ay) (D:List aH):ay:=bp h (D++(bO h.objs.size).filter fun a=>match h.get? a with|some o=>!cz o|none=>false)
theorem cH {h:ay} {D:List aH} {b:aH} {o:cA} (e:h.get? b=some o) (n:b∉D) (p:cz o=true):(bC h D).get? b=some o:=by
 refine bq _ e fun q=>?_
 rcases bw.mp q with q|q
 ·exact n q
 ·have:=(iC.mp q).2
  simp only [e,p] at this
  cases this
theorem cZ {h:ay} {D:List aH} {b:aH} {o:cA} (e:(bC h D).get? b=some o):h.get? b=some o∧b∉D∧cz o=true:=by
 have h1:=fE _ e
 have h2:b∉D++(bO h.objs.size).filter fun a=>match h.get? a with|some o=>!cz o|none=>false:=fun q=>by
  unfold bC at e
  exact nn (cQ _ q) e
 refine ⟨h1,fun q=>h2 (iZ _ q),?_⟩
 cases q:cz o with
 | true=>rfl
 | false=>exact absurd (List.mem_append_right _ (iC.mpr ⟨fy.mpr (cK h1),by simp only [h1,q];rfl⟩)) h2
theorem cD (h:ay) (D:List aH):Sub (bC h D) h:=fun b o e=>(cZ e).1
theorem cM {h h':ay} {D D':List aH} (hs:∀b o,h.get? b=some o→b∉D→cz o=true→h'.get? b=some o∧b∉D'):Sub (bC h D) (bC h' D'):=fun b o e=>by
 obtain ⟨a1,a2,a3⟩:=cZ e
 exact cH (hs b o a1 a2 a3).1 (hs b o a1 a2 a3).2 a3
theorem z8 (P:bF):(KF P).all (fun p=>cz p.2)=true:=by kernel_rfl!
theorem vh {K:Frag} {a:aH} {o:cA} (e:K.lookup a=some o):(a,o)∈K:=em e
structure Lp (g₀:ay) (D:List aH) (e:gy) (h:ay) (m:List (bU×ag)) (c:List (aH×cA)):Prop where
 sub:Sub g₀ (bC h D)
 st:St (bp h D) e h m c
section
variable {g₀ g h h':ay} {D:List aH} {e:gy} {m m':List (bU×ag)} {c c':List (aH×cA)}
theorem bP (hs:Sub (bp h D) h'):Sub (bC h D) (bC h' D):=cM fun b o q n O=>⟨hs b o (bq D q n),n⟩
theorem St.inF (S:St (bp h D) e h m c):∀a∈FA e,a∈D:=fun a ha=>mM fun n=>by
 obtain ⟨o,ho⟩:=S.lie a ha
 have:=bq D ho n
 exact nn (S.off a ha) this
theorem St.inC (S:St (bp h D) e h m c):∀p∈c,p.1∈D:=fun p hp=>mM fun n=>by
 have:=bq D (S.own p hp).1 n
 exact nn ((S.own p hp).2.2) this
theorem Lp.start (S:St g e h m c) (D:List aH) (hF:∀a∈FA e,a∈D) (hc:∀p∈c,p.1∈D) (hv:Sub g₀ (bC h D)):Lp g₀ D e h m c:=⟨hv,S.rebase D hF hc⟩
theorem Lp.next (L:Lp g₀ D e h m c) (S:St (bp h D) e h' m' c') (hc:∀p∈c',p.1∈D):Lp g₀ D e h' m' c':=
 ⟨L.sub.trans (bP S.keep),S.rebase D L.st.inF hc⟩
theorem iX {B:aH→Prop} (hk:∀b o,h.get? b=some o→cz o=true∨b∈D∨B b→h'.get? b=some o):Sub (bC h D) (bC h' D):=cM fun b o q n p=>⟨hk b o q (.inl p),n⟩
theorem ba.stab {B:aH→Prop} {hb:ay} (k:ba D hb h) (hk:∀b o,h.get? b=some o→cz o=true∨b∈D∨B b→h'.get? b=some o) (hB:∀b o,hb.get? b=some o→b∉D→B b):ba D hb h':=
 fun b o q n=>hk b o (k b o q n) (.inr (.inr (hB b o q n)))
theorem Lp.stab {B:aH→Prop} (L:Lp g₀ D e h m c) (hk:∀b o,h.get? b=some o→cz o=true∨b∈D∨B b→h'.get? b=some o):Lp g₀ D e h' m c where
 sub:=L.sub.trans (iX hk)
 st:=by
  have S:=L.st
  exact { S with
   ns:=by obtain ⟨ml,a,b⟩:=S.ns;exact ⟨ml,a.at' fun o q=>hk _ o q (.inr (.inl (S.inF _ FA.loc))),b⟩
   cl:=fun x a ha=>by obtain ⟨v,⟨o,p,r⟩,q⟩:=S.cl x a ha;exact ⟨v,⟨o,hk _ _ p (.inr (.inl (S.inF _ (FA.cell ha)))),r⟩,q⟩
   keep:=fun O O q=>fE D q
   off:=fun a ha=>cQ D (S.inF a ha)
   lie:=fun a ha=>by obtain ⟨o,q⟩:=S.lie a ha;exact ⟨o,hk _ _ q (.inr (.inl (S.inF a ha)))⟩
   own:=fun p hp=>⟨hk _ _ (S.own p hp).1 (.inr (.inl (S.inC p hp))),(S.own p hp).2.1,cQ D (S.inC p hp)⟩}
theorem Lp.forget (L:Lp g₀ D e h m c) (hs:∀p∈m',iF m p.1=some p.2):Lp g₀ D e h m' c:=⟨L.sub,L.st.names hs⟩
theorem Lp.grow (L:Lp g₀ D e h m c) (k:ba [] h h'):Lp g₀ D e h' m c:=L.next (L.st.grow k) L.st.inC
theorem Lp.here (L:Lp g₀ D e h m c):Sub g₀ h:=L.sub.trans (cD h D)
end
theorem Cx.still {w:aP} {h:ay} {D:List aH} (C:Cx w (bp h D)):Cx w (bC h D):=by
 have hd:∀b o,(bp h D).get? b=some o→h.get? b=some o∧b∉D:=fun b o q=>⟨fE D q,fun z=>by exact nn (cQ D z) q⟩
 have hns:∀{a:aH} {m:bU→Option ag},(bp h D).Ns a m→(bC h D).Ns a m:=fun {a m} x=>by
  obtain ⟨o,es,ep,ho,hd',r⟩:=x
  exact ⟨o,es,ep,cH (hd _ _ ho).1 (hd _ _ ho).2 (by unfold cz;rw [hd']),hd',r⟩
 refine ⟨fun a o q=>?_,?_⟩
 ·have:=hd _ _ (C.K a o q)
  exact cH this.1 this.2 (oP.mp (z8 w.params) _ (vh q))
 ·obtain ⟨mg,mb,T⟩:=C.T
  obtain ⟨mc,n1,n2⟩:=T.nolimit
  exact ⟨mg,mb,hns T.g,hns T.b,⟨mc,hns n1,n2⟩,T.builtins,T.free⟩
noncomputable def Eg (prog:aV) (w:aP) (A:aS) (e:gy) (h:ay) (ex:au) (P:ag→ay→Prop):Prop:=
 ∀(s:am) (Q:ag→am→Prop) (E:ag→am→Prop),s.heap=h→(∀v h' tk,ba [] h h'→P v h'→Q v (sh s h' tk))→aF (aB prog w) A (cO ex e) Q E s
noncomputable def Es (prog:aV) (w:aP) (A:aS) (e:gy) (h:ay) (exs:List au) (P:List ag→ay→Prop):Prop:=
 ∀(pos:dJ) (s:am) (Q:List ag→am→Prop) (E:ag→am→Prop),s.heap=h→(∀v h' tk,ba [] h h'→P v h'→Q v (sh s h' tk))→aF (aB prog w) A (spliced (gK pos (aE exs e))) Q E s
noncomputable def Cg (prog:aV) (w:aP) (A:aS) (h:ay) (f:ag) (args:List ag) (P:ag→ay→Prop):Prop:=
 ∀(s:am) (Q:ag→am→Prop) (E:ag→am→Prop),s.heap=h→(∀v h' tk,ba [] h h'→P v h'→Q v (sh s h' tk))→aF (aB prog w) A (sP f args) Q E s
section
variable {prog:aV} {w:aP} {A:aS} {e:gy} {h g:ay} {m:List (bU×ag)} {c:List (aH×cA)}
theorem Ev.gg {ex:au} {P:ag→Prop} (H:Ev prog w A e h ex P):Eg prog w A e h ex (fun v h'=>h'=h∧P v):=fun s Q E hs k=>H s Q E hs fun v tk hv=>by
 have:=k v h tk (.refl _ _) ⟨rfl,hv⟩
 rw [←hs] at this;exact this
theorem Eg.mono {ex:au} {P P':ag→ay→Prop} (H:Eg prog w A e h ex P) (hp:∀v h',ba [] h h'→P v h'→P' v h'):Eg prog w A e h ex P':=fun s Q E hs k=>H s Q E hs fun v h' tk q r=>k v h' tk q (hp v h' q r)
theorem Es.nil:Es prog w A e h [] (fun vs h'=>h'=h∧vs=[]):=fun pos s Q E hs k=>spliced_none (by
 have:=k [] h s.toks (.refl _ _) ⟨rfl,rfl⟩
 rw [←hs] at this;exact this)
theorem Es.cons {ex:au} {rest:List au} {P:ag→ay→Prop} {P':List ag→ay→Prop} (H:Eg prog w A e h ex P) (R:∀v h1,ba [] h h1→P v h1→Es prog w A e h1 rest (fun vs h2=>P' (v::vs) h2))
  (he:autoParam (aE (ex::rest) e=(false,cO ex e)::aE rest e) rfA):Es prog w A e h (ex::rest) P':=fun pos s Q E hs k=>
 spliced_more (H s _ _ hs fun v h1 tk k1 hv=>R v h1 k1 hv pos (sh s h1 tk) _ _ rfl fun vs h2 tk2 k2 hvs=>k _ h2 tk2 (k1.trans k2) hvs) he
theorem Es.one {ex:au} {P:ag→ay→Prop} (H:Eg prog w A e h ex P) (he:autoParam (aE [ex] e=(false,cO ex e)::aE [] e) rfA):Es prog w A e h [ex] (fun vs h'=>∃v,vs=[v]∧P v h'):=
 Es.cons H (fun v h1 O hv=>fun pos s Q E hs k=>Es.nil pos s Q E hs fun vs h2 tk k2 hq=>k vs h2 tk k2 ⟨v,by rw [hq.2],hq.1▸hv⟩) he
theorem Es.more {ex:au} {rest:List au} {P:ag→Prop} {P':List ag→Prop} (H:Ev prog w A e h ex P) (R:Es prog w A e h rest (fun vs h'=>h'=h∧P' vs))
  (he:autoParam (aE (ex::rest) e=(false,cO ex e)::aE rest e) rfA):Es prog w A e h (ex::rest) (fun vs h'=>h'=h∧g8 fun v vs'=>jn (vs=v::vs') (P v) (P' vs')):=
 Es.cons (Ev.gg H) (fun v h1 O hv=>by
  obtain ⟨rfl,hv⟩:=hv
  exact fun pos s Q E hs k=>R pos s Q E hs fun vs h2 tk k2 hq=>k vs h2 tk k2 ⟨hq.1,v,vs,rfl,hv,hq.2⟩) he
theorem Es.mono {exs:List au} {P P':List ag→ay→Prop} (H:Es prog w A e h exs P) (hp:∀v h',ba [] h h'→P v h'→P' v h'):Es prog w A e h exs P':=fun pos s Q E hs k=>H pos s Q E hs fun v h' tk q r=>k v h' tk q (hp v h' q r)
theorem Eg.tuple {elts:List au} {k:Nat} {pos:dJ} {P:List ag→ay→Prop} (H:Es prog w A e h elts P) (hl:∀vs h',P vs h'→vs.length≤fc) :
  Eg prog w A e h (.Tuple elts k pos) (fun v h'=>g8 fun vs h1=>lO (ba [] h h1) (P vs h1) (v=.ref h1.objs.size) (h'=h1.push { cls:=.type "tuple",data:=.seq vs.toArray})):=fun s Q E hs kk=>
 wpAny_Tuple (H pos s _ _ hs fun vs h1 tk k1 hv=>⟨hl vs h1 hv,kk _ _ tk (k1.trans (.push _ _ _)) ⟨vs,h1,k1,hv,rfl,rfl⟩⟩)
theorem Eg.list {elts:List au} {pos:dJ} {P:List ag→ay→Prop} (H:Es prog w A e h elts P) (hl:∀vs h',P vs h'→vs.length≤fc) :
  Eg prog w A e h (.List elts pos) (fun v h'=>g8 fun vs h1=>lO (ba [] h h1) (P vs h1) (v=.ref h1.objs.size) (h'=h1.push { cls:=.type "list",data:=.seq vs.toArray})):=fun s Q E hs kk=>
 wpAny_List (H pos s _ _ hs fun vs h1 tk k1 hv=>⟨hl vs h1 hv,kk _ _ tk (k1.trans (.push _ _ _)) ⟨vs,h1,k1,hv,rfl,rfl⟩⟩)
theorem Ev.glob {x:bU} {pos:dJ} {v:ag} (C:Cx w h) (hn:∀P,nsIn (KF P) cu x=some (some v)) (hk:autoParam (e.scope.kind=.function) rfA) (hx:autoParam (e.kindOf x=some .globalImplicit) rfA)
  (hg:autoParam (e.globals=cu) rfA) (hd:autoParam ((x==("__debug__" : bU))=false) rfD):Ev prog w A e h (.Name x pos) (· = v):=fun s Q E hs k=>by
 subst hs
 obtain ⟨mg,mb,T⟩:=C.T
 exact Calls.Name_function_global hk hx (Calls.loadGlobal_global (mg:=mg) (hg▸T.g) (mg_of C.K T.g (hn _)) (k v s.toks rfl)) hd
theorem Ev.bltn {x:bU} {pos:dJ} {v:ag} (C:Cx w h) (hn:∀P,nsIn (KF P) cu x=some none) (hv:fD x=some v) (hne:x≠ "__name__") (hk:autoParam (e.scope.kind=.function) rfA) (hx:autoParam (e.kindOf x=some .globalImplicit) rfA)
  (hg:autoParam (e.globals=cu) rfA) (hb:autoParam (e.builtins=ej) rfA) (hd:autoParam ((x==("__debug__" : bU))=false) rfD):Ev prog w A e h (.Name x pos) (· = v):=fun s Q E hs k=>by
 subst hs
 obtain ⟨mg,mb,T⟩:=C.T
 exact Calls.Name_function_global hk hx (Calls.loadGlobal_builtin (mg:=mg) (mb:=mb) (hg▸T.g) (mg_none_of C.K T.g (hn _)) (hb▸T.b) ((T.builtins x hne).trans hv) (k v s.toks rfl)) hd
theorem Eg.callB {x:bU} {p pos:dJ} {id:String} {ex:au} {rest:List au} {P:List ag→ay→Prop} {R:ag→ay→Prop} (N:Ev prog w A e h (.Name x p) (· = .builtin id)) (H:Es prog w A e h (ex::rest) P)
  (K:∀vs h1,ba [] h h1→P vs h1→Cg prog w A h1 (.builtin id) vs R) (he:autoParam (aE (ex::rest) e=(false,cO ex e)::aE rest e) rfA) (hp:autoParam ((gK pos (aE rest e)).any (·.1)=false) rfA) :
  Eg prog w A e h (.Call (.Name x p) (ex::rest) [] pos) R:=fun s Q E hs k=>eL (N s _ _ hs fun v tk hv=>by
 subst hv
 exact callWith_builtin1 (H pos _ _ _ hs fun vs h1 tk1 k1 hvs=>K vs h1 k1 hvs _ _ _ rfl fun v h2 tk2 k2 hr=>k v h2 tk2 (k1.trans k2) hr) he hp)
theorem Eg.callT {x:bU} {p pos:dJ} {id:String} {ex:au} {rest:List au} {P:List ag→ay→Prop} {R:ag→ay→Prop} (N:Ev prog w A e h (.Name x p) (· = .type id)) (H:Es prog w A e h (ex::rest) P)
  (K:∀vs h1,ba [] h h1→P vs h1→Cg prog w A h1 (.type id) vs R) (he:autoParam (aE (ex::rest) e=(false,cO ex e)::aE rest e) rfA) (hp:autoParam ((gK pos (aE rest e)).any (·.1)=false) rfA) :
  Eg prog w A e h (.Call (.Name x p) (ex::rest) [] pos) R:=fun s Q E hs k=>eL (N s _ _ hs fun v tk hv=>by
 subst hv
 exact PyProof.Rows.callWith_type1 (H pos _ _ _ hs fun vs h1 tk1 k1 hvs=>K vs h1 k1 hvs _ _ _ rfl fun v h2 tk2 k2 hr=>k v h2 tk2 (k1.trans k2) hr) he hp)
theorem Eg.callF {x:bU} {p pos:dJ} {f:aH} {o:cA} {fd:dP} {ex:au} {rest:List au} {P:List ag→ay→Prop} {R:ag→ay→Prop} (N:Ev prog w A e h (.Name x p) (· = .ref f)) (ho:h.get? f=some o) (hd:o.data=.func fd) (H:Es prog w A e h (ex::rest) P)
  (K:∀vs h1,ba [] h h1→P vs h1→Cg prog w A h1 (.ref f) vs R) (he:autoParam (aE (ex::rest) e=(false,cO ex e)::aE rest e) rfA) :
  Eg prog w A e h (.Call (.Name x p) (ex::rest) [] pos) R:=fun s Q E hs k=>eL (N s _ _ hs fun v tk hv=>by
 subst hv
 exact callWith_def hd (H pos _ _ _ hs fun vs h1 tk1 k1 hvs=>⟨k1.get ho,K vs h1 k1 hvs _ _ _ rfl fun v h2 tk2 k2 hr=>k v h2 tk2 (k1.trans k2) hr⟩) he)
theorem cT {s:am} {E:ag→am→Prop} {x:bU} {px pos:dJ} {ex:au} {P:ag→ay→Prop} {Q:dW→am→Prop} (H:Eg prog w A e s.heap ex P)
  (k:∀v h1 tk,ba [] s.heap h1→P v h1→aF (aB prog w) A (rv e x v) (fun O=>Q .next) E (sh s h1 tk))
  (hs:autoParam (jc ex (some (.Name x px)) pos.line e=cJ false) rfA):aF (aB prog w) A (fA (.Assign [.Name x px] ex pos) e) Q E s:=
 wpAny_Assign_Name (H s _ _ rfl fun v h1 tk k1 hv=>k v h1 tk k1 hv) hs
end
noncomputable def q6:dW→ag
 | .ret v=>v
 | _=>.none
noncomputable def Bd (s:am) (g:ay) (P:ag→ay→Prop) (fl:dW) (s':am):Prop:=g8 fun h' tk=>jn (s'=(sh s h' tk)) (Sub g h') (P (q6 fl) h')
noncomputable def Cd (prog:aV) (w:aP) (A:aS) (h:ay) (D:List aH) (f:ag) (args:List ag) (P:ag→ay→Prop):Prop:=
 ∀(s:am) (Q:ag→am→Prop) (E:ag→am→Prop),s.heap=h→(∀v h' tk,ba D h h'→P v h'→Q v (sh s h' tk))→aF (aB prog w) A (sP f args) Q E s
theorem Cd.cg {prog:aV} {w:aP} {A:aS} {h:ay} {f:ag} {args:List ag} {P:ag→ay→Prop} (H:Cd prog w A h [] f args P):Cg prog w A h f args P:=H
section
variable {prog:aV} {w:aP} {A:aS} {h:ay} {D:List aH} {f:aH} {args:List ag} {P:ag→ay→Prop}
theorem cP {h:ay}:h.get? h.objs.size=none:=by
 cases hq:h.get? h.objs.size with
 | none=>rfl
 | some o'=>exact absurd (cK hq) (dT _)
theorem Cd.enter {o:cA} {fd:dP} {body:List fC} {binds:List (bU×ag)} {c:List (aH×cA)}
  (hroom:A.depth<iH) (ho:h.get? f=some o) (hdata:o.data=.func fd) (hlim:h.NoLimit) (hcd:h.CodeRec fd.code fd.qualname)
  (hbody:fd.body=.stmts body) (hbind:∀s:am,s.heap=h→BindsTo s fd ⟨args,[]⟩ binds)
  (hcell:∀x∈fd.scope.names,x.2≠.cell) (hloc:∀x∈binds,fd.scope.names.lookup x.1=some .local) (hclo:fd.closure=[])
  (hc:∀p∈c,h.get? p.1=some p.2∧p.1∈D)
  (H:∀L s,h.get? L=none→ba [] h s.heap→St (bp h D) (di fd L f) s.heap binds.reverse c→
   aF (aB prog w) (A.deeper (di fd L f)) (eK body (di fd L f)) (Bd s (bp h D) P) (fun O O=>False) s)
  (hco:autoParam (fd.scope.isCoroutine=false) rfA) (hgen:autoParam (fd.scope.isGenerator=false) rfA) (hk:autoParam (fd.scope.kind=.function) rfA):Cd prog w A h D (.ref f) args P:=fun s Q E hs k=>by
 subst hs
 refine f0 (ri (binds:=binds) hroom ho hdata hlim hcd hbody (hbind s rfl) hcell hloc (fun h₀ hns hkp=>?_) hco hgen hk)
 have hcells:(di fd s.heap.objs.size f).cells=[]:=hclo
 have S:St (bp s.heap D) (di fd s.heap.objs.size f) h₀ binds.reverse c:=by
  refine ⟨⟨_,hns,fun x v hx O=>hx⟩,?_,?_,?_,fun b o q=>hkp b o (fE D q),?_,?_,fun p hp=>⟨hkp _ _ (hc p hp).1,?_,cQ D (hc p hp).2⟩⟩
  ·refine hcells.symm▸?_;intro x a ha;cases ha
  ·rw [hcells];exact dg
  ·rw [hcells];intro p hp;cases hp
  ·unfold FA;rw [hcells]
   intro a ha
   obtain rfl:a=s.heap.objs.size:=aD.mp ha
   cases q:(bp s.heap D).get? s.heap.objs.size with
   | none=>rfl
   | some o=>have:=fE D q;exact nn cP this
  ·unfold FA;rw [hcells]
   intro a ha
   obtain rfl:a=s.heap.objs.size:=aD.mp ha
   obtain ⟨o,_,_,q_⟩:=hns;have ho:=q_.1;clear q_
   exact ⟨o,ho⟩
  ·unfold FA;rw [hcells]
   intro ha
   have:p.1=s.heap.objs.size:=aD.mp ha
   have h2:=(hc p hp).1
   rw [this,cP] at h2;cases h2
 refine aL (H s.heap.objs.size (sh s h₀ (s.toks+binds.length)) cP (fun b o e O=>hkp b o e) S) (fun fl s' hb=>?_) fun O O x=>x.elim
 obtain ⟨h',tk,rfl,hsub,hp⟩:=hb
 have:=k (q6 fl) h' tk (fun b o e n=>hsub b o (bq D e n)) hp
 cases fl<;>exact this
theorem l7 {α:Type} {x:bU} {a:α}:∀{l:List (bU×α)},(l.map (·.1)).Nodup→(x,a)∈l→l.lookup x=some a:=fun {l}=>by
 induction l with
 | nil=>exact fun O h=>nomatch h
 | cons p l ih=>
  intro hn hm
  rw [fY]
  obtain ⟨h1,h2⟩:=lz.mp hn
  cases hm with
  | head=>simp
  | tail _ hm=>
   have:(x==p.1)=false:=by
    have:x≠p.1:=fun q=>h1 (b9.mpr ⟨(x,a),hm,q⟩)
    simpa using this
   rw [this];exact ih h2 hm
theorem jC:∀(names:List (bU×iD)) (n:Nat) (acc:List (bU×aH)),(names.map (·.1)++acc.map (·.1)).Nodup→((rg n names acc).map (·.1)).Nodup
 | [],_,_,h=>by simpa [rg] using h
 | (x,k)::r,n,acc,h=>by
  unfold rg
  split
  ·refine jC r _ _ ?_
   have h':(x::(r.map (·.1)++acc.map (·.1))).Nodup:=h
   obtain ⟨h1,h2⟩:=lz.mp h'
   refine (d9.nodup_iff ?_).mpr h'
   simp [List.perm_middle]
  ·refine jC r _ _ ?_
   have h':(x::(r.map (·.1)++acc.map (·.1))).Nodup:=h
   exact (lz.mp h').2
theorem Cd.enterC {o:cA} {fd:dP} {body:List fC} {binds:List (bU×ag)} {c:List (aH×cA)}
  (hroom:A.depth<iH) (ho:h.get? f=some o) (hdata:o.data=.func fd) (hlim:h.NoLimit) (hcd:h.CodeRec fd.code fd.qualname)
  (hbody:fd.body=.stmts body) (hbind:js fd ⟨args,[]⟩=cJ binds) (hclo:fd.closure=[]) (hnd:(fd.scope.names.map (·.1)).Nodup)
  (hkind:∀L,∀x∈binds,fd.scope.names.lookup x.1=some .local∨(fd.scope.names.lookup x.1=some .cell∧((rg (L+1) fd.scope.names []).lookup x.1).isSome=true))
  {m:List (bU×ag)} (hmL:∀L x v,iF m x=some v→fd.scope.names.lookup x=some .local→bindL (jT fd L f).kindOf binds (fun O=>none) x=some v)
  (hmC:∀L x v,iF m x=some v→∀a,(rg (L+1) fd.scope.names []).lookup x=some a→bindC (jT fd L f).kindOf binds (fun O=>none) x=some v)
  (hc:∀p∈c,h.get? p.1=some p.2∧p.1∈D)
  (H:∀L s,h.get? L=none→ba [] h s.heap→St (bp h D) (jT fd L f) s.heap m c→
   aF (aB prog w) (A.deeper (jT fd L f)) (eK body (jT fd L f)) (Bd s (bp h D) P) (fun O O=>False) s)
  (hco:autoParam (fd.scope.isCoroutine=false) rfA) (hgen:autoParam (fd.scope.isGenerator=false) rfA) (hk:autoParam (fd.scope.kind=.function) rfA):Cd prog w A h D (.ref f) args P:=fun s Q E hs k=>by
 subst hs
 refine f0 (codeAny_call_cells (binds:=binds) hroom ho hdata hlim hcd hbody hbind hclo (hkind _) (fun s₁ X=>?_) hco hgen hk)
 obtain ⟨h₁,tk,rfl,_⟩:=X.done
 have hnew:∀a,(a∈FA (jT fd s.heap.objs.size f))→s.heap.get? a=none:=fun a ha=>by
  cases q:s.heap.get? a with
  | none=>rfl
  | some o=>
   have h1:=cK q
   cases ha with
   | head=>exact absurd h1 (dT _)
   | tail _ ha=>
    obtain ⟨p,hp,rfl⟩:=b9.mp ha
    have h2:s.heap.objs.size<p.2:=X.above p.1 p.2 hp
    exact absurd h1 (i7.mpr (aR h2))
 have S:St (bp s.heap D) (jT fd s.heap.objs.size f) h₁ m c:=by
  refine ⟨⟨_,X.toInCall.ns,fun x v hx hl=>hmL _ x v hx hl⟩,fun x a ha=>⟨_,X.cell x a ha,fun v hv=>hmC _ x v hv a ha⟩,X.apart,fun p hp q=>?_,fun b o q=>X.toInCall.keep b o (fE D q),fun a ha=>?_,fun a ha=>?_,fun p hp=>⟨X.toInCall.keep _ _ (hc p hp).1,fun ha=>?_,cQ D (hc p hp).2⟩⟩
  ·exact absurd q (pJ (X.above p.1 p.2 hp))
  ·cases q:(bp s.heap D).get? a with
   | none=>rfl
   | some o=>have:=fE D q;exact nn (hnew a ha) this
  ·cases ha with
   | head=>obtain ⟨o,_,_,q_⟩:=X.toInCall.ns;have ho:=q_.1;clear q_;exact ⟨o,ho⟩
   | tail _ ha=>
    obtain ⟨p,hp,rfl⟩:=b9.mp ha
    obtain ⟨o,q_⟩:=X.cell p.1 p.2 (l7 (jC _ _ [] (by simpa using hnd)) hp);have ho:=q_.1;clear q_
    exact ⟨o,ho⟩
  ·have:=(hc p hp).1;exact nn (hnew _ ha) this
 refine aL (H s.heap.objs.size (sh s h₁ tk) cP (fun b o e O=>X.toInCall.keep b o e) S) (fun fl s' hb=>?_) fun O O x=>x.elim
 obtain ⟨h',tk,rfl,hsub,hp⟩:=hb
 have:=k (q6 fl) h' tk (fun b o e n=>hsub b o (bq D e n)) hp
 cases fl<;>exact this
end
noncomputable def IL (h:ay) (a:aH) (xs:List Int):Prop:=∃vs,h.IsList a vs.toArray∧cf vs xs
theorem IL.sub {h h':ay} {a:aH} {xs:List Int} (x:IL h a xs) (hs:Sub h h'):IL h' a xs:=by obtain ⟨vs,⟨o,ho,r⟩,q⟩:=x;exact ⟨vs,⟨o,hs a o ho,r⟩,q⟩
section
variable {prog:aV} {w:aP} {A:aS} {e:gy} {h g:ay} {m:List (bU×ag)} {c:List (aH×cA)}
theorem Ev.callB1 {x:bU} {p pos:dJ} {id:String} {ex:au} {P R:ag→Prop} (N:Ev prog w A e h (.Name x p) (· = .builtin id)) (H:Ev prog w A e h ex P)
  (K:∀v (s:am) (Q:ag→am→Prop) (E:ag→am→Prop),P v→s.heap=h→(∀r tk,R r→Q r { s with toks:=tk})→aF (aB prog w) A (sP (.builtin id) [v]) Q E s)
  (he:autoParam (aE [ex] e=(false,cO ex e)::aE [] e) rfA):Ev prog w A e h (.Call (.Name x p) [ex] [] pos) R:=fun s Q E hs k=>eL (N s _ _ hs fun v tk hv=>by
 subst hv
 exact callWith_builtin1 (spliced_more (H _ _ _ hs fun v tk1 hv=>spliced_none (K v _ _ _ hv hs fun r tk2 hr=>k r tk2 hr)) he) he rfl)
theorem qw:fD (⟨⟨[108,101,110]⟩⟩:bU)=some (.builtin "len"):=by decide +kernel
theorem Ev.lenL {p pos:dJ} {ex:au} {a:aH} {xs:List Int} (C:Cx w h) (H:Ev prog w A e h ex (· = .ref a)) (hl:IL h a xs) (hb:xs.length≤2^30) (hk:autoParam (e.scope.kind=.function) rfA) (hx:autoParam (e.kindOf (⟨⟨[108,101,110]⟩⟩:bU)=some .globalImplicit) rfA)
  (hg:autoParam (e.globals=cu) rfA) (hbi:autoParam (e.builtins=ej) rfA) (he:autoParam (aE [ex] e=(false,cO ex e)::aE [] e) rfA):Ev prog w A e h (.Call (.Name ⟨⟨[108,101,110]⟩⟩ p) [ex] [] pos) (fr xs.length):=
 Ev.callB1 (Ev.bltn C (fun O=>by kernel_rfl!) qw (by decide +kernel) hk hx hg hbi) H (fun v s Q E hv hs k=>by
  subst hv;subst hs
  obtain ⟨vs,hl,hi⟩:=hl
  have hn:=hi.length
  refine len_list hl (by simp;lia) (k _ _ ⟨s.toks+1,?_⟩)
  simp [hn]) he
theorem Ev.itemL {value slice:au} {pos:dJ} {a:aH} {xs:List Int} {k:Int} (H:Ev prog w A e h value (· = .ref a)) (H2:Ev prog w A e h slice (fr k)) (hl:IL h a xs) (h0:0≤k) (h1:k<xs.length) (hb:xs.length≤2^30)
  (hs:autoParam (∀u,subscripted slice false (.ref a) (.int k u)=operate [.ref a,.int k u] (getItem (.ref a) (.int k u))) rfE) (hg:autoParam (∀r,fb value (.ref a) r=cJ ()) rfE) :
  Ev prog w A e h (.Subscript value slice pos) (fr (xs.getD k.toNat 0)):=fun s Q E hs' kk=>by
 obtain ⟨vs,hl,hi⟩:=hl
 refine Subscript_ (H s _ _ hs' fun v tk hv=>H2 _ _ _ hs' fun u tk2 hu=>?_)
 subst hv
 obtain ⟨u,rfl⟩:=hu
 subst hs'
 exact item_list_ints (s:={ s with toks:=tk2}) hl hi h0 h1 (Int.lt_trans h1 (c7 hb rfl)) (fun t=>kk _ tk2 ⟨t,rfl⟩) (hs u) hg
end
section
variable {prog:aV} {w:aP} {A:aS} {s:am} {e:gy}
theorem jF {x:bU} {px pos:dJ} {iter:au} {body:List fC} {Q:dW→am→Prop} {n:Nat} {a:Int} (hh:A.handled=none) (D:List aH) (dw:Nat→ay→Prop)
  (hi:Eg prog w A e s.heap iter (fun v h'=>zf fun r t u v' b=>xM (v=.ref r) (IsRange h' r a b 1 t u v') (-(2^62)≤a) (b<2^62) (a<2^62) (-(2^62)≤b) (n=(b-a).toNat)))
  (hD:∀b∈D,∃o,s.heap.get? b=some o)
  (h0:∀h',ba [] s.heap h'→dw 0 h')
  (stab:∀i h h',dw i h→(∀b o,h.get? b=some o→cz o=true∨b∈D∨(∃o,s.heap.get? b=some o)→h'.get? b=some o)→dw i h')
  (turn:∀i v h tk,i<n→fr (a+i) v→dw i h→aF (aB prog w) A (rv e x v) (fun O s₂=>aF (aB prog w) A (eK body e) (zn s D h dw Q i) (fun O O=>False) s₂) (fun O O=>False) (sh s h tk))
  (done:∀h tk,dw n h→Q .next (sh s h tk))
  (hs:autoParam (∀x,er iter e x=cJ x) rfA):aF (aB prog w) A (fA (.For (.Name x px) iter body [] pos) e) Q (fun O O=>False) s:=by
 refine rx (hi s _ _ rfl fun v h1 tk k1 hv=>?_) hs
 obtain ⟨r,t,u,v',b,rfl,hr,ha,hb,ha',hb',hn⟩:=hv
 refine wpAny_pyIter_range (s:=sh s h1 tk) hr (small_one ha ha' hb' hb) ?_
 have hsz:ra a b 1=(n:Int):=by rw [rangeSize_one,hn];split<;>lia
 refine hsz.symm▸?_
 have hpush:ay.get? (h1.push { cls:=.type "range_iterator",data:=.fields #[dy a,dy (n:Int),dy 1]}) h1.objs.size=some { cls:=.type "range_iterator",data:=.fields #[dy a,dy (n:Int),dy 1]}:=bG _ rfl
 have W:=ql.range (prog:=prog) (w:=w) hh h1.objs.size a 1 n
 have hD1:∀b∈D,∃o,h1.get? b=some o:=fun b hb=>by obtain ⟨o,ho⟩:=hD b hb;exact ⟨o,k1.get ho⟩
 refine wQ (s:=(sh s (h1.push { cls:=.type "range_iterator",data:=.fields #[dy a,dy (n:Int),dy 1]}) tk)) W D dw ?_ (h0 _ (k1.trans (.push _ _ _))) ?_ ?_ (fun b=>∃o,s.heap.get? b=some o) ?_ stab (fun i v h tk hi hv O hI=>?_) (fun h tk hI=>done h tk hI)
 ·show IsRangeIter _ _ _ _ _
  rw [show a+((0:Nat):Int)*1=a by simp,show (n:Int)-((0:Nat):Int)=n by simp];exact hpush
 ·intro b hb hbD
  obtain rfl:b=h1.objs.size:=aD.mp hb
  obtain ⟨o,ho⟩:=hD1 _ hbD
  exact nn cP ho
 ·intro i h hS b hb o ho
  obtain rfl:b=h1.objs.size:=aD.mp hb
  have:h.get? h1.objs.size=_:=hS
  replace ho:=this▸ho;cases ho;rfl
 ·intro b hb hx
  obtain rfl:b=h1.objs.size:=aD.mp hb
  obtain ⟨o,ho⟩:=hx
  have:=k1.get ho
  exact nn cP this
 ·refine ao ⟨rfl,?_⟩
  have hv':fr (a+i) v:=by
   obtain ⟨t,e⟩:=hv
   exact ⟨t,by rw [e,Int.mul_one]⟩
  refine wpAny_assign_Name (aL (turn i _ h tk hi hv' hI) (fun O s₂ h₂=>aL h₂ (fun f s₃ h₃=>?_) fun O O x=>x) fun O O x=>x)
  cases f<;>exact h₃
end
section
variable {prog:aV} {w:aP} {A:aS} {s:am} {e:gy} {h g:ay} {m:List (bU×ag)} {c:List (aH×cA)} {E:ag→am→Prop}
theorem Ev.neg {x:au} {pos:dJ} {a:Int} (H:Ev prog w A e h x (fr a)):Ev prog w A e h (.UnaryOp .USub x pos) (fr (-a)):=fun s Q E hs k=>by
 refine wpAny_UnaryOp (H s _ _ hs fun v tk hv=>?_)
 obtain ⟨t,rfl⟩:=hv
 exact P.neg_int (k _ _ ⟨_,rfl⟩)
theorem wN {x:bU} {px pos:dJ} {ex:au} {a b:Int} {t:jR} {Q:dW→am→Prop} (S:St g e s.heap m c) (H:Ev prog w A e s.heap ex (fr b))
  (k:∀v h' tk,fr (a+b) v→St g e h' (gC x v m) c→Q .next (sh s h' tk)) (hv:autoParam (iF m x=some (.int a t)) rfA) (hl:autoParam (kI e x=true) rfA) (hl':autoParam (m0 e x=true) rfA) :
  aF (aB prog w) A (fA (.AugAssign (.Name x px) .Add ex pos) e) Q E s:=by
 refine wpAny_AugAssign_Name (xG S hv hl' (H s _ _ rfl fun v tk hv=>?_))
 obtain ⟨u,rfl⟩:=hv
 refine P.iadd_int ?_
 refine bE (s:={ s with toks:=tk+1}) S (fun h' tk' S'=>k _ h' tk' ⟨_,rfl⟩ S') hl
theorem fP {x:bU} {pn ap pos ps:dJ} {ex:au} {R:aH} {its:Array ag} {n:Nat} {pre post:List (aH×cA)} {P:ag→ay→Prop} {Q:dW→am→Prop}
  (S:St g e s.heap m (pre++(R,{ cls:=.type "list",data:=.seq its n})::post)) (H:Eg prog w A e s.heap ex P)
  (h1:∀p∈pre,p.1≠R) (h2:∀p∈post,p.1≠R) (hsz:its.size≤fc)
  (k:∀v hv h' tk,ba [] s.heap hv→P v hv→ba [R] hv h'→St g e h' m (pre++(R,{ cls:=.type "list",data:=.seq (its.push v) (n+1)})::post)→Q .next (sh s h' tk))
  (hv:autoParam (iF m x=some (.ref R)) rfA) (hl:autoParam (m0 e x=true) rfA) (hd:autoParam ((x==("__debug__" : bU))=false) rfD)
  {pl:mw Bool} (he:autoParam (cO (.Call (.Attribute (.Name x pn) (⟨⟨[97,112,112,101,110,100]⟩⟩:bU) ap) [ex] [] pos) e=(do
   let ov ←cO (.Name x pn) e
   fe ap.atName
   let (f,first) ←gf [ov] (gx ov (⟨⟨[97,112,112,101,110,100]⟩⟩:bU) pl)
   g9 pos f first (gK pos (aE [ex] e)) [])) rfA) (hst:autoParam (aE [ex] e=(false,cO ex e)::aE [] e) rfA)
  (hi:autoParam (qm e=false) rfA) (hsw:autoParam (jc (.Call (.Attribute (.Name x pn) (⟨⟨[97,112,112,101,110,100]⟩⟩:bU) ap) [ex] [] pos) none ps.line e=cJ false) rfA) :
  aF (aB prog w) A (fA (.Expr (.Call (.Attribute (.Name x pn) (⟨⟨[97,112,112,101,110,100]⟩⟩:bU) ap) [ex] [] pos) ps) e) Q E s:=by
 have hR:=S.own (R,{ cls:=.type "list",data:=.seq its n}) (by simp)
 refine sD (jo (Ev.nm S hv hl hd s _ _ rfl fun v tk hv=>?_) he) hi hsw
 subst hv
 refine Calls.getMethod_list_append hR.1 rfl rfl ?_
 refine callWith_method1 (spliced_more (H _ _ _ rfl fun v hv tk1 k1 hp=>spliced_none ?_) hst) hst rfl
 refine append_at (s:=sh s hv tk1) (its:=its) (n:=n) (k1.get hR.1) (fun h' hs ho=>?_) hsz
 exact k v hv h' tk1 k1 hp (.same hs) ((S.grow k1).change (.same hs) ho h1 h2)
end
noncomputable abbrev eU:aM:=⟨⟨[102,105,114,115,116]⟩⟩
noncomputable abbrev dB:aM:=⟨⟨[115,101,99,111,110,100]⟩⟩
noncomputable abbrev qY:aM:=⟨⟨[114,97,114,101]⟩⟩
noncomputable abbrev Gr:aM:=⟨⟨[114,117,110,115]⟩⟩
noncomputable abbrev nI:aM:=⟨⟨[105]⟩⟩
noncomputable abbrev nJ:aM:=⟨⟨[106]⟩⟩
noncomputable abbrev lJ:aM:=⟨⟨[115,105,122,101]⟩⟩
noncomputable abbrev ph:aM:=⟨⟨[114,97,110,103,101]⟩⟩
noncomputable abbrev Co:aM:=⟨⟨[108,101,110]⟩⟩
noncomputable abbrev Cp:aM:=⟨⟨[115,111,114,116,101,100]⟩⟩
noncomputable abbrev m9:aM:=⟨⟨[107,101,112,116]⟩⟩
noncomputable abbrev Am:aM:=⟨⟨[108,101,115,115]⟩⟩
noncomputable abbrev nP:aM:=⟨⟨[112]⟩⟩
noncomputable abbrev nQ:aM:=⟨⟨[113]⟩⟩
noncomputable abbrev nK:aM:=⟨⟨[107]⟩⟩
noncomputable abbrev Ak:aM:=⟨⟨[97,104,101,97,100]⟩⟩
noncomputable abbrev xm:aM:=⟨⟨[98,101,102,111,114,101]⟩⟩
noncomputable abbrev Go:aM:=⟨⟨[101,110,100]⟩⟩
noncomputable abbrev nc:aM:=⟨⟨[111,116,104,101,114]⟩⟩
noncomputable abbrev Ao:aM:=⟨⟨[109,105,110]⟩⟩
noncomputable abbrev ER:aM:=⟨⟨[109,97,120]⟩⟩
noncomputable abbrev rB:aM:=⟨⟨[105,110,115,101,114,116]⟩⟩
noncomputable abbrev xo:aM:=⟨⟨[101,110,100,115]⟩⟩
noncomputable abbrev Dz:aM:=⟨⟨[116,111,108,100]⟩⟩
noncomputable abbrev I6:aM:=⟨⟨[105,49]⟩⟩
noncomputable abbrev I7:aM:=⟨⟨[106,49]⟩⟩
noncomputable abbrev IC:aM:=⟨⟨[105,50]⟩⟩
noncomputable abbrev ID:aM:=⟨⟨[106,50]⟩⟩
noncomputable abbrev Gs:aM:=⟨⟨[116,97,103]⟩⟩
noncomputable abbrev rA:aM:=⟨⟨[101,120,116,101,110,100]⟩⟩
noncomputable abbrev kP:aM:=⟨⟨[115,99,114,105,112,116]⟩⟩
noncomputable abbrev HT:aM:=⟨⟨[119,97,121]⟩⟩
noncomputable abbrev nX:aM:=⟨⟨[120]⟩⟩
noncomputable abbrev Gp:aM:=⟨⟨[107,105,110,100]⟩⟩
noncomputable abbrev EO:aM:=⟨⟨[105,116,101,109,115]⟩⟩
noncomputable abbrev EM:aM:=⟨⟨[102,97,114]⟩⟩
noncomputable abbrev HS:aM:=⟨⟨[102,101,119]⟩⟩
noncomputable abbrev ET:aM:=⟨⟨[111,110,101]⟩⟩
noncomputable abbrev wD:aM:=⟨⟨[112,108,97,105,110]⟩⟩
noncomputable abbrev ul:aM:=⟨⟨[100,105,118,109,111,100]⟩⟩
noncomputable abbrev Aq:aM:=⟨⟨[115,101,116]⟩⟩
noncomputable abbrev wB:aM:=⟨⟨[99,111,117,110,116]⟩⟩
noncomputable abbrev my:aM:=⟨⟨[115,101,108,102]⟩⟩
noncomputable abbrev jW:aM:=⟨⟨[105,115,106,117,110,107]⟩⟩
noncomputable abbrev nA:aM:=⟨⟨[97]⟩⟩
noncomputable abbrev nB:aM:=⟨⟨[98]⟩⟩
noncomputable abbrev ix:aM:=⟨⟨[97,117,116,111,106,117,110,107]⟩⟩
noncomputable abbrev d0:aM:=⟨⟨[109,97,116,99,104,105,110,103,95,98,108,111,99,107,115]⟩⟩
noncomputable abbrev lI:aM:=⟨⟨[111,112,99,111,100,101,115]⟩⟩
noncomputable abbrev qX:aM:=⟨⟨[102,117,108,108,98,99,111,117,110,116]⟩⟩
noncomputable abbrev wz:aM:=⟨⟨[98,50,106]⟩⟩
noncomputable abbrev wA:aM:=⟨⟨[98,106,117,110,107]⟩⟩
noncomputable abbrev yE:aM:=⟨⟨[98,112,111,112,117,108,97,114]⟩⟩
noncomputable abbrev vk:aM:=⟨⟨[112,111,112,117,108,97,114]⟩⟩
noncomputable abbrev ES:aM:=⟨⟨[110,116,101,115,116]⟩⟩
noncomputable abbrev EH:aM:=⟨⟨[97,108,111]⟩⟩
noncomputable abbrev EG:aM:=⟨⟨[97,104,105]⟩⟩
noncomputable abbrev EL:aM:=⟨⟨[98,108,111]⟩⟩
noncomputable abbrev EK:aM:=⟨⟨[98,104,105]⟩⟩
noncomputable abbrev sg:aM:=⟨⟨[105,115,98,106,117,110,107]⟩⟩
noncomputable abbrev EI:aM:=⟨⟨[98,101,115,116,105]⟩⟩
noncomputable abbrev EJ:aM:=⟨⟨[98,101,115,116,106]⟩⟩
noncomputable abbrev yD:aM:=⟨⟨[98,101,115,116,115,105,122,101]⟩⟩
noncomputable abbrev EP:aM:=⟨⟨[106,50,108,101,110]⟩⟩
noncomputable abbrev Ap:aM:=⟨⟨[110,111,116,104,105,110,103]⟩⟩
noncomputable abbrev j2:aM:=⟨⟨[106,50,108,101,110,103,101,116]⟩⟩
noncomputable abbrev j3:aM:=⟨⟨[110,101,119,106,50,108,101,110]⟩⟩
noncomputable abbrev EN:aM:=⟨⟨[103,101,116]⟩⟩
noncomputable abbrev I9:aM:=⟨⟨[108,97]⟩⟩
noncomputable abbrev Ja:aM:=⟨⟨[108,98]⟩⟩
noncomputable abbrev EU:aM:=⟨⟨[113,117,101,117,101]⟩⟩
noncomputable abbrev I8:aM:=⟨⟨[107,49]⟩⟩
noncomputable abbrev um:aM:=⟨⟨[110,111,110,95,97,100,106,97,99,101,110,116]⟩⟩
noncomputable abbrev IE:aM:=⟨⟨[107,50]⟩⟩
noncomputable abbrev xp:aM:=⟨⟨[108,105,115,116]⟩⟩
noncomputable abbrev EQ:aM:=⟨⟨[109,97,112]⟩⟩
noncomputable abbrev Cn:aM:=⟨⟨[97,110,115,119,101,114]⟩⟩
noncomputable abbrev Gm:aM:=⟨⟨[97,105]⟩⟩
noncomputable abbrev Gn:aM:=⟨⟨[98,106]⟩⟩
noncomputable abbrev Dy:aM:=⟨⟨[95,109,97,107,101]⟩⟩
noncomputable abbrev Gu:aM:=⟨⟨[95,99,108,115]⟩⟩
noncomputable abbrev HR:aM:=⟨⟨[99,108,115]⟩⟩
noncomputable abbrev yF:aM:=⟨⟨[105,116,101,114,97,98,108,101]⟩⟩
noncomputable abbrev nh:aM:=⟨⟨[116,117,112,108,101]⟩⟩
noncomputable abbrev wC:aM:=⟨⟨[77,97,116,99,104]⟩⟩
noncomputable abbrev qH:aM:=⟨⟨[83,101,113,117,101,110,99,101,77,97,116,99,104,101,114]⟩⟩
noncomputable abbrev pf:aM:=⟨⟨[101,110,117,109,101,114,97,116,101]⟩⟩
noncomputable abbrev pS:aM:=⟨⟨[102,105,110,100,95,108,111,110,103,101,115,116,95,109,97,116,99,104]⟩⟩
noncomputable abbrev pg:aM:=⟨⟨[103,101,116,95,109,97,116,99,104,105,110,103,95,98,108,111,99,107,115]⟩⟩
noncomputable abbrev Al:aM:=⟨⟨[95,108,97,119,95,107,101,112,116]⟩⟩
noncomputable abbrev yG:aM:=⟨⟨[95,108,97,119,95,99,111,100,101,115]⟩⟩
noncomputable abbrev Gq:aM:=⟨⟨[108,97,119]⟩⟩
noncomputable abbrev qG:aM:=⟨⟨[95,95,99,111,110,116,97,105,110,115,95,95]⟩⟩
noncomputable abbrev yH:aM:=⟨⟨[95,95,110,101,119,95,95]⟩⟩
inductive dL {α β:Type} (R:α→β→Prop):List α→List β→Prop
 | nil:dL R [] []
 | cons {a:α} {b:β} {l:List α} {m:List β}:R a b→dL R l m→dL R (a::l) (b::m)
namespace dL
variable {α β:Type} {R R':α→β→Prop}
theorem mono (h:∀a b,R a b→R' a b) {l:List α} {m:List β} (x:dL R l m):dL R' l m:=by
 induction x with
 | nil=>exact nil
 | cons x _ y=>exact cons (h _ _ x) y
theorem length {l:List α} {m:List β} (x:dL R l m):l.length=m.length:=by
 induction x with
 | nil=>rfl
 | cons _ _ y=>exact congrArg Nat.succ y
theorem append {l l':List α} {m m':List β} (x:dL R l m) (h:dL R l' m'):dL R (l++l') (m++m'):=by
 induction x with
 | nil=>exact h
 | cons x _ y=>exact cons x y
theorem get {l:List α} {m:List β} (x:dL R l m):∀(i:Nat) (a:α),l[i]? = some a→∃b,m[i]? = some b∧R a b:=by
 induction x with
 | nil=>intro i a h;cases h
 | cons x _ y=>
  intro i a h
  cases i with
  | zero=>cases h;exact ⟨_,rfl,x⟩
  | succ i=>exact y i a h
theorem get' {l:List α} {m:List β} (x:dL R l m):∀(i:Nat) (b:β),m[i]? = some b→∃a,l[i]? = some a∧R a b:=by
 induction x with
 | nil=>intro i a h;cases h
 | cons x _ y=>
  intro i a h
  cases i with
  | zero=>cases h;exact ⟨_,rfl,x⟩
  | succ i=>exact y i a h
end dL
noncomputable def IT (h:ay) (a:aH) (xs:List Int):Prop:=∃vs,IsTup h a vs.toArray∧cf vs xs
theorem IT.sub {h h':ay} {a:aH} {xs:List Int} (x:IT h a xs) (hs:Sub h h'):IT h' a xs:=by obtain ⟨vs,⟨o,ho,r⟩,q⟩:=x;exact ⟨vs,⟨o,hs a o ho,r⟩,q⟩
theorem IT.still {h:ay} {a:aH} {xs:List Int} {D:List aH} (x:IT h a xs) (hn:a∉D):IT (bC h D) a xs:=by
 obtain ⟨vs,⟨o,ho,hc,n,hd⟩,q⟩:=x
 exact ⟨vs,⟨o,cH ho hn (by unfold cz;rw [hd]),hc,n,hd⟩,q⟩
theorem IL.still {h:ay} {a:aH} {xs:List Int} {D:List aH} (x:IL h a xs) (hn:a∉D):IL (bC h D) a xs:=by
 obtain ⟨vs,⟨o,ho,hc,n,hd⟩,q⟩:=x
 exact ⟨vs,⟨o,cH ho hn (by unfold cz;rw [hd]),hc,n,hd⟩,q⟩
noncomputable def VT (h:ay) (v:ag) (xs:List Int):Prop:=∃a,v=.ref a∧IT h a xs
theorem VT.sub {h h':ay} {v:ag} {xs:List Int} (x:VT h v xs) (hs:Sub h h'):VT h' v xs:=by obtain ⟨a,e,q⟩:=x;exact ⟨a,e,q.sub hs⟩
theorem qJ {h:ay} {D:List aH} {a:aH} (hD:∀b∈D,∃o,h.get? b=some o) (ha:h.get? a=none):a∉D:=fun q=>by
 obtain ⟨o,ho⟩:=hD a q
 exact nn ha ho
noncomputable def vS (D:List aH) (h:ay):Prop:=∀b∈D,∃o,h.get? b=some o
theorem vS.sub {D:List aH} {h h':ay} (x:vS D h) (k:∀b o,h.get? b=some o→∃o',h'.get? b=some o'):vS D h':=fun b hb=>by obtain ⟨o,ho⟩:=x b hb;exact k b o ho
noncomputable def IS (w:aP) (h:ay) (a:aH) (S:Int→Bool):Prop:=∃n,h.SetOf (eu PQ w) a S n
theorem IS.sub {w:aP} {h h':ay} {a:aH} {S:Int→Bool} (x:IS w h a S) (hs:Sub h h'):IS w h' a S:=by obtain ⟨n,o,es,ep,t,ho,r⟩:=x;exact ⟨n,o,es,ep,t,hs a o ho,r⟩
theorem IS.still {w:aP} {h:ay} {a:aH} {S:Int→Bool} {D:List aH} (x:IS w h a S) (hn:a∉D):IS w (bC h D) a S:=by
 obtain ⟨n,o,es,ep,t,ho,hx,hd,r⟩:=x
 exact ⟨n,o,es,ep,t,cH ho hn (by unfold cz;rw [hd]),hx,hd,r⟩
theorem tx {w:aP} {A:aS} {h:ay} {a:aH} {S:Int→Bool} {k:Int} {v:ag} (hS:IS w h a S) (hv:fr k v) {s:am} {Q:ag→am→Prop} {E:ag→am→Prop} (hs:s.heap=h)
  (q:∀tk,Q (.bool (!S k)) { s with toks:=tk}):aF (aB PQ w) A (ja .NotIn v (.ref a)) Q E s:=by
 obtain ⟨t,rfl⟩:=hv
 obtain ⟨n,hS⟩:=hS
 subst hs
 exact wpAny_notInSet_of (knd:=eu PQ w) (k:=k) (by simp [eu,ag.isInt]) rfl hS (q _)
section
variable {prog:aV} {w:aP} {A:aS} {e:gy} {h g:ay}
theorem mS:fD ph=some (.type "range"):=by decide +kernel
noncomputable def pM (a:Int) (n:Nat) (v:ag) (h':ay):Prop:=zf fun r t u v' b=>xM (v=.ref r) (IsRange h' r a b 1 t u v') (-(2^62)≤a) (b<2^62) (a<2^62) (-(2^62)≤b) (n=(b-a).toNat)
theorem Eg.range1 {p pos:dJ} {ex:au} {b:Int} (C:Cx w h) (H:Ev prog w A e h ex (fr b)) (h1 : -(2^62)≤b) (h2:b<2^62) (hk:autoParam (e.scope.kind=.function) rfA) (hx:autoParam (e.kindOf ph=some .globalImplicit) rfA)
  (hg:autoParam (e.globals=cu) rfA) (hbi:autoParam (e.builtins=ej) rfA) (he:autoParam (aE [ex] e=(false,cO ex e)::aE [] e) rfA):Eg prog w A e h (.Call (.Name ph p) [ex] [] pos) (pM 0 b.toNat):=
 Eg.callT (Ev.bltn C (fun O=>by kernel_rfl!) mS (by decide +kernel) hk hx hg hbi) (Es.one (Ev.gg H) he) (fun vs h1 O hv=>by
  obtain ⟨v,rfl,rfl,t,rfl⟩:=hv
  exact fun s Q E hs k=>by
   subst hs
   exact call_range_1 (k _ _ _ (.push _ _ _) ⟨_,_,_,_,b,rfl,IsRange.new _ _ _ _ _ _ _,by omega,h2,by omega,by omega,by simp⟩)) he rfl
theorem Eg.range2 {p pos:dJ} {ea eb:au} {a b:Int} (C:Cx w h) (Ha:Ev prog w A e h ea (fr a)) (Hb:Ev prog w A e h eb (fr b)) (h1 : -(2^62)≤b) (h2:b<2^62) (h3 : -(2^62)≤a) (h4:a<2^62) (hk:autoParam (e.scope.kind=.function) rfA) (hx:autoParam (e.kindOf ph=some .globalImplicit) rfA)
  (hg:autoParam (e.globals=cu) rfA) (hbi:autoParam (e.builtins=ej) rfA) (he:autoParam (aE [ea,eb] e=(false,cO ea e)::aE [eb] e) rfA) (he':autoParam (aE [eb] e=(false,cO eb e)::aE [] e) rfA):Eg prog w A e h (.Call (.Name ph p) [ea,eb] [] pos) (pM a (b-a).toNat):=
 Eg.callT (Ev.bltn C (fun O=>by kernel_rfl!) mS (by decide +kernel) hk hx hg hbi) (Es.more Ha (Es.more Hb Es.nil he') he) (fun vs h1 O hv=>by
  obtain ⟨rfl,v,vs',rfl,⟨t,rfl⟩,u,vs'',rfl,⟨t',rfl⟩,rfl⟩:=hv
  exact fun s Q E hs k=>by
   subst hs
   exact call_range_2 (k _ _ _ (.push _ _ _) ⟨_,_,_,_,b,rfl,IsRange.new _ _ _ _ _ _ _,by omega,h2,by omega,by omega,by simp⟩)) he (by rw [he'];rfl)
end
theorem VT.made {h1 h':ay} {vs:List ag} {xs:List Int} {D:List aH} (hi:cf vs xs) (hD:vS D h1) (hk:ba D (h1.push { cls:=.type "tuple",data:=.seq vs.toArray}) h'):VT (bC h' D) (.ref h1.objs.size) xs:=by
 have hn:h1.objs.size∉D:=qJ hD cP
 exact ⟨_,rfl,IT.still ⟨vs,⟨_,hk _ _ (bG _ rfl) hn,rfl,_,rfl⟩,hi⟩ hn⟩
section
variable {prog:aV} {w:aP} {A:aS} {s:am} {e:gy} {h g:ay} {m:List (bU×ag)} {c:List (aH×cA)} {E:ag→am→Prop}
theorem Et.of {ex:au} {b b':Bool} (H:Et prog w A e h ex b) (q:b=b'):Et prog w A e h ex b':=q▸H
noncomputable def Hn (prog:aV) (w:aP) (A:aS) (e:gy) (E:ag→am→Prop) (rest:List fC) (Q:dW→am→Prop) (f:dW) (s':am):Prop:=match f with
 | .next=>aF (aB prog w) A (eK rest e) Q E s'
 | f=>Q f s'
theorem gO {st:fC} {rest:List fC} {Q:dW→am→Prop} (H:aF (aB prog w) A (fA st e) (Hn prog w A e E rest Q) E s):aF (aB prog w) A (eK (st::rest) e) Q E s:=
 wpAny_execs_cons (aL H (fun f s' h=>by cases f<;>exact h) fun O O x=>x)
theorem wP {pos:dJ} {rest:List fC} {Q:dW→am→Prop} (H:Q .brk s):aF (aB prog w) A (eK (.Break pos::rest) e) Q E s:=gO (wpAny_Break H)
end
theorem jd.last {prog:aV} {w:aP} {A:aS} {env:gy} {h:ay} {x:au} {pos:dJ} {whole:mw ag} {b:Bool} (hx:Et prog w A env h x b):jd prog w A env h [x] pos whole b:=by
 cases b
 ·exact jd.no hx
 ·exact jd.yes hx jd.nil
theorem nv {prog:aV} {w:aP} {A:aS} {s:am} {e:gy} {E:ag→am→Prop} {ex:au} {pos:dJ} {rest:List fC} {P:ag→ay→Prop} {Q:dW→am→Prop} (H:Eg prog w A e s.heap ex P) (k:∀v h' tk,ba [] s.heap h'→P v h'→Q (.ret v) (sh s h' tk)) :
  aF (aB prog w) A (eK (.Return (some ex) pos::rest) e) Q E s:=gO (wpAny_Return_some (H s _ _ rfl fun v h' tk q r=>k v h' tk q r))
structure eV (A:aS) (k:Nat):Prop where
 hd:A.handled=none
 dp:A.depth+k<iH
 un:A.units+3*k+20<cLine
theorem eV.deeper {A:aS} {k:Nat} (R:eV A (k+1)) (e:gy):eV (A.deeper e) k:=⟨R.hd,by have:=R.dp;show A.depth+1+k<_;exact c8 (.lt (.p (.s 0 1) ar) az (.lt (.p aq (.s 1 1)) az .o)) τ this,by have:=R.un;show A.units+3+3*k+20<_;exact c8 (.lt (.p (.p (.s 0 3) (.m 3 ar)) (.k 20)) az (.lt (.p (.p aq (.m 3 (.s 1 1))) (.k 20)) az .o)) τ this⟩
theorem eV.less {A:aS} {k l:Nat} (R:eV A k) (h:l≤k):eV A l:=⟨R.hd,by have:=R.dp;exact cR (.lt (.p aq ar) az (.le ar aI (.lt (.p aq aI) az .o))) τ h this,by have:=R.un;exact cR (.lt (.p (.p aq (.m 3 ar)) (.k 20)) az (.w 3 (.le ar aI (.lt (.p (.p aq (.m 3 aI)) (.k 20)) az .o)))) τ h this⟩
section
variable {prog:aV} {w:aP} {A:aS} {s:am} {e:gy} {h g:ay} {m:List (bU×ag)} {c:List (aH×cA)} {E:ag→am→Prop}
theorem lG {h h':ay} (he:ay.ExtBut h.objs.size h h'):ba [] h h':=fun b o q O=>he b o (ei (cK q)) q
theorem gP {x y:bU} {px py pos:dJ} {k:Nat} {t:aH} {u v:ag} {Q:Unit→am→Prop} (hh:A.handled=none) (S:St g e s.heap m c) (ht:IsTup s.heap t #[u,v])
  (K:∀h' tk,St g e h' (gC y v (gC x u m)) c→Q () (sh s h' tk)) (hx:autoParam (kI e x=true) rfA) (hy:autoParam (kI e y=true) rfA) :
  aF (aB prog w) A (eT (.Tuple [.Name x px,.Name y py] k pos) e (.ref t)) Q E s:=by
 refine assign_Tuple_tuple hh ht rfl rfl fun h' he=>?_
 refine bQ (assign_Name (bE (s:={ s with heap:=h'}) (S.grow (lG he)) (fun h1 tk1 S1=>?_) hx))
 refine bQ (assign_Name (bE (s:=sh s h1 tk1) S1 (fun h2 tk2 S2=>?_) hy))
 exact fF (K h2 tk2 S2)
theorem mf {x y z:bU} {px py pz pos:dJ} {k:Nat} {t:aH} {u v r:ag} {Q:Unit→am→Prop} (hh:A.handled=none) (S:St g e s.heap m c) (ht:IsTup s.heap t #[u,v,r])
  (K:∀h' tk,St g e h' (gC z r (gC y v (gC x u m))) c→Q () (sh s h' tk)) (hx:autoParam (kI e x=true) rfA) (hy:autoParam (kI e y=true) rfA) (hz:autoParam (kI e z=true) rfA) :
  aF (aB prog w) A (eT (.Tuple [.Name x px,.Name y py,.Name z pz] k pos) e (.ref t)) Q E s:=by
 refine assign_Tuple_tuple hh ht rfl rfl fun h' he=>?_
 refine bQ (assign_Name (bE (s:={ s with heap:=h'}) (S.grow (lG he)) (fun h1 tk1 S1=>?_) hx))
 refine bQ (assign_Name (bE (s:=sh s h1 tk1) S1 (fun h2 tk2 S2=>?_) hy))
 refine bQ (assign_Name (bE (s:=sh s h2 tk2) S2 (fun h3 tk3 S3=>?_) hz))
 exact fF (K h3 tk3 S3)
theorem su {x y z y':bU} {px py pz py' pos:dJ} {k:Nat} {t:aH} {u v r q:ag} {Q:Unit→am→Prop} (hh:A.handled=none) (S:St g e s.heap m c) (ht:IsTup s.heap t #[u,v,r,q])
  (K:∀h' tk,St g e h' (gC y' q (gC z r (gC y v (gC x u m)))) c→Q () (sh s h' tk)) (hx:autoParam (kI e x=true) rfA) (hy:autoParam (kI e y=true) rfA) (hz:autoParam (kI e z=true) rfA) (hy':autoParam (kI e y'=true) rfA) :
  aF (aB prog w) A (eT (.Tuple [.Name x px,.Name y py,.Name z pz,.Name y' py'] k pos) e (.ref t)) Q E s:=by
 refine assign_Tuple_tuple hh ht rfl rfl fun h' he=>?_
 refine bQ (assign_Name (bE (s:={ s with heap:=h'}) (S.grow (lG he)) (fun h1 tk1 S1=>?_) hx))
 refine bQ (assign_Name (bE (s:=sh s h1 tk1) S1 (fun h2 tk2 S2=>?_) hy))
 refine bQ (assign_Name (bE (s:=sh s h2 tk2) S2 (fun h3 tk3 S3=>?_) hz))
 refine bQ (assign_Name (bE (s:=sh s h3 tk3) S3 (fun h4 tk4 S4=>?_) hy'))
 exact fF (K h4 tk4 S4)
theorem pe {target:au} {I a:aH} {v:ag} {i:Nat} {Q:Unit→am→Prop} (hI:s.heap.IsListIter I a i) (q:Q () s):aF (aB prog w) A (sK target (.ref I) v) Q E s:=by
 obtain ⟨o,ho,hc,hd⟩:=hI
 skip
 cases target<;>first
  | exact ao q
  | (cases v<;>first
   | exact ao q
   | (refine ae (wpAny_load ho ?_);rw [hc,hd];exact ao q))
theorem pQ {target:au} {body:List fC} {Q:dW→am→Prop} {items:Array ag} {a:aH} (hh:A.handled=none) (D:List aH) (B:aH→Prop) (hB:∀b,B b→∃o,s.heap.get? b=some o) (dw:Nat→ay→Prop)
  (hl:s.heap.IsList a items) (haD:a∉D) (hD:∀b∈D,∃o,s.heap.get? b=some o) (h0:∀h',ba [] s.heap h'→dw 0 h')
  (stab:∀i h h',dw i h→(∀b o,h.get? b=some o→cz o=true∨b∈D∨B b→h'.get? b=some o)→dw i h')
  (turn:∀i v h tk,i<items.size→items[i]? = some v→dw i h→aF (aB prog w) A (eT target e v) (fun O s₂=>aF (aB prog w) A (eK body e) (zn s D h dw Q i) (fun O O=>False) s₂) (fun O O=>False) (sh s h tk))
  (done:∀h tk,dw items.size h→Q .next (sh s h tk)) :
  aF (aB prog w) A (pyIter (.ref a)) (fun it s₂=>hW (aB prog w) A (.forLoop target it body [] e) (fun r s'=>match r with|.ok f=>Q f s'|.error e'=>oZ (aB prog w) A e (fun O O=>False) e' s') s₂) (fun O O=>False) s:=by
 refine lw hl ?_
 have hne:a≠s.heap.objs.size:=ei (let ⟨o,ho,_⟩:=hl;cK ho)
 have W:=ql.list (prog:=prog) (w:=w) hh s.heap.objs.size a hne items
 refine wQ (s:={ s with heap:=s.heap.push { cls:=.type "list_iterator",data:=.fields #[.ref a,.int 0 0]}}) W D dw ⟨⟨_,bG _ rfl,rfl,rfl⟩,hl.push _⟩ (h0 _ (.push _ _ _)) ?_ ?_ B ?_ stab (fun i v h tk hi hv hS hI=>?_) (fun h tk hI=>done h tk hI)
 ·intro b hb hbD
  rcases aC.mp hb with rfl|hb2;rotate_left;rcases aD.mp hb2 with rfl;rotate_left
  ·obtain ⟨o,ho⟩:=hD _ hbD
   exact nn cP ho
  ·exact haD hbD
 ·intro i h hS b hb o ho
  obtain rfl:b=s.heap.objs.size:=aD.mp hb
  obtain ⟨o',ho',hc,hd⟩:=hS.1
  replace ho:=ho'▸ho;cases ho
  unfold cz;rw [hd,hc];rfl
 ·intro b hb hx
  obtain rfl:b=s.heap.objs.size:=aD.mp hb
  obtain ⟨o,ho⟩:=hB _ hx
  exact nn cP ho
 ·refine pe hS.1 ⟨rfl,aL (turn i _ h tk hi hv hI) (fun O s₂ h₂=>aL h₂ (fun f s₃ h₃=>?_) fun O O x=>x) fun O O x=>x⟩
  cases f<;>exact h₃
theorem po {target iter:au} {body:List fC} {pos:dJ} {Q:dW→am→Prop} {items:Array ag} (hh:A.handled=none) (D:List aH) (dw:Nat→ay→Prop)
  (hi:Eg prog w A e s.heap iter (fun v h'=>∃a,jn (v=.ref a) (h'.IsList a items) (a∉D)))
  (hD:∀b∈D,∃o,s.heap.get? b=some o)
  (h0:∀h',ba [] s.heap h'→dw 0 h')
  (stab:∀i h h',dw i h→(∀b o,h.get? b=some o→cz o=true∨b∈D∨(∃o,s.heap.get? b=some o)→h'.get? b=some o)→dw i h')
  (turn:∀i v h tk,i<items.size→items[i]? = some v→dw i h→aF (aB prog w) A (eT target e v) (fun O s₂=>aF (aB prog w) A (eK body e) (zn s D h dw Q i) (fun O O=>False) s₂) (fun O O=>False) (sh s h tk))
  (done:∀h tk,dw items.size h→Q .next (sh s h tk))
  (hs:autoParam (∀x,er iter e x=cJ x) rfA):aF (aB prog w) A (fA (.For target iter body [] pos) e) Q (fun O O=>False) s:=by
 refine rx (hi s _ _ rfl fun v h1 tk k1 hv=>?_) hs
 obtain ⟨a,rfl,hl,haD⟩:=hv
 have up:∀b,(∃o,s.heap.get? b=some o)→∃o,h1.get? b=some o:=fun b ⟨o,ho⟩=>⟨o,k1.get ho⟩
 refine pQ (s:=sh s h1 tk) hh D (fun b=>∃o,s.heap.get? b=some o) up dw hl haD (fun b hb=>up b (hD b hb)) (fun h' k=>h0 h' (k1.trans k)) stab (fun i v h tk hi hv hI=>?_) (fun h tk hI=>done h tk hI)
 refine aL (turn i v h tk hi hv hI) (fun O s₂ h₂=>aL h₂ (fun f s₃ h₃=>?_) fun O O x=>x) fun O O x=>x
 cases f<;>exact h₃
theorem Ev.len {p pos:dJ} {ex:au} {a:aH} {items:Array ag} (C:Cx w h) (H:Ev prog w A e h ex (· = .ref a)) (hl:h.IsList a items) (hb:items.size≤2^30) (hk:autoParam (e.scope.kind=.function) rfA) (hx:autoParam (e.kindOf Co=some .globalImplicit) rfA)
  (hg:autoParam (e.globals=cu) rfA) (hbi:autoParam (e.builtins=ej) rfA) (he:autoParam (aE [ex] e=(false,cO ex e)::aE [] e) rfA):Ev prog w A e h (.Call (.Name Co p) [ex] [] pos) (fr items.size):=
 Ev.callB1 (Ev.bltn C (fun O=>by kernel_rfl!) qw (by decide +kernel) hk hx hg hbi) H (fun v s Q E hv hs k=>by
  subst hv;subst hs
  exact len_list hl (by lia) (k _ _ ⟨s.toks+1,rfl⟩)) he
theorem Ev.item {value slice:au} {pos:dJ} {a:aH} {items:Array ag} {k:Int} {x:ag} (H:Ev prog w A e h value (· = .ref a)) (H2:Ev prog w A e h slice (fr k)) (hl:h.IsList a items) (h0:0≤k) (hb:k<2^63) (hx:items[k.toNat]? = some x)
  (hs:autoParam (∀u,subscripted slice false (.ref a) (.int k u)=operate [.ref a,.int k u] (getItem (.ref a) (.int k u))) rfE) (hg:autoParam (∀r,fb value (.ref a) r=cJ ()) rfE) :
  Ev prog w A e h (.Subscript value slice pos) (· = x):=fun s Q E hs' kk=>by
 refine Subscript_ (H s _ _ hs' fun v tk hv=>H2 _ _ _ hs' fun u tk2 hu=>?_)
 subst hv
 obtain ⟨u,rfl⟩:=hu
 subst hs'
 exact item_list (s:={ s with toks:=tk2}) hl h0 hb hx (kk _ tk2 rfl) (hs u) hg
theorem Ev.str {x:bU} {k:Nat} {pos:dJ}:Ev prog w A e h (.Constant (.str x) k pos) (fun v=>∃t,v=.str x t):=fun s Q E hs kk=>wpAny_Constant_str (kk _ _ ⟨_,rfl⟩)
theorem Ev.ifexp {t a b:au} {pos:dJ} {c:Bool} {P:ag→Prop} (Ht:Et prog w A e h t c) (H:Ev prog w A e h (if c then a else b) P):Ev prog w A e h (.IfExp t a b pos) P:=fun s Q E hs kk=>by
 refine wpAny_IfExp (Ht s _ _ hs fun tk=>?_)
 cases c with
 | true=>exact H { s with toks:=tk} _ _ hs kk
 | false=>exact H { s with toks:=tk} _ _ hs kk
theorem gN {elts:List au} {k:Nat} {tpos pos:dJ} {ex:au} {P:ag→ay→Prop} {Q:dW→am→Prop} (H:Eg prog w A e s.heap ex P)
  (K:∀v h1 tk,ba [] s.heap h1→P v h1→aF (aB prog w) A (eT (.Tuple elts k tpos) e v) (fun O=>Q .next) E (sh s h1 tk))
  (hs:autoParam (swapsWithSole [.Tuple elts k tpos] ex pos.line e=cJ false) rfA) (hw:autoParam (jb [.Tuple elts k tpos] ex e=cJ none) rfA) :
  aF (aB prog w) A (fA (.Assign [.Tuple elts k tpos] ex pos) e) Q E s:=Assign_Tuple (H s _ _ rfl fun v h1 tk k1 hv=>K v h1 tk k1 hv) hs hw
end
namespace MP
noncomputable abbrev lo (acc:Array ag) (c:Nat):cA:={ cls:=.type "list",dict:=none,data:=.seq acc c,slots:=#[]}
section
variable {prog:aV} {w:aP} {A:aS} {E:ag→am→Prop} {s:am} {z T I l:aH} {f x:ag} {i:Nat} {xs:Array ag}
theorem lK {Q:Option ag→am→Prop} (hz:oh s.heap z T f) (hT:qP s.heap T (.ref I)) (hI:s.heap.IsListIter I l i) (hl:s.heap.IsList l xs) (hx:xs[i]? = some x) (hzI:z≠I)
  (H:∀h',h'.IsListIter I l (i+1)→cq I s.heap h'→Cd prog w A.in1 h' [] f [x] (fun v h''=>∀tk,ba [] h' h''→Q (some v) (sh s h'' tk))) :
  aF (aB prog w) A (pyNext (.ref z)) Q E s:=by
 have hTy:s.TypeIs (.ref z) "map" :=⟨_,hz,rfl⟩
 skip
 refine ae (jY (eQ (name:=cL "__next__") hTy gj (db gj hTy l4 ?_ (nN _))))
 show aF _ _ (field (.ref z) 0 >>= _) _ _ _
 refine ae (iQ hz rfl (x:=.ref T) rfl ?_)
 refine ae (fH hT rfl ?_)
 dsimp only
 rw [←Array.forIn_toList,dS]
 refine ae (ae (ae (bM ?_)))
 refine wpAny_nextOf_list_item hI hl hx fun h1 i1 b1=>ao ?_
 skip
 skip
 refine ao ?_
 have hz1:oh h1 z T f:=(b1.2 z hzI).trans hz
 refine ae (iQ (s:={ s with heap:=h1}) hz1 rfl (x:=f) rfl ?_)
 refine ae (bM ?_)
 refine H h1 i1 b1 { s with heap:=h1} _ _ rfl fun v h2 tk k2 hq=>?_
 refine ae (wpAny_letGo ?_)
 exact ao ⟨v,rfl,ao (hq tk k2)⟩
theorem qK {Q:Option ag→am→Prop} (hh:A.handled=none) (hz:oh s.heap z T f) (hT:qP s.heap T (.ref I)) (hI:s.heap.IsListIter I l i) (hl:s.heap.IsList l xs) (hx:xs[i]? = none)
  (hQ:∀h',ay.ExtBut I s.heap h'→Q none { s with heap:=h'}):aF (aB prog w) A (pyNext (.ref z)) Q E s:=by
 have hTy:s.TypeIs (.ref z) "map" :=⟨_,hz,rfl⟩
 skip
 refine ae (jY (eQ (name:=cL "__next__") hTy gj (db gj hTy l4 ?_ (nN _))))
 show aF _ _ (field (.ref z) 0 >>= _) _ _ _
 refine ae (iQ hz rfl (x:=.ref T) rfl ?_)
 refine ae (fH hT rfl ?_)
 dsimp only
 rw [←Array.forIn_toList,dS]
 refine ae (ae (ae (bM ?_)))
 refine wpAny_nextOf_list_end hh hI hl hx fun h1 e1 b1 he=>?_
 obtain ⟨o,ho,hc⟩:=he
 refine ae (wpAny_isInstance (T:= "StopIteration") (b:=true) ⟨o,ho,hc⟩ isSubtype_stop ?_)
 exact ao (hQ _ b1)
end
section
variable {prog:aV} {w:aP} {A:aS} {h0:ay} {S z T I l:aH} {f res:ag} {xs:Array ag} {P:Nat→ag→ay→Prop} {R:Result→am→Prop}
theorem Ci (hh:A.handled=none) (hz:oh h0 z T f) (hT:qP h0 T (.ref I)) (hl:h0.IsList l xs) (hzD:z∉[S,I]) (hTD:T∉[S,I]) (hlD:l∉[S,I]) (hSI:S≠I) (hn:xs.size≤fc)
  (hf:∀i x h,xs[i]? = some x→ba [S,I] h0 h→(∃o,h.get? S=some o)→(∃o,h.get? I=some o)→Cd prog w A.in1.in1 h [] f [x] (fun v h'=>P i v h')) (hP:∀i v h h',P i v h→ba [S,I] h h'→P i v h') :
  ∀(k i:Nat) (s:am) (acc:Array ag) (c:Nat),xs.size-i=k→i≤xs.size→ba [S,I] h0 s.heap→s.heap.IsListIter I l i→s.heap.get? S=some (lo acc c)→acc.size=i→(∀j v,acc[j]? = some v→P j v s.heap)→
  (∀h' tk acc' c',ba [S,I] h0 h'→h'.get? S=some (lo acc' c')→acc'.size=xs.size→(∀j v,acc'[j]? = some v→P j v h')→R (.ok (.ret res)) (sh s h' tk))→
  hW (aB prog w) A (.builtin "list.extend.loop" ⟨[.ref S,.ref z,res],[]⟩) R s:=by
 have hzI:z≠I:=fun e=>hzD (e▸.tail _ (.head _))
 intro k
 induction k with
 | zero=>
  intro i s acc c hk hi hK hI hS hsz hacc hR
  have hin:i=xs.size:=by exact ak hi (c8 (.le aq ar (.eq az (.k 0) (.le aq (.p az ar) .o))) τ hk bZ)
  subst hin
  refine mT F.entry_extend_loop ?_
  skip
  show aF _ A.in1 (pyNext (.ref z) >>= _) _ _ s
  have hl':s.heap.IsList l xs:=hl.at fun o e=>hK _ o e hlD
  refine ae (qK (by exact hh) (hK _ _ hz hzD) (hK _ _ hT hTD) hI hl' (by simp) fun h' b=>?_)
  have k1:ba [S,I] s.heap h':=fun a o e n=>b a o (fun q=>n (by simp [q])) e
  exact ao (hR h' s.toks acc c (hK.trans k1) (b _ _ hSI hS) hsz fun j v hj=>hP _ _ _ _ (hacc j v hj) k1)
 | succ k ih=>
  intro i s acc c hk hi hK hI hS hsz hacc hR
  have hlt:i<xs.size:=by exact cR (.lt aq ar (.qe az (.s 3 1) (.eq (.p az aq) ar .o))) τ hk (aa hi)
  refine mT F.entry_extend_loop ?_
  skip
  show aF _ A.in1 (pyNext (.ref z) >>= _) _ _ s
  have hl':s.heap.IsList l xs:=hl.at fun o e=>hK _ o e hlD
  have hx:xs[i]? = some xs[i]:=gr hlt
  refine ae (lK (hK _ _ hz hzD) (hK _ _ hT hTD) hI hl' hx hzI fun h1 i1 b1=>?_)
  have k1:ba [S,I] s.heap h1:=fun a o e n=>(b1.2 a (fun q=>n (by simp [q]))).trans e
  intro s1 Q1 E1 hs1 kk
  refine hf i xs[i] h1 hx (hK.trans k1) ⟨_,(b1.2 S hSI).trans hS⟩ (let ⟨o,ho,_⟩:=i1;⟨o,ho⟩) s1 Q1 E1 hs1 fun v h2 tk k2 hv=>kk v h2 tk k2 fun tk O=>?_
  have k12:ba [S,I] s.heap h2:=k1.trans (k2.mono il)
  have hS2:h2.get? S=some (lo acc c):=k2.get ((b1.2 S hSI).trans hS)
  have hI2:h2.IsListIter I l (i+1):=i1.at fun o e=>k2.get e
  skip
  refine ae ?_
  have k23:ba [S,I] h2 (h2.update S (dj (·.push v))):=fun a o e n=>(gc _ _ (fun q:S=a=>n (q▸.head _))).trans e
  refine sL (s:=sh s h2 tk) hS2 rfl (ao ⟨plainId_quiet F.plain_extend_loop _,ih (i+1) _ (acc.push v) _ (by exact ak (eW (.le aq ar (.eq az (.s 1 1) (.le aI (.p az bx) (.eq (.p aq (.s 4 1)) aI .o)))) τ hk bZ (aa hlt)) (eW (.le aq ar (.qe az (.s 0 1) (.le aI (.p ar (.s 4 1)) (.eq (.p az bx) aI .o)))) τ hk bZ (aa hi))) hlt (hK.trans (k12.trans k23)) ?_ (fw _ hS2 rfl) (by simp [hsz]) ?_ fun h' tk' acc' c' a1 a2 a3 a4=>hR h' tk' acc' c' a1 a2 a3 a4⟩)
   (by rw [hsz];exact aj hi hn) (by show (acc.push v).size≤fc+1;rw [Array.size_push,hsz];exact c8 (.le (.s 0 1) (.s 1 1) (.le az ar (.le aq az .o))) τ hn hi)
  ·exact hI2.at fun o e=>(gc _ _ hSI).trans e
  ·intro j u hj
   replace hj:=Array.getElem?_push▸hj
   split at hj
   ·rename_i e
    rw [hsz] at e
    cases hj
    rw [e]
    exact hP _ _ _ _ hv k23
   ·exact hP _ _ _ _ (hacc j u hj) (k12.trans k23)
end
section
variable {prog:aV} {w:aP} {A:aS} {s:am} {S z T I l:aH} {f res:ag} {xs:Array ag} {P:Nat→ag→ay→Prop} {R:Result→am→Prop}
theorem sw {h:ay} {S I:aH} (f:cA→cA):ba [S,I] h (h.update S f):=fun a o e n=>(gc _ _ (fun q:S=a=>n (by simp [q]))).trans e
theorem Ee (hh:A.handled=none) (hz:oh s.heap z T f) (hT:qP s.heap T (.ref I)) (hI:s.heap.IsListIter I l 0) (hl:s.heap.IsList l xs) (hzD:z∉[S,I]) (hTD:T∉[S,I]) (hlD:l∉[S,I]) (hSI:S≠I) (hn:xs.size≤fc)
  (hf:∀i x h,xs[i]? = some x→ba [S,I] s.heap h→(∃o,h.get? S=some o)→(∃o,h.get? I=some o)→Cd prog w A.in1.in1 h [] f [x] (fun v h'=>P i v h')) (hP:∀i v h h',P i v h→ba [S,I] h h'→P i v h') {c₀:Nat}
  (hS:s.heap.get? S=some (lo #[] c₀))
  (hR:∀h' tk acc' c',ba [S,I] s.heap h'→h'.get? S=some (lo acc' c')→acc'.size=xs.size→(∀j v,acc'[j]? = some v→P j v h')→R (.ok (.ret res)) (sh s h' tk)) :
  aF (aB prog w) A.in1 (cc.List.listExtendWith (.ref S) (.ref z) res)
   (fun fin s'=>match fin with|.done f=>R (.ok f) s'|.again c'=>c'.quiet=true∧hW (aB prog w) A c' R s') (fun e s'=>R (.error e) s') s:=by
 have hSz:S≠z:=fun e=>hzD (by simp [e])
 have hTy:s.TypeIs (.ref z) "map" :=⟨_,hz,rfl⟩
 skip
 refine ae (wpAny_typeOf hTy ?_)
 have h1:cc.List.listSameRef (.ref S) (.ref z)=false:=by simp [cc.List.listSameRef,hSz]
 have h2:(dk "map" == dk "list")=false:=by decide
 have h3:(dk "map" == dk "tuple")=false:=by decide
 simp only [h1,h2,h3,Bool.or_false,bv,if_false]
 refine ae (wG hz ?_)
 refine ae (bM ?_)
 skip
 refine ae (nC hTy Gy ?_)
 skip
 refine ae (nC hTy EY ?_)
 refine ao ?_
 show aF _ A.in1 (rule "list.extend.makes-room" >>= fun O=>cc.List.listTouch (.ref S) >>= fun O=>
  again (.builtin "list.extend.loop" ⟨[.ref S,.ref z,res],[]⟩)) _ _ _
 refine ae (fg ?_)
 refine ae ?_
 skip
 refine ae (sL hS rfl ?_)
 have hS₂:=fw (dj (·.push kc)) hS rfl
 refine sL (hz:=by seq_fits) hS₂ rfl ?_
 have hS₃:=fw (dj (·.pop)) hS₂ rfl
 have k3:ba [S,I] s.heap ((s.heap.update S (dj (·.push kc))).update S (dj (·.pop))):=(sw _).trans (sw _)
 have k3':ba [S] s.heap ((s.heap.update S (dj (·.push kc))).update S (dj (·.pop))):=fun a o e n=>(gc _ _ (fun q:S=a=>n (by simp [q]))).trans ((gc _ _ (fun q:S=a=>n (by simp [q]))).trans e)
 refine ao ⟨plainId_quiet F.plain_extend_loop _,?_⟩
 exact Ci (h0:=s.heap) hh hz hT hl hzD hTD hlD hSI hn hf hP _ 0 { s with heap:=(s.heap.update S (dj (·.push kc))).update S (dj (·.pop))} #[] _ rfl (aX _) k3 (hI.at fun o e=>k3' _ o e (qZ (dM hSI))) hS₃ rfl (fun j v hj=>by simp at hj) fun h' tk acc' c' a1 a2 a3 a4=>hR h' tk acc' c' a1 a2 a3 a4
theorem init (hh:A.handled=none) (hz:oh s.heap z T f) (hT:qP s.heap T (.ref I)) (hI:s.heap.IsListIter I l 0) (hl:s.heap.IsList l xs) (hzD:z∉[S,I]) (hTD:T∉[S,I]) (hlD:l∉[S,I]) (hSI:S≠I) (hn:xs.size≤fc)
  (hf:∀i x h,xs[i]? = some x→ba [S,I] s.heap h→(∃o,h.get? S=some o)→(∃o,h.get? I=some o)→Cd prog w A.in1.in1 h [] f [x] (fun v h'=>P i v h')) (hP:∀i v h h',P i v h→ba [S,I] h h'→P i v h')
  (hS:s.heap.get? S=some { cls:=.type "list",data:=.seq #[]})
  (hR:∀h' tk acc' c',ba [S,I] s.heap h'→h'.get? S=some (lo acc' c')→acc'.size=xs.size→(∀j v,acc'[j]? = some v→P j v h')→R (.ok (.ret .none)) (sh s h' tk)) :
  aF (aB prog w) A.in1 (cc.«list.__init__» ⟨[.ref S,.ref z],[]⟩)
   (fun fin s'=>match fin with|.done f=>R (.ok f) s'|.again c'=>c'.quiet=true∧hW (aB prog w) A c' R s') (fun e s'=>R (.error e) s') s:=by
 show aF _ _ (do let old ←cc.List.listItems (.ref S);cc.List.listUpdate (.ref S) (fun O=>#[]);letGo old.toList.reverse;cc.List.listExtendWith (.ref S) (.ref z) .none) _ _ s
 refine ae ?_
 skip
 refine ae (fH hS rfl (ao ?_))
 skip
 refine ae (sL hS rfl ?_)
 have hS₂:=fw (dj (fun O=>(#[]:Array ag))) hS rfl
 have k1:ba [S,I] s.heap (s.heap.update S (dj fun O=>(#[]:Array ag))):=sw _
 have k1':ba [S] s.heap (s.heap.update S (dj fun O=>(#[]:Array ag))):=fun a o e n=>(gc _ _ (fun q:S=a=>n (by simp [q]))).trans e
 refine ae (wpAny_letGo ?_)
 have hSI':I∉[S]:=by simpa using dM hSI
 exact Ee (s:={ s with heap:=s.heap.update S (dj fun O=>(#[]:Array ag))}) hh (k1 _ _ hz hzD) (k1 _ _ hT hTD) (hI.at fun o e=>k1' _ o e hSI') (hl.at fun o e=>k1 _ o e hlD) hzD hTD hlD hSI hn
  (fun i x h hx hk e1 e2=>hf i x h hx (k1.trans hk) e1 e2) hP hS₂ fun h' tk acc' c' a1 a2 a3 a4=>hR h' tk acc' c' (k1.trans a1) a2 a3 a4
end
section
variable {prog:aV} {w:aP} {A:aS} {E:ag→am→Prop} {s:am} {z T I l:aH} {f:ag} {xs:Array ag} {P:Nat→ag→ay→Prop}
theorem xY {Q:ag→am→Prop} (hh:A.handled=none) (hz:oh s.heap z T f) (hT:qP s.heap T (.ref I)) (hI:s.heap.IsListIter I l 0) (hl:s.heap.IsList l xs) (hzI:z≠I) (hTI:T≠I) (hlI:l≠I) (hn:xs.size≤fc)
  (hf:∀i x h,xs[i]? = some x→ba [s.heap.objs.size,I] s.heap h→(∃o,h.get? s.heap.objs.size=some o)→(∃o,h.get? I=some o)→Cd prog w A.in1.in1.in1 h [] f [x] (fun v h'=>P i v h')) (hP:∀i v h h',P i v h→ba [s.heap.objs.size,I] h h'→P i v h')
  (hQ:∀h' tk acc' c',ba [I] s.heap h'→h'.get? s.heap.objs.size=some (lo acc' c')→acc'.size=xs.size→(∀j v,acc'[j]? = some v→P j v h')→Q (.ref s.heap.objs.size) (sh s h' tk)) :
  aF (aB prog w) A (f6 (.type "list") [.ref z]) Q E s:=by
 have nS:∀{b:aH} {o:cA},s.heap.get? b=some o→b≠s.heap.objs.size:=fun e=>ei (cK e)
 have nD:∀{b:aH} {o:cA},s.heap.get? b=some o→b≠I→b∉[s.heap.objs.size,I]:=fun e n q=>by
  rcases aC.mp q with q|q2;rotate_left;rcases aD.mp q2 with q;rotate_left
  ·exact nS e q
  ·exact n q
 refine callType_codes (Q₁:=fun obj s₁=>obj=.ref s.heap.objs.size∧s₁={ s with heap:=s.heap.push { cls:=.type "list",data:=.seq #[]}}) F.called_list (F.typeCall_list_1 _) F.entry_list_init
  (code_list_new _ ⟨rfl,rfl⟩) fun obj s₁ h₁=>?_
 obtain ⟨rfl,rfl⟩:=h₁
 have k0:ba [] s.heap (s.heap.push { cls:=.type "list",data:=.seq #[]}):=.push _ _ _
 have hS:(s.heap.push { cls:=.type "list",data:=.seq #[]}).get? s.heap.objs.size=some { cls:=.type "list",data:=.seq #[]}:=bG _ rfl
 have hl0:=id hl
 obtain ⟨ol,q_⟩:=hl0;have hol:=q_.1;clear q_
 have hI0:=id hI
 obtain ⟨oi,q_⟩:=hI0;have hoi:=q_.1;clear q_
 refine ⟨⟨_,hS,rfl⟩,F.args_list_init_2 _ _,init (A:=A.in1) (s:={ s with heap:=s.heap.push { cls:=.type "list",data:=.seq #[]}}) (P:=P) hh (k0.get hz) (k0.get hT) (hI.at fun o e=>k0.get e) (hl.push _) (nD hz hzI) (nD hT hTI) (nD hol hlI) (dM (nS hoi)) hn
  (fun i x h hx hk e1 e2=>hf i x h hx ((k0.mono (by simp)).trans hk) e1 e2) hP hS fun h' tk acc' c' a1 a2 a3 a4=>?_⟩
 refine ⟨rfl,hQ h' tk acc' c' (fun b o e n=>a1 b o (k0.get e) (nD e fun q=>n (by simp [q]))) a2 a3 a4⟩
end
end MP
section
variable {prog:aV} {w:aP} {A:aS} {s:am} {e:gy} {h g:ay} {m:List (bU×ag)} {c:List (aH×cA)} {E:ag→am→Prop}
noncomputable def tW (prog:aV) (w:aP) (A:aS) (env:gy) (h:ay) (ex:au) (b:Bool):Prop:=
 ∀(s:am) (Q:Bool→am→Prop) (E:ag→am→Prop),s.heap=h→(∀h' tk,ba [] h h'→Q b (sh s h' tk))→aF (aB prog w) A (isTrue ex env (cO ex env)) Q E s
theorem tW.of {ex:au} {b b':Bool} (H:tW prog w A e h ex b) (q:b=b'):tW prog w A e h ex b':=q▸H
theorem tW.cmp {l r:au} {op:CmpOp} {pos:dJ} {P:ag→ay→Prop} {P':ag→ag→ay→Prop} {b:Bool} (hl:Eg prog w A e h l P) (hr:∀x h1,ba [] h h1→P x h1→Eg prog w A e h1 r (P' x))
  (hop:∀(x y:ag) (h2:ay),ba [] h h2→P' x y h2→∀(s:am) (Q:ag→am→Prop) (E:ag→am→Prop),s.heap=h2→(∀tk,Q (.bool b) { s with toks:=tk})→aF (aB prog w) A (ja op x y) Q E s)
  (hm:autoParam (i9 op r=false) rfE):tW prog w A e h (.Compare l [op] [r] pos) b:=fun s Q E hs hq=>by
 refine wpAny_isTrue_Compare1 (hl s _ _ hs fun v h1 tk k1 hv=>hr v h1 k1 hv _ _ _ rfl fun v' h2 tk' k2 hv'=>hop v v' h2 (k1.trans k2) hv' _ _ _ rfl fun tk2=>?_) hm
 exact ig (hq h2 _ (k1.trans k2))
theorem Fb {test:au} {body orelse:List fC} {pos:dJ} {b:Bool} {Q:dW→am→Prop} (H:tW prog w A e s.heap test b)
  (k:∀(h':ay) (tk:Nat),ba [] s.heap h'→aF (aB prog w) A (eK (if b then body else orelse) e) Q E (sh s h' tk)):aF (aB prog w) A (fA (.If test body orelse pos) e) Q E s:=
 wpAny_If (H s _ _ rfl fun h' tk k'=>by cases b<;>exact k h' tk k')
theorem xc {x name:bU} {pn ap pos:dJ} {ex:au} {rest:List au} {R:aH} {its:Array ag} {n:Nat} {id:String} {P:List ag→ay→Prop} {Q:ag→am→Prop}
  (S:St g e s.heap m c) (ho:s.heap.get? R=some (⟨.type "list",none,.seq its n,#[]⟩:cA)) (slot:Slot "list" name id) (hty:mh (.builtin id)=cJ (.type "method_descriptor")) (H:Es prog w A e s.heap (ex::rest) P)
  (k:∀vs h1 tk,ba [] s.heap h1→P vs h1→aF (aB prog w) A (sP (.builtin id) (.ref R::vs)) Q E (sh s h1 tk))
  (hv:autoParam (iF m x=some (.ref R)) rfA) (hl:autoParam (m0 e x=true) rfA) (hd:autoParam ((x==("__debug__" : bU))=false) rfD)
  {pl:mw Bool} (he:autoParam (cO (.Call (.Attribute (.Name x pn) name ap) (ex::rest) [] pos) e=(do
   let ov ←cO (.Name x pn) e
   fe ap.atName
   let (f,first) ←gf [ov] (gx ov name pl)
   g9 pos f first (gK pos (aE (ex::rest) e)) [])) rfA) (hst:autoParam (aE (ex::rest) e=(false,cO ex e)::aE rest e) rfA) (hp:autoParam ((gK pos (aE rest e)).any (·.1)=false) rfA) :
  aF (aB prog w) A (cO (.Call (.Attribute (.Name x pn) name ap) (ex::rest) [] pos) e) Q E s:=by
 refine jo (Ev.nm S hv hl hd s _ _ rfl fun v tk hv=>?_) he
 subst hv
 refine getMethod_list_of (s:={ s with toks:=tk}) slot hty (items:=its) ⟨_,ho,rfl,n,rfl⟩ ⟨_,ho,rfl⟩ ?_
 exact callWith_method1 (H pos { s with toks:=tk} _ _ rfl fun vs h1 tk1 k1 hp=>k vs h1 tk1 k1 hp) hst hp
theorem qL {x:bU} {pn ap pos ps:dJ} {ex:au} {R:aH} {its:Array ag} {n:Nat} {pre post:List (aH×cA)} {P:ag→ay→Prop} {Q:dW→am→Prop}
  (S:St g e s.heap m (pre++(R,{ cls:=.type "list",data:=.seq its n})::post)) (H:Eg prog w A e s.heap ex P) (hP:∀v h',P v h'→lT fun b its2 n2=>jn (v=.ref b) (h'.get? b=some (⟨.type "list",none,.seq its2 n2,#[]⟩:cA)) (its.size+its2.size≤2^20))
  (h1:∀p∈pre,p.1≠R) (h2:∀p∈post,p.1≠R)
  (k:∀b its2 n2 n' hv h' tk,ba [] s.heap hv→P (.ref b) hv→hv.get? b=some (⟨.type "list",none,.seq its2 n2,#[]⟩:cA)→ba [R] hv h'→St g e h' m (pre++(R,{ cls:=.type "list",data:=.seq (its++its2) n'})::post)→Q .next (sh s h' tk))
  (hv:autoParam (iF m x=some (.ref R)) rfA) (hl:autoParam (m0 e x=true) rfA) (hd:autoParam ((x==("__debug__" : bU))=false) rfD)
  {pl:mw Bool} (he:autoParam (cO (.Call (.Attribute (.Name x pn) rA ap) [ex] [] pos) e=(do
   let ov ←cO (.Name x pn) e
   fe ap.atName
   let (f,first) ←gf [ov] (gx ov rA pl)
   g9 pos f first (gK pos (aE [ex] e)) [])) rfA) (hst:autoParam (aE [ex] e=(false,cO ex e)::aE [] e) rfA)
  (hi:autoParam (qm e=false) rfA) (hsw:autoParam (jc (.Call (.Attribute (.Name x pn) rA ap) [ex] [] pos) none ps.line e=cJ false) rfA) :
  aF (aB prog w) A (fA (.Expr (.Call (.Attribute (.Name x pn) rA ap) [ex] [] pos) ps) e) Q E s:=by
 have hR:=S.own (R,{ cls:=.type "list",data:=.seq its n}) (by simp)
 refine sD (xc S hR.1 PySem.F.slot_list_extend PySem.F.type_list_extend (Es.one H hst) (fun vs hv tk k1 hp=>?_) hv hl hd he hst rfl) hi hsw
 obtain ⟨v,rfl,hp⟩:=hp
 obtain ⟨b,its2,n2,rfl,hb,hsz⟩:=hP v hv hp
 have hline:fc=2^24:=rfl
 have hR1:=k1.get hR.1
 refine rK PySem.F.slot_list_extend ⟨_,hR1,rfl⟩ PySem.F.entry_list_extend (PySem.F.args_list_extend_2 _ _) (AutoSeq1.list_extend_list_list_0 R its n b its2 n2 ?_ (by lia) (by exact ck (m:=2^20) (by assumption) (by with_unfolding_all rfl))) ⟨hR1,hb,?_⟩
 ·simp only [cc.List.listTooLong,g7,decide_eq_true_eq,not_and];intro _;lia
 ·have ho':=iG hR1 (fun x=>x++its2)
  have hs':cq R hv (hv.update R (dj fun x=>x++its2)):=cj ..
  exact k b its2 n2 _ hv _ tk k1 hp hb (.same hs') ((S.grow k1).change (.same hs') ho' h1 h2)
end
theorem dh {h h':ay} {a:aH} (k:ba [] h h') (n:h'.get? a=none):h.get? a=none:=by
 cases q:h.get? a with
 | none=>rfl
 | some o=>have:=k.get q;exact nn n this
theorem pu {h h':ay} {D:List aH} (hs:Sub h h') (hD:∀b∈D,h.get? b=none):Sub (bC h []) (bC h' D):=cM fun b o q O O=>⟨hs b o q,fun z=>by exact nn (hD b z) q⟩
structure iK (h1 h':ay) (a:aH) (o:cA):Prop where
 no:h1.get? a=none
 kept:ba [] h1 h'
 yes:h'.get? a=some o
noncomputable abbrev jX (vs:List ag):cA:={ cls:=.type "tuple",data:=.seq vs.toArray}
theorem iK.push (h:ay) (o:cA) (hf:autoParam (o.isFreed=false) rfA):iK h (h.push o) h.objs.size o:=⟨cP,.push _ _ _,bG _ hf⟩
section
variable {prog:aV} {w:aP} {A:aS} {s:am} {e:gy} {h g:ay} {m:List (bU×ag)} {c:List (aH×cA)} {E:ag→am→Prop}
theorem Eg.tup {elts:List au} {k:Nat} {pos:dJ} {P:List ag→ay→Prop} (H:Es prog w A e h elts P) (hl:∀vs h',P vs h'→vs.length≤fc) :
  Eg prog w A e h (.Tuple elts k pos) (fun v h'=>lT fun vs h1 a=>lO (ba [] h h1) (P vs h1) (v=.ref a) (iK h1 h' a (jX vs))):=
 (Eg.tuple H hl).mono fun v h' O ⟨vs,h1,k1,hp,e1,e2⟩=>⟨vs,h1,_,k1,hp,e1,e2▸.push _ _⟩
theorem Eg.lst {elts:List au} {pos:dJ} {P:List ag→ay→Prop} (H:Es prog w A e h elts P) (hl:∀vs h',P vs h'→vs.length≤fc) :
  Eg prog w A e h (.List elts pos) (fun v h'=>lT fun vs h1 a=>lO (ba [] h h1) (P vs h1) (v=.ref a) (iK h1 h' a { cls:=.type "list",data:=.seq vs.toArray})):=
 (Eg.list H hl).mono fun v h' O ⟨vs,h1,k1,hp,e1,e2⟩=>⟨vs,h1,_,k1,hp,e1,e2▸.push _ _⟩
theorem Eg.pair {x y:au} {k:Nat} {pos:dJ} {a b:Int} (Hx:Ev prog w A e h x (fr a)) (Hy:Ev prog w A e h y (fr b)) (hx:autoParam (aE [x,y] e=(false,cO x e)::aE [y] e) rfA) (hy:autoParam (aE [y] e=(false,cO y e)::aE [] e) rfA) :
  Eg prog w A e h (.Tuple [x,y] k pos) (fun v h'=>g8 fun vs t=>jn (cf vs [a,b]) (v=.ref t) (iK h h' t (jX vs))):=
 (Eg.tup (Es.more Hx (Es.more Hy Es.nil hy) hx) (by rintro vs h' ⟨_,v1,vs1,rfl,_,v2,vs2,rfl,_,rfl⟩;show 2≤2^24;decide)).mono fun v h' O q=>by
  obtain ⟨vs,h1,t,k1,⟨rfl,u1,vs1,rfl,⟨t1,rfl⟩,u2,vs2,rfl,⟨t2,rfl⟩,rfl⟩,e1,hn⟩:=q
  exact ⟨_,t,.cons _ _ (.cons _ _ .nil),e1,hn⟩
theorem Eg.trip {x y z:au} {k:Nat} {pos:dJ} {a b d:Int} (Hx:Ev prog w A e h x (fr a)) (Hy:Ev prog w A e h y (fr b)) (Hz:Ev prog w A e h z (fr d)) (hx:autoParam (aE [x,y,z] e=(false,cO x e)::aE [y,z] e) rfA) (hy:autoParam (aE [y,z] e=(false,cO y e)::aE [z] e) rfA) (hz:autoParam (aE [z] e=(false,cO z e)::aE [] e) rfA) :
  Eg prog w A e h (.Tuple [x,y,z] k pos) (fun v h'=>g8 fun vs t=>jn (cf vs [a,b,d]) (v=.ref t) (iK h h' t (jX vs))):=
 (Eg.tup (Es.more Hx (Es.more Hy (Es.more Hz Es.nil hz) hy) hx) (by rintro vs h' ⟨_,v1,vs1,rfl,_,v2,vs2,rfl,_,v3,vs3,rfl,_,rfl⟩;show 3≤2^24;decide)).mono fun v h' O q=>by
  obtain ⟨vs,h1,t,k1,⟨rfl,u1,vs1,rfl,⟨t1,rfl⟩,u2,vs2,rfl,⟨t2,rfl⟩,u3,vs3,rfl,⟨t3,rfl⟩,rfl⟩,e1,hn⟩:=q
  exact ⟨_,t,.cons _ _ (.cons _ _ (.cons _ _ .nil)),e1,hn⟩
end
theorem VT.new {h1 h' h'':ay} {vs:List ag} {xs:List Int} {D:List aH} {t:aH} (hi:cf vs xs) (hN:iK h1 h' t (jX vs)) (hk:ba D h' h'') (hn:t∉D):VT (bC h'' D) (.ref t) xs:=
 ⟨_,rfl,IT.still ⟨vs,⟨_,hk _ _ hN.yes hn,rfl,_,rfl⟩,hi⟩ hn⟩
theorem iK.notin {h1 h':ay} {t:aH} {o:cA} {D:List aH} (hN:iK h1 h' t o) (hD:vS D h1):t∉D:=qJ hD hN.no
theorem Es.two {prog:aV} {w:aP} {A:aS} {e:gy} {h:ay} {x y:au} {P1:ag→ay→Prop} {P2:ag→ay→ag→ay→Prop} (H1:Eg prog w A e h x P1) (H2:∀u h1,ba [] h h1→P1 u h1→Eg prog w A e h1 y (P2 u h1))
  (hx:autoParam (aE [x,y] e=(false,cO x e)::aE [y] e) rfA) (hy:autoParam (aE [y] e=(false,cO y e)::aE [] e) rfA) :
  Es prog w A e h [x,y] (fun vs h'=>lT fun u v h1=>qp (vs=[u,v]) (ba [] h h1) (P1 u h1) (ba [] h1 h') (P2 u h1 v h')):=
 Es.cons H1 (fun u h1 k1 hu=>(Es.one (H2 u h1 k1 hu) hy).mono fun vs h2 k2 q=>by
  obtain ⟨v,rfl,q⟩:=q
  exact ⟨u,v,h1,rfl,k1,hu,k2,q⟩) hx
section
variable {prog:aV} {w:aP} {A:aS} {s:am} {e:gy} {h g:ay} {m:List (bU×ag)} {c:List (aH×cA)} {E:ag→am→Prop}
theorem rT (A:aS) (s:am) (a b:Int) (t u:jR):lW A s (.int a t) (.int b u) (a==b):=fun prog w E Q q=>iI q
theorem As {a b:aH} {us vs:List ag} {x y x' y':Int} {Q:ag→am→Prop} (hu:A.units<cLine) (ha:s.heap.get? a=some (jX us)) (hb:s.heap.get? b=some (jX vs)) (hus:cf us [x,y]) (hvs:cf vs [x',y'])
  (q:Q (.bool (!(x==x' && y==y'))) s):aF (aB prog w) A (ja .NotEq (.ref a) (.ref b)) Q E s:=by
 cases hus with|cons _ t1 hus=>cases hus with|cons _ t2 hus=>cases hus with|nil=>
 cases hvs with|cons _ u1 hvs=>cases hvs with|cons _ u2 hvs=>cases hvs with|nil=>
 have:=SeqAt.RcNeAt.tuples (A:=A) (s:=s) (items:=#[.int x t1,.int y t2]) (items2:=#[.int x' u1,.int y' u2]) (e:=fun j=>if j=0 then x==x' else y==y') ⟨_,ha,rfl,_,rfl⟩ ⟨_,hb,rfl,_,rfl⟩ hu (fun j h1 h2=>by
  rcases j with _|_|j
  ·exact rT _ _ _ _ _ _
  ·exact rT _ _ _ _ _ _
  ·exact absurd h1 (i7.mpr (ci 2 j)))
 refine this prog w E Q ?_
 simpa [qh] using q
end
theorem VT.two {h:ay} {v:ag} {x y:Int} (q:VT h v [x,y]):lT fun a t1 t2=>v=.ref a∧IsTup h a #[.int x t1,.int y t2]:=by
 obtain ⟨a,rfl,vs,ht,hi⟩:=q
 cases hi with
 | cons _ t1 hi=>cases hi with
  | cons _ t2 hi=>cases hi;exact ⟨a,t1,t2,rfl,ht⟩
section
variable {prog:aV} {w:aP} {A:aS} {s:am} {e:gy} {h g:ay} {m:List (bU×ag)} {c:List (aH×cA)} {E:ag→am→Prop}
theorem tW.nePairs {x y x' y':au} {k k':Nat} {p1 p2 pos:dJ} {a b a' b':Int} (hu:A.units<cLine) (Hx:Ev prog w A e h x (fr a)) (Hy:Ev prog w A e h y (fr b)) (Hx':∀h1,ba [] h h1→Ev prog w A e h1 x' (fr a')) (Hy':∀h1,ba [] h h1→Ev prog w A e h1 y' (fr b'))
  (hx:autoParam (aE [x,y] e=(false,cO x e)::aE [y] e) rfA) (hy:autoParam (aE [y] e=(false,cO y e)::aE [] e) rfA) (hx':autoParam (aE [x',y'] e=(false,cO x' e)::aE [y'] e) rfA) (hy':autoParam (aE [y'] e=(false,cO y' e)::aE [] e) rfA)
  (hm:autoParam (i9 .NotEq (.Tuple [x',y'] k' p2)=false) rfE) :
  tW prog w A e h (.Compare (.Tuple [x,y] k p1) [.NotEq] [.Tuple [x',y'] k' p2] pos) (!(a==a' && b==b')):=
 tW.cmp (P':=fun v v' h2=>oN fun us vs t t'=>uB (cf us [a,b]) (cf vs [a',b']) (v=.ref t) (v'=.ref t') (h2.get? t=some (jX us)) (h2.get? t'=some (jX vs))) (Eg.pair Hx Hy hx hy)
  (fun v h1 k1 hv=>(Eg.pair (Hx' h1 k1) (Hy' h1 k1) hx' hy').mono fun v' h2 k2 hv'=>by
   obtain ⟨us,t,hi,rfl,hN⟩:=hv
   obtain ⟨vs,t',hi',rfl,hN'⟩:=hv'
   exact ⟨us,vs,t,t',hi,hi',rfl,rfl,k2.get hN.yes,hN'.yes⟩)
  (fun v v' h2 k2 q s Q E hs kk=>by
   obtain ⟨us,vs,t,t',hi,hi',rfl,rfl,h1,h2⟩:=q
   subst hs
   exact As hu h1 h2 hi hi' (kk s.toks)) hm
end
section
variable {prog:aV} {w:aP} {A:aS} {s:am} {e:gy} {h g:ay} {m:List (bU×ag)} {c:List (aH×cA)} {E:ag→am→Prop}
theorem ue {scope:Scope} {cl:List (bU×aH)} {C:aH} {h':ay} {m₃:bU→Option ag} {m':List (bU×ag)} (S:St g e h m c) (hk:∀b∈FA e,∀o,h.get? b=some o→h'.get? b=some o) (hC:h.get? C=none) (hn:h'.Ns C m₃)
  (hcl:∀p∈cl,e.cells.lookup p.1=some p.2) (hnd:(cl.map (·.1)).Nodup)
  (hloc:∀p∈m',(eD scope cl C e).kindOf p.1=some .local→m₃ p.1=some p.2) (hcel:∀p∈m',∀a,cl.lookup p.1=some a→iF m p.1=some p.2) :
  St (bp h' (FA (eD scope cl C e))) (eD scope cl C e) h' m' []:=by
 have hex:∀p∈cl,∃o,h.get? p.2=some o∧h'.get? p.2=some o:=fun p hp=>by
  obtain ⟨o,ho⟩:=S.lie _ (FA.cell (hcl p hp))
  exact ⟨o,ho,hk _ (FA.cell (hcl p hp)) o ho⟩
 refine ⟨⟨m₃,hn,pN fun p hp=>hloc p hp⟩,fun x a ha=>?_,?_,fun p hp q=>?_,fun b o q=>fE _ q,fun a ha=>cQ _ ha,fun a ha=>?_,fun p hp=>(by cases hp)⟩
 ·have hm:=hcl _ (em (show cl.lookup x=some a from ha))
  obtain ⟨v?,⟨o,ho,hd⟩,hv⟩:=S.cl x a hm
  refine ⟨v?,⟨o,hk _ (FA.cell hm) o ho,hd⟩,fun v hx=>hv v ?_⟩
  exact hcel (x,v) (em hx) a ha
 ·show cl.Pairwise _
  have:=S.apart
  clear hcel hloc hex
  induction cl with
  | nil=>exact dg
  | cons p r ih=>
   obtain ⟨h1,h2⟩:=lz.mp hnd
   refine ez.mpr ⟨fun q hq z=>h1 ?_,ih (fun p hp=>hcl p (.tail _ hp)) h2⟩
   have a1:=em (hcl p (.head _))
   have a2:=em (hcl q (.tail _ hq))
   have:=AF this a1 (z▸a2)
   exact b9.mpr ⟨q,hq,this.symm⟩
 ·obtain ⟨o,ho,_⟩:=hex p hp
  rw [show p.2=C from q,hC] at ho;cases ho
 ·cases ha with
  | head=>obtain ⟨o,_,_,q_⟩:=hn;have ho:=q_.1;clear q_;exact ⟨o,ho⟩
  | tail _ ha=>
   obtain ⟨p,hp,rfl⟩:=b9.mp ha
   obtain ⟨o,_,ho⟩:=hex p hp
   exact ⟨o,ho⟩
noncomputable def Dq:ag→Int
 | .int n _=>n
 | _=>0
theorem qV:∀(vs:List ag) (q:Nat→Int),(∀(j:Nat) (v:ag),vs[j]? = some v→∃t,v=gu (q j) t)→cf vs ((bO vs.length).map q)
 | [],q,_=>.nil
 | v::vs,q,hv=>by
  obtain ⟨t,rfl⟩:=hv 0 v rfl
  rw [cS,pH,ft,List.map_map]
  exact .cons _ t (qV vs (q∘Nat.succ) fun j v h=>hv (j+1) v (by simpa using h))
theorem u8 {p:Int→Bool}:∀{vs:List ag} {xs:List Int},cf vs xs→cf (vs.filter fun v=>p (Dq v)) (xs.filter p):=fun h=>by
 induction h with
 | nil=>exact .nil
 | cons n t _ ih=>
  cases q:p n with
  | true=>rw [List.filter_cons_of_pos (by exact q),List.filter_cons_of_pos q];exact .cons n t ih
  | false=>rw [List.filter_cons_of_neg (by exact ne_true_of_eq_false q),List.filter_cons_of_neg (ne_true_of_eq_false q)];exact ih
theorem yJ {α:Type} {l m:List α} (x:Paired (fun v y=>y=v) l m):m=l:=by
 induction x with
 | nil=>rfl
 | cons a _ b=>rw [a,b]
theorem AY {I:aH} {fp wr:List aH} {n:Nat} {P:Nat→ag→Prop} {T:Nat→ay→Prop} (W:ql prog w A I fp wr n P T):ql prog w A I fp wr n (fun i v=>P i v∧i<n) T:=
 { W with item:=fun i s Q E hi hst k=>W.item i s Q E hi hst fun v h' tk hp=>k v h' tk ⟨hp,hi⟩}
theorem Eg.lcRange {x:bU} {p1 px pos:dJ} {iter test:au} {scope:Scope} {cl:List (bU×aH)} {n:Nat} {f:Nat→Bool} {m':List (bU×ag)} (hh:A.handled=none) (S:St g e h m c)
  (hi:Eg prog w A e h iter (pM 0 n)) (hn:n≤2^24)
  (ht:∀C i t h',(∀b o,h.get? b=some o→h'.get? b=some o)→St (bp h' (FA (eD scope cl C e))) (eD scope cl C e) h' ((x,.int ((i:Nat):Int) t)::m') []→i<n→tW prog w A (eD scope cl C e) h' test (f i))
  (hclos:closureFor scope e=cJ cl) (hcl:∀p∈cl,e.cells.lookup p.1=some p.2) (hnd:(cl.map (·.1)).Nodup) (hxc:cl.lookup x=none)
  (hm':∀p∈m',iF m p.1=some p.2) (hkl:∀C,∀p∈m',(eD scope cl C e).kindOf p.1≠some .local) (hxl:∀C,m0 (eD scope cl C e) x=true) (hdbg:(x==("__debug__" : bU))=false)
  (hcell:∀y∈scope.names,y.2≠.cell) (hkind:scope.kind=.function) (hnames:∀y∈scope.names,y.2=.local→scope.names.lookup y.1=some .local) (hx:scope.names.lookup x=some .local)
  (hs:autoParam (∀x,er iter e x=cJ x) rfA) :
  Eg prog w A e h (.ListComp (.Name x p1) [⟨.Name x px,iter,[test],0⟩] scope pos) (fun v h'=>g8 fun a vs=>lO (v=.ref a) (h.get? a=none) (h'.PlainList a vs.toArray) (cf vs (((bO n).filter f).map fun i:Nat=>(i:Int)))):=fun s Q E hs' k=>by
 subst hs'
 refine wpAny_ListComp_free (fun v=>f (Dq v).toNat) (fun v y=>y=v) hclos hcell hkind hnames hx (hi s _ _ rfl fun v h1 tk k1 hv=>?_) hs
 obtain ⟨r,t,u,v',b,rfl,hr,ha,hb,ha',hb',hnb⟩:=hv
 refine wpAny_pyIter_range (s:=sh s h1 tk) hr (small_one ha ha' hb' hb) ?_
 have hsz:ra 0 b 1=(n:Int):=by rw [rangeSize_one,hnb];split<;>lia
 refine hsz.symm▸?_
 have hfr:∀(s₃:am),(∀b o,b∉[h1.objs.size]→(h1.push { cls:=.type "range_iterator",data:=.fields #[dy 0,dy (n:Int),dy 1]}).get? b=some o→s₃.heap.get? b=some o)→∀b o,s.heap.get? b=some o→s₃.heap.get? b=some o:=fun s₃ hk b o q=>
  hk b o (fun z=>by
   obtain rfl:=aD.mp z
   have:=k1.get q;exact nn cP this) (bo _ (k1.get q))
 have hCn:∀C:aH,(h1.push { cls:=.type "range_iterator",data:=.fields #[dy 0,dy (n:Int),dy 1]}).objs.size≤C→s.heap.get? C=none:=fun C hC=>by
  cases q:s.heap.get? C with
  | none=>rfl
  | some o=>
   have h1:=cK (bo { cls:=.type "range_iterator",data:=.fields #[dy 0,dy (n:Int),dy 1]} (k1.get q))
   exact absurd h1 (i7.mpr hC)
 have mkSt:∀(C:aH) (i:Nat) (t:jR) (s₃:am) (m₃:bU→Option ag),s.heap.get? C=none→s₃.heap.Ns C m₃→m₃ x=some (.int (i:Int) t)→(∀b o,s.heap.get? b=some o→s₃.heap.get? b=some o)→
   St (bp s₃.heap (FA (eD scope cl C e))) (eD scope cl C e) s₃.heap ((x,.int (i:Int) t)::m') []:=fun C i t s₃ m₃ hC hn hm hk=>
  ue S (fun b O o q=>hk b o q) hC hn hcl hnd (fun p hp hl=>by
   cases hp with
   | head=>exact hm
   | tail _ hp=>exact absurd hl (hkl C p hp)) (fun p hp a ha=>by
   cases hp with
   | head=>exact nn hxc ha
   | tail _ hp=>exact hm' p hp)
 refine ⟨h1.objs.size,[h1.objs.size],[h1.objs.size],n,_,_,rfl,AY (ql.range hh h1.objs.size 0 1 n),hn,?_,?_,⟨?_,?_⟩,?_⟩
 ·show IsRangeIter _ _ _ _ _
  exact bG _ rfl
 ·intro b hb
  obtain rfl:=aD.mp hb
  exact cK (bG _ rfl)
 ·rintro C i v s₃ m₃ E' hC ⟨⟨t,rfl⟩,hin⟩ hn3 hm3 hk3 htk
  rw [lU,Int.mul_one] at hm3 ⊢
  rw [dS]
  refine ae ?_
  skip
  refine ae (ht C i t s₃.heap (hfr s₃ hk3) (mkSt C i t s₃ m₃ (hCn C hC) hn3 hm3 (hfr s₃ hk3)) hin s₃ _ _ rfl fun h' tk' k'=>ao ?_)
  skip
  skip
  exact ao ⟨rfl,h',tk',rfl,k'.all⟩
 ·rintro C i v s₃ m₃ E' hC ⟨⟨t,rfl⟩,hin⟩ hp hn3 hm3 hk3 htk
  rw [lU,Int.mul_one] at hm3 hp ⊢
  refine Ev.nm (mkSt C i t s₃ m₃ (hCn C hC) hn3 hm3 (hfr s₃ hk3)) (by simp [iF]) (hxl C) hdbg s₃ _ _ rfl fun v tk hv=>⟨hv,s₃.heap,tk,rfl,fun O O q=>q⟩
 ·intro D h' tk' ys vs hD hl hpl hlen hP hF hk'
  have hDs:s.heap.get? D=none:=by
   cases q:s.heap.get? D with
   | none=>rfl
   | some o=>replace hD:=(show (h1.push _).get? D=some o from bo _ (k1.get q))▸hD;cases hD
  refine k _ h' tk' (fun b o q O=>hfr { s with heap:=h'} hk' b o q) ⟨D,ys.toList,rfl,hDs,by simpa using hpl,?_⟩
  have hvs:=qV vs (fun i=>(i:Int)) fun j v hv=>by
   obtain ⟨⟨t,e⟩,_⟩:=hP j v hv
   exact ⟨t,by rw [e,lU,Int.mul_one]⟩
  rw [hlen] at hvs
  rw [yJ hF]
  have:=u8 (p:=fun z=>f z.toNat) hvs
  rw [List.filter_map] at this
  exact this
end
section
variable {prog:aV} {w:aP} {A:aS} {s:am} {e:gy} {h g:ay} {m:List (bU×ag)} {c:List (aH×cA)} {E:ag→am→Prop}
theorem xV:fD ER=some (.builtin "max"):=by decide +kernel
theorem sZ:fD Ao=some (.builtin "min"):=by decide +kernel
theorem xZ {l:aH} {vs:List ag} {ns:List Int} (hh:A.handled=none) (hl:h.IsList l vs.toArray) (hi:cf vs ns) (hne:0<ns.length) :
  Cg prog w A h (.builtin "max") [.ref l] (fun v O=>g8 fun M t=>jn (v=.int M t) (M∈ns) (∀a∈ns,a≤M)):=fun s Q E hs k=>by
 subst hs
 obtain ⟨xs,e⟩:=hi.allInts.items
 have hns:ns=xs.toList.map (·.1):=by
  exact hi.numsOf▸(nums_intItems _)▸e▸rfl
 have hsz:0<xs.size:=by
  have h3:=hne;rw [hns,eh,aJ] at h3;exact h3
 rw [e] at hl
 refine max_intList hh hl hsz fun v h' tk hv hk=>?_
 obtain ⟨t,rfl⟩:=intItems_at hv
 obtain ⟨h1,h2⟩:=argBest_gt (numAt xs) (xs.size-1)
 refine k _ h' tk (fun b o q O=>hk b o q) ⟨_,t,rfl,?_,fun a ha=>?_⟩
 ·rw [hns,numAt_eq];exact getD_mem (by rw [eh,aJ];exact c8 (.lt aq ar (.le aq az (.eq (.s 2 1) ar .o))) τ h1 (aa hsz))
 ·rw [hns] at ha
  obtain ⟨j,hj,rfl⟩:=mem_getD ha
  rw [eh,aJ] at hj
  rw [←numAt_eq];exact h2 j (by exact c8 (.le aq ar (.lt aq az (.le az (.s 1 1) .o))) τ hj bZ)
theorem Eg.maxL {p pos:dJ} {ex:au} {P:ag→ay→Prop} {ns:List Int} (hh:A.handled=none) (C:Cx w h) (H:Eg prog w A e h ex P) (hP:∀v h',P v h'→g8 fun a vs=>jn (v=.ref a) (h'.IsList a vs.toArray) (cf vs ns)) (hne:0<ns.length) (hk:autoParam (e.scope.kind=.function) rfA) (hx:autoParam (e.kindOf ER=some .globalImplicit) rfA)
  (hg:autoParam (e.globals=cu) rfA) (hbi:autoParam (e.builtins=ej) rfA) (he:autoParam (aE [ex] e=(false,cO ex e)::aE [] e) rfA) :
  Eg prog w A e h (.Call (.Name ER p) [ex] [] pos) (fun v O=>g8 fun M t=>jn (v=.int M t) (M∈ns) (∀a∈ns,a≤M)):=
 Eg.callB (Ev.bltn C (fun O=>by kernel_rfl!) xV (by decide +kernel) hk hx hg hbi) (Es.one H he) (fun vs h1 k1 hv=>by
  obtain ⟨v,rfl,hv⟩:=hv
  obtain ⟨a,vs,rfl,hl,hi⟩:=hP v h1 hv
  exact xZ hh hl hi hne) he rfl
theorem Eg.min2 {p pos:dJ} {x y:au} {a b:Int} (hh:A.handled=none) (C:Cx w h) (Hx:Ev prog w A e h x (fr a)) (Hy:Ev prog w A e h y (fr b)) (hk:autoParam (e.scope.kind=.function) rfA) (hx:autoParam (e.kindOf Ao=some .globalImplicit) rfA)
  (hg:autoParam (e.globals=cu) rfA) (hbi:autoParam (e.builtins=ej) rfA) (h1:autoParam (aE [x,y] e=(false,cO x e)::aE [y] e) rfA) (h2:autoParam (aE [y] e=(false,cO y e)::aE [] e) rfA) :
  Eg prog w A e h (.Call (.Name Ao p) [x,y] [] pos) (fun v O=>fr (if b<a then b else a) v):=
 Eg.callB (Ev.bltn C (fun O=>by kernel_rfl!) sZ (by decide +kernel) hk hx hg hbi) (Es.more Hx (Es.more Hy Es.nil h2) h1) (fun vs h1 k1 hv=>by
  obtain ⟨rfl,v,vs',rfl,⟨t,rfl⟩,u,vs'',rfl,⟨t',rfl⟩,rfl⟩:=hv
  exact fun s Q E hs k=>by
   subst hs
   exact min_two_ints hh fun h' tk hk=>k _ h' tk (fun b o q O=>hk b o q) (by split<;>exact ⟨_,rfl⟩)) h1 (by rw [h2];rfl)
theorem Eg.sliceL {value:au} {lower upper:Option au} {p pos:dJ} {a:aH} {items:Array ag} {lo hi:Option Int} (H:Ev prog w A e h value (· = .ref a)) (hl:h.IsList a items) (hsz:items.size≤2^24)
  (Hl:∀(s:am) (Q:ag→am→Prop) (E:ag→am→Prop),s.heap=h→(∀v tk,IsPart v lo→Q v { s with toks:=tk})→aF (aB prog w) A (evalPart lower e) Q E s)
  (Hu:∀(s:am) (Q:ag→am→Prop) (E:ag→am→Prop),s.heap=h→(∀v tk,IsPart v hi→Q v { s with toks:=tk})→aF (aB prog w) A (evalPart upper e) Q E s)
  (ht:autoParam (∀o r,fb value o r=cJ ()) rfA) :
  Eg prog w A e h (.Subscript value (.Slice lower upper none p) pos) (fun v h'=>∃b,v=.ref b∧iK h h' b { cls:=.type "list",data:=.seq (slicePick items lo hi none)}):=fun s Q E hs k=>by
 subst hs
 refine wpAny_Subscript_list_slice (H s _ _ rfl fun v tk hv=>Hl _ _ _ rfl fun vl tk1 hvl=>Hu _ _ _ rfl fun vu tk2 hvu=>⟨a,items,lo,hi,hv,hl,hsz,hvl,hvu,?_⟩) ht
 have k1:ba [] s.heap (s.heap.push { cls:=.type "slice",data:=.fields #[vl,vu,.none]}):=.push _ _ _
 have hN:=iK.push (s.heap.push { cls:=.type "slice",data:=.fields #[vl,vu,.none]}) { cls:=.type "list",data:=.seq (slicePick items lo hi none)}
 have hs1:(s.heap.push { cls:=.type "slice",data:=.fields #[vl,vu,.none]}).objs.size=s.heap.objs.size+1:=lf ..
 rw [hs1] at hN
 exact k _ _ tk2 (k1.trans hN.kept) ⟨_,rfl,dh k1 hN.no,k1.trans hN.kept,hN.yes⟩
theorem j5:∀(s:am) (Q:ag→am→Prop) (E:ag→am→Prop),s.heap=h→(∀v tk,IsPart v none→Q v { s with toks:=tk})→aF (aB prog w) A (evalPart none e) Q E s:=fun s Q E hs k=>by
 rw [evalPart_none];exact ao (k _ s.toks .none)
theorem gh {x:au} {a:Int} (H:Ev prog w A e h x (fr a)):∀(s:am) (Q:ag→am→Prop) (E:ag→am→Prop),s.heap=h→(∀v tk,IsPart v (some a)→Q v { s with toks:=tk})→aF (aB prog w) A (evalPart (some x) e) Q E s:=fun s Q E hs k=>by
 skip
 refine H s _ _ hs fun v tk hv=>?_
 obtain ⟨t,rfl⟩:=hv
 exact k _ tk (.int a t)
end
section
variable {prog:aV} {w:aP} {A:aS} {s:am} {e:gy} {h g:ay} {m:List (bU×ag)} {c:List (aH×cA)} {E:ag→am→Prop}
theorem zv {sl:aH} {u:jR} {Q:Int×Int×Nat→am→Prop} (hs:s.heap.IsSliceOf sl .none (.int 2 u) .none) (k:Q ((0:Int),1,2) s):aF (aB prog w) A (cc.Slice.sliceApplied (.ref sl) (cJ ((3:Nat):Int))) Q E s:=by
 obtain ⟨os,hos,hcs,hds⟩:=id hs
 skip
 refine ae (ae (iQ hos hds (x:=.none) rfl (ae (iQ hos hds (x:=.int 2 u) rfl (ae (iQ hos hds (x:=.none) rfl (ao ?_)))))))
 refine ae (slicePart_none ?_)
 exact ae (slicePart_none (ae (slicePart_int (ae (ao (ao k))))))
theorem u6 {t sl:aH} {x y z:ag} {u:jR} {Q:ag→am→Prop} (ht:IsTup s.heap t #[x,y,z]) (hs:s.heap.IsSliceOf sl .none (.int 2 u) .none)
  (k:Q (.ref s.heap.objs.size) { s with heap:=s.heap.push { cls:=.type "tuple",data:=.seq #[x,y]}}):aF (aB prog w) A (getItem (.ref t) (.ref sl)) Q E s:=by
 obtain ⟨os,hos,hcs,hds⟩:=id hs
 have hTs:s.TypeIs (.ref sl) "slice" :=⟨os,hos,hcs⟩
 unfold getItem
 try with_reducible refine bM ?_
 first|refine ae (ao ?_)|skip
 refine ae (wpAny_sequenceKey ht.typeIs (by decide) ?_)
 refine ae (eQ (name:=cL "__getitem__") ht.typeIs slot_tuple_getitem
  (db slot_tuple_getitem ht.typeIs entry_tuple_getitem ?_ (args_tuple_getitem _ _)))
 show aF _ _ (cc.Tuple.tupleItemsOf (.ref t) >>= _) _ _ s
 refine ae (tupleItemsOf_ ht ?_)
 refine ae (wpAny_typeOf hTs ?_)
 skip
 refine ae (zv hs ?_)
 skip
 skip
 first
  | exact ae (m:=qq _) (dq (ao ⟨_,rfl,ao k⟩) (by show 2≤2^24;decide))
  | exact ae (ae (m:=qq _) (dq (ao (ao ⟨_,rfl,ao k⟩)) (by show 2≤2^24;decide)))
  | exact ae (ae (m:=qq _) (dq (ao ⟨_,rfl,ao k⟩) (by show 2≤2^24;decide)))
end
section
variable {prog:aV} {w:aP} {A:aS} {s:am} {e:gy} {h g:ay} {m:List (bU×ag)} {c:List (aH×cA)} {E:ag→am→Prop}
theorem ya {t:aH} {a b:Int} {u v:jR} (hh:A.handled=none) (ht:IsTup h t #[.int a u,.int b v]):Cg prog w A h (.builtin "min") [.ref t] (fun r O=>fr (if b<a then b else a) r):=fun s Q E hs k=>by
 subst hs
 have hT:s.heap.IsTuple t (intItems #[(a,u),(b,v)]):=by
  obtain ⟨o,ho,hc,n,hd⟩:=ht
  exact ⟨o,ho,hc,n,by simpa [intItems] using hd⟩
 have hlt:t<s.heap.objs.size:=by obtain ⟨o,ho,_⟩:=ht;exact cK ho
 refine call_min_walk (wpAny_pyIter_tuple hT ?_)
 refine ⟨_,[_,t],[_],_,_,_,_,rfl,ql.tuple (A:=A.in1) hh _ t (ei hlt) (intItems #[(a,u),(b,v)]),
  ⟨⟨_,bG _ rfl,rfl,rfl⟩,hT.push _⟩,fun c hc=>?_,by simp [intItems],CmpOf.ints_lt (numAt #[(a,u),(b,v)]) (fun O O=>intItems_at),fun r h' tk hP hk=>?_⟩
 ·show c<(s.heap.push _).objs.size
  rw [lf]
  rcases aC.mp hc with rfl|hc
  ·exact kD _
  ·rcases aC.mp hc with rfl|hc
   ·exact Nat.lt_succ_of_lt hlt
   ·cases hc
 ·have hold:∀c o,s.heap.get? c=some o→h'.get? c=some o:=fun c o q=>by
   refine hk c o (fun hm=>?_) (bo _ q)
   obtain rfl:=aD.mp hm
   exact absurd (cK q) (dT _)
  obtain ⟨t',rfl⟩:=intItems_at hP
  refine k _ h' tk (fun b o q O=>hold b o q) ⟨t',?_⟩
  congr 1
  have h3:(intItems #[(a,u),(b,v)]).size-1=1:=by simp [intItems]
  rw [h3] at hP ⊢
  obtain ⟨h1,h2⟩:=argBest_lt (numAt #[(a,u),(b,v)]) 1
  have h20:=h2 0 (by exact Nat.le_succ _)
  have h21:=h2 1 (by exact ci _ _)
  have n0:numAt #[(a,u),(b,v)] 0=a:=rfl
  have n1:numAt #[(a,u),(b,v)] 1=b:=rfl
  rw [n0] at h20
  rw [n1] at h21
  generalize argBest (fun i j=>decide (numAt #[(a,u),(b,v)] i<numAt #[(a,u),(b,v)] j)) 1=i at h1 h20 h21
  have:i=0∨i=1:=by lia
  rcases this with rfl|rfl
  ·rw [n0] at h21 ⊢;split<;>lia
  ·rw [n1] at h20 ⊢;split<;>lia
theorem Eg.minT {p pos:dJ} {ex:au} {P:ag→ay→Prop} {a b:Int} (hh:A.handled=none) (C:Cx w h) (H:Eg prog w A e h ex P) (hP:∀v h',P v h'→lT fun t u v'=>v=.ref t∧IsTup h' t #[.int a u,.int b v']) (hk:autoParam (e.scope.kind=.function) rfA) (hx:autoParam (e.kindOf Ao=some .globalImplicit) rfA)
  (hg:autoParam (e.globals=cu) rfA) (hbi:autoParam (e.builtins=ej) rfA) (he:autoParam (aE [ex] e=(false,cO ex e)::aE [] e) rfA) :
  Eg prog w A e h (.Call (.Name Ao p) [ex] [] pos) (fun v O=>fr (if b<a then b else a) v):=
 Eg.callB (Ev.bltn C (fun O=>by kernel_rfl!) sZ (by decide +kernel) hk hx hg hbi) (Es.one H he) (fun vs h1 k1 hv=>by
  obtain ⟨v,rfl,hv⟩:=hv
  obtain ⟨t,u,v',rfl,ht⟩:=hP v h1 hv
  exact ya hh ht) he rfl
theorem zL {a b:aH} {us vs:List ag} {xs ys:List Int} {Q:ag→am→Prop} (hu:A.units<cLine) (ha:s.heap.IsList a us.toArray) (hb:s.heap.IsList b vs.toArray) (hus:cf us xs) (hvs:cf vs ys)
  (q:Q (.bool (xs==ys)) s):aF (aB prog w) A (ja .Eq (.ref a) (.ref b)) Q E s:=by
 have l1:=hus.length
 have l2:=hvs.length
 by_cases hl:xs.length=ys.length
 ·refine SeqAt.eq_listAt (e:=fun j=>xs.getD j 0==ys.getD j 0) ha hb (by simp;exact ak (cR (.le aq ar (.eq aq az (.qe ar aI (.eq az aI .o)))) τ l1 l2 hl) (cR (.le aq ar (.qe ar az (.eq aq aI (.qe az aI .o)))) τ l1 l2 hl)) hu (fun j h1 h2=>?_) ?_
  ·have h1':j<xs.length:=by simp at h1;exact av h1 (aA l1)
   have h2':j<ys.length:=by simp at h2;exact av h2 (aA l2)
   obtain ⟨t,e1⟩:=hus.get j _ (aW h1')
   obtain ⟨u,e2⟩:=hvs.get j _ (aW h2')
   have q1:us.toArray[j]=.int (xs.getD j 0) t:=by
    have:us.toArray[j]? = some (.int (xs.getD j 0) t):=by simp [e1,aW h1']
    exact (Array.getElem?_eq_some_iff.mp this).2
   have q2:vs.toArray[j]=.int (ys.getD j 0) u:=by
    have:vs.toArray[j]? = some (.int (ys.getD j 0) u):=by simp [e2,aW h2']
    exact (Array.getElem?_eq_some_iff.mp this).2
   rw [q1,q2]
   exact rT _ _ _ _ _ _
  ·have:((bO us.toArray.size).all fun j=>xs.getD j 0==ys.getD j 0)=(xs==ys):=by
    rw [de,oP,beq_iff_eq]
    constructor
    ·intro hx
     refine List.ext_getElem hl fun j h1 h2=>?_
     have:=hx j (fy.mpr (by simp;exact av h1 (aA (cB l1))))
     rw [beq_iff_eq] at this
     simpa [cC,aW h1,aW h2] using this
    ·rintro rfl j _;simp
   rw [this];exact q
 ·refine SeqAt.eq_list_lengthsAt ha hb (by simp;exact fun ζ0=>(aK hl).elim (fun ζ2=>cR (.ff (.eq aq ar (.qe az aI (.qe aq az (.lt ar aI .o))))) τ l1 l2 ζ0 ζ2) fun ζ2=>cR (.ff (.qe aq ar (.eq az aI (.eq aq az (.lt aI ar .o))))) τ l1 l2 ζ0 ζ2) hu ?_
  have:(xs==ys)=false:=by rw [beq_eq_false_iff_ne];intro z;exact hl (by rw [z])
  rw [this] at q;exact q
end
section
variable {prog:aV} {w:aP} {A:aS} {s:am} {e:gy} {h g:ay} {m:List (bU×ag)} {c:List (aH×cA)} {E:ag→am→Prop}
theorem th:∀{vs:List ag} {xs:List Int} (n:Nat),cf vs xs→cf (vs.drop n) (xs.drop n):=fun n h=>by
 induction h generalizing n with
 | nil=>cases n<;>exact .nil
 | cons x t y ih=>cases n with
  | zero=>exact .cons x t y
  | succ n=>exact ih n
theorem qB:∀{vs:List ag} {xs:List Int} (n:Nat),cf vs xs→cf (vs.take n) (xs.take n):=fun n h=>by
 induction h generalizing n with
 | nil=>cases n<;>exact .nil
 | cons x t _ ih=>cases n with
  | zero=>exact .nil
  | succ n=>exact .cons x t (ih n)
theorem Eg.sliceI {value lower upper:au} {p pos:dJ} {f:aH} {xs:List Int} {a b:Nat} (H:Ev prog w A e h value (· = .ref f)) (hl:IL h f xs) (hsz:xs.length≤2^24) (Ha:Ev prog w A e h lower (fr a)) (Hb:Ev prog w A e h upper (fr b)) (hab:a≤b) (hb:b≤xs.length)
  (ht:autoParam (∀o r,fb value o r=cJ ()) rfA) :
  Eg prog w A e h (.Subscript value (.Slice (some lower) (some upper) none p) pos) (fun v h'=>g8 fun r us=>lO (v=.ref r) (h'.IsList r us.toArray) (cf us ((xs.drop a).take (b-a))) (iK h h' r { cls:=.type "list",data:=.seq us.toArray})):=by
 obtain ⟨vs,q_⟩:=hl;have hl:=q_.1;have hi:=q_.2;clear q_
 have hlen:=hi.length
 refine (Eg.sliceL H hl (by simp;lia) (gh Ha) (gh Hb) ht).mono fun v h' O q=>?_
 obtain ⟨r,rfl,hN⟩:=q
 rw [slicePick_run _ a b (by simp;exact aj hb (aA (cB hlen))) hab] at hN
 exact ⟨r,_,rfl,⟨_,hN.yes,rfl,_,rfl⟩,qB _ (th _ hi),hN⟩
theorem Eg.uptoI {value upper:au} {p pos:dJ} {f:aH} {xs:List Int} {b:Nat} (H:Ev prog w A e h value (· = .ref f)) (hl:IL h f xs) (hsz:xs.length≤2^24) (Hb:Ev prog w A e h upper (fr b))
  (ht:autoParam (∀o r,fb value o r=cJ ()) rfA) :
  Eg prog w A e h (.Subscript value (.Slice none (some upper) none p) pos) (fun v h'=>g8 fun r us=>lO (v=.ref r) (h'.IsList r us.toArray) (cf us (xs.take b)) (iK h h' r { cls:=.type "list",data:=.seq us.toArray})):=by
 obtain ⟨vs,q_⟩:=hl;have hl:=q_.1;have hi:=q_.2;clear q_
 have hlen:=hi.length
 refine (Eg.sliceL H hl (by simp;lia) j5 (gh Hb) ht).mono fun v h' O q=>?_
 obtain ⟨r,rfl,hN⟩:=q
 rw [slicePick_upto'] at hN
 exact ⟨r,_,rfl,⟨_,hN.yes,rfl,_,rfl⟩,qB _ hi,hN⟩
theorem tW.eqL {l r:au} {pos:dJ} {xs ys:List Int} {o o':List ag→cA} (hu:A.units<cLine) (Hl:Eg prog w A e h l (fun v h'=>g8 fun r us=>lO (v=.ref r) (h'.IsList r us.toArray) (cf us xs) (iK h h' r (o us))))
  (Hr:∀h1,ba [] h h1→Eg prog w A e h1 r (fun v h'=>g8 fun r us=>lO (v=.ref r) (h'.IsList r us.toArray) (cf us ys) (iK h1 h' r (o' us)))) (hm:autoParam (i9 .Eq r=false) rfE) :
  tW prog w A e h (.Compare l [.Eq] [r] pos) (xs==ys):=
 tW.cmp (P':=fun v v' h2=>oN fun a b us vs=>uB (v=.ref a) (v'=.ref b) (h2.IsList a us.toArray) (h2.IsList b vs.toArray) (cf us xs) (cf vs ys)) Hl
  (fun v h1 k1 hv=>(Hr h1 k1).mono fun v' h2 k2 hv'=>by
   obtain ⟨a,us,rfl,hl,hi,hN⟩:=hv
   obtain ⟨b,vs,rfl,hl',hi',hN'⟩:=hv'
   exact ⟨a,b,us,vs,rfl,rfl,let ⟨o,ho,r⟩:=hl;⟨o,k2.get ho,r⟩,hl',hi,hi'⟩)
  (fun v v' h2 k2 q s Q E hs kk=>by
   obtain ⟨a,b,us,vs,rfl,rfl,h1,h2,hi,hi'⟩:=q
   subst hs
   exact zL hu h1 h2 hi hi' (kk s.toks)) hm
end
structure Hg (prog:aV) (w:aP) (A:aS) (e:gy) (s:am) (target:au) (body:List fC) (Q:dW→am→Prop) (a:aH) (items:Array ag) (D:List aH) (dw:Nat→ay→Prop):Prop where
 lst:s.heap.IsList a items
 off:a∉D
 ins:∀b∈D,∃o,s.heap.get? b=some o
 start:∀h',ba [] s.heap h'→dw 0 h'
 stab:∀i h h',dw i h→(∀b o,h.get? b=some o→cz o=true∨b∈D∨(∃o,s.heap.get? b=some o)→h'.get? b=some o)→dw i h'
 turn:∀i v h tk,i<items.size→items[i]? = some v→dw i h→aF (aB prog w) A (eT target e v) (fun O s₂=>aF (aB prog w) A (eK body e) (zn s D h dw Q i) (fun O O=>False) s₂) (fun O O=>False) (sh s h tk)
 done:∀h tk,dw items.size h→Q .next (sh s h tk)
theorem xE {prog:aV} {w:aP} {A:aS} {s:am} {e:gy} {target iter:au} {body:List fC} {pos:dJ} {Q:dW→am→Prop} {P:ag→ay→Prop} (hh:A.handled=none) (hi:Eg prog w A e s.heap iter P)
  (K:∀v h1 tk,ba [] s.heap h1→P v h1→oN fun a items D dw=>v=.ref a∧Hg prog w A e (sh s h1 tk) target body Q a items D dw)
  (hs:autoParam (∀x,er iter e x=cJ x) rfA):aF (aB prog w) A (fA (.For target iter body [] pos) e) Q (fun O O=>False) s:=by
 refine rx (hi s _ _ rfl fun v h1 tk k1 hv=>?_) hs
 obtain ⟨a,items,D,dw,rfl,F⟩:=K v h1 tk k1 hv
 have hl:h1.IsList a items:=F.lst
 refine lw (s:=sh s h1 tk) hl ?_
 have hne:a≠h1.objs.size:=ei (let ⟨o,ho,_⟩:=hl;cK ho)
 have W:=ql.list (prog:=prog) (w:=w) hh h1.objs.size a hne items
 refine wQ (s:=(sh s (h1.push { cls:=.type "list_iterator",data:=.fields #[.ref a,.int 0 0]}) tk)) W D dw ⟨⟨_,bG _ rfl,rfl,rfl⟩,hl.push _⟩ (F.start _ (.push _ _ _)) ?_ ?_ (fun b=>∃o,h1.get? b=some o) ?_ F.stab (fun i v h tk' hi hv hS hI=>?_) (fun h tk' hI=>F.done h tk' hI)
 ·intro b hb hbD
  rcases aC.mp hb with rfl|hb2;rotate_left;rcases aD.mp hb2 with rfl;rotate_left
  ·obtain ⟨o,ho⟩:=F.ins _ hbD
   have ho:h1.get? h1.objs.size=some o:=ho
   exact nn cP ho
  ·exact F.off hbD
 ·intro i h hS b hb o ho
  obtain rfl:b=h1.objs.size:=aD.mp hb
  obtain ⟨o',ho',hc,hd⟩:=hS.1
  replace ho:=ho'▸ho;cases ho
  unfold cz;rw [hd,hc];rfl
 ·intro b hb hx
  obtain rfl:b=h1.objs.size:=aD.mp hb
  obtain ⟨o,ho⟩:=hx
  exact nn cP ho
 ·refine pe hS.1 ⟨rfl,aL (F.turn i _ h tk' hi hv hI) (fun O s₂ h₂=>aL h₂ (fun f s₃ h₃=>?_) fun O O x=>x) fun O O x=>x⟩
  cases f<;>exact h₃
section
variable {prog:aV} {w:aP} {A:aS} {s:am} {e:gy} {h g:ay} {m:List (bU×ag)} {c:List (aH×cA)} {E:ag→am→Prop}
theorem FD {k:Nat} (h:k≤2^20):¬(!gG (k:Int))=true:=by
 have:gG (k:Int)=true:=by
  unfold gG
  simp only [g7,decide_eq_true_eq];lia
 rw [this];decide
theorem CW {n:Nat} (h:n≤2^20):n≤fc:=aj h (by show 2^20≤2^24;decide)
theorem yV {x:bU} {pn ap pos ps:dJ} {ek ex:au} {R:aH} {its:Array ag} {n:Nat} {k:Nat} {z:Int} {pre post:List (aH×cA)} {P:ag→ay→Prop} {Q:dW→am→Prop}
  (S:St g e s.heap m (pre++(R,{ cls:=.type "list",data:=.seq its n})::post)) (Hk:Ev prog w A e s.heap ek (fr z)) (hzk:z=(k:Int)) (H:Eg prog w A e s.heap ex P) (hkn:k≤its.size) (hsz:its.size≤2^20)
  (h1:∀p∈pre,p.1≠R) (h2:∀p∈post,p.1≠R)
  (kk:∀v hv h' n' tk,ba [] s.heap hv→P v hv→ba [R] hv h'→St g e h' m (pre++(R,{ cls:=.type "list",data:=.seq ((its.toList.take k++v::its.toList.drop k).toArray) n'})::post)→Q .next (sh s h' tk))
  (hv:autoParam (iF m x=some (.ref R)) rfA) (hl:autoParam (m0 e x=true) rfA) (hd:autoParam ((x==("__debug__" : bU))=false) rfD)
  {pl:mw Bool} (he:autoParam (cO (.Call (.Attribute (.Name x pn) rB ap) [ek,ex] [] pos) e=(do
   let ov ←cO (.Name x pn) e
   fe ap.atName
   let (f,first) ←gf [ov] (gx ov rB pl)
   g9 pos f first (gK pos (aE [ek,ex] e)) [])) rfA) (hst:autoParam (aE [ek,ex] e=(false,cO ek e)::aE [ex] e) rfA) (hst':autoParam (aE [ex] e=(false,cO ex e)::aE [] e) rfA)
  (hi:autoParam (qm e=false) rfA) (hsw:autoParam (jc (.Call (.Attribute (.Name x pn) rB ap) [ek,ex] [] pos) none ps.line e=cJ false) rfA) :
  aF (aB prog w) A (fA (.Expr (.Call (.Attribute (.Name x pn) rB ap) [ek,ex] [] pos) ps) e) Q E s:=by
 have hR:=S.own (R,{ cls:=.type "list",data:=.seq its n}) (by simp)
 refine sD (xc S hR.1 PySem.F.slot_list_insert PySem.F.type_list_insert (Es.cons (P':=fun vs h'=>g8 fun t v=>vs=[.int z t,v]∧P v h') (Ev.gg Hk) (fun u h1 k1 hu=>?_) hst) (fun vs hv tk k1 hp=>?_) hv hl hd he hst (by rw [hst'];rfl)) hi hsw
 ·obtain ⟨rfl,t,rfl⟩:=hu
  exact (Es.one H hst').mono fun vs h' O q=>by
   obtain ⟨v,rfl,q⟩:=q
   exact ⟨t,v,rfl,q⟩
 obtain ⟨t,v,rfl,hp⟩:=hp
 have hR1:=k1.get hR.1
 have hfit:¬(!gG z)=true:=by rw [hzk];exact FD (aj hkn hsz)
 have hz:its.size≤fc:=CW hsz
 have hz0:¬z<0:=by lia
 have hzn:z.toNat=k:=by lia
 clear hzk
 have hm:=AutoSeq1.list_insert_list_int_val_1 R its n z t v hfit hz
 refine rK PySem.F.slot_list_insert ⟨_,hR1,rfl⟩ PySem.F.entry_list_insert (PySem.F.args_list_insert_3 _ _ _) hm ⟨hR1,?_⟩
 have hf:(fun xs:Array ag=>have k':=if z<0 then (z+(xs.size:Int)).toNat else fU z.toNat xs.size;(xs.extract 0 k').push v++xs.extract k')=fun xs:Array ag=>(xs.extract 0 (fU k xs.size)).push v++xs.extract (fU k xs.size):=by
  funext xs
  rw [if_neg hz0,hzn]
 refine hf.symm▸?_
 have ho':=iG hR1 (fun xs:Array ag=>(xs.extract 0 (fU k xs.size)).push v++xs.extract (fU k xs.size))
 have hs':cq R hv (hv.update R (dj fun xs:Array ag=>(xs.extract 0 (fU k xs.size)).push v++xs.extract (fU k xs.size))):=cj ..
 have hins:(its.extract 0 (fU k its.size)).push v++its.extract (fU k its.size)=(its.toList.take k++v::its.toList.drop k).toArray:=by
  rw [bz hkn]
  apply Array.toList_inj.mp
  simp only [b7,bX,gE,eY,jP,List.drop_zero,bK,dD,jy]
  rw [jM (l:=List.drop k its.toList) (by simp)]
 dsimp only at ho'
 rw [hins] at ho'
 exact kk v hv _ _ tk k1 hp (.same hs') ((S.grow k1).change (.same hs') ho' h1 h2)
end
noncomputable def rL (cells:List (bU×aH)):List (bU×iD)→List (bU×aH)→Option (List (bU×aH))
 | [],acc=>some acc
 | (x,k)::r,acc=>if k==.free then (match cells.lookup x with|some a=>rL cells r ((x,a)::acc)|none=>none) else rL cells r acc
theorem iM {scope:Scope} {e:gy} {cl:List (bU×aH)} (h:rL e.cells scope.names []=some cl):closureFor scope e=cJ cl:=by
 unfold closureFor
 generalize scope.names=ns at h
 generalize ([]:List (bU×aH))=acc at h ⊢
 induction ns generalizing acc with
 | nil=>simp only [rL,jQ] at h;subst h;simp
 | cons p r ih=>
  obtain ⟨x,k⟩:=p
  rw [rL] at h
  dsimp only at ih ⊢
  rw [dS]
  dsimp only
  cases hk:k==iD.free with
  | false=>
   replace h:=hk▸h
   skip
   skip
   exact ih acc h
  | true=>
   replace h:=hk▸h
   skip
   cases hl:e.cells.lookup x with
   | none=>replace h:=hl▸h;cases h
   | some a=>
    rw [hl] at h
    unfold cellOf
    refine hl.symm▸?_
    skip
    exact ih _ h
theorem St.seqOff {g h:ay} {e:gy} {m:List (bU×ag)} {c:List (aH×cA)} {a:aH} {o:cA} {xs:Array ag} {n:Nat} (S:St g e h m c) (hnd:(e.cells.map (·.1)).Nodup) (ho:h.get? a=some o) (hd:o.data=.seq xs n):a∉FA e:=fun q=>by
 cases q with
 | head=>
  obtain ⟨ml,⟨o',es,ep,ho',hd',_⟩,_⟩:=S.ns
  rw [ho] at ho';cases ho'
  rw [hd] at hd';cases hd'
 | tail _ q=>
  obtain ⟨p,hp,rfl⟩:=b9.mp q
  obtain ⟨v,⟨o',ho',hd'⟩,_⟩:=S.cl p.1 p.2 (l7 hnd hp)
  rw [ho] at ho';cases ho'
  rw [hd] at hd';cases hd'
section
variable {prog:aV} {w:aP} {A:aS} {s:am} {e:gy} {h g:ay} {m:List (bU×ag)} {c:List (aH×cA)} {E:ag→am→Prop}
theorem wT {value:au} {lower upper:Option au} {p:dJ} {o i:ag} {T id:String} {Q:ag→am→Prop} (hT:s.TypeIs o T) (hl:jv (.type T) "__getitem__" = cJ (some (.builtin id)))
  (hg:aF (aB prog w) A (getItem o i) Q E s):aF (aB prog w) A (subscriptTail value (.Slice lower upper none p) o i) Q E s:=by
 unfold subscriptTail
 refine ae ?_
 skip
 refine ae (nC hT hl ?_)
 have fin:aF (aB prog w) A (operate [i,o] (getItem o i)) (fun r s₃=>aF (aB prog w) A (fb value o r >>= fun O=>cJ r) Q E s₃) E s:=
  wpAny_operating (aL hg (fun r s₃ h₃=>ae (wpAny_letTemporaryGo (ao h₃))) fun O O x=>x)
 first
  | exact ao (ae fin)
  | exact ae (ao (ae fin))
  | exact ae fin
theorem Eg.twoA {value:au} {kk:Nat} {p pc pos:dJ} {a:aH} {x y z:ag} (H:Ev prog w A e h value (· = .ref a)) (ht:IsTup h a #[x,y,z]) :
  Eg prog w A e h (.Subscript value (.Slice none (some (.Constant (.int 2) kk pc)) none p) pos) (fun v h'=>∃b,v=.ref b∧iK h h' b (jX [x,y])):=fun s Q E hs k=>by
 subst hs
 refine Subscript_ (H s _ _ rfl fun v tk hv=>wpAny_Slice (j5 _ _ _ rfl fun vl tk1 hvl=>gh Ev.int _ _ _ rfl fun vu tk2 hvu=>?_))
 subst hv
 cases hvl
 cases hvu with|int _ u=>
 refine j5 _ _ _ rfl fun v3 tk3 hv3=>?_
 cases hv3
 have k1:ba [] s.heap (s.heap.push { cls:=.type "slice",data:=.fields #[.none,.int 2 u,.none]}):=.push _ _ _
 have ht':=ht.keeps k1.all
 refine wT ht'.typeIs slot_tuple_getitem.lookup (u6 ht' (ay.IsSliceOf.new ..) ?_)
 have hN:=iK.push (s.heap.push { cls:=.type "slice",data:=.fields #[.none,.int 2 u,.none]}) (jX [x,y])
 exact k _ _ tk3 (k1.trans hN.kept) ⟨_,rfl,dh k1 hN.no,k1.trans hN.kept,hN.yes⟩
theorem Eg.addL {l r:au} {pos:dJ} {P:ag→ay→Prop} {P':ag→ag→ay→Prop} {R:ag→ay→Prop} (Hl:Eg prog w A e h l P) (Hr:∀x h1,ba [] h h1→P x h1→Eg prog w A e h1 r (P' x))
  (K:∀x y h2,ba [] h h2→P' x y h2→xN fun a its n b its2 n2=>uB (x=.ref a) (y=.ref b) (h2.get? a=some (⟨.type "list",none,.seq its n,#[]⟩:cA)) (h2.get? b=some (⟨.type "list",none,.seq its2 n2,#[]⟩:cA)) (its.size+its2.size≤fc) (∀h' c,iK h2 h' c (⟨.type "list",none,.seq (its++its2) 0,#[]⟩:cA)→R (.ref c) h')):Eg prog w A e h (.BinOp l .Add r pos) R:=fun s Q E hs k=>by
 refine wpAny_BinOp (Hl s _ _ hs fun x h1 tk k1 hx=>Hr x h1 k1 hx _ _ _ rfl fun y h2 tk2 k2 hy=>?_)
 obtain ⟨a,its,n,b,its2,n2,rfl,rfl,ha,hb,hsz,hR⟩:=K x y h2 (k1.trans k2) hy
 refine PySem.P.add_list (s:=sh s h2 tk2) ha hb ?_ hsz
 exact k _ _ tk2 ((k1.trans k2).trans (.push _ _ _)) (hR _ _ (iK.push h2 _))
end
noncomputable def DO (o:cA) (m:List (bU×ag)):Prop:=g8 fun es ep=>lO (o.data=.dict es ep) (StrKeys es) (UniqKeys es) (∀name,nsFind es name=iF m name)
theorem DO.ns1 {o:cA} {m:List (bU×ag)} {h:ay} {a:aH} (d:DO o m) (ho:h.get? a=some o):h.Ns1 a (iF m):=by obtain ⟨es,ep,e,k,u,f⟩:=d;exact ⟨o,es,ep,ho,e,k,u,f⟩
theorem DO.of {h:ay} {a:aH} {m:List (bU×ag)} (x:h.Ns1 a (iF m)):∃o,h.get? a=some o∧DO o m:=by obtain ⟨o,es,ep,ho,e,k,u,f⟩:=x;exact ⟨o,ho,es,ep,e,k,u,f⟩
theorem vm (es:Array rc) (name:bU):nsFind es name=(es.toList.find? (·.key.isStr name)).map (·.val):=by
 unfold nsFind findBy
 rw [Array.find?_toList]
theorem DO.look {o:cA} {m:List (bU×ag)} (d:DO o m) (name:bU):lookIn name o=some (iF m name):=by
 obtain ⟨es,ep,e,k,u,f⟩:=d
 have:=f name
 rw [vm] at this
 unfold lookIn
 rw [e]
 dsimp only
 cases q:es.toList.find? (·.key.isStr name) with
 | some en=>rw [q] at this;rw [←this];rfl
 | none=>
  rw [q] at this
  have hn:es.toList.any (·.refKey)=false:=by
   rw [List.any_eq_false]
   intro x hx
   obtain ⟨n,t,hk⟩:=k x (Array.mem_toList_iff.mp hx)
   simp [rc.refKey,hk]
  dsimp only
  rw [hn,←this];rfl
theorem wh (m:List (bU×ag)):Within (iF m) (m.map (·.1)):=fun y hy=>by
 cases q:iF m y with
 | none=>exact absurd q hy
 | some v=>exact b9.mpr ⟨(y,v),em q,rfl⟩
theorem FG (P:bF):hY (KF P) (.ref 242) "__getattribute__" = some (some (.builtin "object.__getattribute__")):=by kernel_rfl!
theorem HD (P:bF):hY (KF P) (.ref 242) "__getattr__" = some none:=by kernel_rfl!
theorem HF (P:bF):hY (KF P) (.ref 242) "__setattr__" = some (some (.builtin "object.__setattr__")):=by kernel_rfl!
theorem HE (P:bF):plainOver (KF P) 242=true:=by kernel_rfl!
theorem FH (P:bF):(clsIn (KF P) 242).any (·.hasDict)=true:=by kernel_rfl!
section
variable {prog:aV} {w:aP} {A:aS} {s:am} {e:gy} {h g:ay} {m ma:List (bU×ag)} {c:List (aH×cA)} {E:ag→am→Prop} {x dx:aH} {od:cA} {name:bU} {v:ag}
theorem uk (hx:h.get? x=some (dA 242 dx)) (hd:h.get? dx=some od):InstAt h x (dA 242 dx) 242 (some od):=⟨hx,rfl,rfl,hd⟩
theorem zR (hD:DO od ma) (hv:iF ma name=some v) (hn:hY (KF w.params) (.ref 242) name=some none):findObj (KF w.params) 242 (some od) name=some (.value v):=by
 obtain ⟨cd,hc,hd⟩:=any_some (FH w.params)
 unfold findObj
 rw [hc,Option.bind_some,hn,Option.bind_some]
 simp only [Option.bind_some,W.ownOf,hd,if_true,hD.look,hv]
theorem zY {expr:Bool} {Q:ag→am→Prop} (C:Cx w s.heap) (hx:s.heap.get? x=some (dA 242 dx)) (hd:s.heap.get? dx=some od) (hD:DO od ma) (hv:iF ma name=some v) (hn:hY (KF w.params) (.ref 242) name=some none) (hh:handedIn v=true)
  (q:Q v { s with toks:=s.toks+1}):aF (aB prog w) A (getAttr (.ref x) name expr) Q E s:=
 get_value C.K (uk hx hd) (FG _) (zR hD hv hn) hh q
theorem AN {Q:Unit→am→Prop} (C:Cx w s.heap) (hx:s.heap.get? x=some (dA 242 dx)) (hd:s.heap.get? dx=some od) (hD:DO od ma) (hn:hY (KF w.params) (.ref 242) name=some none) (hm:ma.length≤100)
  (q:∀h' od' tk,cq dx s.heap h'→h'.get? dx=some od'→DO od' (gC name v ma)→Q () (sh s h' tk)):aF (aB prog w) A (setAttr (.ref x) name v) Q E s:=by
 have I:=uk hx hd
 have ht:takerIn (KF w.params) 242 name=some none:=by unfold takerIn;rw [hn];rfl
 refine set_plain C.K I (HF _) (osa_open (r:=none) C.K I (HE _) ht fun b=>?_)
 obtain ⟨cd,q_⟩:=any_some (FH w.params);have hc:=q_.1;have hd':=q_.2;clear q_
 refine ae (ao (ae (ae (wpAny_loadPart hx (ae (dn.here (s:={ s with toks:=s.toks+1}) (looks_clsIn C.K hc) ?_))))))
 refine hd'.symm▸?_
 refine ao (a:=some dx) (ae (ao (ae ?_)))
 refine wpAny_nsSet1 (s:={ s with toks:=s.toks+1}) (hD.ns1 hd) fun h' hn' hs'=>?_
 rw [Bs] at hn'
 obtain ⟨o,es,ep,q_⟩:=hn'.count (wh _);have ho:=q_.1;have hda:=q_.2.1;have hsz:=q_.2.2;clear q_
 obtain ⟨od',q_⟩:=DO.of hn';have ho':=q_.1;have hD':=q_.2;clear q_
 have hpl:(gC name v ma).length≤ma.length+1:=by
  clear hn' hD' q hn hD ht hsz
  induction ma with
  | nil=>simp [gC]
  | cons p l ih=>unfold gC;split<;>simp at *<;>lia
 rw [eh] at hsz
 refine ae (wpAny_lookBehind ho (by rw [hda];exact pastItsLine_dict (by rw [ew];exact c8 (.le aq (.p (.k 16777216) (.k 1)) (.le ar (.k 100) (.le aq az (.le az (.s 1 1) .o)))) τ hm hsz hpl)) ?_)
 exact ao (q h' od' _ hs' ho' hD')
theorem Ev.attr {xn:bU} {p pos:dJ} (C:Cx w h) (H:Ev prog w A e h (.Name xn p) (· = .ref x)) (hx:h.get? x=some (dA 242 dx)) (hd:h.get? dx=some od) (hD:DO od ma) (hv:autoParam (iF ma name=some v) rfA) (hn:autoParam (∀P,hY (KF P) (.ref 242) name=some none) rfB) (hh:autoParam (handedIn v=true) rfA)
  (he:autoParam (cO (.Attribute (.Name xn p) name pos) e=(do
   let o ←cO (.Name xn p) e
   fe pos.atName
   let r ←gf [o] (getAttr o name true)
   fb (.Name xn p) o r
   cJ r)) rfE):Ev prog w A e h (.Attribute (.Name xn p) name pos) (· = v):=fun s Q E hs k=>by
 subst hs
 refine Attribute_Name_ (H s _ _ rfl fun o tk ho=>?_) he
 subst ho
 exact zY (s:={ s with toks:=tk}) C hx hd hD hv (hn _) hh (k v _ rfl)
theorem ke {xn:bU} {p pos:dJ} {pre post:List (aH×cA)} {Q:Unit→am→Prop} (C:Cx w s.heap) (S:St g e s.heap m (pre++(dx,od)::post)) (hx:s.heap.get? x=some (dA 242 dx)) (hD:DO od ma) (hm:ma.length≤100)
  (h1:∀p∈pre,p.1≠dx) (h2:∀p∈post,p.1≠dx)
  (q:∀h' od' tk,ba [dx] s.heap h'→DO od' (gC name v ma)→St g e h' m (pre++(dx,od')::post)→Q () (sh s h' tk))
  (hv:autoParam (iF m xn=some (.ref x)) rfA) (hl:autoParam (m0 e xn=true) rfA) (hdb:autoParam ((xn==("__debug__" : bU))=false) rfD) (hn:autoParam (∀P,hY (KF P) (.ref 242) name=some none) rfB) :
  aF (aB prog w) A (eT (.Attribute (.Name xn p) name pos) e v) Q E s:=by
 skip
 refine ae (bM (Ev.nm S hv hl hdb s _ _ rfl fun o tk ho=>ae (gp (ae (bM ?_)))))
 subst ho
 refine AN (s:={ s with toks:=tk}) C hx (S.get (by simp)) hD (hn _) hm fun h' od' tk' hs' ho' hD'=>?_
 refine wpAny_release ?_
 exact q h' od' tk' (.same hs') hD' (S.change (.same hs') ho' h1 h2)
end
noncomputable def Ed (prog:aV) (w:aP) (A:aS) (e:gy) (h:ay) (D:List aH) (ex:au) (P:ag→ay→Prop):Prop:=
 ∀(s:am) (Q:ag→am→Prop) (E:ag→am→Prop),s.heap=h→(∀v h' tk,ba D h h'→P v h'→Q v (sh s h' tk))→aF (aB prog w) A (cO ex e) Q E s
section
variable {prog:aV} {w:aP} {A:aS} {s:am} {e:gy} {h g:ay} {m ma:List (bU×ag)} {c:List (aH×cA)} {E:ag→am→Prop} {x dx:aH} {od:cA} {name:bU} {v:ag} {D:List aH}
theorem Ed.eg {ex:au} {P:ag→ay→Prop} (H:Ed prog w A e h [] ex P):Eg prog w A e h ex P:=H
theorem Cd.mono {f:ag} {args:List ag} {P P':ag→ay→Prop} (H:Cd prog w A h D f args P) (hp:∀v h',ba D h h'→P v h'→P' v h'):Cd prog w A h D f args P':=fun s Q E hs k=>H s Q E hs fun v h' tk q r=>k v h' tk q (hp v h' q r)
theorem mX {f:aH} {pl:mw Bool} {Q:ag×List ag→am→Prop} (C:Cx w s.heap) (hx:s.heap.get? x=some (dA 242 dx)) (hd:s.heap.get? dx=some od) (hD:DO od ma) (hs:iF ma name=none)
  (hf:hY (KF w.params) (.ref 242) name=some (some (.ref f))) (ht:typeIn (KF w.params) (.ref f)=some (.type "function")) (q:Q (.ref f,[.ref x]) s):aF (aB prog w) A (gx (.ref x) name pl) Q E s:=by
 refine method_fn C.K (uk hx hd) (FG _) (HD _) hf ht ?_ q
 unfold shadowIn
 simp only [hD.look,hs]
 rfl
theorem Ed.meth {xn:bU} {p ap pos:dJ} {f:aH} {fo:cA} {fd:dP} {ex:au} {rest:List au} {P:List ag→ay→Prop} {R:ag→ay→Prop} (C:Cx w h) (N:Ev prog w A e h (.Name xn p) (· = .ref x)) (hx:h.get? x=some (dA 242 dx)) (hd:h.get? dx=some od) (hD:DO od ma)
  (ho:h.get? f=some fo) (hdat:fo.data=.func fd) (H:Es prog w A e h (ex::rest) P) (K:∀vs h1,ba [] h h1→P vs h1→Cd prog w A h1 D (.ref f) (.ref x::vs) R)
  (hs:autoParam (iF ma name=none) rfA) (hf:autoParam (∀P,hY (KF P) (.ref 242) name=some (some (.ref f))) rfB) (ht:autoParam (∀P,typeIn (KF P) (.ref f)=some (.type "function")) rfB)
  {pl:mw Bool} (he:autoParam (cO (.Call (.Attribute (.Name xn p) name ap) (ex::rest) [] pos) e=(do
   let ov ←cO (.Name xn p) e
   fe ap.atName
   let (f,first) ←gf [ov] (gx ov name pl)
   g9 pos f first (gK pos (aE (ex::rest) e)) [])) rfA) (hst:autoParam (aE (ex::rest) e=(false,cO ex e)::aE rest e) rfA) :
  Ed prog w A e h D (.Call (.Attribute (.Name xn p) name ap) (ex::rest) [] pos) R:=fun s Q E hsh k=>by
 subst hsh
 refine jo (N s _ _ rfl fun o tk hov=>?_) he
 subst hov
 refine mX (s:={ s with toks:=tk}) C hx hd hD hs (hf _) (ht _) ?_
 refine callWith_meth hdat ho (H pos { s with toks:=tk} _ _ rfl fun vs h1 tk1 k1 hp=>⟨k1.all,?_⟩) hst
 exact K vs h1 k1 hp (sh s h1 tk1) _ _ rfl fun v h2 tk2 k2 hr=>k v h2 tk2 ((k1.mono (by simp)).trans k2) hr
theorem Ed.meth0 {xn:bU} {p ap pos:dJ} {f:aH} {fo:cA} {fd:dP} {R:ag→ay→Prop} (C:Cx w h) (N:Ev prog w A e h (.Name xn p) (· = .ref x)) (hx:h.get? x=some (dA 242 dx)) (hd:h.get? dx=some od) (hD:DO od ma)
  (ho:h.get? f=some fo) (hdat:fo.data=.func fd) (K:Cd prog w A h D (.ref f) [.ref x] R)
  (hs:autoParam (iF ma name=none) rfA) (hf:autoParam (∀P,hY (KF P) (.ref 242) name=some (some (.ref f))) rfB) (ht:autoParam (∀P,typeIn (KF P) (.ref f)=some (.type "function")) rfB)
  {pl:mw Bool} (he:autoParam (cO (.Call (.Attribute (.Name xn p) name ap) [] [] pos) e=(do
   let ov ←cO (.Name xn p) e
   fe ap.atName
   let (f,first) ←gf [ov] (gx ov name pl)
   g9 pos f first (gK pos (aE [] e)) [])) rfA) :
  Ed prog w A e h D (.Call (.Attribute (.Name xn p) name ap) [] [] pos) R:=fun s Q E hsh k=>by
 subst hsh
 refine jo (N s _ _ rfl fun o tk hov=>?_) he
 subst hov
 refine mX (s:={ s with toks:=tk}) C hx hd hD hs (hf _) (ht _) ?_
 refine callWith_meth0 hdat ho ?_
 exact K { s with toks:=tk} _ _ rfl fun v h2 tk2 k2 hr=>k v h2 tk2 k2 hr
theorem ut {ex:au} {pos:dJ} {P:ag→ay→Prop} {Q:dW→am→Prop} (H:Ed prog w A e s.heap D ex P) (hP:∀v h',P v h'→v=.none) (k:∀v h' tk,ba D s.heap h'→P v h'→Q .next (sh s h' tk))
  (hi:autoParam (qm e=false) rfA) (hsw:autoParam (jc ex none pos.line e=cJ false) rfA):aF (aB prog w) A (fA (.Expr ex pos) e) Q E s:=
 sD (H s _ _ rfl fun v h' tk k1 hp=>by obtain rfl:=hP v h' hp;exact k .none h' tk k1 hp) hi hsw
theorem md {d:bU} {k:Nat} {p pos:dJ} {Q:dW→am→Prop} (q:∀tk,Q .next { s with toks:=tk}) (hi:autoParam (qm e=false) rfA) (hsw:autoParam (jc (.Constant (.str d) k p) none pos.line e=cJ false) rfA) :
  aF (aB prog w) A (fA (.Expr (.Constant (.str d) k p) pos) e) Q E s:=
 sD (Ev.str (h:=s.heap) s _ _ rfl fun v tk hv=>by obtain ⟨t,rfl⟩:=hv;exact q tk) hi hsw
theorem ju {xn:bU} {p pt pos:dJ} {ex:au} {pre post:List (aH×cA)} {P:ag→ay→Prop} {Q:dW→am→Prop} (C:Cx w s.heap) (S:St g e s.heap m (pre++(dx,od)::post)) (hx:s.heap.get? x=some (dA 242 dx)) (hD:DO od ma) (hm:ma.length≤100)
  (h1:∀p∈pre,p.1≠dx) (h2:∀p∈post,p.1≠dx) (H:Eg prog w A e s.heap ex P)
  (q:∀v hv h' od' tk,ba [] s.heap hv→P v hv→ba [dx] hv h'→DO od' (gC name v ma)→St g e h' m (pre++(dx,od')::post)→Q .next (sh s h' tk))
  (hv:autoParam (iF m xn=some (.ref x)) rfA) (hl:autoParam (m0 e xn=true) rfA) (hdb:autoParam ((xn==("__debug__" : bU))=false) rfD) (hn:autoParam (∀P,hY (KF P) (.ref 242) name=some none) rfB)
  (hs:autoParam (jc ex (some (.Attribute (.Name xn p) name pt)) pos.line e=cJ false) rfA) :
  aF (aB prog w) A (fA (.Assign [.Attribute (.Name xn p) name pt] ex pos) e) Q E s:=by
 rw [plainObj_exec_Assign_Attribute _ _ _ _ _ hs]
 refine ae (gp (ae (H s _ _ rfl fun v hv' tk k1 hp=>ae ?_)))
 refine ke (s:=sh s hv' tk) (C.sub k1.all) (S.grow k1) (k1.get hx) hD hm h1 h2 (fun h' od' tk' kd hD' S'=>?_) hv hl hdb hn
 exact ao (q v hv' h' od' tk' k1 hp kd hD' S')
theorem Ev.none {k:Nat} {pos:dJ}:Ev prog w A e h (.Constant .none k pos) (· = .none):=fun s Q E hs kk=>wpAny_Constant_none (kk _ s.toks rfl)
theorem nw {xn n2:bU} {p pt p' pt' pos:dJ} {ex:au} {pre post:List (aH×cA)} {P:ag→ay→Prop} {Q:dW→am→Prop} (C:Cx w s.heap) (C':∀h',ba [dx] s.heap h'→Cx w h') (S:St g e s.heap m (pre++(dx,od)::post)) (hx:s.heap.get? x=some (dA 242 dx)) (hne:x≠dx) (hD:DO od ma) (hm:ma.length≤90)
  (h1:∀p∈pre,p.1≠dx) (h2:∀p∈post,p.1≠dx) (H:Eg prog w A e s.heap ex P)
  (q:∀v hv h' od' tk,ba [] s.heap hv→P v hv→ba [dx] hv h'→DO od' (gC n2 v (gC name v ma))→St g e h' m (pre++(dx,od')::post)→Q .next (sh s h' tk))
  (hv:autoParam (iF m xn=some (.ref x)) rfA) (hl:autoParam (m0 e xn=true) rfA) (hdb:autoParam ((xn==("__debug__" : bU))=false) rfD) (hn:autoParam (∀P,hY (KF P) (.ref 242) name=some none) rfB) (hn2:autoParam (∀P,hY (KF P) (.ref 242) n2=some none) rfB)
  (he:autoParam ((assignEach [.Attribute (.Name xn p) name pt,.Attribute (.Name xn p') n2 pt'] e).map (·.2)=[eT (.Attribute (.Name xn p) name pt) e,eT (.Attribute (.Name xn p') n2 pt') e]) rfA)
  (hw:autoParam (jb [.Attribute (.Name xn p) name pt,.Attribute (.Name xn p') n2 pt'] ex e=cJ none) rfA) :
  aF (aB prog w) A (fA (.Assign [.Attribute (.Name xn p) name pt,.Attribute (.Name xn p') n2 pt'] ex pos) e) Q E s:=by
 refine mj (H s _ _ rfl fun v hv' tk k1 hp=>?_) he hw
 refine ke (s:=sh s hv' tk) (C.sub k1.all) (S.grow k1) (k1.get hx) hD (by exact oK (.le aq (.k 100) (.le aq (.k 90) .o)) τ hm) h1 h2 (fun h' od' tk' kd hD' S'=>?_) hv hl hdb hn
 refine ke (s:=sh s h' tk') (C' _ ((k1.mono (by simp)).trans kd)) S' (kd _ _ (k1.get hx) (by simpa using hne)) hD' ?_ h1 h2 (fun h'' od'' tk'' kd' hD'' S''=>?_) hv hl hdb hn2
 ·have hpl:(gC name v ma).length≤ma.length+1:=by
   clear hD' S' q hn hD hm
   induction ma with
   | nil=>simp [gC]
   | cons p l ih=>unfold gC;split<;>simp at *<;>(exact ih)
  exact cW (.le aq (.k 100) (.le ar (.k 90) (.le aq (.s 1 1) .o))) τ hm hpl
 ·exact q v hv' h'' od'' tk'' k1 hp (kd.trans kd') hD'' S''
end
noncomputable def A7 (s:am) (fp:List aH) (h:ay) (dw:Nat→ay→Prop) (Q:dW→am→Prop) (i:Nat) (f:dW) (s₃:am):Prop:=match f with
 | .next|.cont=>g8 fun h' tk=>jn (s₃=(sh s h' tk)) ((∀b∈fp,∀o,h.get? b=some o→h'.get? b=some o)) (dw (i+1) h')
 | .brk=>Q .next s₃
 | .ret v=>Q (.ret v) s₃
theorem xF {prog:aV} {w:aP} {A:aS} {s:am} {env:gy} {elts:List au} {k:Nat} {pos:dJ} {body:List fC} {Q:dW→am→Prop} {I:aH} {fp wr:List aH} {n:Nat} {Pt:Nat→Array ag→Prop} {S:Nat→ay→Prop} {Mid:Nat→aH→ay→Prop}
  (W:WalksU prog w A I fp wr n Pt S Mid) (dw:Nat→ay→Prop) (hst:S 0 s.heap) (h0:dw 0 s.heap)
  (hit:∀i h,S i h→∀b∈wr,∀o,h.get? b=some o→cz o=false) (B:aH→Prop) (hB:∀b∈wr,¬B b)
  (stab:∀i h h',dw i h→(∀b o,h.get? b=some o→cz o=true∨B b→h'.get? b=some o)→dw i h')
  (turn:∀i T vals h tk,i<n→Pt i vals→h.IsTuple T vals→S (i+1) h→dw i h→aF (aB prog w) A (eT (.Tuple elts k pos) env (.ref T)) (fun O s₂=>aF (aB prog w) A (eK body env) (A7 s fp h dw Q i) (fun O O=>False) s₂) (fun O O=>False) (sh s h tk))
  (done:∀h tk,dw n h→Q .next (sh s h tk)) :
  hW (aB prog w) A (.forLoop (.Tuple elts k pos) (.ref I) body [] env) (fun r s'=>match r with|.ok f=>Q f s'|.error e=>oZ (aB prog w) A env (fun O O=>False) e s') s:=by
 have st:∀i h h',S i h→dw i h→(∀b o,b∉wr→h.get? b=some o→h'.get? b=some o)→dw i h':=fun i h h' hS hI hk=>stab i h h' hI fun b o e hb=>by
  refine hk b o (fun q=>?_) e
  rcases hb with hb|hb
  ·replace hb:=(hit i h hS b q o e)▸hb;cases hb
  ·exact hB b q hb
 refine nT (fun k s'=>lT fun h tk i=>qp (s'=(sh s h tk)) (S i h) (dw i h) (i≤n) (k=n+1-i)) ?_ (n+1) ⟨s.heap,s.toks,0,rfl,hst,h0,aX _,rfl⟩
 rintro kk s' ⟨h,tk,i,rfl,hS,hI,hi,rfl⟩
 by_cases hlt:i<n
 ·refine W.item i _ _ _ hlt hS fun T vals h₁ tk₁ hP hT hM hk₁=>?_
  refine W.go elts k pos i T (sh s h₁ tk₁) _ _ hM fun h₂ hS₂ hk₂=>?_
  have hI₂:=st i h h₂ hS hI fun b o hb e=>hk₂ b o hb (hk₁ b o hb e)
  have hT₂:h₂.IsTuple T vals:=hT.at fun o e=>hk₂ T o (W.apart i T h₁ hM) e
  refine aL (turn i T vals h₂ tk₁ hlt hP hT₂ hS₂ hI₂) (fun O s₂ h₂'=>aL h₂' (fun f s₃ h₃=>?_) fun O O x=>x.elim) fun O O x=>x.elim
  have go:(g8 fun h' tk=>jn (s₃=(sh s h' tk)) ((∀b∈fp,∀o,h₂.get? b=some o→h'.get? b=some o)) (dw (i+1) h'))→∃m,m<n+1-i∧lT fun h tk i=>qp (s₃=(sh s h tk)) (S i h) (dw i h) (i≤n) (m=n+1-i):=by
   rintro ⟨h',tk',rfl,hkp,hI'⟩
   exact ⟨n+1-(i+1),by exact cR (.lt aq ar (.le (.s 2 1) (.p ar aI) (.eq (.p aq (.s 3 1)) (.s 2 1) .o))) τ bZ (aa (cW (.le (.s 0 1) (.s 1 1) (.le aq ar .o)) τ hi)),h',tk',i+1,rfl,W.frame _ _ _ hS₂ hkp,hI',hlt,rfl⟩
  cases f with
  | next=>exact go h₃
  | cont=>exact go h₃
  | brk=>exact h₃
  | ret v=>exact h₃
 ·have hin:i=n:=by exact ak hi (aZ hlt)
  subst hin
  refine W.done _ _ _ hS fun h₁ tk₁ hk₁=>aw ?_
  exact done h₁ tk₁ (st i h h₁ hS hI hk₁)
theorem CT {prog:aV} {w:aP} {A:aS} {s:am} {env:gy} {x:bU} {px:dJ} {body:List fC} {Q:dW→am→Prop} {I:aH} {fp wr:List aH} {n:Nat} {P:Nat→ag→Prop} {S:Nat→ay→Prop}
  (W:ql prog w A I fp wr n P S) (dw:Nat→ay→Prop) (hst:S 0 s.heap) (h0:dw 0 s.heap)
  (hit:∀i h,S i h→∀b∈wr,∀o,h.get? b=some o→cz o=false) (B:aH→Prop) (hB:∀b∈wr,¬B b)
  (stab:∀i h h',dw i h→(∀b o,h.get? b=some o→cz o=true∨B b→h'.get? b=some o)→dw i h')
  (turn:∀i v h tk,i<n→P i v→S (i+1) h→dw i h→aF (aB prog w) A (rv env x v) (fun O s₂=>aF (aB prog w) A (eK body env) (A7 s fp h dw Q i) (fun O O=>False) s₂) (fun O O=>False) (sh s h tk))
  (done:∀h tk,dw n h→Q .next (sh s h tk)) :
  hW (aB prog w) A (.forLoop (.Name x px) (.ref I) body [] env) (fun r s'=>match r with|.ok f=>Q f s'|.error e=>oZ (aB prog w) A env (fun O O=>False) e s') s:=by
 have st:∀i h h',S i h→dw i h→(∀b o,b∉wr→h.get? b=some o→h'.get? b=some o)→dw i h':=fun i h h' hS hI hk=>stab i h h' hI fun b o e hb=>by
  refine hk b o (fun q=>?_) e
  rcases hb with hb|hb
  ·replace hb:=(hit i h hS b q o e)▸hb;cases hb
  ·exact hB b q hb
 refine nT (fun k s'=>lT fun h tk i=>qp (s'=(sh s h tk)) (S i h) (dw i h) (i≤n) (k=n+1-i)) ?_ (n+1) ⟨s.heap,s.toks,0,rfl,hst,h0,aX _,rfl⟩
 rintro kk s' ⟨h,tk,i,rfl,hS,hI,hi,rfl⟩
 by_cases hlt:i<n
 ·refine W.item i _ _ _ hlt hS fun v h₁ tk₁ hP hS₁ hk₁=>?_
  have hI₁:=st i h h₁ hS hI hk₁
  refine ao ?_
  refine wpAny_assign_Name (aL (turn i v h₁ tk₁ hlt hP hS₁ hI₁) (fun O s₂ h₂'=>aL h₂' (fun f s₃ h₃=>?_) fun O O x=>x.elim) fun O O x=>x.elim)
  have go:(g8 fun h' tk=>jn (s₃=(sh s h' tk)) ((∀b∈fp,∀o,h₁.get? b=some o→h'.get? b=some o)) (dw (i+1) h'))→∃m,m<n+1-i∧lT fun h tk i=>qp (s₃=(sh s h tk)) (S i h) (dw i h) (i≤n) (m=n+1-i):=by
   rintro ⟨h',tk',rfl,hkp,hI'⟩
   exact ⟨n+1-(i+1),by exact cR (.lt aq ar (.le (.s 2 1) (.p ar aI) (.eq (.p aq (.s 3 1)) (.s 2 1) .o))) τ bZ (aa (cW (.le (.s 0 1) (.s 1 1) (.le aq ar .o)) τ hi)),h',tk',i+1,rfl,W.frame _ _ _ hS₁ hkp,hI',hlt,rfl⟩
  cases f with
  | next=>exact go h₃
  | cont=>exact go h₃
  | brk=>exact h₃
  | ret v=>exact h₃
 ·have hin:i=n:=by exact ak hi (aZ hlt)
  subst hin
  refine W.done _ _ _ hS fun h₁ tk₁ hk₁=>aw ?_
  exact done h₁ tk₁ (st i h h₁ hS hI hk₁)
theorem rR:lr table "dict_itemiterator.__iter__" = some cc.«dict_keyiterator.__iter__»:=
 entryFor_alias (id':= "dict_keyiterator.__iter__") (by kernel_rfl) rfl (by decide +kernel) (by kernel_rfl)
theorem y7 {prog:aV} {w:aP} {A:aS} {K:Type} [DecidableEq K] {knd:KeyKind prog w K} (hh:A.handled=none) (I d:aH) (hne:d≠I) (kvs:List (K×ag)) (ep:Nat) :
  WalksU prog w A I [I,d] [I] kvs.length (fun i vals=>lT fun k v key=>jn (kvs[i]? = some (k,v)) (knd.is k key=true) (vals=#[key,v]))
   (fun i h=>(g8 fun ok ov=>IsItemIter h I d i kvs.length ep ok ov)∧h.DictAt knd d kvs ep) (fun i T h=>(g8 fun ok ov=>IsItemIterOut h I d (i+1) kvs.length ep ok ov T)∧h.DictAt knd d kvs ep∧T≠I) where
 sub:=fun b hb=>by simp at hb;simp [hb]
 frame:=fun i h h' st hk=>by
  obtain ⟨⟨ok,ov,he⟩,hd⟩:=st
  exact ⟨⟨ok,ov,hk I (.head _) _ he⟩,hd.at' fun o x=>hk d (.tail _ (.head _)) o x⟩
 item:=fun i s Q E hi st hQ=>by
  obtain ⟨⟨ok,ov,he⟩,hd⟩:=st
  obtain ⟨⟨k,v⟩,hx⟩:∃kv,kvs[i]? = some kv:=⟨_,aW hi⟩
  refine wpAny_pyNext_items_item he hd hx fun key h' hkey ho hT hsz hk=>?_
  have hTI:s.heap.objs.size≠I:=pJ (cK he)
  exact hQ s.heap.objs.size #[key,v] h' s.toks ⟨k,v,key,hx,hkey,rfl⟩ ⟨_,hT,rfl,_,rfl⟩ ⟨⟨_,_,ho⟩,hd.at' fun o x=>hk d o hne x,hTI⟩ fun b o hb x=>hk b o (fun e'=>hb (e'▸.head _)) x
 go:=fun elts k pos i T s Q E hm hQ=>by
  obtain ⟨⟨ok,ov,ho⟩,hd,hTI⟩:=hm
  exact wpAny_letOwnedTupleGo_items ho fun h' he' hs'=>hQ h' ⟨⟨ok,ov,he'⟩,hd.at' fun o x=>(hs'.2 d hne).trans x⟩ fun b o hb y=>(hs'.2 b fun e'=>hb (e'▸.head _)).trans y
 apart:=fun i T h hm hT=>by
  have hTI:=hm.2.2
  exact hTI (aD.mp hT)
 done:=fun s Q E st hQ=>by
  obtain ⟨⟨ok,ov,he⟩,hd⟩:=st
  exact wpAny_pyNext_items_end hh he hd (List.getElem?_eq_none (bd _)) fun h' hx=>hQ h' s.toks fun b o hb y=>hx b o (fun e'=>hb (e'▸.head _)) y
 self:=fun i s Q E st hQ=>by
  obtain ⟨⟨ok,ov,he⟩,hd⟩:=st
  have hT:s.TypeIs (.ref I) "dict_itemiterator" :=⟨_,he,rfl⟩
  refine qo hT PySem.F.slot_dict_itemiterator_iter (db PySem.F.slot_dict_itemiterator_iter hT rR ?_ (PySem.F.args_dict_itemiterator_iter_1 _))
  skip
  exact ao ⟨_,rfl, "dict_itemiterator",_,hT,PySem.F.slot_dict_itemiterator_next.lookup,hQ⟩
namespace SI
noncomputable def qu (xs:Array Nat):Prop:=xs.toList.Pairwise (· < ·)
theorem qu.get {xs:Array Nat} (h:qu xs) {i j:Nat} (hi:i<j) (hj:j<xs.size):xs[i]<xs[j]:=by
 have:=eZ.mp h i j (by simp;exact fS hi hj) (by simp;exact hj) hi
 simpa using this
theorem rI {xs:Array Nat} (h:qu xs) (j:Nat):∀(fuel lo hi:Nat),hi≤xs.size→lo≤hi→hi-lo≤fuel→(∀i (q:i<xs.size),i<lo→xs[i]<j)→(∀i (q:i<xs.size),hi≤i→j≤xs[i])→
  qk xs j fuel lo hi≤xs.size∧(∀i (q:i<xs.size),i<qk xs j fuel lo hi→xs[i]<j)∧(∀i (q:i<xs.size),qk xs j fuel lo hi≤i→j≤xs[i])
 | 0,lo,hi,h1,h2,h3,h4,h5=>by
  obtain rfl:lo=hi:=by exact ak h2 (c8 (.le aq ar (.le az (.k 0) (.le aq (.p az ar) .o))) τ h3 bZ)
  exact ⟨h1,h4,h5⟩
 | fuel+1,lo,hi,h1,h2,h3,h4,h5=>by
  unfold qk
  split
  ·rename_i hlt
   have hm:(lo+hi) / 2<xs.size:=by exact DJ 1 (.lt aq ar (.w 2 (.le az ar (.lt aI az (.le (.m 2 aq) (.p aI az) .o))))) τ h1 hlt (cr _ _)
   have e:xs.getD ((lo+hi) / 2) j=xs[(lo+hi) / 2]:=by simp [Array.getD,hm]
   dsimp only
   rw [e]
   split
   ·rename_i hq
    refine rI h j fuel _ hi h1 (by exact A5 1 (.le (.s 0 1) ar (.lt az ar (.le (.m 2 aq) (.p az ar) .o))) τ hlt (cr _ _)) (by exact H8 1 (.le aq ar (.le az (.s 1 1) (.le aI (.p az bx) (.lt (.p bx aI) (.m 2 (.s 5 1)) (.w 2 (.eq (.p aq (.s 5 1)) aI .o)))))) τ h3 bZ (eR _ (by decide)) (aa (A5 1 (.le (.s 0 1) ar (.lt az ar (.le (.m 2 aq) (.p az ar) .o))) τ hlt (cr _ _)))) (fun i q hi'=>?_) h5
    by_cases z:i=(lo+hi) / 2
    ·subst z;exact hq
    ·exact fS (h.get (show i<(lo+hi) / 2 by exact (aK z).elim (fun ζ2=>ζ2) fun ζ2=>cW (.lt aq ar (.w 2 (.lt aq (.s 1 1) (.lt ar aq .o)))) τ hi' ζ2) hm) hq
   ·rename_i hq
    refine rI h j fuel lo _ (by exact aR hm) (by exact A5 1 (.le aq ar (.lt aq az (.lt (.p aq az) (.m 2 (.s 1 1)) .o))) τ hlt (eR _ (by decide))) (by exact H8 1 (.le aq ar (.le az (.s 1 1) (.le aI (.p az bx) (.le (.m 2 cV) (.p bx aI) (.w 2 (.eq (.p aq bx) cV .o)))))) τ h3 bZ (cr _ _) (aa (A5 1 (.le aq ar (.lt aq az (.lt (.p aq az) (.m 2 (.s 1 1)) .o))) τ hlt (eR _ (by decide))))) h4 (fun i q hi'=>?_)
    by_cases z:i=(lo+hi) / 2
    ·subst z;exact (aZ hq)
    ·have:=h.get (show (lo+hi) / 2<i by exact (aK z).elim (fun ζ2=>cW (.lt aq ar (.w 2 (.le aq ar (.lt ar aq .o)))) τ hi' ζ2) fun ζ2=>ζ2) q
     exact aR (bV (aZ hq) this)
  ·obtain rfl:lo=hi:=by exact ak h2 (aZ ‹¬lo<hi›)
   exact ⟨h1,h4,h5⟩
theorem lY {xs:Array Nat} (h:qu xs) (j:Nat):c4 xs j≤xs.size∧(∀i (q:i<xs.size),i<c4 xs j→xs[i]<j)∧(∀i (q:i<xs.size),c4 xs j≤i→j≤xs[i]):=
 rI h j _ 0 xs.size (bd _) (aX _) (by lia) (by intro i q hi;exact (oK (.ff (.lt aq (.k 0) .o)) τ hi).elim) (by intro i q hi;exact (cW (.ff (.lt aq ar (.le ar aq .o))) τ q hi).elim)
theorem wb {xs:Array Nat} (h:qu xs) {i:Nat} (hi:i<xs.size):c4 xs (xs[i]+1)=i+1:=by
 obtain ⟨h1,h2,h3⟩:=lY h (xs[i]+1)
 generalize c4 xs (xs[i]+1)=k at h1 h2 h3
 rcases nM k (i+1) with q|q|q
 ·have:=h3 i hi (by exact dH q)
  exact (oK (.ff (.le (.s 0 1) aq .o)) τ this).elim
 ·exact q
 ·have:=h2 (i+1) (by exact av q h1) (by exact q)
  have:=h.get (show i<i+1 by exact kD _) (by exact av q h1)
  exact (cW (.ff (.lt aq (.s 1 1) (.lt ar aq .o))) τ ‹xs[i+1]<xs[i]+1› this).elim
theorem wc {xs:Array Nat} (h:qu xs):c4 xs 0=0:=by
 obtain ⟨h1,h2,h3⟩:=lY h 0
 generalize c4 xs 0=k at h1 h2 h3
 cases k with
 | zero=>rfl
 | succ k=>have:=h2 k (by exact h1) (by exact kD _);exact (oK (.ff (.lt aq (.k 0) .o)) τ this).elim
structure ka (byText:Bool) (t:bH):Prop where
 no:t.dummies=#[]
 rise:qu t.place
 led:byText=false→t.led=true
theorem xg (j:Nat):bH.has #[] j=false:=by simp [bH.has]
theorem wK {b:Bool} {t:bH} (h:ka b t) {j:Nat} (hs:t.slot j=.empty):∀i (q:i<t.place.size),t.place[i]≠j:=fun i q e=>by
 unfold bH.slot at hs
 dsimp only at hs
 obtain ⟨h1,h2,h3⟩:=lY h.rise j
 have hk:c4 t.place j=i:=by
  generalize c4 t.place j=k at h1 h2 h3
  rcases nM k i with z|z|z
  ·have:=h3 k (by exact A5 1 (.lt aq ar (.lt az ar (.le aq ar (.lt aq az .o)))) τ q h1 z) (by lia)
   have:=h.rise.get z q
   exact (c8 (.ff (.eq aq ar (.le ar az (.lt az aq .o)))) τ e ‹j≤t.place[k]› this).elim
  ·exact z
  ·have:=h2 i q z;exact (cW (.ff (.qe aq ar (.lt aq ar .o))) τ e this).elim
 rw [hk,gr q,e] at hs
 simp at hs
theorem sU {b:Bool} {t:bH} (h:ka b t) (j:Nat):t.slot j≠.dummy:=by
 unfold bH.slot
 dsimp only
 rw [h.no,xg]
 split<;>simp
theorem vq {b:Bool} {t:bH} (h:ka b t) (ha:Nat→Int) (hh:Int):∀(fuel:Nat) (p:bH.Probe) (j:Nat) (d:Option Nat),p.dummy=none→bH.probe.go t ha hh fuel p=some (.empty j d)→d=none∧t.slot j=.empty
 | 0,p,j,d,hp,hq=>by cases hq
 | fuel+1,p,j,d,hp,hq=>by
  unfold bH.probe.go at hq
  have adv:∀p:bH.Probe,p.dummy=none→(t.advance p).dummy=none:=fun p hp=>by
   unfold bH.advance
   split
   ·exact hp
   ·exact hp
  split at hq
  ·rename_i hs
   simp only [jQ,bH.Met.empty.injEq] at hq
   obtain ⟨rfl,rfl⟩:=hq
   exact ⟨hp,hs⟩
  ·rename_i hs
   exact absurd hs (sU h _)
  ·split at hq
   ·simp at hq
   ·exact vq h ha hh fuel _ j d (adv p hp) hq
theorem uY {b:Bool} {t:bH} (h:ka b t) {hh:Int} {j:Nat} {wd:Bool} (hf:t.freeSlot hh=some (j,wd)):∀i (q:i<t.place.size),t.place[i]≠j:=by
 unfold bH.freeSlot at hf
 set_option tactic.hygienic true in split at hf
 ·rename_i j' d hp
  obtain ⟨rfl,hs⟩:=vq h _ _ _ _ _ _ rfl hp
  simp only [Option.getD_none,Option.isSome_none,jQ,dU] at hf
  obtain ⟨rfl,_⟩:=hf
  exact wK h hs
 ·cases hf
theorem vx {xs:Array Nat} (h:qu xs) {j:Nat} (hn:∀i (q:i<xs.size),xs[i]≠j):qu (bH.insertAt xs (c4 xs j) j):=by
 obtain ⟨h1,h2,h3⟩:=lY h j
 generalize c4 xs j=k at h1 h2 h3
 unfold qu bH.insertAt
 have e:((xs.extract 0 k).push j++xs.extract k xs.size).toList=xs.toList.take k++j::xs.toList.drop k:=by
  simp only [b7,bX,gE,eY,jP,List.drop_zero,bK,dD,jy]
  rw [jM (l:=xs.toList.drop k) (by simp)]
 rw [e,cw]
 have hl:∀a∈xs.toList.take k,a<j:=fun a ha=>by
  obtain ⟨i,hi,rfl⟩:=lg.mp ha
  rw [dE] at hi
  skip
  have:=h2 i (by simp at hi;lia) (by lia)
  simpa using this
 have hr:∀a∈xs.toList.drop k,j<a:=fun a ha=>by
  obtain ⟨i,hi,rfl⟩:=lg.mp ha
  rw [oR] at hi
  skip
  have hi':k+i<xs.size:=by simp at hi;exact cR (.lt (.p aq ar) az (.lt ar aI (.eq (.p aI aq) az .o))) τ hi (aa h1)
  have a1:=h3 (k+i) hi' (by exact co _ _)
  have a2:=hn (k+i) hi'
  have:j<xs[k+i]:=by exact (aK a2).elim (fun ζ2=>cW (.lt aq ar (.w 2 (.le aq ar (.lt ar aq .o)))) τ a1 ζ2) fun ζ2=>ζ2
  simpa using this
 refine ⟨h.sublist (List.take_sublist _ _),ez.mpr ⟨hr,h.sublist (List.drop_sublist _ _)⟩,fun a ha c hc=>?_⟩
 rcases aC.mp hc with rfl|hc
 ·exact hl a ha
 ·exact fS (hl a ha) (hr c hc)
theorem wI (n:Nat):qu (Array.range n):=by
 unfold qu
 rw [Array.toList_range]
 exact jL
theorem pX {b:Bool} {t:bH} (h:ka b t) (n:Nat):ka b (t.standIn n):=⟨rfl,wI n,h.led⟩
theorem wF {b:Bool} {t:bH} (h:ka b t) (n:Nat):ka b (t.orStandIn n):=by
 unfold bH.orStandIn
 split
 ·exact h
 ·exact pX h n
theorem yy {b:Bool} {t:bH} (h:ka b t) (es:Array (Int×ag)) (hh:Int) (x:ag):ka b (layNew t es hh x).2.1:=by
 unfold layNew
 set_option tactic.hygienic true in split
 ·rename_i slot wd hf
  have hn:=uY h hf
  refine wF ?_ _
  refine ⟨?_,vx h.rise hn,h.led⟩
  show (if bH.has t.dummies slot then _ else t.dummies)=#[]
  rw [h.no,xg]
  rfl
 ·exact pX h _
theorem AI {b:Bool} {t:bH} (h:ka b t) (es:Array (Int×ag)) (wanted:Nat):ka b (relayAll t es wanted).2.1:=by
 unfold relayAll
 set_option tactic.hygienic true in split
 ·rename_i t' order hl
  dsimp only
  split
  ·skip
   obtain ⟨owner,ho,hl⟩:=Option.bind_eq_some_iff.mp hl
   simp only [Option.pure_def,jQ,dU] at hl
   obtain ⟨rfl,_⟩:=hl
   refine ⟨rfl,?_,h.led⟩
   show dz _ _
   simp only [List.map_filterMap]
   have hp:=jL (n:=bH.sizeAbove wanted-1+1)
   refine List.pairwise_filterMap.mpr (hp.imp fun {a c} hac x hx y hy=>?_)
   cases q:owner.getD a none with
   | none=>rw [q] at hx;simp at hx
   | some _=>
    cases q2:owner.getD c none with
    | none=>rw [q2] at hy;simp at hy
    | some _=>rw [q] at hx;rw [q2] at hy;simp at hx hy;exact cR (.lt aq ar (.lt az aI (.qe az aq (.eq aI ar .o)))) τ hac hx hy
  ·exact pX h _
 ·exact pX h _
end SI
namespace C
structure eS where
 al:Nat
 ah:Nat
 bl:Nat
 bh:Nat
noncomputable abbrev cv:=Nat×Nat×Nat
section
variable (e r:Nat→Nat→Bool)
noncomputable def nO:Nat→Nat→Nat→Nat
 | 0,_,_=>0
 | n+1,i,j=>if e (i-1) (j-1) then nO n (i-1) (j-1)+1 else 0
noncomputable def jh:Nat→Nat→Nat→Nat
 | 0,_,_=>0
 | n+1,p,q=>if e p q then jh n (p+1) (q+1)+1 else 0
noncomputable def eN (g:eS) (x:cv):cv:=
 let t:=nO e (fU (x.1-g.al) (x.2.1-g.bl)) x.1 x.2.1
 let u:=jh e (fU (g.ah-(x.1+x.2.2)) (g.bh-(x.2.1+x.2.2))) (x.1+x.2.2) (x.2.1+x.2.2)
 (x.1-t,x.2.1-t,t+x.2.2+u)
noncomputable def ins (g:eS) (x:cv):Bool:=decide (g.al≤x.1) && decide (g.bl≤x.2.1) && decide (x.1+x.2.2≤g.ah) && decide (x.2.1+x.2.2≤g.bh)
noncomputable def jU (g:eS) (x:cv):eS:=⟨g.al,x.1,g.bl,x.2.1⟩
noncomputable def mJ (g:eS) (x:cv):eS:=⟨x.1+x.2.2,g.ah,x.2.1+x.2.2,g.bh⟩
noncomputable def G:eS→List cv→List cv
 | _,[]=>[]
 | g,x::S=>if ins g x then G (jU g (eN e g x)) S++eN e g x::G (mJ g (eN e g x)) S else G g S
theorem mR:∀n i j,nO e n i j≤n
 | 0,_,_=>bd _
 | n+1,i,j=>by
  unfold nO
  split
  ·have:=mR n (i-1) (j-1);exact cW (.le (.s 0 1) (.s 1 1) (.le aq ar .o)) τ this
  ·exact ci _ _
theorem ls:∀n p q,jh e n p q≤n
 | 0,_,_=>bd _
 | n+1,p,q=>by
  unfold jh
  split
  ·have:=ls n (p+1) (q+1);exact cW (.le (.s 0 1) (.s 1 1) (.le aq ar .o)) τ this
  ·exact ci _ _
theorem l6:∀n p q t,t<jh e n p q→e (p+t) (q+t)=true
 | 0,_,_,_,h=>absurd h (dv _)
 | n+1,p,q,t,h=>by
  unfold jh at h
  split at h
  ·rename_i he
   cases t with
   | zero=>exact he
   | succ t=>
    have:=l6 n (p+1) (q+1) t (by exact cW (.lt aq ar (.lt (.s 0 1) (.s 1 1) .o)) τ h)
    rw [show p+(t+1)=p+1+t by exact ak (cW (.le (.p aq (.s 1 1)) (.p (.s 0 1) ar) .o) τ) (cW (.le (.p (.s 0 1) ar) (.p aq (.s 1 1)) .o) τ),show q+(t+1)=q+1+t by exact ak (cW (.le (.p aq (.s 1 1)) (.p (.s 0 1) ar) .o) τ) (cW (.le (.p (.s 0 1) ar) (.p aq (.s 1 1)) .o) τ)]
    exact this
  ·lia
theorem uZ:∀n p q,jh e n p q<n→e (p+jh e n p q) (q+jh e n p q)=false
 | 0,_,_,h=>absurd h (dv _)
 | n+1,p,q,h=>by
  unfold jh at h ⊢
  split
  ·rename_i he
   rw [if_pos he] at h
   have:=uZ n (p+1) (q+1) (by exact cW (.lt aq ar (.lt (.s 0 1) (.s 1 1) .o)) τ h)
   rw [show p+(jh e n (p+1) (q+1)+1)=p+1+jh e n (p+1) (q+1) by exact ak (cW (.le (.p aq (.s 1 1)) (.p (.s 0 1) ar) .o) τ) (cW (.le (.p (.s 0 1) ar) (.p aq (.s 1 1)) .o) τ),show q+(jh e n (p+1) (q+1)+1)=q+1+jh e n (p+1) (q+1) by exact ak (cW (.le (.p aq (.s 1 1)) (.p (.s 0 1) ar) .o) τ) (cW (.le (.p (.s 0 1) ar) (.p aq (.s 1 1)) .o) τ)]
   exact this
  ·rename_i he
   simpa using he
theorem ry:∀n i j t,n≤i→n≤j→t<nO e n i j→e (i-1-t) (j-1-t)=true
 | 0,_,_,_,_,_,h=>absurd h (dv _)
 | n+1,i,j,t,hi,hj,h=>by
  unfold nO at h
  split at h
  ·rename_i he
   cases t with
   | zero=>exact he
   | succ t=>
    have:=ry n (i-1) (j-1) t (by exact c8 (.le aq ar (.le (.s 0 1) az (.le az (.s 1 1) .o))) τ hi bZ) (by exact c8 (.le aq ar (.le (.s 0 1) az (.le az (.s 1 1) .o))) τ hj bZ) (by exact cW (.lt aq ar (.lt (.s 0 1) (.s 1 1) .o)) τ h)
    rw [show i-1-(t+1)=i-1-1-t by exact (dI (i-1-1) t).elim (fun ζ2=>ak (cW (.le aq ar (.eq aq (.k 0) .o)) τ (bR (c8 (.le aq (.s 1 1) (.le aq (.s 2 1) (.le az ar .o))) τ bZ ζ2))) (cW (.le aq ar (.eq aq (.k 0) .o)) τ (bR ζ2))) fun ζ2=>(dI (i-1) 1).elim (fun ζ1=>ak (cW (.le aq ar (.eq aq (.k 0) .o)) τ (bR (cW (.le aq (.s 1 1) (.le aq (.k 1) .o)) τ ζ1))) (c8 (.le aq ar (.le aq az (.eq az (.k 0) .o))) τ (aO _ _) (bR ζ1))) fun ζ1=>ak (eW (.le aq ar (.le az (.p ar aI) (.le bx (.s 2 1) (.eq (.p aq (.s 3 1)) bx .o)))) τ bZ bZ (aa (c8 (.le (.s 0 1) ar (.le aq az (.eq (.s 2 1) ar .o))) τ ζ2 (aa ζ1)))) (eW (.le aq ar (.le az (.p ar (.s 3 1)) (.eq (.p aq aI) bx (.eq (.s 4 1) az .o)))) τ bZ (aa ζ2) (aa ζ1)),show j-1-(t+1)=j-1-1-t by exact (dI (j-1-1) t).elim (fun ζ2=>ak (cW (.le aq ar (.eq aq (.k 0) .o)) τ (bR (c8 (.le aq (.s 1 1) (.le aq (.s 2 1) (.le az ar .o))) τ bZ ζ2))) (cW (.le aq ar (.eq aq (.k 0) .o)) τ (bR ζ2))) fun ζ2=>(dI (j-1) 1).elim (fun ζ1=>ak (cW (.le aq ar (.eq aq (.k 0) .o)) τ (bR (cW (.le aq (.s 1 1) (.le aq (.k 1) .o)) τ ζ1))) (c8 (.le aq ar (.le aq az (.eq az (.k 0) .o))) τ (aO _ _) (bR ζ1))) fun ζ1=>ak (eW (.le aq ar (.le az (.p ar aI) (.le bx (.s 2 1) (.eq (.p aq (.s 3 1)) bx .o)))) τ bZ bZ (aa (c8 (.le (.s 0 1) ar (.le aq az (.eq (.s 2 1) ar .o))) τ ζ2 (aa ζ1)))) (eW (.le aq ar (.le az (.p ar (.s 3 1)) (.eq (.p aq aI) bx (.eq (.s 4 1) az .o)))) τ bZ (aa ζ2) (aa ζ1))]
    exact this
  ·lia
theorem uG:∀n i j,n≤i→n≤j→nO e n i j<n→e (i-1-nO e n i j) (j-1-nO e n i j)=false
 | 0,_,_,_,_,h=>absurd h (dv _)
 | n+1,i,j,hi,hj,h=>by
  unfold nO at h ⊢
  split
  ·rename_i he
   rw [if_pos he] at h
   have:=uG n (i-1) (j-1) (by exact c8 (.le aq ar (.le (.s 0 1) az (.le az (.s 1 1) .o))) τ hi bZ) (by exact c8 (.le aq ar (.le (.s 0 1) az (.le az (.s 1 1) .o))) τ hj bZ) (by exact cW (.lt aq ar (.lt (.s 0 1) (.s 1 1) .o)) τ h)
   rw [show i-1-(nO e n (i-1) (j-1)+1)=i-1-1-nO e n (i-1) (j-1) by exact ak (eW (.le aq ar (.le az (.p ar aI) (.le bx (.s 2 1) (.eq (.p aq (.s 3 1)) bx .o)))) τ bZ bZ (aa (cR (.le (.s 0 1) ar (.le (.s 2 1) aI (.lt (.s 0 1) (.s 2 1) (.le aI (.s 1 1) .o)))) τ hi h bZ))) (eW (.le aq ar (.le az (.p ar (.s 3 1)) (.eq (.p aq aI) bx (.eq (.s 4 1) az .o)))) τ bZ (aa (eW (.le aq ar (.le (.s 2 1) aI (.lt (.s 0 1) (.s 2 1) (.le aI (.s 4 1) (.le bx (.s 1 1) .o))))) τ hi h bZ bZ)) (aa (cR (.le (.k 1) aq (.le (.s 1 1) az (.lt (.s 3 1) (.s 1 1) (.le az (.s 0 1) .o)))) τ hi h bZ))),show j-1-(nO e n (i-1) (j-1)+1)=j-1-1-nO e n (i-1) (j-1) by exact ak (eW (.le aq ar (.le az (.p ar aI) (.le bx (.s 2 1) (.eq (.p aq (.s 3 1)) bx .o)))) τ bZ bZ (aa (cR (.le (.s 0 1) ar (.le (.s 2 1) aI (.lt (.s 0 1) (.s 2 1) (.le aI (.s 1 1) .o)))) τ hj h bZ))) (eW (.le aq ar (.le az (.p ar (.s 3 1)) (.eq (.p aq aI) bx (.eq (.s 4 1) az .o)))) τ bZ (aa (eW (.le aq ar (.le (.s 2 1) aI (.lt (.s 0 1) (.s 2 1) (.le aI (.s 4 1) (.le bx (.s 1 1) .o))))) τ hj h bZ bZ)) (aa (cR (.le (.k 1) aq (.le (.s 1 1) az (.lt (.s 3 1) (.s 1 1) (.le az (.s 0 1) .o)))) τ hj h bZ)))]
   exact this
  ·rename_i he
   simpa using he
theorem dO {g:eS} {x:cv}:ins g x=true↔g.al≤x.1∧g.bl≤x.2.1∧x.1+x.2.2≤g.ah∧x.2.1+x.2.2≤g.bh:=by
 unfold ins
 simp only [g7,decide_eq_true_eq]
 constructor
 ·rintro ⟨⟨⟨a,b⟩,c⟩,d⟩;exact ⟨a,b,c,d⟩
 ·rintro ⟨a,b,c,d⟩;exact ⟨⟨⟨a,b⟩,c⟩,d⟩
structure zj (g:eS) (x y:cv):Prop where
 al:g.al≤y.1
 bl:g.bl≤y.2.1
 ah:y.1+y.2.2≤g.ah
 bh:y.2.1+y.2.2≤g.bh
 i:y.1≤x.1
 j:y.2.1≤x.2.1
 ij:x.1-y.1=x.2.1-y.2.1
 p:x.1+x.2.2≤y.1+y.2.2
 q:x.2.1+x.2.2≤y.2.1+y.2.2
 back:g.al<y.1→g.bl<y.2.1→e (y.1-1) (y.2.1-1)=false
 on:y.1+y.2.2<g.ah→y.2.1+y.2.2<g.bh→e (y.1+y.2.2) (y.2.1+y.2.2)=false
theorem dC {g:eS} {x:cv} (h:ins g x=true):zj e g x (eN e g x):=by
 obtain ⟨h1,h2,h3,h4⟩:=dO.mp h
 obtain ⟨i,j,s⟩:=x
 simp only at h1 h2 h3 h4
 have b1:=Nat.le_min.mp (mR e (fU (i-g.al) (j-g.bl)) i j)
 have b2:=Nat.le_min.mp (ls e (fU (g.ah-(i+s)) (g.bh-(j+s))) (i+s) (j+s))
 have c1:=uG e (fU (i-g.al) (j-g.bl)) i j (aj (aN _ _) (aO _ _)) (aj (br _ _) (aO _ _))
 have c2:=uZ e (fU (g.ah-(i+s)) (g.bh-(j+s))) (i+s) (j+s)
 rw [Nat.lt_min] at c1 c2
 unfold eN
 simp only
 generalize nO e (fU (i-g.al) (j-g.bl)) i j=t at *
 generalize jh e (fU (g.ah-(i+s)) (g.bh-(j+s))) (i+s) (j+s)=u at *
 obtain ⟨al,ah,bl,bh⟩:=g
 simp only at *
 have p1:=eB h1 b1.1
 have p2:=eB h2 b1.2
 have p3:=eB h3 b2.1
 have p4:=eB h4 b2.2
 clear b1 b2
 refine ⟨?_,?_,?_,?_,?_,?_,?_,?_,?_,?_,?_⟩<;>simp only
 ·exact cR (.le aq ar (.le (.p az aq) aI (.le aI (.p ar az) .o))) τ p1 bZ
 ·exact cR (.le aq ar (.le (.p az aq) aI (.le aI (.p ar az) .o))) τ p2 bZ
 ·exact kr (.le (.p aq (.p (.p ar az) aI)) bx (.le (.p aI (.p cV az)) bx (.eq (.p aq ar) cV .o))) τ p3 (aa (c8 (.le aq ar (.le (.p aq az) ar .o)) τ p1))
 ·exact kr (.le (.p aq (.p (.p ar az) aI)) bx (.le (.p aI (.p cV az)) bx (.eq (.p aq ar) cV .o))) τ p4 (aa (c8 (.le aq ar (.le (.p aq az) ar .o)) τ p2))
 ·exact (aO _ _)
 ·exact (aO _ _)
 ·exact ak (sM (.le aq ar (.le az (.p ar aI) (.le bx (.p cV ee) (.eq (.p aq cV) bx (.eq (.p aI ee) az .o))))) τ bZ bZ (aa (aO _ _)) (aa (c8 (.le aq ar (.le (.p aq az) ar .o)) τ p2))) (sM (.le aq ar (.le az (.p ar aI) (.le bx (.p cV ee) (.eq (.p aq cV) bx (.eq (.p aI ee) az .o))))) τ bZ bZ (aa (aO _ _)) (aa (c8 (.le aq ar (.le (.p aq az) ar .o)) τ p1)))
 ·exact eW (.le (.p aq ar) (.p az (.p (.p aI ar) bx)) (.le aq (.p az aI) .o)) τ bZ
 ·exact eW (.le (.p aq ar) (.p az (.p (.p aI ar) bx)) (.le aq (.p az aI) .o)) τ bZ
 ·intro k1 k2
  rw [show i-t-1=i-1-t by exact ak (kr (.le aq ar (.le az (.p ar aI) (.le bx (.s 2 1) (.eq (.s 0 1) cV (.eq (.p cV aI) bx .o))))) τ bZ bZ (aa (cW (.le (.k 1) aq (.lt ar aq .o)) τ k1)) (aa (c8 (.le aq ar (.le (.p aq az) ar .o)) τ p1))) (kr (.le aq ar (.le az (.s 1 1) (.le aI (.p az bx) (.eq (.s 5 1) aI (.eq (.p aq bx) cV .o))))) τ bZ bZ (aa (c8 (.le (.k 1) aq (.lt ar az (.le az aq .o))) τ k1 (aO _ _))) (aa (eW (.le aq ar (.lt az aI (.le bx (.s 1 1) (.eq (.p aI aq) bx .o)))) τ k1 bZ (aa (c8 (.le aq ar (.le (.p aq az) ar .o)) τ p1))))),show j-t-1=j-1-t by exact ak (kr (.le aq ar (.le az (.p ar aI) (.le bx (.s 2 1) (.eq (.s 0 1) cV (.eq (.p cV aI) bx .o))))) τ bZ bZ (aa (cW (.le (.k 1) aq (.lt ar aq .o)) τ k2)) (aa (c8 (.le aq ar (.le (.p aq az) ar .o)) τ p2))) (kr (.le aq ar (.le az (.s 1 1) (.le aI (.p az bx) (.eq (.s 5 1) aI (.eq (.p aq bx) cV .o))))) τ bZ bZ (aa (c8 (.le (.k 1) aq (.lt ar az (.le az aq .o))) τ k2 (aO _ _))) (aa (eW (.le aq ar (.lt az aI (.le bx (.s 1 1) (.eq (.p aI aq) bx .o)))) τ k2 bZ (aa (c8 (.le aq ar (.le (.p aq az) ar .o)) τ p2)))))]
  exact c1 ⟨by exact eW (.lt aq ar (.lt az aI (.le bx (.p ar az) (.eq (.p aI aq) bx .o)))) τ k1 bZ (aa (c8 (.le aq ar (.le (.p aq az) ar .o)) τ p1)),by exact eW (.lt aq ar (.lt az aI (.le bx (.p ar az) (.eq (.p aI aq) bx .o)))) τ k2 bZ (aa (c8 (.le aq ar (.le (.p aq az) ar .o)) τ p2))⟩
 ·intro k1 k2
  rw [show i-t+(t+s+u)=i+s+u by exact ak (eW (.le (.p aq (.p (.p ar az) aI)) (.p (.p bx az) aI) (.eq (.p aq ar) bx .o)) τ (aa (c8 (.le aq ar (.le (.p aq az) ar .o)) τ p1))) (eW (.le (.p (.p aq ar) az) (.p aI (.p (.p bx ar) az)) (.le aq (.p aI bx) .o)) τ bZ),show j-t+(t+s+u)=j+s+u by exact ak (eW (.le (.p aq (.p (.p ar az) aI)) (.p (.p bx az) aI) (.eq (.p aq ar) bx .o)) τ (aa (c8 (.le aq ar (.le (.p aq az) ar .o)) τ p2))) (eW (.le (.p (.p aq ar) az) (.p aI (.p (.p bx ar) az)) (.le aq (.p aI bx) .o)) τ bZ)]
  exact c2 ⟨by exact sM (.lt aq ar (.lt (.p az (.p (.p aI bx) aq)) cV (.le cV (.p ar (.p ee bx)) (.le ee (.p az aI) .o)))) τ k1 bZ bZ,by exact sM (.lt aq ar (.lt (.p az (.p (.p aI bx) aq)) cV (.le cV (.p ar (.p ee bx)) (.le ee (.p az aI) .o)))) τ k2 bZ bZ⟩
end
section
variable (e:Nat→Nat→Bool)
noncomputable def o8 (x y:cv):eS:=⟨x.1+x.2.2,y.1,x.2.1+x.2.2,y.2.1⟩
noncomputable def gC (x:cv):List cv→List cv
 | a::b::l=>if ins (o8 a b) x then a::eN e (o8 a b) x::b::l else a::gC x (b::l)
 | l=>l
noncomputable def mz (S:List cv):List cv→List cv
 | a::b::l=>a::(G e (o8 a b) S++mz S (b::l))
 | l=>l
noncomputable def pE:List cv→Prop
 | a::b::l=>a.1+a.2.2≤b.1∧a.2.1+a.2.2≤b.2.1∧pE (b::l)
 | _=>True
theorem pE.ge {a:cv}:∀{l:List cv},pE (a::l)→∀b∈l,a.1+a.2.2≤b.1
 | [],_,_,h=>by cases h
 | b::l,h,c,hc=>by
  obtain ⟨h1,_,h3⟩:=h
  rcases aC.mp hc with rfl|hc
  ·exact h1
  ·have:=h3.ge c hc;exact eW (.le (.p aq ar) az (.le (.p aq ar) aI (.le (.p aI bx) az .o))) τ h1 this
theorem sA {x:cv} {S:List cv}:∀{l:List cv},(∀a b,[a,b] <:+: l→ins (o8 a b) x=false)→mz e (x::S) l=mz e S l
 | [],_=>rfl
 | [_],_=>rfl
 | a::b::l,h=>by
  have h1:=h a b ⟨[],l,rfl⟩
  have h2:=sA (S:=S) (l:=b::l) fun c d ⟨s,t,e⟩=>h c d ⟨a::s,t,by rw [dD,dD,e]⟩
  unfold mz
  rw [h2]
  conv=>lhs;unfold G
  rw [h1]
  rfl
theorem uq {x a:cv} {l:List cv} (hc:pE (a::l)) (h:x.1<a.1):∀c d,[c,d] <:+: (a::l)→ins (o8 c d) x=false:=by
 intro c d ⟨s,t,he⟩
 have hm:c∈a::l:=by rw [←he];simp
 have:a.1≤c.1:=by
  rcases aC.mp hm with rfl|hm
  ·exact bd _
  ·have:=hc.ge c hm;exact c8 (.le aq ar (.le (.p aq az) ar .o)) τ this
 cases hi:ins (o8 c d) x with
 | false=>rfl
 | true=>
  have:=(dO.mp hi).1
  simp only [o8] at this
  lia
theorem tK {x:cv} {S:List cv} (hx:0<x.2.2):∀{l:List cv},pE l→mz e (x::S) l=mz e S (gC e x l)
 | [],_=>rfl
 | [_],_=>rfl
 | a::b::l,h=>by
  obtain ⟨h1,h2,h3⟩:=h
  unfold gC
  cases hi:ins (o8 a b) x with
  | true=>
   skip
   have hI:=dO.mp hi
   have hlt:x.1<b.1:=by have:=hI.2.2.1;simp only [o8] at this;exact c8 (.lt aq ar (.lt (.k 0) az (.le (.p aq az) ar .o))) τ hx this
   have hs:=sA e (S:=S) (uq h3 hlt)
   conv=>lhs;unfold mz
   rw [hs]
   conv=>lhs;unfold G
   rw [hi]
   simp only [if_true]
   conv=>rhs
   conv=>rhs
   simp only [bK,dD]
   rfl
  | false=>
   simp only [bv,if_false]
   have ih:=tK (S:=S) hx h3
   conv=>lhs;unfold mz
   rw [ih]
   conv=>lhs;unfold G
   rw [hi]
   simp only [bv,if_false]
   cases hp:gC e x (b::l) with
   | nil=>cases l with
    | nil=>simp [gC] at hp
    | cons c l=>unfold gC at hp;split at hp<;>cases hp
   | cons b' l'=>
    have:b'=b:=by
     cases l with
     | nil=>simp only [gC,oQ.injEq] at hp;exact hp.1.symm
     | cons c l=>unfold gC at hp;split at hp<;>exact (oQ.inj hp).1.symm
    subst this
    conv=>rhs;unfold mz
theorem tC {x:cv}:∀{l:List cv},pE l→pE (gC e x l)
 | [],_=>trivial
 | [_],_=>trivial
 | a::b::l,h=>by
  obtain ⟨h1,h2,h3⟩:=h
  unfold gC
  cases hi:ins (o8 a b) x with
  | true=>
   skip
   have f:=dC e hi
   exact ⟨f.al,f.bl,f.ah,f.bh,h3⟩
  | false=>
   simp only [bv,if_false]
   have ih:=tC (x:=x) h3
   cases hp:gC e x (b::l) with
   | nil=>exact trivial
   | cons b' l'=>
    have:b'=b:=by
     cases l with
     | nil=>simp only [gC,oQ.injEq] at hp;exact hp.1.symm
     | cons c l=>unfold gC at hp;split at hp<;>exact (oQ.inj hp).1.symm
    subst this
    rw [hp] at ih
    exact ⟨h1,h2,ih⟩
theorem tI:∀l:List cv,mz e [] l=l
 | []=>rfl
 | [_]=>rfl
 | a::b::l=>by
  unfold mz
  rw [tI (b::l)]
  rfl
theorem sk:∀(S:List cv) (l:List cv),(∀x∈S,0<x.2.2)→pE l→S.foldl (fun l x=>gC e x l) l=mz e S l
 | [],l,_,_=>(tI e l).symm
 | x::S,l,hS,h=>by
  rw [qf,sk S _ (fun y hy=>hS y (.tail _ hy)) (tC e h),tK e (hS x (.head _)) h]
end
section
variable {e r:Nat→Nat→Bool}
theorem rE {g:eS}:∀{S1 S2:List cv},(∀x∈S1,ins g x=false)→G e g (S1++S2)=G e g S2
 | [],_,_=>rfl
 | x::S1,S2,h=>by
  rw [dD]
  conv=>lhs;unfold G
  rw [h x (.head _)]
  skip
  exact rE fun y hy=>h y (.tail _ hy)
theorem oO {g:eS} {S:List cv} (h:∀x∈S,ins g x=false):G e g S=[]:=by
 have:=rE (e:=e) (S2:=[]) h
 rw [du] at this
 rw [this];rfl
noncomputable def lX (x y:cv):Prop:=y.2.2<x.2.2∨(x.2.2=y.2.2∧(x.1<y.1∨(x.1=y.1∧x.2.1≤y.2.1)))
noncomputable def mY (r:Nat→Nat→Bool) (x:cv):Prop:=0<x.2.2∧∀t,t<x.2.2→r (x.1+t) (x.2.1+t)=true
structure re (r:Nat→Nat→Bool) (la lb:Nat) (S:List cv):Prop where
 run:∀x∈S,mY r x
 all:∀x,mY r x→x.1+x.2.2≤la→x.2.1+x.2.2≤lb→x∈S
 sorted:S.Pairwise lX
noncomputable def mB (r:Nat→Nat→Bool) (g:eS) (x:cv):Prop:=
 (x=(g.al,g.bl,0)∧∀i j,g.al≤i→i<g.ah→g.bl≤j→j<g.bh→r i j=false)∨
 (mY r x∧ins g x=true∧∀y,mY r y→ins g y=true→lX x y)
theorem GC {a b c d:Nat} (h:¬(a<b∧c<d)):b≤a∨d≤c:=(Nat.lt_or_ge a b).elim (fun p=>.inr (aZ fun q=>h ⟨p,q⟩)) .inl
theorem HQ {a b c d:Nat} (h:¬(a<b∧c<d)) (ha:a=0) (hc:c=0):fU b d=0:=by
 subst ha hc
 exact (GC h).elim (fun p=>Nat.le_zero.mp (aj (aN _ _) p)) fun p=>Nat.le_zero.mp (aj (br _ _) p)
theorem rf {x y:cv} (h1:lX x y) (h2:lX y x):x=y:=by
 have e:x.2.2=y.2.2:=h1.elim (fun p=>h2.elim (fun q=>absurd p (Nat.lt_asymm q)) fun q=>q.1.symm) (·.1)
 have k1:=h1.elim (fun p=>absurd e.symm (ei p)) (·.2)
 have k2:=h2.elim (fun p=>absurd e (ei p)) (·.2)
 have e1:x.1=y.1:=k1.elim (fun p=>k2.elim (fun q=>absurd p (Nat.lt_asymm q)) fun q=>q.1.symm) (·.1)
 exact Prod.ext e1 (Prod.ext (ak (k1.elim (fun p=>absurd e1 (ei p)) (·.2)) (k2.elim (fun p=>absurd e1.symm (ei p)) (·.2))) e)
theorem we {la lb:Nat} {S:List cv} {g:eS} {x:cv} (hS:re r la lb S) (hla:g.ah≤la) (hlb:g.bh≤lb) (hx:mY r x) (hi:ins g x=true)
  (hb:∀y,mY r y→ins g y=true→lX x y):g8 fun S1 S2=>S=S1++x::S2∧∀y∈S1,ins g y=false:=by
 obtain ⟨_,_,k3,k4⟩:=dO.mp hi
 obtain ⟨S1,S2,he⟩:=List.append_of_mem (hS.all x hx (by exact aj k3 hla) (by exact aj k4 hlb))
 have hp:=hS.sorted
 rw [he] at hp
 have h1:∀y∈S1,lX y x:=fun y hy=>(cw.mp hp).2.2 y hy x (.head _)
 have:∀(T:List cv),(∀y∈T,y∈S∧lX y x)→∀R,g8 fun S1' S2'=>T++x::R=S1'++x::S2'∧∀y∈S1',ins g y=false:=by
  intro T
  induction T with
  | nil=>intro _ R;exact ⟨[],R,rfl,fun O h=>nomatch h⟩
  | cons y T ih=>
   intro hT R
   obtain ⟨hy1,hy2⟩:=hT y (.head _)
   cases hyi:ins g y with
   | true=>
    have:x=y:=rf (hb y (hS.run y hy1) hyi) hy2
    subst this
    exact ⟨[],T++x::R,rfl,fun O h=>nomatch h⟩
   | false=>
    obtain ⟨A,B,e1,e2⟩:=ih (fun z hz=>hT z (.tail _ hz)) R
    refine ⟨y::A,B,by rw [dD,dD,e1],fun z hz=>?_⟩
    rcases aC.mp hz with rfl|hz
    ·exact hyi
    ·exact e2 z hz
 obtain ⟨A,B,e1,e2⟩:=this S1 (fun y hy=>⟨by rw [he];exact iZ _ hy,h1 y hy⟩) S2
 exact ⟨A,B,he.trans e1,e2⟩
theorem B1 {g:eS} {x y:cv} (h:ins (jU g x) y=true) (hx:x.1≤g.ah) (hx':x.2.1≤g.bh):ins g y=true:=by
 obtain ⟨a,b,c,d⟩:=dO.mp h
 simp only [jU] at a b c d
 exact dO.mpr ⟨a,b,by exact aj c hx,by exact aj d hx'⟩
theorem B2 {g:eS} {x y:cv} (h:ins (mJ g x) y=true) (hx:g.al≤x.1+x.2.2) (hx':g.bl≤x.2.1+x.2.2):ins g y=true:=by
 obtain ⟨a,b,c,d⟩:=dO.mp h
 simp only [mJ] at a b c d
 exact dO.mpr ⟨by exact aj hx a,by exact aj hx' b,c,d⟩
theorem wZ {la lb:Nat} {S:List cv} {g:eS} {x:cv} (hS:re r la lb S) (hla:g.ah≤la) (hlb:g.bh≤lb) (hx:mY r x) (hi:ins g x=true)
  (hb:∀y,mY r y→ins g y=true→lX x y) :
  G e g S=G e (jU g (eN e g x)) S++eN e g x::G e (mJ g (eN e g x)) S:=by
 obtain ⟨S1,S2,he,h1⟩:=we hS hla hlb hx hi hb
 have f:=dC e hi
 have hpos:=hx.1
 have fal:=f.al;have fbl:=f.bl;have fah:=f.ah;have fbh:=f.bh;have fi:=f.i;have fj:=f.j;have fp:=f.p;have fq:=f.q
 rw [he,rE h1]
 have l1:∀y∈S1++[x],ins (jU g (eN e g x)) y=false:=by
  intro y hy
  cases h:ins (jU g (eN e g x)) y with
  | false=>rfl
  | true=>
   rcases bw.mp hy with hy|hy
   ·have:=B1 h (by exact c8 (.le aq ar (.le (.p aq az) ar .o)) τ fah) (by exact c8 (.le aq ar (.le (.p aq az) ar .o)) τ fbh)
    rw [h1 y hy] at this;cases this
   ·rw [aD.mp hy] at h
    obtain ⟨_,_,c,_⟩:=dO.mp h
    exact absurd (aj c f.i) (fZ (jH hpos))
 have l2:∀y∈S1++[x],ins (mJ g (eN e g x)) y=false:=by
  intro y hy
  cases h:ins (mJ g (eN e g x)) y with
  | false=>rfl
  | true=>
   rcases bw.mp hy with hy|hy
   ·have:=B2 h (by exact c8 (.le aq (.p ar az) (.le aq ar .o)) τ fal) (by exact c8 (.le aq (.p ar az) (.le aq ar .o)) τ fbl)
    rw [h1 y hy] at this;cases this
   ·rw [aD.mp hy] at h
    obtain ⟨a,_,_,_⟩:=dO.mp h
    exact absurd (aj f.p a) (fZ (jH hpos))
 have e1:G e (jU g (eN e g x)) (S1++x::S2)=G e (jU g (eN e g x)) S2:=by
  rw [show S1++x::S2=(S1++[x])++S2 by simp,rE l1]
 have e2:G e (mJ g (eN e g x)) (S1++x::S2)=G e (mJ g (eN e g x)) S2:=by
  rw [show S1++x::S2=(S1++[x])++S2 by simp,rE l2]
 rw [e1,e2]
 conv=>lhs;unfold G
 rw [hi]
 simp only [if_true]
noncomputable def M (e:Nat→Nat→Bool) (bst:eS→cv):Nat→eS→List cv
 | 0,_=>[]
 | n+1,g=>
  let x:=eN e g (bst g)
  if x.2.2=0 then [] else
   (if g.al<x.1∧g.bl<x.2.1 then M e bst n (jU g x) else [])++x::(if x.1+x.2.2<g.ah∧x.2.1+x.2.2<g.bh then M e bst n (mJ g x) else [])
noncomputable def tV (e:Nat→Nat→Bool) (g:eS):Prop:=g.al<g.ah→g.bl<g.bh→e g.al g.bl=false
structure Sub (la lb:Nat) (g:eS):Prop where
 a1:g.al≤g.ah
 a2:g.ah≤la
 b1:g.bl≤g.bh
 b2:g.bh≤lb
theorem uo {la lb:Nat} {S:List cv} {g:eS} (hS:re r la lb S) (h:∀i j,g.al≤i→i<g.ah→g.bl≤j→j<g.bh→r i j=false):∀x∈S,ins g x=false:=by
 intro x hx
 cases hi:ins g x with
 | false=>rfl
 | true=>
  obtain ⟨a,b,c,d⟩:=dO.mp hi
  have h1:=(hS.run x hx).1
  have h2:=(hS.run x hx).2 0 h1
  rw [fu,fu,h x.1 x.2.1 a (by exact c8 (.lt aq ar (.le (.p aq az) ar (.lt (.k 0) az .o))) τ c h1) b (by exact c8 (.lt aq ar (.le (.p aq az) ar (.lt (.k 0) az .o))) τ d h1)] at h2
  cases h2
theorem nU {la lb:Nat} {S:List cv} {g:eS} (hS:re r la lb S) (h:g.ah≤g.al∨g.bh≤g.bl):∀x∈S,ins g x=false:=
 uo hS fun i j a b c d=>h.elim (fun p=>absurd (av b p) (Nat.not_lt_of_le a)) fun p=>absurd (av d p) (Nat.not_lt_of_le c)
theorem uH (g:eS):eN e g (g.al,g.bl,0)=(g.al,g.bl,jh e (fU (g.ah-g.al) (g.bh-g.bl)) g.al g.bl):=by
 unfold eN
 simp only [pK,Nat.min_self,nO,fu,cY,jP]
theorem ym {g:eS} (h:tV e g):jh e (fU (g.ah-g.al) (g.bh-g.bl)) g.al g.bl=0:=by
 cases hn:fU (g.ah-g.al) (g.bh-g.bl) with
 | zero=>rfl
 | succ n=>
  unfold jh
  rw [h (ml hn) (mr hn)]
  rfl
theorem kj {g:eS} {x:cv} (hi:ins g x=true):tV e (mJ g (eN e g x)):=(dC e hi).on
theorem l9 {la lb:Nat} {g:eS} {x:cv} (hg:Sub la lb g) (hi:ins g x=true):Sub la lb (mJ g (eN e g x)):=
 ⟨(dC e hi).ah,hg.a2,(dC e hi).bh,hg.b2⟩
theorem nY {la lb:Nat} {g:eS} {x:cv} (hg:Sub la lb g) (hi:ins g x=true):Sub la lb (jU g (eN e g x)):=by
 have f:=dC e hi
 have:=f.ah;have:=f.bh;have:=hg.a2;have:=hg.b2
 exact ⟨f.al,by show (eN e g x).1≤la;exact cR (.le aq ar (.le (.p aq az) aI (.le aI ar .o))) τ ‹(eN e g x).fst+(eN e g x).snd.snd≤g.ah› ‹g.ah≤la›,f.bl,by show (eN e g x).2.1≤lb;exact cR (.le aq ar (.le (.p aq az) aI (.le aI ar .o))) τ ‹(eN e g x).snd.fst+(eN e g x).snd.snd≤g.bh› this⟩
theorem u7 {la lb:Nat} {g:eS} (hg:Sub la lb g):ins g (g.al,g.bl,0)=true:=dO.mpr ⟨bd _,bd _,hg.a1,hg.b1⟩
theorem GN {la lb:Nat} {S:List cv} {bst:eS→cv} (hS:re r la lb S) (hb:∀g,Sub la lb g→mB r g (bst g)):∀(n:Nat) (g:eS),g.ah-g.al<n→Sub la lb g→tV e g→M e bst n g=G e g S
 | 0,_,h,_,_=>absurd h (dv _)
 | n+1,g,hn,hg,hc=>by
  unfold M
  rcases hb g hg with ⟨he,hno⟩|⟨hx,hi,hbest⟩
  ·rw [he,uH,ym hc]
   skip
   exact (oO (uo hS hno)).symm
  ·have f:=dC e hi
   have hpos:=hx.1
   have fal:=f.al;have fbl:=f.bl;have fah:=f.ah;have fbh:=f.bh;have fi:=f.i;have fj:=f.j;have fp:=f.p;have fq:=f.q
   have hsz:(eN e g (bst g)).2.2≠0:=by exact fun ζ0=>cR (.ff (.lt (.k 0) aq (.le ar az (.le (.p az aq) (.p ar aI) (.eq aI (.k 0) .o))))) τ hpos fi fp ζ0
   simp only [hsz,if_false]
   rw [wZ hS hg.a2 hg.b2 hx hi hbest]
   have hl:(if g.al<(eN e g (bst g)).1∧g.bl<(eN e g (bst g)).2.1 then M e bst n (jU g (eN e g (bst g))) else [])=G e (jU g (eN e g (bst g))) S:=by
    split
    ·rename_i hlt
     refine GN hS hb n _ ?_ (nY hg hi) fun k1 k2=>?_
     ·exact Fm (.lt aq ar (.lt az (.s 1 1) (.lt (.k 0) aI (.le (.p bx cV) ee (.le bx jj (.le (.p jj aI) (.p bx cV) (.le ee (.p az tU) (.eq (.p aq tU) bx .o)))))))) τ hn hpos fah fi fp bZ (aa fal)
     ·exact hc (by exact cR (.lt aq ar (.le (.p az aI) ar (.lt aq az .o))) τ fah hlt.1) (by exact cR (.lt aq ar (.le (.p az aI) ar (.lt aq az .o))) τ fbh hlt.2)
    ·rename_i hlt
     exact (oO (nU hS (GC hlt))).symm
   have hr:(if (eN e g (bst g)).1+(eN e g (bst g)).2.2<g.ah∧(eN e g (bst g)).2.1+(eN e g (bst g)).2.2<g.bh then M e bst n (mJ g (eN e g (bst g))) else [])=G e (mJ g (eN e g (bst g))) S:=by
    split
    ·rename_i hlt
     refine GN hS hb n _ ?_ (l9 hg hi) (kj hi)
     exact Fm (.lt aq ar (.lt az (.s 1 1) (.lt (.k 0) aI (.le bx cV (.le cV ee (.le (.p ee aI) (.p cV jj) (.le tU (.p az bx) (.eq (.p aq (.p cV jj)) tU .o)))))))) τ hn hpos fal fi fp bZ (aa fah)
    ·rename_i hlt
     exact (oO (nU hS (GC hlt))).symm
   rw [hl,hr]
noncomputable def hd (l:List cv) (p:Nat×Nat):Nat×Nat:=match l with
 | []=>p
 | x::_=>(x.1,x.2.1)
noncomputable def pre (e:Nat→Nat→Bool) (p:Nat×Nat):List cv:=let u:=jh e (fU p.1 p.2) 0 0
 if u=0 then [] else [(0,0,u)]
theorem yo (l:List cv) (x:cv) (m:List cv) (p:Nat×Nat):hd (l++x::m) p=hd l (x.1,x.2.1):=by cases l<;>rfl
theorem Db {la lb:Nat} {S:List cv} {bst:eS→cv} (hS:re r la lb S) (hb:∀g,Sub la lb g→mB r g (bst g)):∀(n:Nat) (g:eS),g.al=0→g.bl=0→g.ah<n→Sub la lb g→
  M e bst n g=pre e (hd (G e g S) (g.ah,g.bh))++G e g S
 | 0,_,_,_,h,_=>absurd h (dv _)
 | n+1,g,ha,hbl,hn,hg=>by
  unfold M
  rcases hb g hg with ⟨he,hno⟩|⟨hx,hi,hbest⟩
  ·have hG:=oO (e:=e) (uo hS hno)
   rw [hG,du]
   have hz:=uH (e:=e) g
   have hi0:=u7 hg
   rw [he]
   rw [ha,hbl,jP,jP] at hz
   rw [ha,hbl] at hi0 ⊢
   rw [hz]
   show (if jh e (fU g.ah g.bh) 0 0=0 then [] else _)=(if jh e (fU g.ah g.bh) 0 0=0 then [] else _)
   split
   ·rfl
   ·simp only [dT,false_and,if_false,jy,cY]
    have hR:G e (mJ g (0,0,jh e (fU g.ah g.bh) 0 0)) S=[]:=by
     refine oO (uo hS fun i j a b c d=>hno i j (by exact cW (.le aq ar (.eq aq (.k 0) .o)) τ ha) b (by exact cW (.le aq ar (.eq aq (.k 0) .o)) τ hbl) d)
    have hcl:=kj (e:=e) hi0
    have hsb:=l9 (e:=e) hg hi0
    rw [hz] at hcl hsb
    split
    ·have hM:M e bst n (mJ g (0,0,jh e (fU g.ah g.bh) 0 0))=[]:=(GN hS hb n _ ?_ hsb hcl).trans hR
     ·rw [hM];rfl
     have hle:=ls e (fU g.ah g.bh) 0 0
     show g.ah-(0+jh e (fU g.ah g.bh) 0 0)<n
     exact (aK ‹¬jh e (fU g.ah g.bh) 0 0=0›).elim (fun ζ2=>cR (.lt aq ar (.lt az (.s 1 1) (.le aq az (.lt aI (.k 0) .o)))) τ hn (aO _ _) ζ2) fun ζ2=>cR (.lt aq ar (.lt az (.s 1 1) (.lt (.k 0) aI (.eq (.p aq (.p (.k 0) aI)) az .o)))) τ hn ζ2 (aa (c8 (.le (.p (.k 0) aq) ar (.le aq az (.le az ar .o))) τ hle (aN _ _)))
    ·rfl
  ·have f:=dC e hi
   have hpos:=hx.1
   have fal:=f.al;have fbl:=f.bl;have fah:=f.ah;have fbh:=f.bh;have fi:=f.i;have fj:=f.j;have fp:=f.p;have fq:=f.q
   have hsz:(eN e g (bst g)).2.2≠0:=by exact fun ζ0=>cR (.ff (.lt (.k 0) aq (.le ar az (.le (.p az aq) (.p ar aI) (.eq aI (.k 0) .o))))) τ hpos fi fp ζ0
   simp only [hsz,if_false]
   rw [wZ hS hg.a2 hg.b2 hx hi hbest,yo]
   have hr:(if (eN e g (bst g)).1+(eN e g (bst g)).2.2<g.ah∧(eN e g (bst g)).2.1+(eN e g (bst g)).2.2<g.bh then M e bst n (mJ g (eN e g (bst g))) else [])=G e (mJ g (eN e g (bst g))) S:=by
    split
    ·rename_i hlt
     refine GN hS hb n _ ?_ (l9 hg hi) (kj hi)
     exact sM (.lt aq ar (.lt az (.s 1 1) (.lt (.k 0) aI (.le (.p bx aI) (.p cV ee) (.eq (.p aq (.p cV ee)) az .o))))) τ hn hpos fp (aa fah)
    ·rename_i hlt
     exact (oO (nU hS (GC hlt))).symm
   rw [hr]
   have hl:(if g.al<(eN e g (bst g)).1∧g.bl<(eN e g (bst g)).2.1 then M e bst n (jU g (eN e g (bst g))) else []) =
     pre e (hd (G e (jU g (eN e g (bst g))) S) ((eN e g (bst g)).1,(eN e g (bst g)).2.1))++G e (jU g (eN e g (bst g))) S:=by
    split
    ·rename_i hlt
     have:=Db hS hb n (jU g (eN e g (bst g))) ha hbl (by show (eN e g (bst g)).1<n;exact kr (.lt aq ar (.lt az (.s 1 1) (.lt (.k 0) aI (.le (.p aq bx) az (.le aq cV (.le (.p cV aI) (.p aq bx) .o)))))) τ hn hpos fah fi fp) (nY hg hi)
     exact this
    ·rename_i hlt
     rw [oO (e:=e) (nU hS (g:=jU g (eN e g (bst g))) (GC hlt))]
     show []=pre e ((eN e g (bst g)).1,(eN e g (bst g)).2.1)++[]
     unfold pre
     rw [show fU ((eN e g (bst g)).1,(eN e g (bst g)).2.1).1 ((eN e g (bst g)).1,(eN e g (bst g)).2.1).2=0 from HQ hlt ha hbl]
     rfl
   rw [hl]
   simp only [bK]
end
section
variable {e r:Nat→Nat→Bool}
noncomputable abbrev cv.fin (x:cv):Nat×Nat:=(x.1+x.2.2,x.2.1+x.2.2)
noncomputable def Ch (p:Nat×Nat):List cv→Nat×Nat→Prop
 | [],q=>p.1≤q.1∧p.2≤q.2
 | x::l,q=>p.1≤x.1∧p.2≤x.2.1∧0<x.2.2∧Ch (cv.fin x) l q
theorem Ch.append {x:cv} {m:List cv} {q:Nat×Nat} (hx:0<x.2.2) (hm:Ch (cv.fin x) m q):∀{l:List cv} {p:Nat×Nat},Ch p l (x.1,x.2.1)→Ch p (l++x::m) q
 | [],_,h=>⟨h.1,h.2,hx,hm⟩
 | _::_,_,⟨a,b,c,d⟩=>⟨a,b,c,Ch.append hx hm d⟩
theorem Ch.le:∀{l:List cv} {p q:Nat×Nat},Ch p l q→p.1≤q.1∧p.2≤q.2
 | [],_,_,h=>h
 | x::l,p,q,⟨a,b,c,d⟩=>by
  have:=d.le
  skip
  exact ⟨cR (.le aq ar (.le aq az (.le (.p az aI) ar .o))) τ a this.1,cR (.le aq ar (.le aq az (.le (.p az aI) ar .o))) τ b this.2⟩
theorem vV:∀(S:List cv) (g:eS),(∀x∈S,0<x.2.2)→g.al≤g.ah→g.bl≤g.bh→Ch (g.al,g.bl) (G e g S) (g.ah,g.bh)
 | [],g,_,ha,hb=>⟨ha,hb⟩
 | x::S,g,hS,ha,hb=>by
  unfold G
  cases hi:ins g x with
  | true=>
   skip
   have f:=dC e hi
   have fp:=f.p;have fi:=f.i;have:=hS x (.head _)
   exact Ch.append (by exact cR (.lt (.k 0) aq (.le (.p ar az) (.p aI aq) (.le aI ar (.lt (.k 0) az .o)))) τ fp fi this) (vV S (mJ g (eN e g x)) (fun y hy=>hS y (.tail _ hy)) f.ah f.bh) (vV S (jU g (eN e g x)) (fun y hy=>hS y (.tail _ hy)) f.al f.bl)
  | false=>
   skip
   exact vV S g (fun y hy=>hS y (.tail _ hy)) ha hb
noncomputable def mL (e:Nat→Nat→Bool) (x:cv):Prop:=∀t,t<x.2.2→e (x.1+t) (x.2.1+t)=true
theorem Dn {i t u:Nat} (h:t≤i) (k:u<t):i-1-(t-1-u)=i-t+u:=by exact ak (sG (.le aq (.p ar az) (.le aI (.p ar bx) (.le cV (.p ee az) (.le bx (.s 5 1) (.eq (.s 7 1) aI (.eq (.p aq ee) jj .o)))))) τ bZ bZ bZ (aa (c8 (.le (.k 1) aq (.le ar aq (.lt az ar .o))) τ h k)) (aa (eW (.le aq ar (.le az aI (.le aI (.s 1 1) (.le aq bx (.eq (.s 4 1) az .o))))) τ h bZ (aO _ _) (aa (cW (.le (.k 1) aq (.lt ar aq .o)) τ k))))) (sG (.le (.p aq ar) az (.le aI (.p az bx) (.le cV (.s 3 1) (.eq (.p aq ee) cV (.eq (.p bx ar) jj (.eq (.s 7 1) ee .o)))))) τ bZ bZ (aa h) (aa (c8 (.le aq ar (.lt aq az (.le az (.s 1 1) .o))) τ k bZ)) (aa (cW (.le (.k 1) aq (.lt ar aq .o)) τ k)))
theorem Aj {i t u:Nat} (h:t≤i) (k:t≤u):i+(u-t)=i-t+u:=by exact ak (eW (.le (.p aq ar) (.p az aI) (.le aq (.p az bx) (.eq (.p ar bx) aI .o))) τ bZ (aa k)) (eW (.le (.p aq ar) (.p az aI) (.le ar (.p aI bx) (.eq (.p aq bx) az .o))) τ bZ (aa h))
theorem Do {i s t u:Nat} (h:t≤i) (k:t+s≤u):i+s+(u-t-s)=i-t+u:=by exact ak (sM (.le (.p (.p aq ar) az) (.p aI bx) (.le aq (.p aI cV) (.eq (.p az ar) ee (.eq (.p ee cV) bx .o)))) τ bZ (aa (cR (.le aq ar (.le (.p az aq) aI (.le aI (.p ar az) .o))) τ k bZ)) (aa (c8 (.le aq ar (.le (.p aq az) ar .o)) τ k))) (sM (.le (.p aq ar) (.p (.p az aI) bx) (.le cV (.p bx aI) (.le ar (.p cV ee) (.eq (.p aq ee) az .o)))) τ bZ bZ (aa h))
theorem sY {g:eS} {x:cv} (hi:ins g x=true) (hx:mL e x):mL e (eN e g x):=by
 obtain ⟨i,j,s⟩:=x
 have b1:=mR e (fU (i-g.al) (j-g.bl)) i j
 have m1:=aj (aN (i-g.al) (j-g.bl)) (aO _ _)
 have m2:=aj (br (i-g.al) (j-g.bl)) (aO _ _)
 have c1:=fun t=>ry e (fU (i-g.al) (j-g.bl)) i j t m1 m2
 have c2:=l6 e (fU (g.ah-(i+s)) (g.bh-(j+s))) (i+s) (j+s)
 have p1:=aj b1 m1
 have p2:=aj b1 m2
 intro u
 unfold eN
 skip
 clear b1 m1 m2
 generalize nO e (fU (i-g.al) (j-g.bl)) i j=t at *
 generalize jh e (fU (g.ah-(i+s)) (g.bh-(j+s))) (i+s) (j+s)=v at *
 clear hi
 intro hu
 by_cases k1:u<t
 ·have:=c1 (t-1-u) (by exact c8 (.lt aq ar (.le aq az (.eq (.s 2 1) ar .o))) τ (aO _ _) (aa (cW (.le (.k 1) aq (.lt ar aq .o)) τ k1)))
  rw [Dn p1 k1,Dn p2 k1] at this
  exact this
 ·have k1:=aZ k1
  by_cases k2:u<t+s
  ·have:=hx (u-t) (mP k1 k2)
   simp only at this
   rw [Aj p1 k1,Aj p2 k1] at this
   exact this
  ·have k2:=aZ k2
   have:=c2 (u-t-s) (by exact kr (.lt aq ar (.lt az (.p (.p aI bx) ar) (.eq (.p aq bx) cV (.eq (.p cV aI) az .o)))) τ hu (aa (cR (.le aq ar (.le (.p az aq) aI (.le aI (.p ar az) .o))) τ k2 bZ)) (aa k1))
   rw [Do p1 k2,Do p2 k2] at this
   exact this
theorem pF:∀(S:List cv) (g:eS),(∀x∈S,mL e x)→∀y∈G e g S,mL e y
 | [],_,_,_,h=>by cases h
 | x::S,g,hS,y,h=>by
  unfold G at h
  cases hi:ins g x with
  | true=>
   rw [hi] at h
   skip
   rcases bw.mp h with h|h
   ·exact pF S _ (fun z hz=>hS z (.tail _ hz)) y h
   ·rcases aC.mp h with rfl|h
    ·exact sY hi (hS x (.head _))
    ·exact pF S _ (fun z hz=>hS z (.tail _ hz)) y h
  | false=>
   rw [hi] at h
   skip
   exact pF S g (fun z hz=>hS z (.tail _ hz)) y h
noncomputable def NB (p:Nat×Nat):List cv→Prop
 | []=>True
 | x::l=>(x.1,x.2.1)≠p∧NB (cv.fin x) l
noncomputable def qR (p:Nat×Nat):List cv→Nat×Nat
 | []=>p
 | x::l=>qR (cv.fin x) l
theorem NB.append {x:cv} {m:List cv}:∀{l:List cv} {p:Nat×Nat},NB p l→(x.1,x.2.1)≠qR p l→NB (cv.fin x) m→NB p (l++x::m)
 | [],_,_,h,h'=>⟨h,h'⟩
 | _::_,_,⟨a,b⟩,h,h'=>⟨a,NB.append b h h'⟩
theorem rQ:∀{l:List cv} {p q:Nat×Nat},l≠[]→Ch p l q→(∀y∈l,mL e y)→p.1<(qR p l).1∧p.2<(qR p l).2∧e ((qR p l).1-1) ((qR p l).2-1)=true
 | [],_,_,h,_,_=>absurd rfl h
 | [x],p,q,_,⟨a,b,c,_⟩,hc=>by
  have:=hc x (.head _) (x.2.2-1) (by exact (aA (aa c)))
  show p.1<x.1+x.2.2∧p.2<x.2.1+x.2.2∧e (x.1+x.2.2-1) (x.2.1+x.2.2-1)=true
  rw [show x.1+x.2.2-1=x.1+(x.2.2-1) by exact ak (cR (.le aq (.p ar az) (.le aI (.s 2 1) (.eq (.s 0 1) (.p ar aI) .o))) τ bZ (aa (cW (.le (.k 1) (.p aq ar) (.lt (.k 0) ar .o)) τ c))) (cR (.le (.p aq ar) az (.le (.p aq aI) (.s 2 1) (.eq (.s 1 1) aI .o))) τ bZ (aa c)),show x.2.1+x.2.2-1=x.2.1+(x.2.2-1) by exact ak (cR (.le aq (.p ar az) (.le aI (.s 2 1) (.eq (.s 0 1) (.p ar aI) .o))) τ bZ (aa (cW (.le (.k 1) (.p aq ar) (.lt (.k 0) ar .o)) τ c))) (cR (.le (.p aq ar) az (.le (.p aq aI) (.s 2 1) (.eq (.s 1 1) aI .o))) τ bZ (aa c))]
  exact ⟨by exact c8 (.lt aq (.p ar az) (.le aq ar (.lt (.k 0) az .o))) τ a c,by exact c8 (.lt aq (.p ar az) (.le aq ar (.lt (.k 0) az .o))) τ b c,this⟩
 | x::y::l,p,q,_,⟨a,b,c,d⟩,hc=>by
  have:=rQ (l:=y::l) (by simp) d (fun z hz=>hc z (.tail _ hz))
  skip
  skip
  exact ⟨by exact cR (.lt aq ar (.le aq az (.lt (.p az aI) ar .o))) τ a this.1,by exact cR (.lt aq ar (.le aq az (.lt (.p az aI) ar .o))) τ b this.2.1,this.2.2⟩
theorem vE {g:eS} {x:cv} {l:List cv} (hi:ins g x=true) (hne:l≠[]) (hc:Ch (g.al,g.bl) l ((eN e g x).1,(eN e g x).2.1)) (hl:∀y∈l,mL e y) :
  ((eN e g x).1,(eN e g x).2.1)≠qR (g.al,g.bl) l:=by
 intro heq
 obtain ⟨a,b,c⟩:=rQ hne hc hl
 rw [←heq] at a b c
 have:=(dC e hi).back a b
 simp only at c
 rw [this] at c
 cases c
theorem A8:∀(S:List cv) (g:eS),(∀x∈S,0<x.2.2∧mL e x)→tV e g→NB (g.al,g.bl) (G e g S)
 | [],_,_,_=>trivial
 | x::S,g,hS,hc=>by
  unfold G
  cases hi:ins g x with
  | false=>
   skip
   exact A8 S g (fun z hz=>hS z (.tail _ hz)) hc
  | true=>
   skip
   have f:=dC e hi
   have hS':∀z∈S,0<z.2.2∧mL e z:=fun z hz=>hS z (.tail _ hz)
   have fal:=f.al;have fbl:=f.bl;have fah:=f.ah;have fbh:=f.bh;have fi:=f.i;have fp:=f.p
   have hpos:=(hS x (.head _)).1
   refine NB.append (p:=(g.al,g.bl)) (A8 S (jU g (eN e g x)) hS' fun k1 k2=>hc (by simp only [jU] at k1;exact cR (.lt aq ar (.le (.p az aI) ar (.lt aq az .o))) τ fah k1) (by simp only [jU] at k2;exact cR (.lt aq ar (.le (.p az aI) ar (.lt aq az .o))) τ fbh k2)) ?_ (A8 S (mJ g (eN e g x)) hS' (kj hi))
   by_cases hne:G e (jU g (eN e g x)) S=[]
   ·rw [hne]
    intro heq
    have h1:=congrArg Prod.fst heq
    have h2:=congrArg Prod.snd heq
    simp only [qR] at h1 h2
    have:=sY hi (hS x (.head _)).2 0 (by exact cR (.lt (.k 0) aq (.le ar az (.le (.p az aI) (.p ar aq) (.lt (.k 0) aI .o)))) τ fi fp hpos)
    rw [fu,fu,h1,h2,hc (by exact kr (.lt aq ar (.le aq az (.le (.p az aI) ar (.le az bx (.le (.p bx cV) (.p az aI) (.lt (.k 0) cV .o)))))) τ fal fah fi fp hpos) (by exact sM (.lt aq ar (.le aq az (.le (.p az aI) ar (.le bx cV (.le (.p cV ee) (.p bx aI) (.lt (.k 0) ee .o)))))) τ fbl fbh fi fp hpos)] at this
    cases this
   ·exact vE hi hne (vV S (jU g (eN e g x)) (fun z hz=>(hS' z hz).1) f.al f.bl) (pF S _ fun z hz=>(hS' z hz).2)
noncomputable def Hj:List cv→Prop
 | []=>True
 | x::l=>NB (cv.fin x) l
theorem NB.tail {p:Nat×Nat}:∀{l:List cv},NB p l→Hj l
 | [],_=>trivial
 | _::_,h=>h.2
theorem zo:∀(S:List cv) (g:eS),(∀x∈S,0<x.2.2∧mL e x)→Hj (G e g S)
 | [],_,_=>trivial
 | x::S,g,hS=>by
  unfold G
  have hS':∀z∈S,0<z.2.2∧mL e z:=fun z hz=>hS z (.tail _ hz)
  cases hi:ins g x with
  | false=>
   skip
   exact zo S g hS'
  | true=>
   skip
   have f:=dC e hi
   have hr:=A8 S (mJ g (eN e g x)) hS' (kj hi)
   have hl:=zo S (jU g (eN e g x)) hS'
   have hch:=vV (e:=e) S (jU g (eN e g x)) (fun z hz=>(hS' z hz).1) f.al f.bl
   have hcl:=pF (e:=e) S (jU g (eN e g x)) fun z hz=>(hS' z hz).2
   have hst:=fun h=>vE (l:=G e (jU g (eN e g x)) S) hi h hch hcl
   cases hL:G e (jU g (eN e g x)) S with
   | nil=>exact hr
   | cons y l=>
    rw [hL] at hl hst
    exact NB.append hl (hst (by simp)) hr
theorem DN:∀(S:List cv) (g:eS) (y:cv) (l:List cv),G e g S=y::l→g.al<y.1→g.bl<y.2.1→e (y.1-1) (y.2.1-1)=false
 | [],_,_,_,h=>by cases h
 | x::S,g,y,l,h=>by
  unfold G at h
  cases hi:ins g x with
  | false=>
   rw [hi] at h
   skip
   exact DN S g y l h
  | true=>
   rw [hi] at h
   skip
   cases hL:G e (jU g (eN e g x)) S with
   | nil=>
    rw [hL,jy] at h
    obtain ⟨rfl,_⟩:=oQ.inj h
    exact (dC e hi).back
   | cons z m=>
    rw [hL,dD] at h
    obtain ⟨rfl,_⟩:=oQ.inj h
    exact DN S (jU g (eN e g x)) z m hL
noncomputable def g0:cv→List cv→List cv
 | c,[]=>if c.2.2=0 then [] else [c]
 | c,y::l=>if c.1+c.2.2=y.1∧c.2.1+c.2.2=y.2.1 then g0 (c.1,c.2.1,c.2.2+y.2.2) l else if c.2.2=0 then g0 y l else c::g0 y l
theorem r9:∀(l:List cv) (c:cv),c.2.2≠0→(∀x∈l,x.2.2≠0)→NB (cv.fin c) l→g0 c l=c::l
 | [],c,hc,_,_=>by unfold g0;rw [if_neg hc]
 | y::l,c,hc,hl,⟨h1,h2⟩=>by
  unfold g0
  rw [if_neg (fun h=>h1 (by rw [cv.fin,h.1,h.2])),if_neg hc,r9 l y (hl y (.head _)) (fun z hz=>hl z (.tail _ hz)) h2]
theorem qW:∀(l:List cv),(∀x∈l,x.2.2≠0)→Hj l→g0 (0,0,0) l=l
 | [],_,_=>rfl
 | y::l,hl,h=>by
  unfold g0
  simp only [fu,cY,if_true]
  split
  ·rename_i h0
   have:(0,0,y.2.2)=y:=by obtain ⟨a,b,c⟩:=y;simp only at h0;rw [←h0.1,←h0.2]
   rw [this]
   exact r9 l y (hl y (.head _)) (fun z hz=>hl z (.tail _ hz)) h
  ·exact r9 l y (hl y (.head _)) (fun z hz=>hl z (.tail _ hz)) h
inductive Dc where
 | rep|del|ins|eql
noncomputable abbrev Op:=Dc×Nat×Nat×Nat×Nat
noncomputable def kh (i j ai bj:Nat):List Op:=if i<ai∧j<bj then [(.rep,i,ai,j,bj)] else if i<ai then [(.del,i,ai,j,bj)] else if j<bj then [(.ins,i,ai,j,bj)] else []
noncomputable def qx (x:cv):List Op:=if x.2.2=0 then [] else [(.eql,x.1,x.1+x.2.2,x.2.1,x.2.1+x.2.2)]
noncomputable def ty (i j:Nat):List cv→List Op
 | []=>[]
 | x::l=>kh i j x.1 x.2.1++(qx x++ty (x.1+x.2.2) (x.2.1+x.2.2) l)
noncomputable def uw:Bool→Nat×Nat→List (Nat×Nat)→List Op
 | _,_,[]=>[]
 | ev,p,q::l=>(if p=q then [] else [((if ev then .eql else if p.1=q.1 then .ins else if p.2=q.2 then .del else .rep),p.1,q.1,p.2,q.2)])++uw (!ev) q l
noncomputable def og (l:List cv):List (Nat×Nat):=l.flatMap fun x=>[(x.1,x.2.1),cv.fin x]
noncomputable def GM (p:Nat×Nat):List cv→Nat×Nat→Prop
 | [],q=>p.1≤q.1∧p.2≤q.2
 | x::l,q=>p.1≤x.1∧p.2≤x.2.1∧GM (cv.fin x) l q
theorem Ch.weak:∀{l:List cv} {p q:Nat×Nat},Ch p l q→GM p l q
 | [],_,_,h=>h
 | _::_,_,_,⟨a,b,_,d⟩=>⟨a,b,d.weak⟩
theorem vG {p:Nat×Nat} {q:Nat×Nat} (h1:p.1≤q.1) (h2:p.2≤q.2) :
  (if p=q then [] else [((if p.1=q.1 then Dc.ins else if p.2=q.2 then .del else .rep),p.1,q.1,p.2,q.2)])=kh p.1 p.2 q.1 q.2:=by
 obtain ⟨a,b⟩:=p
 obtain ⟨c,d⟩:=q
 simp only at h1 h2
 unfold kh
 by_cases k1:a=c<;>by_cases k2:b=d
 ·subst k1;subst k2;simp
 ·subst k1
  simp only [dU,k2,and_false,if_false,if_true,dT,false_and]
  rw [if_pos (by exact (aK k2).elim (fun ζ2=>ζ2) fun ζ2=>cW (.lt aq ar (.w 2 (.le aq ar (.lt ar aq .o)))) τ h2 ζ2)]
 ·subst k2
  simp only [dU,k1,false_and,if_false,if_true,dT,and_false]
  rw [if_pos (by exact (aK k1).elim (fun ζ2=>ζ2) fun ζ2=>cW (.lt aq ar (.w 2 (.le aq ar (.lt ar aq .o)))) τ h1 ζ2)]
 ·simp only [dU,k1,k2,and_self,if_false]
  rw [if_pos (by exact ⟨(aK k1).elim (fun ζ2=>ζ2) fun ζ2=>cW (.lt aq ar (.w 2 (.le aq ar (.lt ar aq .o)))) τ h1 ζ2,(aK k2).elim (fun ζ2=>ζ2) fun ζ2=>cW (.lt aq ar (.w 2 (.le aq ar (.lt ar aq .o)))) τ h2 ζ2⟩)]
theorem vH:∀(l:List cv) (p q:Nat×Nat),GM p l q→uw false p (og l++[q])=ty p.1 p.2 (l++[(q.1,q.2,0)])
 | [],p,q,h=>by
  show (if p=q then [] else _)++[]=kh p.1 p.2 q.1 q.2++([]++[])
  simp only [du,bv,if_false]
  exact vG h.1 h.2
 | x::l,p,q,⟨a,b,c⟩=>by
  have ih:=vH l (cv.fin x) q c
  show (if p=(x.1,x.2.1) then [] else _)++((if (x.1,x.2.1)=cv.fin x then [] else _)++uw false (cv.fin x) (og l++[q]))=kh p.1 p.2 x.1 x.2.1++(qx x++ty (x.1+x.2.2) (x.2.1+x.2.2) (l++[(q.1,q.2,0)]))
  skip
  have e1:=vG (q:=(x.1,x.2.1)) a b
  skip
  skip
  congr 1
  congr 1
  unfold qx
  simp only [Bool.not_false,if_true,cv.fin,dU]
  by_cases hz:x.2.2=0
  ·rw [if_pos (by exact ⟨ak (cW (.le aq (.p aq ar) .o) τ) (cW (.le (.p aq ar) aq (.eq ar (.k 0) .o)) τ hz),ak (cW (.le aq (.p aq ar) .o) τ) (cW (.le (.p aq ar) aq (.eq ar (.k 0) .o)) τ hz)⟩),if_pos hz]
  ·rw [if_neg (by lia),if_neg hz]
theorem AC (i j:Nat) (l:List cv):ty i j ((i,j,0)::l)=ty i j l:=by
 show kh i j i j++(qx (i,j,0)++ty (i+0) (j+0) l)=_
 delta kh qx
 simp
theorem AB {la lb:Nat} {S:List cv} {bst:eS→cv} (hre:∀i j,r i j=true→e i j=true) (hS:re r la lb S) (hb:∀g,Sub la lb g→mB r g (bst g)) {n:Nat} (hn:la<n) :
  let top:eS:=⟨0,la,0,lb⟩
  let p:=hd (G e top S) (la,lb)
  uw false (0,0) (og ((0,0,jh e (fU p.1 p.2) 0 0)::G e top S)++[(la,lb)])=ty 0 0 (g0 (0,0,0) (M e bst n top)++[(la,lb,0)]):=by
 intro top p
 have hSub:Sub la lb top:=⟨aX _,bd _,aX _,bd _⟩
 have hS1:∀x∈S,0<x.2.2∧mL e x:=fun x hx=>⟨(hS.run x hx).1,fun t ht=>hre _ _ ((hS.run x hx).2 t ht)⟩
 have hch:=vV (e:=e) S top (fun x hx=>(hS1 x hx).1) (aX _) (aX _)
 have hM:=Db (e:=e) hS hb n top rfl rfl hn hSub
 have hNB:=zo (e:=e) S top hS1
 have hsz:∀{q:Nat×Nat} {l:List cv} {p:Nat×Nat},Ch p l q→∀x∈l,x.2.2≠0:=by
  intro q l
  induction l with
  | nil=>intro _ _ x hx;cases hx
  | cons y l ih=>
   intro p ⟨_,_,c,d⟩ x hx
   rcases aC.mp hx with rfl|hx
   ·exact fun ζ0=>oK (.ff (.lt (.k 0) aq (.eq aq (.k 0) .o))) τ c ζ0
   ·exact ih d x hx
 have hu:=ls e (fU p.1 p.2) 0 0
 have hrow:GM (0,0) ((0,0,jh e (fU p.1 p.2) 0 0)::G e top S) (la,lb):=by
  refine ⟨bd _,bd _,?_⟩
  simp only [cv.fin,cY]
  cases hG:G e top S with
  | nil=>
   have hp:p=(la,lb):=by show hd (G e top S) (la,lb)=_;rw [hG];rfl
   rw [hp] at hu ⊢
   simp only at hu ⊢
   exact ⟨by simp only;exact aj hu (aN _ _),by simp only;exact aj hu (br _ _)⟩
  | cons y l=>
   have hp:p=(y.1,y.2.1):=by show hd (G e top S) (la,lb)=_;rw [hG];rfl
   rw [hG] at hch
   rw [hp] at hu ⊢
   simp only at hu ⊢
   exact ⟨by simp only;exact aj hu (aN _ _),by simp only;exact aj hu (br _ _),hch.2.2.2.weak⟩
 rw [vH _ _ _ hrow,hM]
 show _=ty 0 0 (g0 (0,0,0) (pre e p++G e top S)++[(la,lb,0)])
 simp only
 unfold pre
 skip
 by_cases hz:jh e (fU p.1 p.2) 0 0=0
 ·rw [if_pos hz,hz,jy,dD,AC,qW _ (hsz hch) hNB]
 ·rw [if_neg hz]
  rw [qW]
  ·rfl
  ·intro x hx
   rcases aC.mp hx with rfl|hx
   ·exact hz
   ·exact hsz hch x hx
  ·show NB (cv.fin (0,0,jh e (fU p.1 p.2) 0 0)) (G e top S)
   cases hG:G e top S with
   | nil=>exact trivial
   | cons y l=>
    have hp:p=(y.1,y.2.1):=by show hd (G e top S) (la,lb)=_;rw [hG];rfl
    rw [hG] at hNB
    refine ⟨fun heq=>?_,hNB⟩
    have h1:=congrArg Prod.fst heq
    have h2:=congrArg Prod.snd heq
    simp only [cv.fin,cY] at h1 h2
    have hb':=DN S top y l hG (by show 0<y.1;exact (aK hz).elim (fun ζ2=>cW (.lt (.k 0) aq (.lt ar (.k 0) .o)) τ ζ2) fun ζ2=>av ζ2 (aA (cB h1))) (by show 0<y.2.1;exact (aK hz).elim (fun ζ2=>cW (.lt (.k 0) aq (.lt ar (.k 0) .o)) τ ζ2) fun ζ2=>av ζ2 (aA (cB h2)))
    have ha:=l6 e (fU p.1 p.2) 0 0 (jh e (fU p.1 p.2) 0 0-1) (by exact (aK hz).elim (fun ζ2=>cW (.lt aq ar (.le aq ar (.lt ar (.k 0) .o))) τ (aO _ _) ζ2) fun ζ2=>(aA (aa ζ2)))
    rw [h1,h2] at hb'
    simp only [cY] at ha
    rw [ha] at hb'
    cases hb'
end
section
variable {e r:Nat→Nat→Bool}
noncomputable def dl (r:Nat→Nat→Bool) (al bl i j:Nat):Nat:=nO r (fU (i+1-al) (j+1-bl)) (i+1) (j+1)
theorem uP {al bl i j:Nat} (h:r i j=false):dl r al bl i j=0:=by
 unfold dl
 cases fU (i+1-al) (j+1-bl) with
 | zero=>rfl
 | succ n=>unfold nO;rw [jB,jB,h];rfl
theorem yC {a b c d:Nat} (h:¬(c<a∧d<b)):fU (a-c) (b-d)=0:=Nat.min_eq_zero_iff.mpr ((Nat.lt_or_ge c a).elim (fun h1=>.inr (bR (aZ fun h2=>h ⟨h1,h2⟩))) fun h1=>.inl (bR h1))
theorem w9 {al bl i j:Nat} (ha:al≤i) (hb:bl≤j) (h:r i j=true):dl r al bl i j=(if al<i∧bl<j then dl r al bl (i-1) (j-1) else 0)+1:=by
 unfold dl
 rw [Nat.succ_sub ha,Nat.succ_sub hb,Nat.succ_eq_add_one,Nat.succ_eq_add_one,Nat.add_min_add_right]
 conv=>lhs;unfold nO
 rw [jB,jB,h]
 simp only [if_true]
 congr 1
 split
 next h=>rw [aa (Nat.one_le_of_lt h.1),aa (Nat.one_le_of_lt h.2)]
 next h=>rw [yC h];rfl
theorem zI {al bl i j:Nat}:dl r al bl i j≤i+1-al∧dl r al bl i j≤j+1-bl:=by
 exact Nat.le_min.mp (mR r (fU (i+1-al) (j+1-bl)) (i+1) (j+1))
theorem Ec {al bl i j:Nat} (hp:0<dl r al bl i j):mY r (i+1-dl r al bl i j,j+1-dl r al bl i j,dl r al bl i j):=by
 refine ⟨hp,fun t ht=>?_⟩
 have h1:=zI (r:=r) (al:=al) (bl:=bl) (i:=i) (j:=j)
 have h2:=fun t h=>ry r (fU (i+1-al) (j+1-bl)) (i+1) (j+1) t (aj (aN _ _) (aO _ _)) (aj (br _ _) (aO _ _)) h
 change ∀t,t<dl r al bl i j→_ at h2
 simp only at ht ⊢
 generalize dl r al bl i j=d at *
 have a1:=aj h1.1 (aO _ _)
 have a2:=aj h1.2 (aO _ _)
 clear h1
 have h2:=h2 (d-1-t) (by exact c8 (.lt aq ar (.le aq az (.eq (.s 2 1) ar .o))) τ (aO _ _) (aa hp))
 rw [show i+1-1-(d-1-t)=i+1-d+t by exact ak (sG (.le aq (.p ar az) (.le (.s 3 1) (.p ar bx) (.le cV (.p ee az) (.le bx (.s 5 1) (.eq (.s 7 1) (.s 3 1) (.eq (.p aq ee) jj .o)))))) τ bZ bZ bZ (aa (oK (.le (.k 1) (.s 0 1) .o) τ)) (aa (eW (.le aq ar (.le az (.s 3 1) (.le (.s 3 1) (.s 1 1) (.le aq bx (.eq (.s 4 1) az .o))))) τ a1 bZ (aO _ _) (aa hp)))) (sG (.le (.p aq ar) az (.le aI (.p az bx) (.le (.s 5 1) (.s 3 1) (.eq (.p aq ee) (.s 5 1) (.eq (.p bx ar) jj (.eq (.s 7 1) ee .o)))))) τ bZ bZ (aa a1) (aa (c8 (.le aq ar (.lt aq az (.le az (.s 1 1) .o))) τ ht bZ)) (aa hp)),show j+1-1-(d-1-t)=j+1-d+t by exact ak (sG (.le aq (.p ar az) (.le (.s 3 1) (.p ar bx) (.le cV (.p ee az) (.le bx (.s 5 1) (.eq (.s 7 1) (.s 3 1) (.eq (.p aq ee) jj .o)))))) τ bZ bZ bZ (aa (oK (.le (.k 1) (.s 0 1) .o) τ)) (aa (eW (.le aq ar (.le az (.s 3 1) (.le (.s 3 1) (.s 1 1) (.le aq bx (.eq (.s 4 1) az .o))))) τ a2 bZ (aO _ _) (aa hp)))) (sG (.le (.p aq ar) az (.le aI (.p az bx) (.le (.s 5 1) (.s 3 1) (.eq (.p aq ee) (.s 5 1) (.eq (.p bx ar) jj (.eq (.s 7 1) ee .o)))))) τ bZ bZ (aa a2) (aa (c8 (.le aq ar (.lt aq az (.le az (.s 1 1) .o))) τ ht bZ)) (aa hp))] at h2
 exact h2
theorem wg:∀(n i j s:Nat),s≤n→n≤i→n≤j→(∀t,t<s→r (i-1-t) (j-1-t)=true)→s≤nO r n i j
 | _,_,_,0,_,_,_,_=>aX _
 | 0,_,_,s+1,h,_,_,_=>absurd h (by lia)
 | n+1,i,j,s+1,h,hi,hj,hr=>by
  unfold nO
  have h0:=hr 0 (by exact eO _)
  simp only [jP] at h0
  rw [h0]
  skip
  have:=wg n (i-1) (j-1) s (by exact cW (.le aq ar (.le (.s 0 1) (.s 1 1) .o)) τ h) (by exact c8 (.le aq ar (.le (.s 0 1) az (.le az (.s 1 1) .o))) τ hi bZ) (by exact c8 (.le aq ar (.le (.s 0 1) az (.le az (.s 1 1) .o))) τ hj bZ) fun t ht=>by
   have:=hr (t+1) (by exact cW (.lt (.s 0 1) (.s 1 1) (.lt aq ar .o)) τ ht)
   rw [show i-1-(t+1)=i-1-1-t by lia,show j-1-(t+1)=j-1-1-t by lia] at this
   exact this
  exact cW (.le (.s 0 1) (.s 1 1) (.le aq ar .o)) τ this
theorem FB {g:eS} {y:cv} (hy:mY r y) (hi:ins g y=true):y.2.2≤dl r g.al g.bl (y.1+y.2.2-1) (y.2.1+y.2.2-1):=by
 obtain ⟨h1,h2,h3,h4⟩:=dO.mp hi
 obtain ⟨al,ah,bl,bh⟩:=g
 obtain ⟨p,q,s⟩:=y
 obtain ⟨hp,hy⟩:=hy
 simp only at *
 clear hi h3 h4
 unfold dl
 rw [aa (show 1≤p+s by exact cW (.le (.k 1) (.p aq ar) (.lt (.k 0) ar .o)) τ hp),aa (show 1≤q+s by exact cW (.le (.k 1) (.p aq ar) (.lt (.k 0) ar .o)) τ hp)]
 refine wg _ _ _ _ (Nat.le_min.mpr ⟨by exact cR (.le aq ar (.le az aI (.le (.p aI aq) (.p ar az) .o))) τ h1 bZ,by exact cR (.le aq ar (.le az aI (.le (.p aI aq) (.p ar az) .o))) τ h2 bZ⟩) (aj (aN _ _) (aO _ _)) (aj (br _ _) (aO _ _)) fun t ht=>?_
 have:=hy (s-1-t) (by exact c8 (.lt aq ar (.le aq az (.eq (.s 2 1) ar .o))) τ (aO _ _) (aa hp))
 rw [show p+(s-1-t)=p+s-1-t by exact ak (sM (.le (.p aq ar) az (.le aI (.p az bx) (.le (.p aq cV) (.s 3 1) (.eq (.p ar bx) ee (.eq (.s 6 1) cV .o))))) τ bZ bZ (aa (c8 (.le aq ar (.lt aq az (.le az (.s 1 1) .o))) τ ht bZ)) (aa hp)) (sM (.le aq (.p ar az) (.le aI (.p az bx) (.le cV (.s 3 1) (.eq (.p aq bx) ee (.eq (.s 6 1) (.p ar cV) .o))))) τ bZ bZ (aa (cR (.le aq ar (.lt aq az (.le (.p aI az) (.s 1 1) .o))) τ ht bZ)) (aa (cW (.le (.k 1) (.p aq ar) (.lt (.k 0) ar .o)) τ hp))),show q+(s-1-t)=q+s-1-t by exact ak (sM (.le (.p aq ar) az (.le aI (.p az bx) (.le (.p aq cV) (.s 3 1) (.eq (.p ar bx) ee (.eq (.s 6 1) cV .o))))) τ bZ bZ (aa (c8 (.le aq ar (.lt aq az (.le az (.s 1 1) .o))) τ ht bZ)) (aa hp)) (sM (.le aq (.p ar az) (.le aI (.p az bx) (.le cV (.s 3 1) (.eq (.p aq bx) ee (.eq (.s 6 1) (.p ar cV) .o))))) τ bZ bZ (aa (cR (.le aq ar (.lt aq az (.le (.p aI az) (.s 1 1) .o))) τ ht bZ)) (aa (cW (.le (.k 1) (.p aq ar) (.lt (.k 0) ar .o)) τ hp)))] at this
 exact this
noncomputable def gW (b:cv) (i j k:Nat):cv:=if b.2.2<k then (i+1-k,j+1-k,k) else b
noncomputable def xW (r:Nat→Nat→Bool) (g:eS) (b:cv) (i:Nat):cv:=(d7 g.bl (g.bh-g.bl)).foldl (fun b j=>gW b i j (dl r g.al g.bl i j)) b
noncomputable def bst (r:Nat→Nat→Bool) (g:eS):cv:=(d7 g.al (g.ah-g.al)).foldl (xW r g) (g.al,g.bl,0)
noncomputable def cells (g:eS):List (Nat×Nat):=(d7 g.al (g.ah-g.al)).flatMap fun i=>(d7 g.bl (g.bh-g.bl)).map fun j=>(i,j)
theorem IF {a l h:Nat} (h1:l≤a) (h2:a<l+(h-l)):a<h:=by lia
theorem qE {g:eS} {c:Nat×Nat}:c∈cells g↔g.al≤c.1∧c.1<g.ah∧g.bl≤c.2∧c.2<g.bh:=by
 obtain ⟨i,j⟩:=c
 unfold cells
 simp only [List.mem_flatMap,nH,b9,dU]
 constructor
 ·rintro ⟨a,h1,b,h2,rfl,rfl⟩;exact ⟨h1.1,IF h1.1 h1.2,h2.1,IF h2.1 h2.2⟩
 ·intro h;exact ⟨i,by exact ⟨h.1,cR (.lt aq (.p ar az) (.lt aq aI (.le aI (.p az ar) .o))) τ h.2.1 bZ⟩,j,by exact ⟨h.2.2.1,cR (.lt aq (.p ar az) (.lt aq aI (.le aI (.p az ar) .o))) τ h.2.2.2 bZ⟩,rfl,rfl⟩
noncomputable def vg (c d:Nat×Nat):Prop:=c.1<d.1∨(c.1=d.1∧c.2<d.2)
theorem ub (g:eS):(cells g).Pairwise vg:=by
 unfold cells
 rw [List.pairwise_flatMap]
 refine ⟨fun i O=>?_,?_⟩
 ·rw [List.pairwise_map]
  exact (List.pairwise_lt_range' 1).imp fun h=>.inr ⟨rfl,h⟩
 ·refine (List.pairwise_lt_range' 1).imp fun h=>?_
  intro x hx y hy
  obtain ⟨_,_,rfl⟩:=b9.mp hx
  obtain ⟨_,_,rfl⟩:=b9.mp hy
  exact .inl h
theorem xX (g:eS):bst r g=(cells g).foldl (fun b c=>gW b c.1 c.2 (dl r g.al g.bl c.1 c.2)) (g.al,g.bl,0):=by
 unfold cells
 rw [List.foldl_flatMap]
 simp only [List.foldl_map]
 rfl
theorem s9 (d:Nat×Nat→Nat):∀(C:List (Nat×Nat)) (b:cv),C.Pairwise vg→
  let x:=C.foldl (fun b c=>gW b c.1 c.2 (d c)) b
  (x=b∧∀c∈C,d c≤b.2.2)∨(∃c∈C,x=(c.1+1-d c,c.2+1-d c,d c)∧b.2.2<d c∧∀c'∈C,d c'<d c∨(d c'=d c∧(c=c'∨vg c c')))
 | [],b,_=>.inl ⟨rfl,fun O h=>nomatch h⟩
 | c::C,b,h=>by
  intro x
  obtain ⟨h1,h2⟩:=ez.mp h
  have ih:=s9 d C (gW b c.1 c.2 (d c)) h2
  have hx:x=C.foldl (fun b c=>gW b c.1 c.2 (d c)) (gW b c.1 c.2 (d c)):=rfl
  simp only at ih
  rw [←hx] at ih
  by_cases hlt:b.2.2<d c
  ·have hb:gW b c.1 c.2 (d c)=(c.1+1-d c,c.2+1-d c,d c):=by unfold gW;rw [if_pos hlt]
   rw [hb] at ih
   rcases ih with ⟨e1,e2⟩|⟨c',m,e1,e2,e3⟩
   ·refine .inr ⟨c,.head _,e1,hlt,fun c' hc'=>?_⟩
    rcases aC.mp hc' with rfl|hc'
    ·exact .inr ⟨rfl,.inl rfl⟩
    ·have:=e2 c' hc'
     simp only at this
     by_cases he:d c'=d c
     ·exact .inr ⟨he,.inr (h1 c' hc')⟩
     ·exact .inl (by exact (aK he).elim (fun ζ2=>ζ2) fun ζ2=>cW (.lt aq ar (.w 2 (.le aq ar (.lt ar aq .o)))) τ this ζ2)
   ·refine .inr ⟨c',.tail _ m,e1,by simp only at e2;exact fS hlt e2,fun c'' hc''=>?_⟩
    rcases aC.mp hc'' with rfl|hc''
    ·exact .inl (by simpa using e2)
    ·exact e3 c'' hc''
  ·have hb:gW b c.1 c.2 (d c)=b:=by unfold gW;rw [if_neg hlt]
   rw [hb] at ih
   rcases ih with ⟨e1,e2⟩|⟨c',m,e1,e2,e3⟩
   ·refine .inl ⟨e1,fun c' hc'=>?_⟩
    rcases aC.mp hc' with rfl|hc'
    ·exact (aZ hlt)
    ·exact e2 c' hc'
   ·refine .inr ⟨c',.tail _ m,e1,e2,fun c'' hc''=>?_⟩
    rcases aC.mp hc'' with rfl|hc''
    ·exact .inl (by exact bV (aZ hlt) e2)
    ·exact e3 c'' hc''
theorem E9 {p c D:Nat} (hp:0<D) (h:c=p+D-1):c+1-D=p:=Nat.sub_eq_of_eq_add (h▸aa (aj hp (ci D p)))
theorem II {p c D:Nat} (u:D≤c+1) (h:c<p+D-1):c+1-D<p:=Nat.sub_lt_right_of_lt_add u (Nat.add_lt_of_lt_sub h)
theorem Cf {p q s c d D:Nat} (hp:0<s) (u1:D≤c+1) (u2:D≤d+1) (ge:s≤D) (hl:(c,d)=(p+s-1,q+s-1)∨vg (c,d) (p+s-1,q+s-1)) (h:D=s) :
  c+1-D<p∨(c+1-D=p∧d+1-D≤q):=by
 simp only [vg,dU] at hl
 subst h
 rcases hl with ⟨h1,h2⟩|h1|⟨h1,h2⟩
 ·exact .inr ⟨E9 hp h1,aA (E9 hp h2)⟩
 ·exact .inl (II u1 h1)
 ·exact .inr ⟨E9 hp h1,aR (II u2 h2)⟩
theorem kg {la lb:Nat} {g:eS} (_hg:Sub la lb g):mB r g (bst r g):=by
 rw [xX]
 rcases s9 (fun c=>dl r g.al g.bl c.1 c.2) (cells g) (g.al,g.bl,0) (ub g) with ⟨h1,h2⟩|⟨⟨c,d⟩,hm,h1,h2,h3⟩
 ·refine .inl ⟨h1,fun i j a b c d=>?_⟩
  have:=h2 (i,j) (qE.mpr ⟨a,b,c,d⟩)
  simp only at this
  cases hr:r i j with
  | false=>rfl
  | true=>rw [w9 a c hr] at this;exact absurd this (Nat.not_succ_le_zero _)
 ·simp only at h1 h2 h3
  rw [h1]
  obtain ⟨m1,m2,m3,m4⟩:=qE.mp hm
  simp only at m1 m2 m3 m4
  obtain ⟨l1,l2⟩:=zI (r:=r) (al:=g.al) (bl:=g.bl) (i:=c) (j:=d)
  have u1:=aj l1 (aO _ _)
  have u2:=aj l2 (aO _ _)
  have v1:=eB (Nat.le_succ_of_le m1) l1
  have v2:=eB (Nat.le_succ_of_le m3) l2
  refine .inr ⟨Ec h2,dO.mpr ⟨?_,?_,?_,?_⟩,fun y hy hi=>?_⟩
  ·exact Nat.le_sub_of_add_le (iu _ _▸v1)
  ·exact Nat.le_sub_of_add_le (iu _ _▸v2)
  ·simp only;rw [aa u1];exact m2
  ·simp only;rw [aa u2];exact m4
  ·obtain ⟨k1,k2,k3,k4⟩:=dO.mp hi
   have hp:=hy.1
   have hge:=FB hy hi
   obtain ⟨p,q,s⟩:=y
   simp only at k1 k2 k3 k4 hp hge
   have hh:=h3 (p+s-1,q+s-1) (qE.mpr ⟨cG (by exact c8 (.lt aq (.p ar az) (.le aq ar (.lt (.k 0) az .o))) τ k1 hp),av (Nat.sub_one_lt (by exact fun ζ0=>cW (.ff (.lt (.k 0) aq (.eq (.p ar aq) (.k 0) .o))) τ hp ζ0)) k3,cG (by exact c8 (.lt aq (.p ar az) (.le aq ar (.lt (.k 0) az .o))) τ k2 hp),av (Nat.sub_one_lt (by exact fun ζ0=>cW (.ff (.lt (.k 0) aq (.eq (.p ar aq) (.k 0) .o))) τ hp ζ0)) k4⟩)
   simp only at hh
   show s<dl r g.al g.bl c d∨(dl r g.al g.bl c d=s∧(c+1-dl r g.al g.bl c d<p∨(c+1-dl r g.al g.bl c d=p∧d+1-dl r g.al g.bl c d≤q)))
   rcases hh with hh|⟨hh,hl⟩
   ·exact .inl (bV hge hh)
   ·rw [hh] at hge
    rcases Nat.lt_or_eq_of_le hge with he|he
    ·exact .inl he
    ·exact .inr ⟨he.symm,Cf hp u1 u2 hge hl he.symm⟩
theorem kf {la lb:Nat} {g:eS} {x:cv} (hg:Sub la lb g) (hb:mB r g x):ins g x=true:=by
 rcases hb with ⟨rfl,_⟩|⟨_,h,_⟩
 ·exact u7 hg
 ·exact h
variable {b0:eS→cv}
theorem vW {la lb:Nat} (hb:∀g,Sub la lb g→mB r g (b0 g)):∀(n m:Nat) (g:eS),g.ah-g.al<n→g.ah-g.al<m→Sub la lb g→M e b0 n g=M e b0 m g
 | 0,_,_,h,_,_=>absurd h (dv _)
 | _,0,_,_,h,_=>absurd h (dv _)
 | n+1,m+1,g,hn,hm,hg=>by
  have hi:=kf hg (hb g hg)
  have f:=dC e hi
  have fal:=f.al;have fah:=f.ah
  unfold M
  simp only
  split
  ·rfl
  ·rename_i hz
   rw [vW hb n m (jU g (eN e g (b0 g))) (by simp only [jU];exact (aK hz).elim (fun ζ2=>sM (.lt aq ar (.lt az (.s 1 1) (.le (.p aI bx) cV (.le cV (.p az ee) (.lt bx (.k 0) (.eq (.p aq ee) aI .o)))))) τ hn fah bZ ζ2 (aa fal)) fun ζ2=>sM (.lt aq ar (.lt az (.s 1 1) (.le (.p aI bx) cV (.le cV (.p az ee) (.lt (.k 0) bx (.eq (.p aq ee) aI .o)))))) τ hn fah bZ ζ2 (aa fal)) (by simp only [jU];exact (aK hz).elim (fun ζ2=>sM (.lt aq ar (.lt az (.s 1 1) (.le (.p aI bx) cV (.le cV (.p az ee) (.lt bx (.k 0) (.eq (.p aq ee) aI .o)))))) τ hm fah bZ ζ2 (aa fal)) fun ζ2=>sM (.lt aq ar (.lt az (.s 1 1) (.le (.p aI bx) cV (.le cV (.p az ee) (.lt (.k 0) bx (.eq (.p aq ee) aI .o)))))) τ hm fah bZ ζ2 (aa fal)) (nY hg hi),
    vW hb n m (mJ g (eN e g (b0 g))) (by simp only [mJ];exact (aK hz).elim (fun ζ2=>sM (.lt aq ar (.lt az (.s 1 1) (.le aI bx (.le cV (.p az aI) (.lt ee (.k 0) (.eq (.p aq (.p bx ee)) cV .o)))))) τ hn fal bZ ζ2 (aa fah)) fun ζ2=>sM (.lt aq ar (.lt az (.s 1 1) (.le aI bx (.le cV (.p az aI) (.lt (.k 0) ee (.eq (.p aq (.p bx ee)) cV .o)))))) τ hn fal bZ ζ2 (aa fah)) (by simp only [mJ];exact (aK hz).elim (fun ζ2=>sM (.lt aq ar (.lt az (.s 1 1) (.le aI bx (.le cV (.p az aI) (.lt ee (.k 0) (.eq (.p aq (.p bx ee)) cV .o)))))) τ hm fal bZ ζ2 (aa fah)) fun ζ2=>sM (.lt aq ar (.lt az (.s 1 1) (.le aI bx (.le cV (.p az aI) (.lt (.k 0) ee (.eq (.p aq (.p bx ee)) cV .o)))))) τ hm fal bZ ζ2 (aa fah)) (l9 hg hi)]
noncomputable def MM (e:Nat→Nat→Bool) (b0:eS→cv) (g:eS):List cv:=M e b0 (g.ah-g.al+1) g
theorem Da {la lb:Nat} (hb:∀g,Sub la lb g→mB r g (b0 g)) {n:Nat} {g:eS} (hn:g.ah-g.al<n) (hg:Sub la lb g):M e b0 n g=MM e b0 g:=
 vW hb _ _ g hn (by exact oK (.lt aq (.s 0 1) .o) τ) hg
theorem Fq {la lb:Nat} (hb:∀g,Sub la lb g→mB r g (b0 g)) {g:eS} (hg:Sub la lb g):MM e b0 g =
  let x:=eN e g (b0 g)
  if x.2.2=0 then [] else
   (if g.al<x.1∧g.bl<x.2.1 then MM e b0 (jU g x) else [])++x::(if x.1+x.2.2<g.ah∧x.2.1+x.2.2<g.bh then MM e b0 (mJ g x) else []):=by
 have hi:=kf hg (hb g hg)
 have f:=dC e hi
 have fal:=f.al;have fah:=f.ah
 conv=>lhs;unfold MM
 unfold M
 simp only
 split
 ·rfl
 ·rename_i hz
  rw [Da hb (g:=jU g (eN e g (b0 g))) (by simp only [jU];exact (aK hz).elim (fun ζ2=>kr (.lt aq ar (.le (.p az aI) bx (.le bx (.p ar cV) (.lt aI (.k 0) (.eq (.p aq cV) az .o))))) τ fah bZ ζ2 (aa fal)) fun ζ2=>kr (.lt aq ar (.le (.p az aI) bx (.le bx (.p ar cV) (.lt (.k 0) aI (.eq (.p aq cV) az .o))))) τ fah bZ ζ2 (aa fal)) (nY hg hi),Da hb (g:=mJ g (eN e g (b0 g))) (by simp only [mJ];exact (aK hz).elim (fun ζ2=>kr (.lt aq ar (.le az aI (.le bx (.p ar az) (.lt cV (.k 0) (.eq (.p aq (.p aI cV)) bx .o))))) τ fal bZ ζ2 (aa fah)) fun ζ2=>kr (.lt aq ar (.le az aI (.le bx (.p ar az) (.lt (.k 0) cV (.eq (.p aq (.p aI cV)) bx .o))))) τ fal bZ ζ2 (aa fah)) (l9 hg hi)]
theorem zt {la lb:Nat} (hb:∀g,Sub la lb g→mB r g (b0 g)):∀(n:Nat) (g:eS),Sub la lb g→Ch (g.al,g.bl) (M e b0 n g) (g.ah,g.bh)
 | 0,g,hg=>⟨hg.a1,hg.b1⟩
 | n+1,g,hg=>by
  have hi:=kf hg (hb g hg)
  have f:=dC e hi
  unfold M
  simp only
  split
  ·exact ⟨hg.a1,hg.b1⟩
  ·rename_i hz
   refine Ch.append (by exact (aK hz).elim (fun ζ2=>oK (.lt (.k 0) aq (.lt aq (.k 0) .o)) τ ζ2) fun ζ2=>ζ2) ?_ ?_
   ·split
    ·exact zt hb n (mJ g (eN e g (b0 g))) (l9 hg hi)
    ·exact ⟨f.ah,f.bh⟩
   ·split
    ·exact zt hb n (jU g (eN e g (b0 g))) (nY hg hi)
    ·exact ⟨f.al,f.bl⟩
theorem Ch.lt:∀{l:List cv} {p q:Nat×Nat},Ch p l q→(∀x∈l,p.1≤x.1)∧l.Pairwise fun x y=>x.1<y.1
 | [],_,_,_=>⟨(fun O h=>by cases h),dg⟩
 | x::l,p,q,⟨a,b,c,d⟩=>by
  obtain ⟨h1,h2⟩:=d.lt
  skip
  refine ⟨fun y hy=>?_,ez.mpr ⟨fun y hy=>?_,h2⟩⟩
  ·rcases aC.mp hy with rfl|hy
   ·exact a
   ·have:=h1 y hy;exact cR (.le aq ar (.le aq az (.le (.p az aI) ar .o))) τ a this
  ·have:=h1 y hy;exact c8 (.lt aq ar (.lt (.k 0) az (.le (.p aq az) ar .o))) τ c this
theorem xO {la lb:Nat} (hb:∀g,Sub la lb g→mB r g (b0 g)) {g:eS} (hg:Sub la lb g):(MM e b0 g).Pairwise fun x y=>x.1<y.1:=(zt hb _ g hg).lt.2
theorem CS {la lb:Nat} (hb:∀g,Sub la lb g→mB r g (b0 g)) {g:eS} (hg:Sub la lb g) {l:List cv} (hp:l.Perm (MM e b0 g)) (hs:l.Pairwise fun x y=>x.1≤y.1):l=MM e b0 g:=by
 have h2:=xO (e:=e) hb hg
 refine d9.eq_of_pairwise (le:=fun x y=>x.1≤y.1) ?_ hs (h2.imp fun h=>aR h) hp
 intro a c ha hc h3 h4
 have ha':=hp.mem_iff.mp ha
 have hac:a.1=c.1:=ak h3 h4
 have:∀(l:List cv),l.Pairwise (fun x y=>x.1<y.1)→∀a c,a∈l→c∈l→a.1=c.1→a=c:=by
  intro l hl
  induction hl with
  | nil=>intro _ _ h;cases h
  | cons hx _ ih=>
   intro a c ha hc he
   rcases aC.mp ha with ha'|ha'<;>rcases aC.mp hc with hc'|hc'
   ·rw [ha',hc']
   ·exact absurd (hx c hc') (by rw [←ha'];exact cW (.nl aq ar (.qe aq ar .o)) τ he)
   ·exact absurd (hx a ha') (by rw [←hc'];exact cW (.nl aq ar (.eq ar aq .o)) τ he)
   ·exact ih a c ha' hc' he
 exact this _ h2 a c ha' hc hac
theorem wS {la lb:Nat} (hb:∀g,Sub la lb g→mB r g (b0 g)) {g:eS} (hg:Sub la lb g) (q:List eS) (acc all:List cv) (h:(acc++(q++[g]).flatMap (MM e b0)).Perm all) :
  let x:=eN e g (b0 g)
  ((if x.2.2=0 then acc else acc++[x])++(if x.2.2=0 then q else q++(if g.al<x.1∧g.bl<x.2.1 then [jU g x] else [])++(if x.1+x.2.2<g.ah∧x.2.1+x.2.2<g.bh then [mJ g x] else [])).flatMap (MM e b0)).Perm all:=by
 intro x
 refine qc ?_ h
 have hE:=Fq (e:=e) hb hg
 simp only at hE
 rw [gY]
 have h1:[g].flatMap (MM e b0)=MM e b0 g:=by simp
 refine h1.symm▸hE.symm▸?_
 by_cases hz:x.2.2=0
 ·have hz':(eN e g (b0 g)).2.2=0:=hz
  rw [if_pos hz,if_pos hz,if_pos hz',du]
 ·have hz':¬(eN e g (b0 g)).2.2=0:=hz
  rw [if_neg hz,if_neg hz,if_neg hz',gY,gY]
  have hl:(if g.al<x.1∧g.bl<x.2.1 then [jU g x] else []).flatMap (MM e b0)=if g.al<x.1∧g.bl<x.2.1 then MM e b0 (jU g x) else []:=by split<;>simp
  have hr:(if x.1+x.2.2<g.ah∧x.2.1+x.2.2<g.bh then [mJ g x] else []).flatMap (MM e b0)=if x.1+x.2.2<g.ah∧x.2.1+x.2.2<g.bh then MM e b0 (mJ g x) else []:=by split<;>simp
  rw [hl,hr]
  show (acc++[x]++(q.flatMap (MM e b0)++(if g.al<x.1∧g.bl<x.2.1 then MM e b0 (jU g x) else [])++(if x.1+x.2.2<g.ah∧x.2.1+x.2.2<g.bh then MM e b0 (mJ g x) else []))).Perm
   (acc++(q.flatMap (MM e b0)++((if g.al<x.1∧g.bl<x.2.1 then MM e b0 (jU g x) else [])++x::(if x.1+x.2.2<g.ah∧x.2.1+x.2.2<g.bh then MM e b0 (mJ g x) else []))))
  generalize (if g.al<x.1∧g.bl<x.2.1 then MM e b0 (jU g x) else [])=L
  generalize (if x.1+x.2.2<g.ah∧x.2.1+x.2.2<g.bh then MM e b0 (mJ g x) else [])=R
  generalize q.flatMap (MM e b0)=T
  rw [bK]
  refine f8 acc ?_
  rw [List.singleton_append,←bK]
  have:x::(T++L++R)=(x::(T++L))++R:=rfl
  rw [this,show T++L++x::R=(T++L++[x])++R by simp]
  exact ir R (List.perm_append_singleton x (T++L)).symm
noncomputable def iU (q:List eS):Nat:=(q.map fun g=>2*(g.ah-g.al)+1).sum
end
noncomputable def ru (i j k:Nat):List cv:=(bO k).map fun t=>(i,j,t+1)
noncomputable def rs (r:Nat→Nat→Bool) (la lb i j:Nat):List cv:=ru i j (jh r (fU (la-i) (lb-j)) i j)
noncomputable def wJ (r:Nat→Nat→Bool) (la lb i:Nat):List cv:=(bO lb).flatMap (rs r la lb i)
noncomputable def runs (r:Nat→Nat→Bool) (la lb:Nat):List cv:=(bO la).flatMap (wJ r la lb)
section
variable {r:Nat→Nat→Bool}
theorem yQ (i j k:Nat):ru i j (k+1)=ru i j k++[(i,j,k+1)]:=by simp [ru,qh]
theorem j0 {α:Type} (f:Nat→List α) (n:Nat):(bO (n+1)).flatMap f=(bO n).flatMap f++f n:=by simp [qh,gY]
theorem rX:∀(n k p q:Nat),k≤n→(∀t,t<k→r (p+t) (q+t)=true)→k≤jh r n p q
 | 0,k,_,_,h,_=>by exact cW (.le aq ar (.le aq (.k 0) .o)) τ h
 | n+1,0,_,_,_,_=>aX _
 | n+1,k+1,p,q,h,ht=>by
  have h0:=ht 0 (by exact eO _)
  rw [fu,fu] at h0
  unfold jh
  rw [if_pos h0]
  have:=rX n k (p+1) (q+1) (by exact cW (.le aq ar (.le (.s 0 1) (.s 1 1) .o)) τ h) fun t hlt=>by
   have:=ht (t+1) (by exact cW (.lt (.s 0 1) (.s 1 1) (.lt aq ar .o)) τ hlt)
   rw [show p+1+t=p+(t+1) by exact ak (cW (.le (.p (.s 0 1) ar) (.p aq (.s 1 1)) .o) τ) (cW (.le (.p aq (.s 1 1)) (.p (.s 0 1) ar) .o) τ),show q+1+t=q+(t+1) by exact ak (cW (.le (.p (.s 0 1) ar) (.p aq (.s 1 1)) .o) τ) (cW (.le (.p aq (.s 1 1)) (.p (.s 0 1) ar) .o) τ)];exact this
  exact cW (.le (.s 0 1) (.s 1 1) (.le aq ar .o)) τ this
theorem zU {n k p q:Nat} (hk:k≤n) (ht:∀t,t<k→r (p+t) (q+t)=true) (hs:k<n→r (p+k) (q+k)=false):jh r n p q=k:=by
 have h1:=rX n k p q hk ht
 have h2:=ls r n p q
 rcases Nat.lt_or_ge k (jh r n p q) with h|h
 ·have h3:=l6 r n p q k h
  rw [hs (by exact av h h2)] at h3;cases h3
 ·exact ak h h1
theorem m8 {la lb:Nat} {x:cv}:x∈runs r la lb↔mY r x∧x.1+x.2.2≤la∧x.2.1+x.2.2≤lb:=by
 obtain ⟨i,j,k⟩:=x
 simp only [runs,wJ,rs,ru,List.mem_flatMap,b9,fy,dU]
 constructor
 ·rintro ⟨i',hi,j',hj,t,ht,rfl,rfl,rfl⟩
  have h2:=ls r (fU (la-i') (lb-j')) i' j'
  show (0<t+1∧∀u,u<t+1→r (i'+u) (j'+u)=true)∧i'+(t+1)≤la∧j'+(t+1)≤lb
  refine ⟨⟨by exact eO _,fun u hu=>l6 r (fU (la-i') (lb-j')) i' j' u (by exact c8 (.lt aq ar (.lt az ar (.lt aq (.s 2 1) .o))) τ ht hu)⟩,by exact kr (.le (.p aq (.s 1 1)) az (.lt ar aI (.le aI bx (.le bx cV (.eq (.p cV aq) az .o))))) τ ht h2 (aN _ _) (aa (aR hi)),by exact kr (.le (.p aq (.s 1 1)) az (.lt ar aI (.le aI bx (.le bx cV (.eq (.p cV aq) az .o))))) τ ht h2 (br _ _) (aa (aR hj))⟩
 ·rintro ⟨⟨h0,hr⟩,h1,h2⟩
  have h0:0<k:=h0
  have h1:i+k≤la:=h1
  have h2:j+k≤lb:=h2
  refine ⟨i,by exact c8 (.lt aq ar (.lt (.k 0) az (.le (.p aq az) ar .o))) τ h0 h1,j,by exact c8 (.lt aq ar (.lt (.k 0) az (.le (.p aq az) ar .o))) τ h0 h2,k-1,?_,rfl,rfl,by exact ak ((aA (aa h0))) bZ⟩
  have:=rX (r:=r) (fU (la-i) (lb-j)) k i j (by exact (dI (la-i) (lb-j)).elim (fun ζ2=>eW (.le aq ar (.le (.p az aq) aI (.le aI (.p bx az) (.qe ar bx .o)))) τ h1 bZ (bz ζ2)) fun ζ2=>eW (.le aq ar (.le (.p az aq) aI (.le aI (.p bx az) (.qe ar bx .o)))) τ h2 bZ (df ζ2)) hr
  exact c8 (.lt aq ar (.le az ar (.eq (.s 0 1) az .o))) τ this (aa h0)
theorem Fc {l:List Nat} {b:Nat} (h:∀x∈l,x≤b):l.sum≤l.length*b:=by
 induction l with
 | nil=>simp
 | cons a l ih=>
  have:=h a (.head _)
  have:=ih fun x hx=>h x (.tail _ hx)
  simp only [List.sum_cons,cS,Nat.add_mul,Nat.one_mul]
  exact cR (.le (.p aq ar) (.p az aI) (.le aq aI (.le ar az .o))) τ ‹a≤b› this
theorem mV {α:Type} {f:Nat→List α} {n b:Nat} (h:∀i,i<n→(f i).length≤b):((bO n).flatMap f).length≤n*b:=by
 rw [List.length_flatMap]
 have:=Fc (l:=(bO n).map fun i=>(f i).length) (b:=b) (by
  intro x hx
  obtain ⟨i,hi,rfl⟩:=b9.mp hx
  exact h i (fy.mp hi))
 simpa using this
theorem AK {la lb i c:Nat} (hc:((bO lb).filter (r i)).length≤c):(wJ r la lb i).length≤c*la:=by
 have:∀(l:List Nat),(l.flatMap (rs r la lb i)).length≤(l.filter (r i)).length*la:=by
  intro l
  induction l with
  | nil=>simp
  | cons j l ih=>
   simp only [nG,bL,kC]
   have h2:=ls r (fU (la-i) (lb-j)) i j
   have h3:(rs r la lb i j).length=jh r (fU (la-i) (lb-j)) i j:=by simp [rs,ru]
   split
   ·simp only [cS,Nat.add_mul,Nat.one_mul]
    exact sM (.le (.p aq ar) (.p az aI) (.le ar az (.le bx cV (.eq aq bx (.le cV ee (.le ee aI .o)))))) τ ih h2 h3 (aN _ _) (aO _ _)
   ·rename_i hr
    have:jh r (fU (la-i) (lb-j)) i j=0:=zU (aX _) (by intro t ht;lia) (fun O=>by simpa using hr)
    exact cR (.le (.p aq ar) az (.le ar az (.eq aq aI (.eq aI (.k 0) .o)))) τ ih h3 this
 exact aj (this _) (Nat.mul_le_mul_right _ hc)
theorem AL {la lb c:Nat} (hc:∀i,i<la→((bO lb).filter (r i)).length≤c):(runs r la lb).length≤la*(c*la):=
 mV fun i hi=>AK (hc i hi)
theorem pT {α:Type} {f:Nat→List α} {i n:Nat} (h:i≤n):∃l,(bO n).flatMap f=(bO i).flatMap f++l:=by
 obtain ⟨k,rfl⟩:=Nat.exists_eq_add_of_le h
 rw [List.range_add,gY]
 exact ⟨_,rfl⟩
theorem AE {la lb i j k:Nat} (hi:i<la) (hj:j<lb) (hk:k≤jh r (fU (la-i) (lb-j)) i j) :
  ((bO i).flatMap (wJ r la lb)++(bO j).flatMap (rs r la lb i)++ru i j k).length≤(runs r la lb).length:=by
 obtain ⟨l,h1⟩:=pT (f:=wJ r la lb) (show i+1≤la from hi)
 obtain ⟨l',h2⟩:=pT (f:=rs r la lb i) (show j+1≤lb from hj)
 unfold runs
 rw [h1,j0]
 have h3:(wJ r la lb i).length=((bO (j+1)).flatMap (rs r la lb i)++l').length:=by rw [←h2];rfl
 simp only [bL,h3,j0]
 have h4:(rs r la lb i j).length=jh r (fU (la-i) (lb-j)) i j:=by simp [rs,ru]
 have h5:(ru i j k).length=k:=by simp [ru]
 exact sG (.le (.p (.p aq ar) az) (.p (.p aq (.p (.p ar aI) bx)) cV) (.le ee jj (.qe aI jj (.eq az ee .o)))) τ hk h4 h5
theorem vy {la lb:Nat} {S:List cv} (hp:S.Perm (runs r la lb)) (hs:S.Pairwise lX):re r la lb S:=
 ⟨fun x hx=>(m8.mp (hp.mem_iff.mp hx)).1,fun x h1 h2 h3=>hp.mem_iff.mpr (m8.mpr ⟨h1,h2,h3⟩),hs⟩
end
end C
noncomputable def pP (st:fC) (qual:bU) (dV doc pm:ag) (an:Option aH) (cd:ag):dP:=match st with
 | .FunctionDef name args body _ _ _ scope _ _ _=>fnOf name qual args body scope dV .none doc pm an cd .none
 | _=>fnOf qual qual ⟨[],[],none,[],[],none,[]⟩ [] ⟨.function,[],false,false,[]⟩ dV .none doc pm an cd .none
noncomputable def uX:dP:=pP (g6 7) j9 .none .none (.str eo 583) none (.ref 252)
theorem Dk (P:bF):(KF P).lookup 253=some ⟨.type "function",none,.func uX,#[]⟩:=by kernel_rfl!
theorem BH (P:bF):oa (KF P) uX.code uX.qualname=true:=by kernel_rfl!
theorem Bn (a b c:ag):js uX ⟨[a,b,c],[]⟩=cJ [(eU,a),(dB,b),(qY,c)]:=by rfl
noncomputable def gL (xs ys:List Int) (i j:Nat):Bool:=xs.getD i 0==ys.getD j 0
noncomputable def ie (xs ys:List Int) (S:Int→Bool) (i j:Nat):Bool:=gL xs ys i j && S (xs.getD i 0)
noncomputable def code (x:C.cv):List Int:=[-(x.2.2:Int),x.1,x.2.1]
noncomputable abbrev ch (its:Array ag) (n:Nat):cA:={ cls:=.type "list",data:=.seq its n}
noncomputable def mQ (h:ay) (D:List aH) (its:Array ag) (l:List C.cv):Prop:=dL (fun v x=>VT (bC h D) v (code x)) its.toList l
theorem mQ.sub {h h':ay} {D:List aH} {its:Array ag} {l:List C.cv} (x:mQ h D its l) (hs:Sub (bC h D) (bC h' D)):mQ h' D its l:=x.mono fun O O q=>q.sub hs
noncomputable abbrev rm (f sd rr R:aH) (more:List (bU×ag)):List (bU×ag):=(eU,.ref f)::(dB,.ref sd)::(qY,.ref rr)::(Gr,.ref R)::more
noncomputable def pk (h:ay) (L R f sd rr:aH) (more:List (bU×ag)) (l:List C.cv) (h':ay):Prop:=g8 fun its n=>Lp (bC h []) [L,R] (di uX L 253) h' (rm f sd rr R more) [(R,ch its n)]∧mQ h' [L,R] its l
noncomputable abbrev rO (xs ys:List Int) (S:Int→Bool) (i:Nat):List C.cv:=(bO i).flatMap (C.wJ (ie xs ys S) xs.length ys.length)
noncomputable abbrev rM (xs ys:List Int) (S:Int→Bool) (i j:Nat):List C.cv:=rO xs ys S i++(bO j).flatMap (C.rs (ie xs ys S) xs.length ys.length i)
noncomputable abbrev rW (xs ys:List Int) (S:Int→Bool) (i j k:Nat):List C.cv:=rM xs ys S i j++C.ru i j k
theorem pk.stab {h h1 h2:ay} {L R f sd rr:aH} {more:List (bU×ag)} {l:List C.cv} {B:aH→Prop} (x:pk h L R f sd rr more l h1) (hk:∀b o,h1.get? b=some o→cz o=true∨b∈[L,R]∨B b→h2.get? b=some o):pk h L R f sd rr more l h2:=
 let ⟨its,n,a,b⟩:=x;⟨its,n,a.stab hk,b.sub (iX hk)⟩
theorem pk.grow {h h1 h2:ay} {L R f sd rr:aH} {more:List (bU×ag)} {l:List C.cv} (x:pk h L R f sd rr more l h1) (hk:ba [] h1 h2):pk h L R f sd rr more l h2:=
 let ⟨its,n,a,b⟩:=x;⟨its,n,a.grow hk,b.sub (bP (a.st.grow hk).keep)⟩
theorem pk.ins {h h1:ay} {L R f sd rr:aH} {more:List (bU×ag)} {l:List C.cv} (x:pk h L R f sd rr more l h1):∀b∈[L,R],∃o,h1.get? b=some o:=by
 obtain ⟨its,n,a,_⟩:=x
 intro b hb
 simp only [aC,bT,or_false] at hb
 rcases hb with rfl|rfl
 ·exact a.st.lie _ FA.loc
 ·exact ⟨_,a.st.get (.head _)⟩
theorem ua:fD Cp=some (.builtin "sorted"):=by decide +kernel
section
variable {w:aP} {A:aS} {h:ay} {f sd rr:aH} {xs ys:List Int} {S:Int→Bool}
theorem yR (hA:A.handled=none) (hr:A.depth<iH) (X:Cx w (bC h [])) (hf:IL (bC h []) f xs) (hs:IL (bC h []) sd ys) (hS:IS w (bC h []) rr S) (hx:xs.length≤2^20) (hy:ys.length≤2^20)
  (hn:(C.runs (ie xs ys S) xs.length ys.length).length≤2^24) {P:ag→ay→Prop}
  (hsort:∀(A':aS) (h':ay) (R:aH) (its:Array ag) (n:Nat),A'.handled=none→A'.depth≤A.depth+1→Cx w h'→h'.get? R=some (ch its n)→Sub h h'→mQ h' [R] its (C.runs (ie xs ys S) xs.length ys.length)→Cg PQ w A' h' (.builtin "sorted") [.ref R] P) :
  Cg PQ w A h (.ref 253) [.ref f,.ref sd,.ref rr] P:=by
 have X0:=X.sub (cD h [])
 obtain ⟨mg,mb,T⟩:=X0.T
 refine Cd.cg (Cd.enter (c:=[]) hr (X0.K _ _ (Dk _)) rfl T.nolimit (f7 X0.K (BH _)) rfl (fun s hs=>.of_eq (Bn _ _ _)) (by decide +kernel) ?_ rfl il (fun L s hL hk S0=>?_))
 ·intro x hx
  simp only [aC,bT,or_false] at hx
  rcases hx with rfl|rfl|rfl<;>rfl
 refine wq fun R1_ hR1=>?_
 refine aT (cT (Eg.list Es.nil (by rintro vs h' ⟨_,rfl⟩;decide)) fun v h1 tk k1 hv=>?_)
 obtain ⟨vs,h1',k1',⟨rfl,rfl⟩,rfl,rfl⟩:=hv
 refine bE (s:=sh s _ tk) (S0.push _) (fun h2 tk2 S1=>⟨rfl,?_⟩)
 have hRn:s.heap.get? s.heap.objs.size=none:=cP
 generalize s.heap.objs.size=R at S1 hRn
 have hRh:h.get? R=none:=by
  cases q:h.get? R with
  | none=>rfl
  | some o=>rw [hk.get q] at hRn;cases hRn
 have hv0:Sub (bC h []) (bC h2 [L,R]):=cM fun b o q O O=>⟨S1.keep b o q,GY hL hRh q⟩
 have L0:pk h L R f sd rr [] (rO xs ys S 0) h2:=⟨#[],0,(Lp.start S1 [L,R] (by intro a ha;obtain rfl:a=L:=aD.mp ha;simp) (da (.tail _ (.head _))) hv0).forget (qD rfl rfl rfl rfl),.nil⟩
 have hS2:=S1.keep
 clear S1 S0
 obtain ⟨its0,n0,LL,_⟩:=id L0
 refine aT (jF (n:=xs.length) (a:=0) hA [L,R] (fun i h'=>pk h L R f sd rr [] (rO xs ys S i) h'∧ba [L,R] h2 h')
  (Eg.range1 (b:=xs.length) (X.sub LL.here) (Ev.lenL (X.sub LL.here) (Ev.nm LL.st) (hf.sub LL.here) (ck hx rfl)) Bv (c6 hx rfl)) L0.ins (fun h' k'=>⟨L0.grow k',k'.mono il⟩) (fun i h3 h4 a hk=>⟨a.1.stab hk,a.2.stab hk fun b o q n=>⟨o,q⟩⟩) ?_ ?_)
 ·rintro i v h3 tk3 hi hv ⟨⟨its,n,L3,hR3⟩,k23⟩
  rw [lU] at hv
  obtain ⟨ti,rfl⟩:=hv
  refine bE (s:=sh s h3 tk3) L3.st (fun h4 tk4 S4=>?_)
  have L4:pk h L R f sd rr [(nI,.int i ti)] (rM xs ys S i 0) h4:=⟨its,n,(L3.next S4 L3.st.inC).forget (Ag rfl rfl rfl rfl rfl),by simpa [rM] using hR3.sub (bP S4.keep)⟩
  have k34:ba [L,R] h3 h4:=S4.kept
  clear S4
  obtain ⟨its4,n4,LL4,_⟩:=id L4
  refine wq fun R2_ hR2=>?_
  refine aT (jF (n:=ys.length) (a:=0) hA [L,R] (fun j h'=>pk h L R f sd rr [(nI,.int i ti)] (rM xs ys S i j) h'∧ba [L,R] h3 h')
   (Eg.range1 (b:=ys.length) (X.sub LL4.here) (Ev.lenL (X.sub LL4.here) (Ev.nm LL4.st) (hs.sub LL4.here) (ck hy rfl)) Bv (c6 hy rfl)) L4.ins (fun h' k'=>⟨L4.grow k',k34.trans (k'.mono il)⟩)
   (fun j h5 h6 a hk=>⟨a.1.stab hk,a.2.stab hk fun b o q n=>⟨o,k34 b o q n⟩⟩) ?_ ?_)
  ·rintro j vj h5 tk5 hj hvj ⟨⟨its,n,L5,hR5⟩,k35⟩
   rw [lU] at hvj
   obtain ⟨tj,rfl⟩:=hvj
   refine bE (s:=sh s h5 tk5) L5.st (fun h6 tk6 S6=>?_)
   refine wq fun R3_ hR3=>?_
   refine aT (fz (s:=sh s h6 tk6) S6 Ev.int fun vs h7 tk7 hvs S7=>⟨rfl,?_⟩)
   obtain ⟨tz,rfl⟩:=hvs
   have L7:pk h L R f sd rr [(nI,.int i ti),(nJ,.int j tj),(lJ,.int ((0:Nat):Int) tz)] (rW xs ys S i j 0) h7:=⟨its,n,(L5.next S7 L5.st.inC).forget (Gl rfl rfl rfl rfl rfl rfl rfl),by simpa [rW,C.ru] using hR5.sub (bP S7.keep)⟩
   have k57:ba [L,R] h5 h7:=S7.kept
   clear S7 S6
   refine aT (lM (n₀:=xs.length+1) (s:=sh s h7 tk7)
    (fun m h'=>g8 fun k tz=>lO (pk h L R f sd rr [(nI,.int i ti),(nJ,.int j tj),(lJ,.int ((k:Nat):Int) tz)] (rW xs ys S i j k) h') (ba [L,R] h5 h') (k≤C.jh (ie xs ys S) (fU (xs.length-i) (ys.length-j)) i j) (m+k=xs.length+1)) ⟨0,tz,L7,k57,aX _,rfl⟩ ?_)
   rintro m h8 ⟨k,tz,⟨its,n,L8,hR8⟩,k58,hkle,hm⟩
   have hmin:=C.ls (ie xs ys S) (fU (xs.length-i) (ys.length-j)) i j
   have hall:∀t,t<k→ie xs ys S (i+t) (j+t)=true:=fun t ht=>C.l6 _ (fU (xs.length-i) (ys.length-j)) _ _ t (by exact av ht hkle)
   have fin:(k<fU (xs.length-i) (ys.length-j)→ie xs ys S (i+k) (j+k)=false)→pk h L R f sd rr [(nI,.int i ti)] (rM xs ys S i (j+1)) h8∧ba [L,R] h3 h8:=fun hq=>by
    refine ⟨⟨its,n,L8.forget (Ag rfl rfl rfl rfl rfl),?_⟩,k35.trans k58⟩
    rw [rM,C.j0,←bK,C.rs,C.zU (by exact aj hkle hmin) hall hq]
    exact hR8
   by_cases h1:i+k<xs.length
   ·by_cases h2:j+k<ys.length
    ·refine ⟨gL xs ys (i+k) (j+k),Et.and fun whole=>jd.yes (Et.of (Et.ints (Ev.add (Ev.nmI L8.st) (Ev.nmI L8.st)) (Ev.lenL (X.sub L8.here) (Ev.nm L8.st) (hf.sub L8.here) (ck hx rfl))) ?_)
      (jd.yes (Et.of (Et.ints (Ev.add (Ev.nmI L8.st) (Ev.nmI L8.st)) (Ev.lenL (X.sub L8.here) (Ev.nm L8.st) (hs.sub L8.here) (ck hy rfl))) ?_)
       (jd.last (Et.of (Et.ints (Ev.itemL (Ev.nm L8.st) (Ev.add (Ev.nmI L8.st) (Ev.nmI L8.st)) (hf.sub L8.here) GQ (ca h1) (ck hx rfl)) (Ev.itemL (Ev.nm L8.st) (Ev.add (Ev.nmI L8.st) (Ev.nmI L8.st)) (hs.sub L8.here) GQ (ca h2) (ck hy rfl))) ?_))),fun hb tk'=>?_,fun hb tk'=>?_⟩
     ·simp only [eI,decide_eq_true_eq];exact ca h1
     ·simp only [eI,decide_eq_true_eq];exact ca h2
     ·rfl
     ·exact ⟨rfl,aw (hR3 .next _ ⟨h8,tk',rfl,k58,fin fun O=>by simp [ie,hb]⟩)⟩
     ·cases hSx:S (xs.getD (i+k) 0) with
      | false=>
       refine wq fun R4_ hR4=>?_
       refine gO (fV (b:=true) (Et.of (Et.cmp (Ev.itemL (Ev.nm L8.st) (Ev.add (Ev.nmI L8.st) (Ev.nmI L8.st)) (hf.sub L8.here) GQ (ca h1) (ck hx rfl)) (Ev.nm L8.st)
        (fun x y hx hy s Q E hs q=>by subst hy;exact tx (hS.sub L8.here) hx hs q)) ?_) fun tk=>?_)
       ·show (!S (xs.getD (i+k) 0))=true
        rw [hSx];rfl
       ·skip
        exact wP (hR4 .brk _ ⟨rfl,aw (hR3 .next _ ⟨h8,tk,rfl,k58,fin fun O=>by rw [ie,hSx,mC]⟩)⟩)
      | true=>
       refine wq fun R5_ hR5=>?_
       refine gO (fV (b:=false) (Et.of (Et.cmp (Ev.itemL (Ev.nm L8.st) (Ev.add (Ev.nmI L8.st) (Ev.nmI L8.st)) (hf.sub L8.here) GQ (ca h1) (ck hx rfl)) (Ev.nm L8.st)
        (fun x y hx hy s Q E hs q=>by subst hy;exact tx (hS.sub L8.here) hx hs q)) ?_) fun tk=>?_)
       ·show (!S (xs.getD (i+k) 0))=false
        rw [hSx];rfl
       skip
       refine aw (show aF _ _ _ _ _ _ from ?_)
       refine aT (wN (s:=sh s h8 tk) L8.st Ev.int (fun v h9 tk9 hv9 S9=>⟨rfl,?_⟩))
       obtain ⟨t9,rfl⟩:=hv9
       have hsz:its.size≤2^24:=by
        have h1:=hR8.length
        have h2:=C.AE (r:=ie xs ys S) hi hj hkle
        rw [aJ] at h1
        have h3:its.size≤(C.runs (ie xs ys S) xs.length ys.length).length:=by rw [h1];exact h2
        exact aj h3 hn
       refine aT (fP (s:=sh s h9 tk9) (pre:=[]) (post:=[]) S9 (Eg.tuple (Es.more (Ev.neg (Ev.nmI S9)) (Es.more (Ev.nmI S9) (Es.more (Ev.nmI S9) Es.nil))) ?_) (by simp) (by simp) hsz (fun v hv h10 tk10 kv hp kR S10=>⟨rfl,aw ?_⟩))
       ·rintro vs h' ⟨_,v1,vs1,rfl,_,v2,vs2,rfl,_,v3,vs3,rfl,_,rfl⟩;show 3≤2^24;decide
       obtain ⟨vs,h11,k11,⟨rfl,v1,vs1,rfl,⟨u1,rfl⟩,v2,vs2,rfl,⟨u2,rfl⟩,v3,vs3,rfl,⟨u3,rfl⟩,rfl⟩,rfl,rfl⟩:=hp
       refine hR5 .next _ ⟨h10,tk10,m-1,rfl,by exact (aA (aa (DJ 1 (.le (.k 1) aq (.qe (.p aq ar) (.s 2 1) (.lt (.p aI ar) az .o))) τ hm h1))),k+1,t9,⟨its.push _,n+1,(L8.next S10 (da (.tail _ (.head _)))).forget ?_,?_⟩,?_,?_,by exact ak (cR (.le (.p aq (.s 1 1)) (.s 2 1) (.eq (.p aI ar) (.s 2 1) (.eq (.s 0 1) aI .o))) τ hm (aa (DJ 1 (.le (.k 1) aq (.qe (.p aq ar) (.s 2 1) (.lt (.p aI ar) az .o))) τ hm h1))) (cR (.le (.s 0 1) (.p ar (.s 2 1)) (.qe (.p aI az) (.s 0 1) (.le aI (.s 1 1) .o))) τ hm bZ)⟩
       ·exact Gl rfl rfl rfl rfl rfl rfl rfl
       ·rw [mQ,bX,rW,C.yQ,←bK]
        refine (hR8.sub (bP S10.keep)).append (.cons (VT.made (.cons _ _ (.cons _ _ (.cons _ _ .nil))) ?_ (kR.mono (fun O q=>.tail _ q))) .nil)
        intro b hb
        simp only [aC,bT,or_false] at hb
        rcases hb with rfl|rfl
        ·exact S9.lie _ FA.loc
        ·exact ⟨_,S9.get (.head _)⟩
       ·exact k58.trans S10.kept
       ·refine C.rX _ _ _ _ (by exact (dI (xs.length-i) (ys.length-j)).elim (fun ζ2=>eW (.le (.s 0 1) ar (.lt (.p az aq) aI (.le aI (.p bx az) (.qe ar bx .o)))) τ h1 bZ (bz ζ2)) fun ζ2=>eW (.le (.s 0 1) ar (.lt (.p az aq) aI (.le aI (.p bx az) (.qe ar bx .o)))) τ h2 bZ (df ζ2)) fun t ht=>?_
        by_cases q:t<k
        ·exact hall t q
        ·obtain rfl:t=k:=by exact ak (dH ht) (aZ q)
         rw [ie,hb,hSx];rfl
    ·refine ⟨false,Et.and fun whole=>jd.yes (Et.of (Et.ints (Ev.add (Ev.nmI L8.st) (Ev.nmI L8.st)) (Ev.lenL (X.sub L8.here) (Ev.nm L8.st) (hf.sub L8.here) (ck hx rfl))) ?_)
      (jd.no (Et.of (Et.ints (Ev.add (Ev.nmI L8.st) (Ev.nmI L8.st)) (Ev.lenL (X.sub L8.here) (Ev.nm L8.st) (hs.sub L8.here) (ck hy rfl))) ?_)),fun hb tk'=>?_,fun hb tk'=>by cases hb⟩
     ·simp only [eI,decide_eq_true_eq];exact ca h1
     ·simp only [eI,decide_eq_false_iff_not];exact cn h2
     ·exact ⟨rfl,aw (hR3 .next _ ⟨h8,tk',rfl,k58,fin fun q=>absurd (Fa (av q (br _ _))) h2⟩)⟩
   ·refine ⟨false,Et.and fun whole=>jd.no (Et.of (Et.ints (Ev.add (Ev.nmI L8.st) (Ev.nmI L8.st)) (Ev.lenL (X.sub L8.here) (Ev.nm L8.st) (hf.sub L8.here) (ck hx rfl))) ?_),fun hb tk'=>?_,fun hb tk'=>by cases hb⟩
    ·simp only [eI,decide_eq_false_iff_not];exact cn h1
    ·exact ⟨rfl,aw (hR3 .next _ ⟨h8,tk',rfl,k58,fin fun q=>absurd (Fa (av q (aN _ _))) h1⟩)⟩
  ·rintro h5 tk5 ⟨⟨its,n,L5,hR5⟩,k35⟩
   refine ⟨rfl,aw (hR2 .next _ ⟨h5,tk5,rfl,k35,⟨its,n,L5.forget (qD rfl rfl rfl rfl),?_⟩,k23.trans k35⟩)⟩
   rw [rO,C.j0]
   exact hR5
 ·rintro h3 tk3 ⟨⟨its,n,L3,hR3⟩,k23⟩
  have hsub3:Sub h h3:=fun b o q=>k23 b o (hS2 b o q) (GY hL hRh q)
  refine ⟨rfl,nv (s:=sh s h3 tk3) (P:=P) (Eg.callB (Ev.bltn (X.sub L3.here) (fun O=>by kernel_rfl!) ua (by decide +kernel)) (Es.one (Ev.gg (Ev.nm L3.st))) (fun vs h1 k1 hv=>?_)) fun v h' tk' k' hp=>?_⟩
  ·obtain ⟨v,rfl,rfl,rfl⟩:=hv
   refine hsort _ _ R its n hA (bd _) (X.sub L3.here) (L3.st.get (.head _)) hsub3 (hR3.mono fun v x q=>q.sub (cM fun b o q n O=>⟨q,fun z=>n (by simp at z;simp [z])⟩))
  ·exact hR1 (.ret _) _ ⟨h',tk',rfl,fun b o q=>k'.get (hsub3 b o q),hp⟩
end
namespace S
section
variable (rk:ag→Int)
noncomputable def K (xs:Array a0) (i:Nat):Int:=match xs[i]? with
 | some p=>rk p.1
 | none=>0
noncomputable def kL (xs:Array a0) (a b:Nat):Prop:=∀i j,a≤i→i≤j→j<b→K rk xs i≤K rk xs j
variable {rk}
theorem jx {xs ys:Array a0} {i j:Nat} (h:xs[i]? = ys[j]?):K rk xs i=K rk ys j:=by unfold K;rw [h]
theorem fQ {xs:Array a0} {i:Nat} (h:i<xs.size):K rk xs i=rk xs[i].1:=by unfold K;rw [getElem?_pos xs i h]
theorem uE {xs:Array a0} {src d:Nat} (hs:src<xs.size) (hd:d≤src) (k:Nat) :
  K rk (bubble xs src d) k=if k=src-d then K rk xs src else if src-d<k∧k≤src then K rk xs (k-1) else K rk xs k:=by
 have e:=getElem?_bubble hs d hd k
 by_cases h1:k=src-d
 ·rw [if_pos h1] at e ⊢;exact jx e
 ·rw [if_neg h1] at e ⊢
  by_cases h2:src-d<k∧k≤src
  ·rw [if_pos h2] at e ⊢;exact jx e
  ·rw [if_neg h2] at e ⊢;exact jx e
theorem rF {xs:Array a0} {i j:Nat} (hj:j≤xs.size) (k:Nat) :
  K rk (mirror xs i j ((j-i) / 2)) k=if i≤k∧k<j then K rk xs (i+j-1-k) else K rk xs k:=by
 have e:=getElem?_mirror_all (i:=i) hj k
 by_cases h1:i≤k∧k<j
 ·rw [if_pos h1] at e ⊢;exact jx e
 ·rw [if_neg h1] at e ⊢;exact jx e
theorem ii {xs:Array a0} {i j:Nat} (hj:j≤xs.size) (heq:∀k,i≤k→k<j→K rk xs k=K rk xs (j-1)) (k:Nat) :
  K rk (mirror xs i j ((j-i) / 2)) k=K rk xs k:=by
 rw [rF hj]
 split
 ·rw [heq _ (by exact eW (.le aq ar (.lt az aI (.le bx (.p ar az) (.le (.p aq aI) (.s 4 1) .o)))) τ ‹i≤k∧k<j›.2 bZ bZ) (by exact eW (.lt aq ar (.le az aI (.eq (.p aq aI) bx (.eq (.s 4 1) (.p az ar) .o)))) τ ‹i≤k∧k<j›.1 (aa (cR (.le aq ar (.lt aq az (.le (.p aI az) (.s 1 1) .o))) τ ‹i≤k∧k<j›.2 bZ)) (aa (c8 (.le (.k 1) (.p aq ar) (.lt az ar .o)) τ ‹i≤k∧k<j›.2))),heq k (by exact ‹i≤k∧k<j›.1) (by exact ‹i≤k∧k<j›.2)]
 ·rfl
end
structure SB (kd:gb) (a₀:Array a0) (st:bm):Prop where
 kind:kindOf st=kd
 perm:(bi st).Perm a₀
 failed:pC st=none
theorem SB.size {kd:gb} {a₀:Array a0} {st:bm} (h:SB kd a₀ st):(bi st).size=a₀.size:=h.perm.size_eq
theorem SB.setArr {kd:gb} {a₀:Array a0} {st:bm} (h:SB kd a₀ st) {xs:Array a0} (hp:xs.Perm (bi st)):SB kd a₀ (setArr st xs):=⟨h.kind,hp.trans h.perm,h.failed⟩
noncomputable def rb (prog:aV) (w:aP) (A:aS) (s:am) (kd:gb) (rk:ag→Int) (OK:ag→Prop):Prop:=
 ∀x y,OK x→OK y→∀(Q:Bool→am→Prop) (E:ag→am→Prop),Q (decide (rk x<rk y)) s→aF (aB prog w) A (keyLt' kd x y) Q E s
noncomputable def mK (OK:ag→Prop) (a:Array a0):Prop:=∀p∈a.toList,OK p.1
theorem mK.at {OK:ag→Prop} {a:Array a0} (h:mK OK a) {i:Nat} {p:a0} (e:a[i]? = some p):OK p.1:=by
 refine h p ?_
 rw [←cy] at e
 exact gH e
theorem mK.perm {OK:ag→Prop} {a b:Array a0} (h:mK OK a) (p:b.Perm a):mK OK b:=fun x hx=>h x (p.toList.mem_iff.mp hx)
section
variable {prog:aV} {w:aP} {A:aS} {E:ag→am→Prop} {s:am} {kd:gb} {rk:ag→Int} {OK:ag→Prop} {a₀:Array a0}
theorem uz {st:bm} {x y:a0} {Q:Option Bool→bm→Prop} (hc:rb prog w A s kd rk OK) (hk:kindOf st=kd) (hx:OK x.1) (hy:OK y.1) (h:Q (some (decide (rk x.1<rk y.1))) st) :
  kW (aB prog w) A E s (lt' x y) Q st:=by
 rw [lt'_eq]
 refine bn (q7 ?_)
 rw [hk]
 refine bn (wpS_lift (jY (hc x.1 y.1 hx hy _ _ ⟨rfl,?_⟩)))
 exact bW h
theorem gX {st:bm} {arr:Array a0} {i:Nat} {Q:a0→bm→Prop} (hi:i<arr.size) (h:Q arr[i] st):kW (aB prog w) A E s (elem' arr i) Q st:=by
 rw [elem'_eq,getElem?_pos arr i hi]
 exact bW h
theorem nE {st:bm} {i j:Nat} {Q:Option Bool→bm→Prop} (hc:rb prog w A s kd rk OK) (h0:mK OK a₀) (hB:SB kd a₀ st) (hi:i<a₀.size) (hj:j<a₀.size)
  (h:Q (some (decide (K rk (bi st) i<K rk (bi st) j))) st):kW (aB prog w) A E s (ltAt' i j) Q st:=by
 have hi':i<(bi st).size:=by rw [hB.size];exact hi
 have hj':j<(bi st).size:=by rw [hB.size];exact hj
 have hA:=h0.perm hB.perm
 skip
 refine bn (q7 ?_)
 refine bn (gX hi' (bn (gX hj' ?_)))
 refine uz hc hB.kind (hA.at (getElem?_pos (bi st) i hi')) (hA.at (getElem?_pos (bi st) j hj')) ?_
 rw [fQ hi',fQ hj'] at h
 exact h
theorem kX {st:bm} {i j:Nat} {Q:Unit→bm→Prop} (h:Q () (setArr st (mirror (bi st) i j ((j-i) / 2)))) :
  kW (aB prog w) A E s (reverseSlice' i j) Q st:=by
 rw [reverseSlice'_eq];exact oH h
noncomputable def qr (lo:Nat) (xs ys:Array a0):Prop:=∀k,k<lo→ys[k]? = xs[k]?
theorem qr.refl (lo:Nat) (xs:Array a0):qr lo xs xs:=fun O O=>rfl
theorem qr.trans {lo:Nat} {xs ys zs:Array a0} (h:qr lo xs ys) (h':qr lo ys zs):qr lo xs zs:=fun k hk=>(h' k hk).trans (h k hk)
theorem qr.mirror {lo i j:Nat} {xs:Array a0} (hj:j≤xs.size) (hi:lo≤i):qr lo xs (mirror xs i j ((j-i) / 2)):=fun k hk=>by
 rw [getElem?_mirror_all hj,if_neg fun q=>dT _ (av hk (aj hi q.1))]
theorem qr.bubble {lo src d:Nat} {xs:Array a0} (hs:src<xs.size) (hd:lo+d≤src):qr lo xs (bubble xs src d):=fun k hk=>by
 rw [getElem?_bubble hs d (by exact c8 (.le aq ar (.le (.p az aq) ar .o)) τ hd),if_neg (by exact fun ζ0=>eW (.ff (.le (.p aq ar) az (.lt aI aq (.le az (.p bx ar) (.qe aI bx .o))))) τ hd hk bZ ζ0),if_neg fun q=>dT _ (fS (bV (Nat.le_sub_of_add_le hd) q.1) hk)]
theorem sE {st:bm} {lo n ok:Nat} {Q:Bool→bm→Prop} (hc:rb prog w A s kd rk OK) (h0:mK OK a₀) (hn:lo+n≤a₀.size) (hok:ok≤n) (hB:SB kd a₀ st) (hs:kL rk (bi st) lo (lo+ok))
  (h:∀st',SB kd a₀ st'→kL rk (bi st') lo (lo+n)→qr lo (bi st) (bi st')→bJ st'=bJ st→Q true st'):kW (aB prog w) A E s (binarySort' lo n ok) Q st:=by
 skip
 refine bn (pD (f4 (I:=fun k c st'=>c=(none,())∧SB kd a₀ st'∧kL rk (bi st') lo (lo+fU k n)∧qr lo (bi st) (bi st')∧bJ st'=bJ st)
  (Q:=fun c st'=>c=(none,())∧SB kd a₀ st'∧kL rk (bi st') lo (lo+n)∧qr lo (bi st) (bi st')∧bJ st'=bJ st) ?step ?fin ?init) ?post)
 case post=>
  rintro c st' ⟨rfl,hB',hs',hl,hp⟩
  exact bW (h st' hB' hs' hl hp)
 case init=>
  refine ⟨rfl,hB,fun i j hi hij hj=>?_,qr.refl _ _,rfl⟩
  by_cases h1:ok=0
  ·have:i=j:=by exact ak hij (eW (.le aq ar (.le az ar (.lt aq (.p az aI) (.le aI bx (.eq bx (.k 1) .o))))) τ hi hj (aN _ _) (Nat.max_eq_right (oK (.le aq (.k 1) (.eq aq (.k 0) .o)) τ h1)))
   subst this;exact iq _
  ·exact hs i j hi hij (by exact (aK h1).elim (fun ζ2=>eW (.lt aq (.p ar az) (.lt aq (.p ar aI) (.le aI bx (.eq bx az .o)))) τ hj (aN _ _) (Nat.max_eq_left (oK (.le (.k 1) aq (.lt aq (.k 0) .o)) τ ζ2))) fun ζ2=>eW (.lt aq (.p ar az) (.lt aq (.p ar aI) (.le aI bx (.eq bx az .o)))) τ hj (aN _ _) (Nat.max_eq_left ζ2))
 case fin=>
  rintro c st' ⟨hc,hB',hs',hl,hp⟩
  refine ⟨hc,hB',?_,hl,hp⟩
  rwa [show fU (max (max ok 1) n) n=n by exact ak (br _ _) ((aA (cB (df (eC _ _)))))] at hs'
 case step=>
  rintro k c st' hak hkn ⟨rfl,hB',hs',hl,hp⟩
  rw [show fU k n=k by exact ak (aN _ _) ((aA (cB (bz (aR hkn)))))] at hs'
  have hk:lo+k<a₀.size:=by exact cR (.lt (.p aq ar) az (.le (.p aq aI) az (.lt ar aI .o))) τ hn hkn
  refine bn (pD (f4 (I:=fun x c st''=>st''=st'∧g8 fun l r=>uB (c=(none,l,r)) (l≤r) (r≤k) (r-l≤k-x) ((∀i,i<l→K rk (bi st') (lo+i)≤K rk (bi st') (lo+k))) ((∀i,r≤i→i<k→K rk (bi st') (lo+k)<K rk (bi st') (lo+i))))
   (Q:=fun c st''=>st''=st'∧g8 fun l r=>lO (c=(none,l,r)) (l≤k) ((∀i,i<l→K rk (bi st') (lo+i)≤K rk (bi st') (lo+k))) ((∀i,l≤i→i<k→K rk (bi st') (lo+k)<K rk (bi st') (lo+i)))) ?istep ?ifin ?iinit) ?ipost)
  case iinit=>exact ⟨rfl,0,k,rfl,by exact aX _,by lia,by exact oK (.le aq aq .o) τ,fun i hi=>(dv _ hi).elim,fun i h1 h2=>absurd h2 (Nat.not_lt_of_le h1)⟩
  case ifin=>
   rintro c st'' ⟨rfl,l,r,rfl,hlr,hrk,hm,hlo,hhi⟩
   have:l=r:=by exact ak hlr (cR (.le aq ar (.le az aI (.le aq (.p az ar) (.eq aI (.k 0) .o)))) τ hm bZ (bR (eC _ _)))
   subst this
   exact ⟨rfl,l,l,rfl,hrk,hlo,hhi⟩
  case istep=>
   rintro x c st'' _ hxk ⟨rfl,l,r,rfl,hlr,hrk,hm,hlo,hhi⟩
   dsimp only
   by_cases hge:l≥r
   ·rw [if_pos hge]
    have:l=r:=by exact ak hlr hge
    subst this
    exact bW ⟨rfl,l,l,rfl,hrk,hlo,hhi⟩
   ·rw [if_neg hge]
    refine bn (nE hc h0 hB' hk (by exact H8 1 (.lt (.p aq ar) az (.w 2 (.lt (.p aq aI) az (.le bx cV (.w 2 (.le cV aI (.le (.m 2 ar) (.p bx cV) .o))))))) τ hk hlr hrk (cr _ _)) ?_)
    by_cases hless:K rk (bi st'') (lo+k)<K rk (bi st'') (lo+(l+r) / 2)
    ·simp only [hless,decide_true,if_true]
     refine bW ⟨rfl,l,(l+r) / 2,rfl,by exact A5 1 (.le aq ar (.ne az aq (.lt (.p aq az) (.m 2 (.s 1 1)) .o))) τ hge (eR _ (by decide)),by exact DJ 1 (.le aq ar (.le az aI (.w 2 (.le aI ar (.le (.m 2 aq) (.p az aI) .o))))) τ hlr hrk (cr _ _),by exact G7 1 (.le aq ar (.le az aI (.le bx (.p ar (.s 5 1)) (.le ee (.p az jj) (.le (.m 2 tU) (.p jj ee) (.w 2 (.eq (.p aq jj) tU (.eq (.p aI cV) bx .o)))))))) τ hm bZ bZ (cr _ _) (aa (A5 1 (.le aq ar (.ne az aq (.lt (.p aq az) (.m 2 (.s 1 1)) .o))) τ hge (eR _ (by decide)))) (aa (aR hxk)),hlo,fun i h1 h2=>?_⟩
     exact Int.lt_of_lt_of_le hless (hs' _ _ (by exact co _ _) (by exact c8 (.le (.p aq ar) (.p aq az) (.le ar az .o)) τ h1) (by exact c8 (.lt (.p aq ar) (.p aq az) (.lt ar az .o)) τ h2))
    ·simp only [hless,decide_false,bv,if_false]
     refine bW ⟨rfl,(l+r) / 2+1,r,rfl,by exact A5 1 (.le (.s 0 1) ar (.ne ar az (.le (.m 2 aq) (.p az ar) .o))) τ hge (cr _ _),by exact hrk,by exact G7 1 (.le aq ar (.le az aI (.le bx (.p ar (.s 5 1)) (.le ee (.p az jj) (.lt (.p jj ee) (.m 2 (.s 8 1)) (.w 2 (.eq (.p aq (.s 8 1)) ee (.eq (.p aI cV) bx .o)))))))) τ hm bZ bZ (eR _ (by decide)) (aa (A5 1 (.le (.s 0 1) ar (.ne ar az (.le (.m 2 aq) (.p az ar) .o))) τ hge (cr _ _))) (aa (aR hxk)),fun i h1=>?_,hhi⟩
     exact cx (hs' (lo+i) (lo+(l+r) / 2) (by exact co _ _) (by exact c8 (.le (.p aq ar) (.p aq az) (.lt ar (.s 2 1) .o)) τ h1) (by exact GI 1 (.lt (.p aq ar) (.p aq az) (.w 2 (.le aI az (.ne aI bx (.le (.m 2 ar) (.p bx aI) .o))))) τ hrk hge (cr _ _))) (jA.mp hless)
  case ipost=>
   rintro c st'' ⟨rfl,l,r,rfl,hlk,hlo,hhi⟩
   show kW _ _ _ _ (do moveDown' (lo+k) (lo+l);cJ (ForInStep.yield (none,()))) _ _
   rw [moveDown'_eq]
   have hks:lo+k<(bi st'').size:=by rw [hB'.size];exact hk
   refine bn (oH (bW ⟨rfl,hB'.setArr (bubble_perm _ _ _),?_,hl.trans (qr.bubble hks (by exact cR (.le (.p aq ar) (.p aq az) (.eq (.p ar (.p aq aI)) (.p aq az) .o)) τ (aa (c8 (.le (.p aq ar) (.p aq az) (.le ar az .o)) τ hlk)))),hp⟩))
   rw [show fU (k+1) n=k+1 by exact ak (aN _ _) ((aA (cB (bz hkn))))]
   intro i j hi hij hj
   show K rk (bubble (bi st'') (lo+k) (lo+k-(lo+l))) i≤K rk (bubble (bi st'') (lo+k) (lo+k-(lo+l))) j
   rw [uE hks (by exact (aO _ _)),uE hks (by exact (aO _ _)),show lo+k-(lo+k-(lo+l))=lo+l by exact ak (eW (.le aq (.p ar az) (.le (.p ar aI) (.p bx (.p ar az)) (.eq (.p aq bx) (.p ar aI) .o))) τ bZ (aa (aO _ _))) (eW (.le (.p aq ar) az (.le (.p aq aI) (.p az bx) (.eq (.p bx (.p aq ar)) (.p aq aI) .o))) τ bZ (aa (c8 (.le (.p aq ar) (.p aq az) (.le ar az .o)) τ hlk)))]
   have g1:∀i,lo≤i→i<lo+l→K rk (bi st'') i≤K rk (bi st'') (lo+k):=fun i h1 h2=>by
    have:=hlo (i-lo) (by exact cR (.lt aq ar (.lt az (.p aI ar) (.eq (.p aq aI) az .o))) τ h2 (aa h1));rwa [show lo+(i-lo)=i by exact ak (c8 (.le (.p aq ar) az (.eq (.p ar aq) az .o)) τ (aa h1)) (c8 (.le aq (.p ar az) (.le aq (.p az ar) .o)) τ bZ)] at this
   have g2:∀i,lo+l≤i→i<lo+k→K rk (bi st'') (lo+k)<K rk (bi st'') i:=fun i h1 h2=>by
    have:=hhi (i-lo) (by exact cR (.le aq ar (.le (.p az aq) aI (.le aI (.p ar az) .o))) τ h1 bZ) (by exact cR (.lt aq ar (.lt az (.p aI ar) (.eq (.p aq aI) az .o))) τ h2 (aa (c8 (.le aq ar (.le (.p aq az) ar .o)) τ h1)));rwa [show lo+(i-lo)=i by exact ak (c8 (.le (.p aq ar) az (.eq (.p ar aq) az .o)) τ (aa (c8 (.le aq ar (.le (.p aq az) ar .o)) τ h1))) (c8 (.le aq (.p ar az) (.le aq (.p az ar) .o)) τ bZ)] at this
   repeat' split
   all_goals first
    | (exfalso;(first|exact cR (.ff (.le aq ar (.lt (.p az aI) aq (.eq ar (.p az aI) .o)))) τ hij ‹lo+l<i∧i≤lo+k›.1 ‹j=lo+l›|lia))
    | exact iq _
    | exact g1 _ (by (first|exact hi|lia)) (by (first|exact (aK ‹¬i=lo+l›).elim (fun ζ2=>ζ2) fun ζ2=>cR (.lt aq (.p ar az) (.w 2 (.le aq aI (.w 2 (.eq aI (.p ar az) (.lt (.p ar az) aq .o)))))) τ hij ‹j=lo+l› ζ2|lia))
    | exact ef (g2 _ (by exact cR (.le (.p aq ar) az (.lt (.p aq ar) aI (.le aI (.s 2 1) .o))) τ ‹lo+l<j∧j≤lo+k›.1 bZ) (by exact cR (.lt aq (.p ar az) (.lt aI (.p ar (.s 2 1)) (.eq (.s 0 1) aI .o))) τ hj (aa (c8 (.le (.k 1) aq (.lt (.p ar az) aq .o)) τ ‹lo+l<j∧j≤lo+k›.1))))
    | exact hs' _ _ (by (first|exact cR (.le aq ar (.lt (.p aq az) aI (.le aI (.s 1 1) .o))) τ ‹lo+l<i∧i≤lo+k›.1 bZ|exact hi)) (by (first|exact cR (.le aq ar (.le az aI (.le aI (.s 1 1) (.eq (.s 0 1) az .o)))) τ hij bZ (aa (c8 (.le (.k 1) aq (.lt (.p ar az) aq .o)) τ ‹lo+l<i∧i≤lo+k›.1))|exact hij|lia)) (by (first|exact cR (.lt aq (.p ar az) (.lt aI (.p ar (.s 2 1)) (.eq (.s 0 1) aI .o))) τ hj (aa (c8 (.le (.k 1) aq (.lt (.p ar az) aq .o)) τ ‹lo+l<j∧j≤lo+k›.1))|lia))
end
noncomputable abbrev DL:=Option (Option Nat)×Nat
noncomputable abbrev zk:=Option (Option Nat)×Nat×Nat
noncomputable def DS (lo a nrem:Nat):StateT bm mw DL:=
 forIn [a:nrem] ((none,a):DL) fun O c=>do
  match ←ltAt' (lo+c.snd) (lo+c.snd-1) with
  | some b=>if b=true then cJ (.done (none,c.snd)) else cJ (.yield (none,c.snd+1))
  | _=>cJ (.done (some none,c.snd))
noncomputable def xH (lo n nrem:Nat):StateT bm mw (Option Nat):=do
 reverseSlice' lo (lo+n)
 let c ←DS lo n nrem
 match c.fst with
 | some r=>cJ r
 | none=>cJ (some c.snd)
noncomputable def zH (lo n nrem:Nat):StateT bm mw zk:=
 forIn [n:nrem] ((none,n,0):zk) fun O c=>do
  match ←ltAt' (lo+c.snd.fst) (lo+c.snd.fst-1) with
  | some b=>
   if b=true then
    if c.snd.snd>0 then do
     reverseSlice' (lo+c.snd.fst-(c.snd.snd+1)) (lo+c.snd.fst)
     cJ (.yield (none,c.snd.fst+1,0))
    else cJ (.yield (none,c.snd.fst+1,0))
   else do
    match ←ltAt' (lo+c.snd.fst-1) (lo+c.snd.fst) with
    | some b'=>if b'=true then cJ (.done (none,c.snd.fst,c.snd.snd)) else cJ (.yield (none,c.snd.fst+1,c.snd.snd+1))
    | _=>cJ (.done (some none,c.snd.fst,c.snd.snd))
  | _=>cJ (.done (some none,c.snd.fst,c.snd.snd))
noncomputable def xa (lo n nrem:Nat):StateT bm mw (Option Nat):=do
 liftM (rule "list.sort.descending-run")
 let c ←zH lo (n+1) nrem
 match c.fst with
 | some r=>cJ r
 | none=>
  if c.snd.snd>0 then do
   reverseSlice' (lo+c.snd.fst-(c.snd.snd+1)) (lo+c.snd.fst)
   xH lo c.snd.fst nrem
  else xH lo c.snd.fst nrem
section
variable {prog:aV} {w:aP} {A:aS} {E:ag→am→Prop} {s:am} {kd:gb} {rk:ag→Int} {OK:ag→Prop} {a₀:Array a0}
noncomputable def Fg (rk:ag→Int) (xs:Array a0) (a b:Nat):Prop:=∀i j,a≤i→i≤j→j<b→K rk xs j≤K rk xs i
theorem vK {st:bm} {lo a nrem:Nat} {Q:DL→bm→Prop} (hc:rb prog w A s kd rk OK) (h0:mK OK a₀) (hn:lo+nrem≤a₀.size) (ha:1≤a) (han:a≤nrem) (hB:SB kd a₀ st)
  (hs:kL rk (bi st) lo (lo+a))
  (h:∀n,a≤n→n≤nrem→kL rk (bi st) lo (lo+n)→(n=nrem∨K rk (bi st) (lo+n)<K rk (bi st) (lo+n-1))→Q (none,n) st) :
  kW (aB prog w) A E s (DS lo a nrem) Q st:=by
 unfold DS
 refine f4 (I:=fun x c st'=>st'=st∧c=(none,x)∧kL rk (bi st) lo (lo+x)) ?step ?fin ⟨rfl,rfl,hs⟩
 case fin=>
  rintro c st' ⟨rfl,rfl,hs'⟩
  rw [show max a nrem=nrem by exact ak ((aA (Nat.max_eq_right han))) (eC _ _)] at hs' ⊢
  exact h nrem han (bd _) hs' (.inl rfl)
 case step=>
  rintro x c st' hax hxn ⟨rfl,rfl,hs'⟩
  dsimp only
  refine bn (nE hc h0 hB (by exact cR (.lt (.p aq ar) az (.le (.p aq aI) az (.lt ar aI .o))) τ hn hxn) (by exact eW (.lt aq ar (.le (.p az aI) ar (.lt bx aI (.le aq (.p az bx) .o)))) τ hn hxn (aO _ _)) ?_)
  by_cases hless:K rk (bi st') (lo+x)<K rk (bi st') (lo+x-1)
  ·simp only [hless,decide_true,if_true]
   exact bW (h x hax (by exact aR hxn) hs' (.inr hless))
  ·simp only [hless,decide_false,bv,if_false]
   refine bW ⟨rfl,rfl,fun i j hi hij hj=>?_⟩
   by_cases hjx:j<lo+x
   ·exact hs' i j hi hij hjx
   ·have hj':j=lo+x:=by exact ak (dH hj) (aZ hjx)
    subst hj'
    by_cases hi':i=lo+x
    ·subst hi';exact iq _
    ·exact cx (hs' i (lo+x-1) hi (by exact (aK hi').elim (fun ζ2=>cR (.le aq ar (.le (.p az aI) (.s 1 1) (.lt aq (.p az aI) .o))) τ bZ ζ2) fun ζ2=>cR (.le aq ar (.w 2 (.le aq (.p az aI) (.le (.p az aI) (.s 1 1) (.lt (.p az aI) aq .o))))) τ hij bZ ζ2) (by exact (aA (aa (c8 (.le (.k 1) (.p aq ar) (.le (.k 1) az (.le az ar .o))) τ ha hax))))) (jA.mp hless)
theorem tQ {st:bm} {lo n nrem:Nat} {Q:Option Nat→bm→Prop} (hc:rb prog w A s kd rk OK) (h0:mK OK a₀) (hn:lo+nrem≤a₀.size) (h1:1≤n) (hnn:n≤nrem) (hB:SB kd a₀ st)
  (hs:Fg rk (bi st) lo (lo+n)) (h:∀m st',SB kd a₀ st'→1≤m→m≤nrem→kL rk (bi st') lo (lo+m)→qr lo (bi st) (bi st')→bJ st'=bJ st→Q (some m) st') :
  kW (aB prog w) A E s (xH lo n nrem) Q st:=by
 unfold xH
 have hsz:lo+n≤(bi st).size:=by rw [hB.size];exact cR (.le (.p aq ar) az (.le (.p aq aI) az (.le ar aI .o))) τ hn hnn
 refine bn (kX ?_)
 have hB':SB kd a₀ (setArr st (mirror (bi st) lo (lo+n) ((lo+n-lo) / 2))):=hB.setArr (mirror_perm _ _ _ _)
 refine bn (vK hc h0 hn h1 hnn hB' ?_ fun m hm1 hm2 hsm O=>bW (h m _ hB' (by exact aj h1 hm1) hm2 hsm (qr.mirror hsz (bd _)) rfl))
 intro i j hi hij hj
 show K rk (mirror (bi st) lo (lo+n) ((lo+n-lo) / 2)) i≤K rk (mirror (bi st) lo (lo+n) ((lo+n-lo) / 2)) j
 rw [rF hsz,rF hsz,if_pos (by exact ⟨hi,bV hij hj⟩),if_pos (by exact ⟨aj hi hij,hj⟩)]
 exact hs _ _ (by exact eW (.le aq ar (.lt az (.p aq aI) (.le bx (.p ar az) (.le (.p aq (.p aq aI)) (.s 4 1) .o)))) τ hj bZ bZ) (by exact eW (.le aq ar (.le az aI (.le bx (.p ar az) (.eq (.p aq aI) bx .o)))) τ hij bZ (aa (cR (.le aq ar (.lt aq (.p az aI) (.le (.p az (.p az aI)) (.s 1 1) .o))) τ hj bZ))) (by exact eW (.lt aq (.p ar az) (.le ar aI (.eq (.p aq aI) bx (.eq (.s 4 1) (.p ar (.p ar az)) .o)))) τ hi (aa (eW (.le aq ar (.le aq az (.lt az (.p aI bx) (.le (.p aI (.p aI bx)) (.s 1 1) .o)))) τ hij hj bZ)) (aa (cW (.le (.k 1) (.p aq (.p aq ar)) (.le (.k 1) ar .o)) τ h1)))
theorem y9 {st:bm} {lo n nrem:Nat} {Q:zk→bm→Prop} (hc:rb prog w A s kd rk OK) (h0:mK OK a₀) (hn:lo+nrem≤a₀.size) (h1:1≤n) (hnn:n≤nrem) (hB:SB kd a₀ st)
  (hs:Fg rk (bi st) lo (lo+n))
  (h:∀m neq st',SB kd a₀ st'→n≤m→m≤nrem→Fg rk (bi st') lo (lo+m)→neq+1≤m→(∀i,lo+m-(neq+1)≤i→i<lo+m→K rk (bi st') i=K rk (bi st') (lo+m-1))→qr lo (bi st) (bi st')→bJ st'=bJ st→Q (none,m,neq) st') :
  kW (aB prog w) A E s (zH lo n nrem) Q st:=by
 unfold zH
 refine f4 (I:=fun x c st'=>∃neq,xM (c=(none,x,neq)) (SB kd a₀ st') (Fg rk (bi st') lo (lo+x)) (neq+1≤x) ((∀i,lo+x-(neq+1)≤i→i<lo+x→K rk (bi st') i=K rk (bi st') (lo+x-1))) (qr lo (bi st) (bi st')) (bJ st'=bJ st)) ?step ?fin ⟨0,rfl,hB,hs,by exact oK (.le (.p (.k 0) (.k 1)) aq (.le (.k 1) aq .o)) τ h1,fun i h1 h2=>by congr 1;exact ak (cR (.le aq ar (.lt aq (.p az aI) (.le (.p az aI) (.s 1 1) .o))) τ h2 bZ) h1,qr.refl _ _,rfl⟩
 case fin=>
  rintro c st' ⟨neq,rfl,hB',hs',hq,he,hl,hp⟩
  rw [show max n nrem=nrem by exact ak ((aA (Nat.max_eq_right hnn))) (eC _ _)] at hs' hq he ⊢
  exact h nrem neq st' hB' hnn (bd _) hs' hq he hl hp
 case step=>
  rintro x c st' hax hxn ⟨neq,rfl,hB',hs',hq,he,hl,hp⟩
  dsimp only
  have hsz:lo+x≤(bi st').size:=by rw [hB'.size];exact cR (.le (.p aq ar) az (.le (.p aq aI) az (.lt ar aI .o))) τ hn hxn
  refine bn (nE hc h0 hB' (by exact cR (.lt (.p aq ar) az (.le (.p aq aI) az (.lt ar aI .o))) τ hn hxn) (by exact eW (.lt aq ar (.le (.p az aI) ar (.lt bx aI (.le aq (.p az bx) .o)))) τ hn hxn (aO _ _)) ?_)
  by_cases hless:K rk (bi st') (lo+x)<K rk (bi st') (lo+x-1)
  ·simp only [hless,decide_true,if_true]
   have step1:∀xs:Array a0,(∀k,K rk xs k=K rk (bi st') k)→Fg rk xs lo (lo+(x+1)):=by
    intro xs hk i j hi hij hj
    rw [hk,hk]
    by_cases hjx:j<lo+x
    ·exact hs' i j hi hij hjx
    ·have hj':j=lo+x:=by exact ak (dH hj) (aZ hjx)
     subst hj'
     by_cases hi':i=lo+x
     ·subst hi';exact iq _
     ·exact cx (ef hless) (hs' i (lo+x-1) hi (by exact (aK hi').elim (fun ζ2=>cR (.le aq ar (.le (.p az aI) (.s 1 1) (.lt aq (.p az aI) .o))) τ bZ ζ2) fun ζ2=>cR (.le aq ar (.w 2 (.le aq (.p az aI) (.le (.p az aI) (.s 1 1) (.lt (.p az aI) aq .o))))) τ hij bZ ζ2) (by exact (aA (aa (c8 (.le (.k 1) (.p aq ar) (.le (.s 2 1) ar .o)) τ hq)))))
   by_cases hneq:neq>0
   ·rw [if_pos hneq]
    refine bn (kX (bW ⟨0,rfl,hB'.setArr (mirror_perm _ _ _ _),step1 _ (ii hsz he),by exact ci _ _,fun i h1 h2=>by congr 1;exact ak (cR (.le aq ar (.lt aq (.p az (.s 3 1)) (.le (.p az (.s 3 1)) (.s 1 1) .o))) τ h2 bZ) h1,hl.trans (qr.mirror hsz (by exact cR (.le aq ar (.le (.s 2 1) aI (.le (.p aq aI) (.p ar (.s 2 1)) .o))) τ hq bZ)),hp⟩))
   ·rw [if_neg hneq]
    exact bW ⟨0,rfl,hB',step1 _ (fun O=>rfl),by exact ci _ _,fun i h1 h2=>by congr 1;exact ak (cR (.le aq ar (.lt aq (.p az (.s 3 1)) (.le (.p az (.s 3 1)) (.s 1 1) .o))) τ h2 bZ) h1,hl,hp⟩
  ·simp only [hless,decide_false,bv,if_false]
   refine bn (nE hc h0 hB' (by exact eW (.lt aq ar (.le (.p az aI) ar (.lt bx aI (.le aq (.p az bx) .o)))) τ hn hxn (aO _ _)) (by exact cR (.lt (.p aq ar) az (.le (.p aq aI) az (.lt ar aI .o))) τ hn hxn) ?_)
   by_cases hlarger:K rk (bi st') (lo+x-1)<K rk (bi st') (lo+x)
   ·simp only [hlarger,decide_true,if_true]
    exact bW (h x neq st' hB' hax (by exact aR hxn) hs' hq he hl hp)
   ·simp only [hlarger,decide_false,bv,if_false]
    have heqx:K rk (bi st') (lo+x)=K rk (bi st') (lo+x-1):=by lia
    refine bW ⟨neq+1,rfl,hB',fun i j hi hij hj=>?_,by exact cW (.le (.p (.s 0 1) (.k 1)) (.s 1 1) (.le (.s 0 1) ar .o)) τ hq,fun i h1 h2=>?_,hl,hp⟩
    ·by_cases hjx:j<lo+x
     ·exact hs' i j hi hij hjx
     ·have hj':j=lo+x:=by exact ak (dH hj) (aZ hjx)
      subst hj'
      by_cases hi':i=lo+x
      ·subst hi';exact iq _
      ·rw [heqx];exact hs' i (lo+x-1) hi (by exact (aK hi').elim (fun ζ2=>cR (.le aq ar (.le (.p az aI) (.s 1 1) (.lt aq (.p az aI) .o))) τ bZ ζ2) fun ζ2=>cR (.le aq ar (.w 2 (.le aq (.p az aI) (.le (.p az aI) (.s 1 1) (.lt (.p az aI) aq .o))))) τ hij bZ ζ2) (by exact (aA (aa (c8 (.le (.k 1) (.p aq ar) (.le (.s 2 1) ar .o)) τ hq))))
    ·rw [show lo+(x+1)-1=lo+x by exact ak (c8 (.le aq (.p ar az) (.eq (.s 0 1) (.p ar (.s 2 1)) .o)) τ (aa (cW (.le (.k 1) (.p aq (.s 1 1)) .o) τ))) (c8 (.le (.p aq ar) az (.le (.p aq (.s 1 1)) (.s 2 1) .o)) τ bZ)]
     by_cases hix:i=lo+x
     ·subst hix;rfl
     ·rw [heqx];exact he i (by exact kr (.le aq ar (.le az ar (.le (.p aI (.s 4 1)) (.p az (.p (.s 5 1) (.k 1))) (.eq (.p aq (.s 5 1)) (.p aI bx) .o)))) τ h1 bZ (aa (c8 (.le (.s 0 1) (.p ar az) (.le (.s 0 1) az .o)) τ hq))) (by exact (aK hix).elim (fun ζ2=>ζ2) fun ζ2=>c8 (.lt aq (.p ar az) (.w 2 (.lt aq (.p ar (.s 2 1)) (.lt (.p ar az) aq .o)))) τ h2 ζ2)
theorem tO {st:bm} {lo n nrem:Nat} {Q:Option Nat→bm→Prop} (hc:rb prog w A s kd rk OK) (h0:mK OK a₀) (hn:lo+nrem≤a₀.size) (hnn:n+1≤nrem) (hB:SB kd a₀ st)
  (hs:Fg rk (bi st) lo (lo+(n+1))) (h:∀m st',SB kd a₀ st'→1≤m→m≤nrem→kL rk (bi st') lo (lo+m)→qr lo (bi st) (bi st')→bJ st'=bJ st→Q (some m) st') :
  kW (aB prog w) A E s (xa lo n nrem) Q st:=by
 unfold xa
 refine bn (wpS_lift (fg ⟨rfl,?_⟩))
 refine bn (y9 hc h0 hn (by exact ci _ _) hnn hB hs fun m neq st' hB' hm1 hm2 hs' hq he hl hp=>?_)
 dsimp only
 have hsz:lo+m≤(bi st').size:=by rw [hB'.size];exact cR (.le (.p aq ar) az (.le (.p aq aI) az (.le ar aI .o))) τ hn hm2
 by_cases hneq:neq>0
 ·rw [if_pos hneq]
  refine bn (kX (tQ hc h0 hn (by exact cW (.le (.k 1) aq (.le (.s 1 1) aq .o)) τ hm1) hm2 (hB'.setArr (mirror_perm _ _ _ _)) ?_ fun k st2 b1 b2 b3 b4 b5 b6=>h k st2 b1 b2 b3 b4 ((hl.trans (qr.mirror hsz (by exact cR (.le aq ar (.le (.s 2 1) aI (.le (.p aq aI) (.p ar (.s 2 1)) .o))) τ hq bZ))).trans b5) (b6.trans hp)))
  intro i j hi hij hj
  show K rk (mirror (bi st') _ _ _) j≤K rk (mirror (bi st') _ _ _) i
  rw [ii hsz he,ii hsz he]
  exact hs' i j hi hij hj
 ·rw [if_neg hneq]
  exact tQ hc h0 hn (by exact cW (.le (.k 1) aq (.le (.s 1 1) aq .o)) τ hm1) hm2 hB' hs' fun k st2 b1 b2 b3 b4 b5 b6=>h k st2 b1 b2 b3 b4 (hl.trans b5) (b6.trans hp)
theorem tL {α:Type} {m m':StateT bm mw α} {Q:α→bm→Prop} {st:bm} (e:m=m') (h:kW (aB prog w) A E s m' Q st):kW (aB prog w) A E s m Q st:=e▸h
theorem uy {st:bm} {lo nrem:Nat} {Q:Option Nat→bm→Prop} (hc:rb prog w A s kd rk OK) (h0:mK OK a₀) (hn:lo+nrem≤a₀.size) (h1:1≤nrem) (hB:SB kd a₀ st)
  (h:∀m st',SB kd a₀ st'→1≤m→m≤nrem→kL rk (bi st') lo (lo+m)→qr lo (bi st) (bi st')→bJ st'=bJ st→Q (some m) st') :
  kW (aB prog w) A E s (countRun' lo nrem) Q st:=by
 rw [countRun'_eq]
 refine bn (vK (lo:=lo) hc h0 hn (bd 1) h1 hB (fun i j hi hij hj=>by have:i=j:=(by exact ak hij (c8 (.le aq ar (.le az ar (.lt aq (.s 2 1) .o))) τ hi hj));subst this;exact iq _) fun n hn1 hn2 hsn hor=>?_)
 dsimp only
 by_cases hnn:n=nrem
 ·rw [if_pos (by simpa using hnn)]
  exact bW (h n st hB hn1 hn2 hsn (qr.refl _ _) rfl)
 ·rw [if_neg (by simpa using hnn)]
  have hlt:K rk (bi st) (lo+n)<K rk (bi st) (lo+n-1):=hor.resolve_left hnn
  by_cases hgt:n>1
  ·rw [if_pos hgt]
   refine bn (nE hc h0 hB (by exact c8 (.lt aq ar (.le (.p aq az) ar (.le (.k 1) az .o))) τ hn h1) (by exact eW (.lt aq ar (.le (.p az aI) ar (.le bx aI (.eq (.s 0 1) (.p az bx) .o)))) τ hn hn2 (aa (GH 1 (.le (.k 1) (.p aq ar) (.lt (.k 1) ar .o)) τ hgt))) ?_)
   by_cases hrose:K rk (bi st) lo<K rk (bi st) (lo+n-1)
   ·simp only [hrose,decide_true,if_true]
    exact bW (h n st hB hn1 hn2 hsn (qr.refl _ _) rfl)
   ·simp only [hrose,decide_false,bv,if_false]
    have hsz:lo+n≤(bi st).size:=by rw [hB.size];exact cR (.le (.p aq ar) az (.le (.p aq aI) az (.le ar aI .o))) τ hn hn2
    have hall:∀k,lo≤k→k<lo+n→K rk (bi st) k=K rk (bi st) (lo+n-1):=by
     intro k h1 hk
     have a1:=hsn lo k (by lia) h1 hk
     have a2:=hsn k (lo+n-1) (by exact h1) (by exact cR (.le aq ar (.lt aq (.p az aI) (.le (.p az aI) (.s 1 1) .o))) τ hk bZ) (by exact (aA (aa (GH 1 (.le (.k 1) (.p aq ar) (.lt (.k 1) ar .o)) τ hgt))))
     lia
    refine bn (kX ?_)
    refine tL (m':=xa lo n nrem) (by
     skip
     congr 1;funext u;congr 1;funext c;obtain ⟨r2,n2,q2⟩:=c
     cases r2 with
     | some r2=>rfl
     | none=>
      dsimp only
      split
      ·congr 1;funext _;congr 1;funext _;congr 1;funext c3;obtain ⟨r3,n3⟩:=c3;cases r3<;>rfl
      ·congr 1;funext _;congr 1;funext c3;obtain ⟨r3,n3⟩:=c3;cases r3<;>rfl) ?_
    refine tO (n:=n) hc h0 hn (by exact (aK hnn).elim (fun ζ2=>ζ2) fun ζ2=>cW (.le (.s 0 1) ar (.w 2 (.le aq ar (.lt ar aq .o)))) τ hn2 ζ2) (hB.setArr (mirror_perm _ _ _ _)) ?_ fun k st2 b1 b2 b3 b4 b5 b6=>h k st2 b1 b2 b3 b4 ((qr.mirror hsz (bd _)).trans b5) b6
    intro i j hi hij hj
    show K rk (mirror (bi st) _ _ _) j≤K rk (mirror (bi st) _ _ _) i
    rw [ii hsz hall,ii hsz hall]
    by_cases hjx:j<lo+n
    ·rw [hall i hi (by exact bV hij hjx),hall j (by exact aj hi hij) hjx];exact iq _
    ·have hj':j=lo+n:=by exact ak (dH hj) (aZ hjx)
     subst hj'
     by_cases hi':i=lo+n
     ·subst hi';exact iq _
     ·rw [hall i hi (by exact (aK hi').elim (fun ζ2=>ζ2) fun ζ2=>c8 (.lt aq (.p ar az) (.w 2 (.le aq (.p ar az) (.lt (.p ar az) aq .o)))) τ hij ζ2)];exact ef hlt
  ·rw [if_neg hgt]
   have hn1':n=1:=by exact ak (aZ hgt) hn1
   refine tL (m':=xa lo n nrem) (by
     skip
     congr 1;funext u;congr 1;funext c;obtain ⟨r2,n2,q2⟩:=c
     cases r2 with
     | some r2=>rfl
     | none=>
      dsimp only
      split
      ·congr 1;funext _;congr 1;funext _;congr 1;funext c3;obtain ⟨r3,n3⟩:=c3;cases r3<;>rfl
      ·congr 1;funext _;congr 1;funext c3;obtain ⟨r3,n3⟩:=c3;cases r3<;>rfl) ?_
   refine tO (n:=n) hc h0 hn (by exact (aK hnn).elim (fun ζ2=>ζ2) fun ζ2=>cW (.le (.s 0 1) ar (.w 2 (.le aq ar (.lt ar aq .o)))) τ hn2 ζ2) hB ?_ h
   subst hn1'
   intro i j hi hij hj
   by_cases hij':i=j
   ·subst hij';exact iq _
   ·have e1:i=lo:=by exact (aK hij').elim (fun ζ2=>ak (c8 (.le aq ar (.lt az (.p ar (.p (.k 1) (.k 1))) (.lt aq az .o))) τ hj ζ2) hi) fun ζ2=>ak (c8 (.le aq ar (.w 2 (.le aq az (.lt az (.p ar (.p (.k 1) (.k 1))) (.lt az aq .o))))) τ hij hj ζ2) hi
    have e2:j=lo+1:=by exact (aK hij').elim (fun ζ2=>ak (cW (.le aq (.s 1 1) (.lt aq (.p ar (.p (.k 1) (.k 1))) .o)) τ hj) (c8 (.le (.s 0 1) ar (.le aq az (.lt az ar .o))) τ hi ζ2)) fun ζ2=>ak (cW (.le aq (.s 1 1) (.lt aq (.p ar (.p (.k 1) (.k 1))) .o)) τ hj) (c8 (.le (.s 0 1) ar (.le aq az (.w 2 (.le az ar (.lt ar az .o))))) τ hi hij ζ2)
    subst e1;subst e2
    rw [show i+1-1=i by lia] at hlt
    exact ef hlt
end
noncomputable def nW:Bool→a0→Array a0→Nat→Nat→Nat→StateT bm mw (Option Nat):=sortPriv% PySem.Builtin.gallop
noncomputable def wf (rk:ag→Int) (left:Bool) (k:Int) (arr:Array a0) (i:Nat):Bool:=if left=true then decide (K rk arr i<k) else decide (K rk arr i≤k)
noncomputable abbrev lR (rk:ag→Int) (left:Bool) (k:Int) (arr:Array a0) (i:Nat):Prop:=wf rk left k arr i=true
theorem lR.mono {rk:ag→Int} {left:Bool} {k:Int} {arr:Array a0} {a b i j:Nat} (hs:kL rk arr a b) (hi:a≤i) (hij:i≤j) (hj:j<b) (h:lR rk left k arr j):lR rk left k arr i:=by
 have:=hs i j hi hij hj
 unfold lR wf at *
 cases left with
 | true=>
  simp only [if_true,decide_eq_true_eq] at h ⊢
  exact Int.lt_of_le_of_lt this h
 | false=>
  simp only [bv,if_false,decide_eq_true_eq] at h ⊢
  exact cx this h
section
variable {prog:aV} {w:aP} {A:aS} {E:ag→am→Prop} {s:am} {kd:gb} {rk:ag→Int} {OK:ag→Prop}
theorem pY {st:bm} {left:Bool} {key:a0} {arr:Array a0} {i:Nat} {Q:Option Bool→bm→Prop} (hc:rb prog w A s kd rk OK) (hk:kindOf st=kd) (hkey:OK key.1) (hA:mK OK arr) (hi:i<arr.size)
  (h:Q (some (wf rk left (rk key.1) arr i)) st) :
  kW (aB prog w) A E s (do
   let x ←elem' arr i
   if left=true then lt' x key else do
    let b ←lt' key x
    cJ (b.map fun x=>!x)) Q st:=by
 refine bn (gX hi ?_)
 have hx:=hA.at (getElem?_pos arr i hi)
 have hK:=fQ (rk:=rk) hi
 cases left with
 | true=>
  skip
  refine uz hc hk hx hkey ?_
  have:decide (rk arr[i].1<rk key.1)=wf rk true (rk key.1) arr i:=by unfold wf;simp only [if_true];rw [hK]
  rw [this];exact h
 | false=>
  skip
  refine bn (uz hc hk hkey hx (bW ?_))
  have:(some (decide (rk key.1<rk arr[i].1))).map (fun x=>!x)=some (wf rk false (rk key.1) arr i):=by
   unfold wf
   simp only [bv,if_false,Option.map_some]
   rw [hK,←decide_not]
   congr 1
   exact decide_eq_decide.mpr jA
  rw [this];exact h
theorem mm {st:bm} {left:Bool} {key:a0} {arr:Array a0} {base n hint:Nat} {Q:Option Nat→bm→Prop} (hc:rb prog w A s kd rk OK) (hk:kindOf st=kd) (hkey:OK key.1) (hA:mK OK arr)
  (hn:base+n≤arr.size) (hh:hint<n) (hs:kL rk arr base (base+n))
  (h:∀k,k≤n→(∀i,i<k→lR rk left (rk key.1) arr (base+i))→(∀i,k≤i→i<n→¬lR rk left (rk key.1) arr (base+i))→Q (some k) st) :
  kW (aB prog w) A E s (nW left key arr base n hint) Q st:=by
 have mono:∀i j,i≤j→j<n→lR rk left (rk key.1) arr (base+j)→lR rk left (rk key.1) arr (base+i):=fun i j hij hj hb=>hb.mono hs (by exact co _ _) (by exact c8 (.le (.p aq ar) (.p aq az) (.le ar az .o)) τ hij) (by exact c8 (.lt (.p aq ar) (.p aq az) (.lt ar az .o)) τ hj)
 skip
 refine bn (pY hc hk hkey hA (by exact cR (.lt (.p aq ar) az (.le (.p aq aI) az (.lt ar aI .o))) τ hn hh) ?_)
 by_cases hr:lR rk left (rk key.1) arr (base+hint)
 ·simp only [hr,if_true]
  refine bn (pD (f4
   (I:=fun x c st'=>st'=st∧g8 fun la of=>qp (c=(none,la,of)) (la<of) (x+1≤of) (hint+la<n) (lR rk left (rk key.1) arr (base+(hint+la))))
   (Q:=fun c st'=>st'=st∧g8 fun la of=>qp (c=(none,la,of)) (la<of) (hint+la<n) (lR rk left (rk key.1) arr (base+(hint+la))) ((n-hint≤of∨¬lR rk left (rk key.1) arr (base+(hint+of))))) ?step ?fin ?init) ?post)
  case init=>exact ⟨rfl,0,1,rfl,by exact eO _,by exact ci _ _,by exact cW (.lt (.s 0 0) ar (.lt aq ar .o)) τ hh,hr⟩
  case fin=>
   rintro c st' ⟨rfl,la,of,rfl,h1,h2,h3,h4⟩
   exact ⟨rfl,la,of,rfl,h1,h3,h4,.inl (by exact cR (.le aq ar (.le (.s 2 1) ar (.le aq aI (.le aI az .o)))) τ h2 (aO _ _) (eC _ _))⟩
  case step=>
   rintro x c st' _ hx ⟨rfl,la,of,rfl,h1,h2,h3,h4⟩
   dsimp only
   by_cases hge:of≥n-hint
   ·rw [if_pos hge]
    exact bW ⟨rfl,la,of,rfl,h1,h3,h4,.inl hge⟩
   ·rw [if_neg hge]
    refine bn (pY hc hk hkey hA (by exact kr (.lt (.p aq (.p ar az)) aI (.le (.p aq bx) aI (.ne cV az (.eq (.p cV ar) bx .o)))) τ hn hge (aa (aR hh))) ?_)
    by_cases hb:lR rk left (rk key.1) arr (base+(hint+of))
    ·simp only [hb,Bool.not_true,bv,if_false]
     exact bW ⟨rfl,of,2*of+1,rfl,iP (Nat.le_mul_of_pos_left _ (by decide)),by exact cW (.le (.p (.s 0 1) (.k 1)) (.p (.m 2 ar) (.k 1)) (.le (.s 0 1) ar .o)) τ h2,by exact cR (.lt (.p aq ar) az (.ne aI ar (.eq (.p aI aq) az .o))) τ hge (aa (aR hh)),hb⟩
    ·simp only [gF.mpr hb,Bool.not_false,if_true]
     exact bW ⟨rfl,la,of,rfl,h1,h3,h4,.inr hb⟩
  case post=>
   rintro c st' ⟨rfl,la,of,rfl,h1,h3,h4,h5⟩
   skip
   have hlo:∀i,i<hint+la+1→lR rk left (rk key.1) arr (base+i):=fun i hi=>mono i (hint+la) (by exact c8 (.le aq (.p ar az) (.lt aq (.p (.p ar az) (.k 1)) .o)) τ hi) h3 h4
   have hhi:∀i,hint+fU of (n-hint)≤i→i<n→¬lR rk left (rk key.1) arr (base+i):=by
    intro i h6 h7 hb
    rcases h5 with h5|h5
    ·exact eW (.ff (.le (.p aq ar) az (.lt az aI (.le aI (.p bx aq) (.qe ar bx .o))))) τ h6 h7 bZ (df h5)
    ·by_cases hge:of≥n-hint
     ·exact eW (.ff (.le (.p aq ar) az (.lt az aI (.le aI (.p bx aq) (.qe ar bx .o))))) τ h6 h7 bZ (df hge)
     ·exact h5 (mono _ i (by exact cR (.le (.p aq ar) az (.le (.p aq aI) az (.qe aI ar .o))) τ h6 (bz (aR (dZ hge)))) h7 hb)
   have hle:hint+la+1≤hint+fU of (n-hint):=by exact (dI of (n-hint)).elim (fun ζ2=>cR (.le (.p (.p aq ar) (.k 1)) (.p aq az) (.lt ar aI (.qe az aI .o))) τ h1 (bz ζ2)) fun ζ2=>eW (.le (.p (.p aq ar) (.k 1)) (.p aq az) (.lt (.p aq ar) aI (.le aI (.p bx aq) (.qe az bx .o)))) τ h3 bZ (df ζ2)
   have hle':hint+fU of (n-hint)≤n:=by exact cR (.le (.p aq ar) az (.le ar aI (.eq (.p aI aq) az .o))) τ (br _ _) (aa (aR hh))
   generalize hint+la+1=lo at *
   generalize hint+fU of (n-hint)=hi at *
   refine bn (pD (f4
    (I:=fun x c st''=>st''=st'∧g8 fun lo hi=>uB (c=(none,lo,hi)) (lo≤hi) (hi≤n) (hi-lo≤n-x) ((∀i,i<lo→lR rk left (rk key.1) arr (base+i))) ((∀i,hi≤i→i<n→¬lR rk left (rk key.1) arr (base+i))))
    (Q:=fun c st''=>st''=st'∧g8 fun lo hi=>lO (c=(none,lo,hi)) (hi≤n) ((∀i,i<hi→lR rk left (rk key.1) arr (base+i))) ((∀i,hi≤i→i<n→¬lR rk left (rk key.1) arr (base+i)))) ?gW ?bfin ?binit) ?bpost)
   case binit=>exact ⟨rfl,lo,hi,rfl,hle,hle',by exact cR (.le aq ar (.le az aI (.le aq az (.le aI (.s 1 0) .o)))) τ hle' (aO _ _) bZ,hlo,hhi⟩
   case bfin=>
    rintro c st'' ⟨rfl,lo,hi,rfl,g1,g2,g3,g4,g5⟩
    have:lo=hi:=by exact ak g1 (cR (.le aq ar (.le az aI (.le aq (.p az ar) (.eq aI (.k 0) .o)))) τ g3 bZ (bR (eC _ _)))
    subst this
    exact ⟨rfl,lo,lo,rfl,g2,g4,g5⟩
   case gW=>
    rintro x c st'' _ hx ⟨rfl,lo,hi,rfl,g1,g2,g3,g4,g5⟩
    dsimp only
    by_cases hge:lo≥hi
    ·rw [if_pos hge]
     have:lo=hi:=by exact ak g1 hge
     subst this
     exact bW ⟨rfl,lo,lo,rfl,g2,g4,g5⟩
    ·rw [if_neg hge]
     refine bn (pY hc hk hkey hA (by exact H9 1 (.lt (.p aq (.p ar az)) aI (.w 2 (.le (.p aq bx) aI (.w 2 (.le cV bx (.ne cV ar (.le (.m 2 az) ee (.eq (.p ee ar) cV .o)))))))) τ hn g2 hge (cr _ _) (aa g1)) ?_)
     by_cases hb:lR rk left (rk key.1) arr (base+(lo+(hi-lo) / 2))
     ·simp only [hb,if_true]
      exact bW ⟨rfl,lo+(hi-lo) / 2+1,hi,rfl,by exact DJ 1 (.le (.p (.p aq ar) (.k 1)) az (.ne az aq (.le (.m 2 ar) aI (.eq (.p aI aq) az .o)))) τ hge (cr _ _) (aa g1),g2,by exact G7 1 (.le aq ar (.le az aI (.le bx (.p ar (.s 5 1)) (.w 2 (.le ee (.p az jj) (.lt az (.m 2 (.s 8 1)) (.eq (.p aI cV) bx (.w 2 (.eq (.p aq (.p (.p jj tU) (.k 1))) ee .o))))))))) τ g3 bZ bZ (eR _ (by decide)) (aa (aR hx)) (aa (DJ 1 (.le (.p (.p aq ar) (.k 1)) az (.ne az aq (.le (.m 2 ar) aI (.eq (.p aI aq) az .o)))) τ hge (cr _ _) (aa g1))),fun i hi'=>mono i _ (by exact c8 (.le aq (.p ar az) (.lt aq (.p (.p ar az) (.k 1)) .o)) τ hi') (by exact GI 1 (.lt (.p aq ar) az (.w 2 (.le aI az (.ne aI aq (.le (.m 2 ar) bx (.eq (.p bx aq) aI .o)))))) τ g2 hge (cr _ _) (aa g1)) hb,g5⟩
     ·simp only [gF.mpr hb,bv,if_false]
      exact bW ⟨rfl,lo,lo+(hi-lo) / 2,rfl,by exact co _ _,by exact GI 1 (.le (.p aq ar) az (.le aq aI (.w 2 (.le aI az (.le (.m 2 ar) bx (.eq (.p bx aq) aI .o)))))) τ g1 g2 (cr _ _) (aa g1),by exact IK 1 (.le aq ar (.le az aI (.le bx (.p ar (.s 5 1)) (.le (.m 2 ee) az (.w 2 (.eq (.p aq jj) (.p jj ee) (.eq (.p aI cV) bx .o))))))) τ g3 bZ (cr _ _) (aa (cW (.le aq (.p aq ar) .o) τ)) (aa (aR hx)),g4,fun i h6 h7 hb'=>hb (mono _ i h6 h7 hb')⟩
   case bpost=>
    rintro c st'' ⟨rfl,lo,hi,rfl,g2,g4,g5⟩
    exact bW (h hi g2 g4 g5)
 ·simp only [gF.mpr hr,bv,if_false]
  refine bn (pD (f4
   (I:=fun x c st'=>st'=st∧g8 fun la of=>qp (c=(none,la,of)) (la<of) (x+1≤of) (la≤hint) (¬lR rk left (rk key.1) arr (base+(hint-la))))
   (Q:=fun c st'=>st'=st∧g8 fun la of=>qp (c=(none,la,of)) (la<of) (la≤hint) (¬lR rk left (rk key.1) arr (base+(hint-la))) ((hint+1≤of∨lR rk left (rk key.1) arr (base+(hint-of))))) ?step ?fin ?init) ?post)
  case init=>exact ⟨rfl,0,1,rfl,by exact eO _,by exact ci _ _,by exact aX _,hr⟩
  case fin=>
   rintro c st' ⟨rfl,la,of,rfl,h1,h2,h3,h4⟩
   exact ⟨rfl,la,of,rfl,h1,h3,h4,.inl (by exact cR (.le (.s 0 1) ar (.lt aq az (.le (.s 3 1) ar (.le az aI .o)))) τ hh h2 (eC _ _))⟩
  case step=>
   rintro x c st' _ hx ⟨rfl,la,of,rfl,h1,h2,h3,h4⟩
   dsimp only
   by_cases hge:of≥hint+1
   ·rw [if_pos hge]
    exact bW ⟨rfl,la,of,rfl,h1,h3,h4,.inl hge⟩
   ·rw [if_neg hge]
    refine bn (pY hc hk hkey hA (by exact eW (.lt (.p aq ar) az (.le (.p aq aI) az (.lt bx aI (.le ar bx .o)))) τ hn hh (aO _ _)) ?_)
    by_cases hb:lR rk left (rk key.1) arr (base+(hint-of))
    ·simp only [hb,if_true]
     exact bW ⟨rfl,la,of,rfl,h1,h3,h4,.inr hb⟩
    ·simp only [gF.mpr hb,bv,if_false]
     exact bW ⟨rfl,of,2*of+1,rfl,iP (Nat.le_mul_of_pos_left _ (by decide)),by exact cW (.le (.p (.s 0 1) (.k 1)) (.p (.m 2 ar) (.k 1)) (.le (.s 0 1) ar .o)) τ h2,by exact dH (dZ hge),hb⟩
  case post=>
   rintro c st' ⟨rfl,la,of,rfl,h1,h3,h4,h5⟩
   skip
   have hhi:∀i,hint-la≤i→i<n→¬lR rk left (rk key.1) arr (base+i):=fun i h6 h7 hb=>h4 (mono _ i h6 h7 hb)
   have hlo:∀i,i<hint+1-fU of (hint+1)→lR rk left (rk key.1) arr (base+i):=by
    intro i h6
    rcases h5 with h5|h5
    ·exact absurd h6 (by rw [df h5,pK];exact dv _)
    ·exact mono i (hint-of) (by exact (dI of (hint+1)).elim (fun ζ2=>kr (.le aq ar (.lt aq az (.le aI (.p ar bx) (.eq (.p az cV) (.s 3 1) (.qe cV bx .o))))) τ h6 bZ (aa (br _ _)) (bz ζ2)) fun ζ2=>eW (.le aq ar (.lt aq az (.eq (.p az aI) (.s 4 1) (.qe aI (.s 4 1) .o)))) τ h6 (aa (br _ _)) (df ζ2)) (by exact bV (aO _ _) hh) h5
   have hle:hint+1-fU of (hint+1)≤hint-la:=by exact (dI of (hint+1)).elim (fun ζ2=>kr (.le aq ar (.lt az aI (.le bx (.p ar az) (.eq (.p aq cV) (.s 4 1) (.qe cV aI .o))))) τ h1 bZ (aa (br _ _)) (bz ζ2)) fun ζ2=>cR (.le aq ar (.eq (.p aq az) (.s 3 1) (.qe az (.s 3 1) .o))) τ (aa (br _ _)) (df ζ2)
   have hle':hint-la≤n:=by exact aR (bV (aO _ _) hh)
   generalize hint+1-fU of (hint+1)=lo at *
   generalize hint-la=hi at *
   refine bn (pD (f4
    (I:=fun x c st''=>st''=st'∧g8 fun lo hi=>uB (c=(none,lo,hi)) (lo≤hi) (hi≤n) (hi-lo≤n-x) ((∀i,i<lo→lR rk left (rk key.1) arr (base+i))) ((∀i,hi≤i→i<n→¬lR rk left (rk key.1) arr (base+i))))
    (Q:=fun c st''=>st''=st'∧g8 fun lo hi=>lO (c=(none,lo,hi)) (hi≤n) ((∀i,i<hi→lR rk left (rk key.1) arr (base+i))) ((∀i,hi≤i→i<n→¬lR rk left (rk key.1) arr (base+i)))) ?gW ?bfin ?binit) ?bpost)
   case binit=>exact ⟨rfl,lo,hi,rfl,hle,hle',by exact cR (.le aq ar (.le az aI (.le aq az (.le aI (.s 1 0) .o)))) τ hle' (aO _ _) bZ,hlo,hhi⟩
   case bfin=>
    rintro c st'' ⟨rfl,lo,hi,rfl,g1,g2,g3,g4,g5⟩
    have:lo=hi:=by exact ak g1 (cR (.le aq ar (.le az aI (.le aq (.p az ar) (.eq aI (.k 0) .o)))) τ g3 bZ (bR (eC _ _)))
    subst this
    exact ⟨rfl,lo,lo,rfl,g2,g4,g5⟩
   case gW=>
    rintro x c st'' _ hx ⟨rfl,lo,hi,rfl,g1,g2,g3,g4,g5⟩
    dsimp only
    by_cases hge:lo≥hi
    ·rw [if_pos hge]
     have:lo=hi:=by exact ak g1 hge
     subst this
     exact bW ⟨rfl,lo,lo,rfl,g2,g4,g5⟩
    ·rw [if_neg hge]
     refine bn (pY hc hk hkey hA (by exact H9 1 (.lt (.p aq (.p ar az)) aI (.w 2 (.le (.p aq bx) aI (.w 2 (.le cV bx (.ne cV ar (.le (.m 2 az) ee (.eq (.p ee ar) cV .o)))))))) τ hn g2 hge (cr _ _) (aa g1)) ?_)
     by_cases hb:lR rk left (rk key.1) arr (base+(lo+(hi-lo) / 2))
     ·simp only [hb,if_true]
      exact bW ⟨rfl,lo+(hi-lo) / 2+1,hi,rfl,by exact DJ 1 (.le (.p (.p aq ar) (.k 1)) az (.ne az aq (.le (.m 2 ar) aI (.eq (.p aI aq) az .o)))) τ hge (cr _ _) (aa g1),g2,by exact G7 1 (.le aq ar (.le az aI (.le bx (.p ar (.s 5 1)) (.w 2 (.le ee (.p az jj) (.lt az (.m 2 (.s 8 1)) (.eq (.p aI cV) bx (.w 2 (.eq (.p aq (.p (.p jj tU) (.k 1))) ee .o))))))))) τ g3 bZ bZ (eR _ (by decide)) (aa (aR hx)) (aa (DJ 1 (.le (.p (.p aq ar) (.k 1)) az (.ne az aq (.le (.m 2 ar) aI (.eq (.p aI aq) az .o)))) τ hge (cr _ _) (aa g1))),fun i hi'=>mono i _ (by exact c8 (.le aq (.p ar az) (.lt aq (.p (.p ar az) (.k 1)) .o)) τ hi') (by exact GI 1 (.lt (.p aq ar) az (.w 2 (.le aI az (.ne aI aq (.le (.m 2 ar) bx (.eq (.p bx aq) aI .o)))))) τ g2 hge (cr _ _) (aa g1)) hb,g5⟩
     ·simp only [gF.mpr hb,bv,if_false]
      exact bW ⟨rfl,lo,lo+(hi-lo) / 2,rfl,by exact co _ _,by exact GI 1 (.le (.p aq ar) az (.le aq aI (.w 2 (.le aI az (.le (.m 2 ar) bx (.eq (.p bx aq) aI .o)))))) τ g1 g2 (cr _ _) (aa g1),by exact IK 1 (.le aq ar (.le az aI (.le bx (.p ar (.s 5 1)) (.le (.m 2 ee) az (.w 2 (.eq (.p aq jj) (.p jj ee) (.eq (.p aI cV) bx .o))))))) τ g3 bZ (cr _ _) (aa (cW (.le aq (.p aq ar) .o) τ)) (aa (aR hx)),g4,fun i h6 h7 hb'=>hb (mono _ i h6 h7 hb')⟩
   case bpost=>
    rintro c st'' ⟨rfl,lo,hi,rfl,g2,g4,g5⟩
    exact bW (h hi g2 g4 g5)
end
section
variable {rk:ag→Int}
noncomputable abbrev rl (rk:ag→Int) (p:a0):Int:=rk p.1
noncomputable abbrev Sl (rk:ag→Int) (l:List a0):Prop:=l.Pairwise fun x y=>rl rk x≤rl rk y
noncomputable abbrev Le (rk:ag→Int) (l m:List a0):Prop:=∀x∈l,∀y∈m,rl rk x≤rl rk y
theorem kL.list {xs:Array a0} (h:kL rk xs 0 xs.size):Sl rk xs.toList:=by
 refine eZ.mpr ?_
 intro i j hi hj hij
 have hi':i<xs.size:=by simpa using hi
 have hj':j<xs.size:=by simpa using hj
 have:=h i j (aX _) (aR hij) hj'
 rw [fQ hi',fQ hj'] at this
 simpa using this
theorem Sl.srt {xs:Array a0} (h:Sl rk xs.toList):kL rk xs 0 xs.size:=by
 intro i j _ hij hj
 rw [fQ (by lia),fQ hj]
 by_cases e:i=j
 ·subst e;exact iq _
 ·have:=eZ.mp h i j (by simp;exact bV hij hj) (by simpa using hj) (by exact (aK e).elim (fun ζ2=>ζ2) fun ζ2=>cW (.lt aq ar (.w 2 (.le aq ar (.lt ar aq .o)))) τ hij ζ2)
  simpa using this
structure dw (rk:ag→Int) (B o X Y:List a0):Prop where
 perm:(o++(X++Y)).Perm B
 so:Sl rk o
 ox:Le rk o X
 oy:Le rk o Y
 sx:Sl rk X
 sy:Sl rk Y
theorem Le.take {l m:List a0} (h:Le rk l m) (k:Nat):Le rk (l.take k) m:=fun x hx=>h x (fx hx)
theorem pV {X:List a0} (h:Sl rk X) (k:Nat):Sl rk (X.take k)∧Sl rk (X.drop k)∧Le rk (X.take k) (X.drop k):=by
 have:=h
 rw [←ds k X] at this
 exact cw.mp this
theorem dw.takeX {B o X Y:List a0} (h:dw rk B o X Y) (k:Nat) (hk:Le rk (X.take k) Y):dw rk B (o++X.take k) (X.drop k) Y:=by
 obtain ⟨s1,s2,s3⟩:=pV h.sx k
 refine ⟨?_,cw.mpr ⟨h.so,s1,fun x hx y hy=>h.ox x hx y (fx hy)⟩,?_,?_,s2,h.sy⟩
 ·have:=h.perm
  rw [bK,←bK (X.take k),ds]
  exact this
 ·intro x hx y hy
  rcases bw.mp hx with hx|hx
  ·exact h.ox x hx y (gI hy)
  ·exact s3 x hx y hy
 ·intro x hx y hy
  rcases bw.mp hx with hx|hx
  ·exact h.oy x hx y hy
  ·exact hk x hx y hy
theorem dw.takeY {B o X Y:List a0} (h:dw rk B o X Y) (k:Nat) (hk:Le rk (Y.take k) X):dw rk B (o++Y.take k) X (Y.drop k):=by
 obtain ⟨s1,s2,s3⟩:=pV h.sy k
 refine ⟨?_,cw.mpr ⟨h.so,s1,fun x hx y hy=>h.oy x hx y (fx hy)⟩,?_,?_,h.sx,s2⟩
 ·refine qc ?_ h.perm
  rw [bK]
  refine f8 o ?_
  conv=>rhs;rw [←ds k Y]
  rw [←bK,←bK]
  exact ir _ ku
 ·intro x hx y hy
  rcases bw.mp hx with hx|hx
  ·exact h.ox x hx y hy
  ·exact hk x hx y hy
 ·intro x hx y hy
  rcases bw.mp hx with hx|hx
  ·exact h.oy x hx y (gI hy)
  ·exact s3 x hx y hy
noncomputable def xQ (rk:ag→Int) (B:List a0) (out:Array a0):Prop:=out.toList.Perm B∧Sl rk out.toList
theorem dw.xy {B o X Y:List a0} (h:dw rk B o X Y) (hxy:Le rk X Y):(o++(X++Y)).Perm B∧Sl rk (o++(X++Y)):=
 ⟨h.perm,cw.mpr ⟨h.so,cw.mpr ⟨h.sx,h.sy,hxy⟩,fun x hx y hy=>(bw.mp hy).elim (h.ox x hx y) (h.oy x hx y)⟩⟩
theorem dw.yx {B o X Y:List a0} (h:dw rk B o X Y) (hyx:Le rk Y X):(o++(Y++X)).Perm B∧Sl rk (o++(Y++X)):=
 ⟨(f8 o ku).trans h.perm,cw.mpr ⟨h.so,cw.mpr ⟨h.sy,h.sx,hyx⟩,fun x hx y hy=>(bw.mp hy).elim (h.oy x hx y) (h.ox x hx y)⟩⟩
theorem Le.nil_left {m:List a0}:Le rk [] m:=fun O h=>by cases h
theorem Le.nil_right {m:List a0}:Le rk m []:=fun O O O h=>by cases h
theorem yg {a:Array a0} {i:Nat} (h:i<a.size):a.toList.drop i=a[i]::a.toList.drop (i+1):=by
 have:i<a.toList.length:=by simpa using h
 rw [eX this]
 simp
theorem l5 (a:Array a0) (i:Nat):(a.extract i).toList=a.toList.drop i:=by
 rw [gE,eY]
 refine jM ?_
 simp
theorem qS (a:Array a0) (i k:Nat):(a.extract i (i+k)).toList=(a.toList.drop i).take k:=by
 rw [gE,eY,show i+k-i=k by exact ak (c8 (.le aq ar (.eq (.p aq az) (.p az ar) .o)) τ (aa (cW (.le aq (.p aq ar) .o) τ))) (c8 (.le aq ar (.le (.p az aq) (.p ar az) .o)) τ bZ)]
theorem ik {a:Array a0} {i:Nat} {p:a0} (h:p∈a.toList.drop i):∃j,jn (i≤j) (j<a.size) (K rk a j=rl rk p):=by
 obtain ⟨n,hn,e⟩:=lP h
 simp only [oR,aJ] at hn
 refine ⟨i+n,by exact co _ _,by lia,?_⟩
 rw [fQ (by lia)]
 simp only [List.getElem_drop,kZ] at e
 rw [e]
theorem r8 {a:Array a0} {i k:Nat} {p:a0} (h:p∈(a.toList.drop i).take k):∃j,jn (j<k) (i+j<a.size) (K rk a (i+j)=rl rk p):=by
 obtain ⟨n,hn,e⟩:=lP h
 simp only [dE,oR,aJ] at hn
 refine ⟨n,by exact av hn (aN _ _),Fa (av hn (br _ _)),?_⟩
 rw [fQ (Fa (av hn (br _ _)))]
 simp only [jK,List.getElem_drop,kZ] at e
 rw [e]
theorem nx {a:Array a0} {i:Nat} (h:i<a.size):(a.toList.drop i).take 1=[a[i]]:=by rw [yg h];rfl
theorem lZ (a:Array a0) (i k:Nat):(a.toList.drop i).drop k=a.toList.drop (i+k):=by rw [List.drop_drop]
theorem dw.pushX {B:List a0} {out a b:Array a0} {ia ib:Nat} (h:dw rk B out.toList (a.toList.drop ia) (b.toList.drop ib)) (hi:ia<a.size)
  (hk:∀j,ib≤j→j<b.size→K rk a ia≤K rk b j):dw rk B (out.push a[ia]).toList (a.toList.drop (ia+1)) (b.toList.drop ib):=by
 have:=h.takeX 1 (by
  rw [nx hi]
  intro x hx y hy
  rw [aD.mp hx]
  obtain ⟨j,h1,h2,h3⟩:=ik (rk:=rk) hy
  rw [←h3]
  have:=hk j h1 h2
  rw [fQ hi] at this
  exact this)
 rw [nx hi,lZ] at this
 rw [bX];exact this
theorem dw.pushY {B:List a0} {out a b:Array a0} {ia ib:Nat} (h:dw rk B out.toList (a.toList.drop ia) (b.toList.drop ib)) (hi:ib<b.size)
  (hk:∀j,ia≤j→j<a.size→K rk b ib≤K rk a j):dw rk B (out.push b[ib]).toList (a.toList.drop ia) (b.toList.drop (ib+1)):=by
 have:=h.takeY 1 (by
  rw [nx hi]
  intro x hx y hy
  rw [aD.mp hx]
  obtain ⟨j,h1,h2,h3⟩:=ik (rk:=rk) hy
  rw [←h3]
  have:=hk j h1 h2
  rw [fQ hi] at this
  exact this)
 rw [nx hi,lZ] at this
 rw [bX];exact this
theorem dw.extX {B:List a0} {out a b:Array a0} {ia ib:Nat} (h:dw rk B out.toList (a.toList.drop ia) (b.toList.drop ib)) (k:Nat)
  (hk:∀i,i<k→ia+i<a.size→∀j,ib≤j→j<b.size→K rk a (ia+i)≤K rk b j):dw rk B (out++a.extract ia (ia+k)).toList (a.toList.drop (ia+k)) (b.toList.drop ib):=by
 have:=h.takeX k (by
  intro x hx y hy
  obtain ⟨i,g1,g2,g3⟩:=r8 (rk:=rk) hx
  obtain ⟨j,h1,h2,h3⟩:=ik (rk:=rk) hy
  rw [←h3,←g3]
  exact hk i g1 g2 j h1 h2)
 rw [lZ] at this
 rw [b7,qS];exact this
theorem dw.extY {B:List a0} {out a b:Array a0} {ia ib:Nat} (h:dw rk B out.toList (a.toList.drop ia) (b.toList.drop ib)) (k:Nat)
  (hk:∀i,i<k→ib+i<b.size→∀j,ia≤j→j<a.size→K rk b (ib+i)≤K rk a j):dw rk B (out++b.extract ib (ib+k)).toList (a.toList.drop ia) (b.toList.drop (ib+k)):=by
 have:=h.takeY k (by
  intro x hx y hy
  obtain ⟨i,g1,g2,g3⟩:=r8 (rk:=rk) hx
  obtain ⟨j,h1,h2,h3⟩:=ik (rk:=rk) hy
  rw [←h3,←g3]
  exact hk i g1 g2 j h1 h2)
 rw [lZ] at this
 rw [b7,qS];exact this
theorem dw.done {B:List a0} {out a b:Array a0} {ia ib:Nat} (h:dw rk B out.toList (a.toList.drop ia) (b.toList.drop ib)) (he:ib=b.size∨ia=a.size):xQ rk B (out++a.extract ia++b.extract ib):=by
 unfold xQ
 rw [b7,b7,l5,l5,bK]
 refine h.xy ?_
 rcases he with rfl|rfl
 ·rw [show b.toList.drop b.size=[] by simp];exact Le.nil_right
 ·rw [show a.toList.drop a.size=[] by simp];exact Le.nil_left
theorem dw.last {B:List a0} {out a b:Array a0} {ia ib:Nat} (h:dw rk B out.toList (a.toList.drop ia) (b.toList.drop ib)) (he:ia+1=a.size) (hl:∀j,j<b.size→K rk b j≤K rk a ia):xQ rk B (out++b.extract ib++a.extract ia):=by
 unfold xQ
 rw [b7,b7,l5,l5,bK]
 refine h.yx fun x hx y hy=>?_
 obtain ⟨j,h1,h2,h3⟩:=ik (rk:=rk) hx
 obtain ⟨i,g1,g2,g3⟩:=ik (rk:=rk) hy
 have:i=ia:=by exact ak (c8 (.le aq ar (.qe (.s 1 1) az (.lt aq az .o))) τ he g2) g1
 subst this
 rw [←h3,←g3]
 exact hl j h2
end
structure lh (st st':bm):Prop where
 kind:kindOf st'=kindOf st
 arr:bi st'=bi st
 pend:bJ st'=bJ st
 failed:pC st'=pC st
theorem lh.refl (st:bm):lh st st:=⟨rfl,rfl,rfl,rfl⟩
theorem lh.trans {a b c:bm} (h:lh a b) (h':lh b c):lh a c:=⟨h'.kind.trans h.kind,h'.arr.trans h.arr,h'.pend.trans h.pend,h'.failed.trans h.failed⟩
noncomputable def rC:Nat→StateT bm mw Unit:=sortPriv% PySem.Builtin.setMinGallop
section
variable {prog:aV} {w:aP} {A:aS} {E:ag→am→Prop} {s:am} {kd:gb} {rk:ag→Int} {OK:ag→Prop} {γ:Type} {R:γ→bm→Prop} {st:bm}
theorem pA {g:Nat} {Q:Unit→bm→Prop} (h:∀st',lh st st'→Q () st'):kW (aB prog w) A E s (rC g) Q st:=by
 unfold rC
 refine oH (h _ ⟨rfl,rfl,rfl,rfl⟩)
theorem jp {x J:Nat→StateT bm mw γ} (hx:∀g,x g=J (g-1)) (h:∀g,kW (aB prog w) A E s (J g) R st) (g:Nat):kW (aB prog w) A E s (if g>1 then x g else J g) R st:=by
 by_cases k:g>1
 ·rw [if_pos k,hx];exact h _
 ·rw [if_neg k];exact h g
theorem B3 {c:Prop} [Decidable c] {D:Array a0→Nat→Prop} {x J:Array a0→Nat→StateT bm mw γ} (I:Array a0→Nat→Prop) (h0:∀o i,¬c→D o i→I o i)
  (key:∀o i,I o i→kW (aB prog w) A E s (J o i) R st) (h1:c→(∀o i,I o i→kW (aB prog w) A E s (J o i) R st)→∀o i,D o i→kW (aB prog w) A E s (x o i) R st) (o:Array a0) (i:Nat) (d:D o i):kW (aB prog w) A E s (if c then x o i else J o i) R st:=by
 by_cases k:c
 ·rw [if_pos k];exact h1 k key _ _ d
 ·rw [if_neg k];exact key _ _ (h0 _ _ k d)
theorem rt {x y:Nat} {r:γ} {Z:StateT bm mw γ} (h1:x=y→R r st) (h2:x≠y→kW (aB prog w) A E s Z R st):kW (aB prog w) A E s (if (x==y)=true then cJ r else Z) R st:=by
 by_cases k:x=y
 ·rw [if_pos (by simpa using k)];exact bW (h1 k)
 ·rw [if_neg (by simpa using k)];exact h2 k
theorem pt {b:Array a0} {i x y:Nat} {X:a0→γ} {Y:a0→StateT bm mw γ} (hi:i<b.size) (h1:x=y→R (X b[i]) st) (h2:x≠y→kW (aB prog w) A E s (Y b[i]) R st) :
  kW (aB prog w) A E s (elem' b i >>= fun v=>if (x==y)=true then cJ (X v) else Y v) R st:=bn (gX hi (rt h1 h2))
theorem yq {c:Prop} [Decidable c] {x y:γ} (h1:R x st) (h2:R y st):kW (aB prog w) A E s (if c then cJ x else cJ y) R st:=by
 by_cases k:c
 ·rw [if_pos k];exact bW h1
 ·rw [if_neg k];exact bW h2
theorem Is {p:Prop} [Decidable p] {x y:StateT bm mw γ} (h1:p→kW (aB prog w) A E s x R st) (h2:¬p→kW (aB prog w) A E s y R st):kW (aB prog w) A E s (if decide p=true then x else y) R st:=by
 by_cases k:p
 ·rw [if_pos (by simpa using k)];exact h1 k
 ·rw [if_neg (by simpa using k)];exact h2 k
theorem cmp {a b:Array a0} {i j:Nat} {F:Option Bool→StateT bm mw γ} (hc:rb prog w A s kd rk OK) (hk:kindOf st=kd) (hA:mK OK a) (hB:mK OK b) (hi:i<b.size) (hj:j<a.size)
  (h:kW (aB prog w) A E s (F (some (decide (K rk b i<K rk a j)))) R st):kW (aB prog w) A E s (elem' b i >>= fun x=>elem' a j >>= fun y=>lt' x y >>= F) R st:=by
 refine bn (gX hi (bn (gX hj (bn (uz hc hk (hB.at (getElem?_pos b i hi)) (hA.at (getElem?_pos a j hj)) ?_)))))
 rw [fQ hi,fQ hj] at h
 exact h
theorem IU {a b:Array a0} {i base n hint N:Nat} {F:Option Nat→StateT bm mw γ} (hc:rb prog w A s kd rk OK) (hk:kindOf st=kd) (hA:mK OK a) (hB:mK OK b) (hi:i<b.size) (hN:base+n=N) (hn:N≤a.size) (hh:hint<n) (hs:kL rk a 0 a.size)
  (h:∀k,k≤n→(∀j,j<k→K rk a (base+j)≤K rk b i)→(∀j,base+k≤j→j<N→K rk b i<K rk a j)→kW (aB prog w) A E s (F (some k)) R st) :
  kW (aB prog w) A E s (elem' b i >>= fun key=>nW false key a base n hint >>= F) R st:=by
 subst hN
 refine bn (gX hi (bn (mm hc hk (hB.at (getElem?_pos b i hi)) hA hn hh (fun p q hp hpq hq=>hs p q (aX _) hpq (av hq hn)) fun k hkn h1 h2=>h k hkn (fun j hj=>?_) fun j hj1 hj2=>?_)))
 ·have:=h1 j hj
  simp only [lR,wf,bv,if_false,decide_eq_true_eq] at this
  rw [fQ hi];exact this
 ·have:=h2 (j-base) (ky hj1) (mP (cX hj1) hj2)
  simp only [lR,wf,bv,if_false,decide_eq_true_eq] at this
  rw [Nat.add_sub_of_le (cX hj1)] at this
  rw [fQ hi];exact Int.not_le.mp this
theorem It {a b:Array a0} {i base n hint N:Nat} {F:Option Nat→StateT bm mw γ} (hc:rb prog w A s kd rk OK) (hk:kindOf st=kd) (hA:mK OK a) (hB:mK OK b) (hi:i<a.size) (hN:base+n=N) (hn:N≤b.size) (hh:hint<n) (hs:kL rk b 0 b.size)
  (h:∀k,k≤n→(∀j,j<k→K rk b (base+j)<K rk a i)→(∀j,base+k≤j→j<N→K rk a i≤K rk b j)→kW (aB prog w) A E s (F (some k)) R st) :
  kW (aB prog w) A E s (elem' a i >>= fun key=>nW true key b base n hint >>= F) R st:=by
 subst hN
 refine bn (gX hi (bn (mm hc hk (hA.at (getElem?_pos a i hi)) hB hn hh (fun p q hp hpq hq=>hs p q (aX _) hpq (av hq hn)) fun k hkn h1 h2=>h k hkn (fun j hj=>?_) fun j hj1 hj2=>?_)))
 ·have:=h1 j hj
  simp only [lR,wf,if_true,decide_eq_true_eq] at this
  rw [fQ hi];exact this
 ·have:=h2 (j-base) (ky hj1) (mP (cX hj1) hj2)
  simp only [lR,wf,if_true,decide_eq_true_eq] at this
  rw [Nat.add_sub_of_le (cX hj1)] at this
  rw [fQ hi];exact jA.mp this
theorem IH {a b:Array a0} {g i base n hint N:Nat} {F:Option Nat→StateT bm mw γ} (hc:rb prog w A s kd rk OK) (hk:kindOf st=kd) (hA:mK OK a) (hB:mK OK b) (hi:i<b.size) (hN:base+n=N) (hn:N≤a.size) (hh:hint<n) (hs:kL rk a 0 a.size)
  (h:∀st' k,lh st st'→k≤n→(∀j,j<k→K rk a (base+j)≤K rk b i)→(∀j,base+k≤j→j<N→K rk b i<K rk a j)→kW (aB prog w) A E s (F (some k)) R st') :
  kW (aB prog w) A E s (rC g >>= fun O=>elem' b i >>= fun key=>nW false key a base n hint >>= F) R st:=
 bn (pA fun st' hs'=>IU hc (hs'.kind.trans hk) hA hB hi hN hn hh hs fun k=>h st' k hs')
theorem HB {a b:Array a0} {i n hint:Nat} {F:Option Nat→StateT bm mw γ} (hc:rb prog w A s kd rk OK) (hk:kindOf st=kd) (hA:mK OK a) (hB:mK OK b) (hi:i<a.size) (hn:n≤b.size) (hh:hint<n) (hs:kL rk b 0 b.size)
  (h:∀k,k≤n→(∀j,j<k→K rk b j<K rk a i)→(∀j,k≤j→j<n→K rk a i≤K rk b j)→kW (aB prog w) A E s (F (some k)) R st) :
  kW (aB prog w) A E s (elem' a i >>= fun key=>nW true key b 0 n hint >>= F) R st:=
 It hc hk hA hB hi (cY n) hn hh hs fun k hk h1 h2=>h k hk (fun j hj=>cY j▸h1 j hj) fun j hj=>h2 j ((cY k).symm▸hj)
theorem H5 {a b:Array a0} {g i n hint:Nat} {F:Option Nat→StateT bm mw γ} (hc:rb prog w A s kd rk OK) (hk:kindOf st=kd) (hA:mK OK a) (hB:mK OK b) (hi:i<b.size) (hn:n≤a.size) (hh:hint<n) (hs:kL rk a 0 a.size)
  (h:∀st' k,lh st st'→k≤n→(∀j,j<k→K rk a j≤K rk b i)→(∀j,k≤j→j<n→K rk b i<K rk a j)→kW (aB prog w) A E s (F (some k)) R st') :
  kW (aB prog w) A E s (rC g >>= fun O=>elem' b i >>= fun key=>nW false key a 0 n hint >>= F) R st:=
 IH hc hk hA hB hi (cY n) hn hh hs fun st' k hs' hk h1 h2=>h st' k hs' hk (fun j hj=>cY j▸h1 j hj) fun j hj=>h2 j ((cY k).symm▸hj)
theorem Ae {ρ κ τ:Type} {f:Nat→Option ρ×τ→StateT bm mw (ForInStep (Option ρ×τ))} {F:Option ρ×τ→StateT bm mw κ} {R:κ→bm→Prop} {N:Nat} {t:τ}
  (I:Nat→τ→bm→Prop) (S:ρ→bm→Prop) (U:τ→bm→Prop) (init:I 0 t st)
  (fin:∀t st',I N t st'→U t st') (ps:∀r t st',S r st'→kW (aB prog w) A E s (F (some r,t)) R st') (pn:∀t st',U t st'→kW (aB prog w) A E s (F (none,t)) R st')
  (step:∀x t st' (T:ForInStep (Option ρ×τ)→bm→Prop),I x t st'→(∀r t st',S r st'→T (.done (some r,t)) st')→(∀t st',U t st'→T (.done (none,t)) st')→(∀t st',I (x+1) t st'→T (.yield (none,t)) st')→kW (aB prog w) A E s (f x (none,t)) T st') :
  kW (aB prog w) A E s (forIn [0:N] (none,t) f >>= F) R st:=by
 refine bn (pD (f4 (I:=fun x c st'=>c.1=none∧I x c.2 st') (Q:=fun c st'=>(∃r,c.1=some r∧S r st')∨(c.1=none∧U c.2 st')) ?_ ?_ ⟨rfl,init⟩) ?_)
 ·rintro x ⟨_,t⟩ st' _ _ ⟨rfl,h⟩
  exact step x t st' _ h (fun r t st' h=>.inl ⟨r,rfl,h⟩) (fun t st' h=>.inr ⟨rfl,h⟩) fun t st' h=>⟨rfl,h⟩
 ·rintro ⟨_,t⟩ st' ⟨rfl,h⟩
  rw [Nat.zero_max] at h
  exact .inr ⟨rfl,fin _ _ h⟩
 ·rintro ⟨_,t⟩ st' (⟨r,rfl,h⟩|⟨rfl,h⟩)
  ·exact ps _ _ _ h
  ·exact pn _ _ h
theorem Du {ρ κ α β γ δ:Type} {f:Nat→Option ρ×α×β×γ×δ→StateT bm mw (ForInStep (Option ρ×α×β×γ×δ))} {F:Option ρ×α×β×γ×δ→StateT bm mw κ} {R:κ→bm→Prop} {N:Nat} {a:α} {b:β} {c:γ} {d:δ}
  (I:Nat→α→β→γ→δ→bm→Prop) (S:ρ→bm→Prop) (U:α→β→γ→δ→bm→Prop) (init:I 0 a b c d st)
  (fin:∀a b c d st',I N a b c d st'→U a b c d st') (ps:∀r t st',S r st'→kW (aB prog w) A E s (F (some r,t)) R st') (pn:∀a b c d st',U a b c d st'→kW (aB prog w) A E s (F (none,a,b,c,d)) R st')
  (step:∀x a b c d st' (T:ForInStep (Option ρ×α×β×γ×δ)→bm→Prop),I x a b c d st'→(∀r t st',S r st'→T (.done (some r,t)) st')→(∀a b c d st',U a b c d st'→T (.done (none,a,b,c,d)) st')→(∀a b c d st',I (x+1) a b c d st'→T (.yield (none,a,b,c,d)) st')→kW (aB prog w) A E s (f x (none,a,b,c,d)) T st') :
  kW (aB prog w) A E s (forIn [0:N] (none,a,b,c,d) f >>= F) R st:=
 Ae (fun x t=>I x t.1 t.2.1 t.2.2.1 t.2.2.2) S (fun t=>U t.1 t.2.1 t.2.2.1 t.2.2.2) init (fun O st' h=>fin _ _ _ _ st' h) ps (fun O st' h=>pn _ _ _ _ st' h) fun x O st' T h s n y=>step x _ _ _ _ st' T h s (fun a b c d=>n (a,b,c,d)) fun a b c d=>y (a,b,c,d)
theorem Dv {ρ κ α β γ δ ε:Type} {f:Nat→Option ρ×α×β×γ×δ×ε→StateT bm mw (ForInStep (Option ρ×α×β×γ×δ×ε))} {F:Option ρ×α×β×γ×δ×ε→StateT bm mw κ} {R:κ→bm→Prop} {N:Nat} {a:α} {b:β} {c:γ} {d:δ} {e:ε}
  (I:Nat→α→β→γ→δ→ε→bm→Prop) (S:ρ→bm→Prop) (U:α→β→γ→δ→ε→bm→Prop) (init:I 0 a b c d e st)
  (fin:∀a b c d e st',I N a b c d e st'→U a b c d e st') (ps:∀r t st',S r st'→kW (aB prog w) A E s (F (some r,t)) R st') (pn:∀a b c d e st',U a b c d e st'→kW (aB prog w) A E s (F (none,a,b,c,d,e)) R st')
  (step:∀x a b c d e st' (T:ForInStep (Option ρ×α×β×γ×δ×ε)→bm→Prop),I x a b c d e st'→(∀r t st',S r st'→T (.done (some r,t)) st')→(∀a b c d e st',U a b c d e st'→T (.done (none,a,b,c,d,e)) st')→(∀a b c d e st',I (x+1) a b c d e st'→T (.yield (none,a,b,c,d,e)) st')→kW (aB prog w) A E s (f x (none,a,b,c,d,e)) T st') :
  kW (aB prog w) A E s (forIn [0:N] (none,a,b,c,d,e) f >>= F) R st:=
 Ae (fun x t=>I x t.1 t.2.1 t.2.2.1 t.2.2.2.1 t.2.2.2.2) S (fun t=>U t.1 t.2.1 t.2.2.1 t.2.2.2.1 t.2.2.2.2) init (fun O st' h=>fin _ _ _ _ _ st' h) ps (fun O st' h=>pn _ _ _ _ _ st' h) fun x O st' T h s n y=>step x _ _ _ _ _ st' T h s (fun a b c d e=>n (a,b,c,d,e)) fun a b c d e=>y (a,b,c,d,e)
theorem Dw {ρ κ α β γ δ ε ζ:Type} {f:Nat→Option ρ×α×β×γ×δ×ε×ζ→StateT bm mw (ForInStep (Option ρ×α×β×γ×δ×ε×ζ))} {F:Option ρ×α×β×γ×δ×ε×ζ→StateT bm mw κ} {R:κ→bm→Prop} {N:Nat} {a:α} {b:β} {c:γ} {d:δ} {e:ε} {l:ζ}
  (I:Nat→α→β→γ→δ→ε→ζ→bm→Prop) (S:ρ→bm→Prop) (U:α→β→γ→δ→ε→ζ→bm→Prop) (init:I 0 a b c d e l st)
  (fin:∀a b c d e l st',I N a b c d e l st'→U a b c d e l st') (ps:∀r t st',S r st'→kW (aB prog w) A E s (F (some r,t)) R st') (pn:∀a b c d e l st',U a b c d e l st'→kW (aB prog w) A E s (F (none,a,b,c,d,e,l)) R st')
  (step:∀x a b c d e l st' (T:ForInStep (Option ρ×α×β×γ×δ×ε×ζ)→bm→Prop),I x a b c d e l st'→(∀r t st',S r st'→T (.done (some r,t)) st')→(∀a b c d e l st',U a b c d e l st'→T (.done (none,a,b,c,d,e,l)) st')→(∀a b c d e l st',I (x+1) a b c d e l st'→T (.yield (none,a,b,c,d,e,l)) st')→kW (aB prog w) A E s (f x (none,a,b,c,d,e,l)) T st') :
  kW (aB prog w) A E s (forIn [0:N] (none,a,b,c,d,e,l) f >>= F) R st:=
 Ae (fun x t=>I x t.1 t.2.1 t.2.2.1 t.2.2.2.1 t.2.2.2.2.1 t.2.2.2.2.2) S (fun t=>U t.1 t.2.1 t.2.2.1 t.2.2.2.1 t.2.2.2.2.1 t.2.2.2.2.2) init (fun O st' h=>fin _ _ _ _ _ _ st' h) ps (fun O st' h=>pn _ _ _ _ _ _ st' h) fun x O st' T h s n y=>step x _ _ _ _ _ _ st' T h s (fun a b c d e l=>n (a,b,c,d,e,l)) fun a b c d e l=>y (a,b,c,d,e,l)
end
noncomputable def Ai:Array a0→Array a0→StateT bm mw (Array a0):=sortPriv% PySem.Builtin.mergeLo
section
variable {prog:aV} {w:aP} {A:aS} {E:ag→am→Prop} {s:am} {kd:gb} {rk:ag→Int} {OK:ag→Prop}
structure At (rk:ag→Int) (a b:Array a0) (st:bm) (n:Nat) (out:Array a0) (ia ib:Nat) (st':bm):Prop where
 inv:dw rk (a.toList++b.toList) out.toList (a.toList.drop ia) (b.toList.drop ib)
 ha:ia+1<a.size
 hb:ib<b.size
 pr:n≤ia+ib
 same:lh st st'
theorem At.less {rk:ag→Int} {a b:Array a0} {st:bm} {n m:Nat} {out:Array a0} {ia ib:Nat} {st':bm} (h:At rk a b st n out ia ib st') (l:m≤n):At rk a b st m out ia ib st':=⟨h.inv,h.ha,h.hb,aj l h.pr,h.same⟩
structure RS (rk:ag→Int) (a b:Array a0) (st:bm) (r:Array a0) (st':bm):Prop where
 res:xQ rk (a.toList++b.toList) r
 same:lh st st'
structure P1 (rk:ag→Int) (a b:Array a0) (ib n k:Nat) (o:Array a0) (i:Nat):Prop where
 inv:dw rk (a.toList++b.toList) o.toList (a.toList.drop i) (b.toList.drop ib)
 ha:i+1<a.size
 pr:n≤i+ib
 hk:i+k≤a.size
 lt:∀j,j<k→K rk a (i+j)≤K rk b ib
 gt:∀j,i+k≤j→j<a.size→K rk b ib<K rk a j
structure P2 (rk:ag→Int) (a b:Array a0) (i n k:Nat) (o:Array a0) (ib:Nat):Prop where
 inv:dw rk (a.toList++b.toList) o.toList (a.toList.drop i) (b.toList.drop ib)
 hb:ib<b.size
 pr:n≤i+ib
 hk:ib+k≤b.size
 lt:∀j,j<k→K rk b (ib+j)<K rk a i
 ge:∀l,ib+k≤l→l<b.size→K rk a i≤K rk b l
theorem vN {st:bm} {a b:Array a0} {Q:Array a0→bm→Prop} (hc:rb prog w A s kd rk OK) (hk:kindOf st=kd) (hA:mK OK a) (hB:mK OK b) (ha:0<a.size) (hb:0<b.size)
  (sa:kL rk a 0 a.size) (sb:kL rk b 0 b.size) (hfst:K rk b 0≤K rk a 0) (hlst:K rk b (b.size-1)≤K rk a (a.size-1))
  (h:∀out st',xQ rk (a.toList++b.toList) out→lh st st'→Q out st'):kW (aB prog w) A E s (Ai a b) Q st:=by
 have inv0:dw rk (a.toList++b.toList) (#[]:Array a0).toList (a.toList.drop 0) (b.toList.drop 0):=
  ⟨by simp,dg,Le.nil_left,Le.nil_left,sa.list,sb.list⟩
 have inv1:=inv0.pushY hb fun j O hj=>cx hfst (sa 0 j (bd _) (aX _) hj)
 have last:∀j,j<b.size→∀ia,ia+1=a.size→K rk b j≤K rk a ia:=fun j hj ia hia=>by
  have:=sb j (b.size-1) (aX _) (cG hj) (dQ hb)
  rw [show ia=a.size-1 from Nat.eq_sub_of_add_eq hia]
  exact cx this hlst
 clear inv0 hfst hlst
 skip
 refine bn (wpS_lift (fg ⟨rfl,?_⟩))
 refine bn (gX hb (rt (fun h1=>h _ st (inv1.done (.inl h1)) (lh.refl _)) fun h1=>rt (fun h2=>h _ st (inv1.last h2 fun j hj=>last j hj 0 h2) (lh.refl _)) fun h2=>bn (q7 ?_)))
 refine Du (fun x out ia ib O st'=>At rk a b st (x+1) out ia ib st') (RS rk a b st) (fun O O O O O=>False) ⟨inv1,c9 ha h2,c9 hb h1,bd _,lh.refl _⟩
  (fun O ia ib O st' h=>?_) (fun r O st' k=>bW (h r st' k.res k.same)) (fun O O O O O h=>h.elim) fun x out ia ib g st1 T hat tS O tY=>?_
 ·exact absurd (aj h.pr (jN (aR (iO h.ha)) (aR h.hb))) (fZ (kD _))
 clear h h1 h2 inv1
 have hx:=hat.pr
 skip
 refine Dv (fun y out ia' ib' O O st'=>At rk a b st (ia+ib+y) out ia' ib' st') (RS rk a b st) (fun out ia' ib' O O st'=>At rk a b st (ia+ib+1) out ia' ib' st') ⟨hat.inv,hat.ha,hat.hb,bd _,hat.same⟩
  (fun O O O O O st' h=>h.less (by lia)) (fun r O st' k=>bW (tS r _ st' k)) (fun out ia' ib' O O st2 hat=>?_) fun y out ia2 ib2 ac bc st2 T hat tS tN tY=>?_
 ·refine bn (wpS_lift (fg ⟨rfl,?_⟩))
  refine Dw (fun O out ia' ib' O O O st'=>At rk a b st (ia+ib+1) out ia' ib' st') (RS rk a b st) (fun out ia' ib' O O O st'=>At rk a b st (ia+ib+1) out ia' ib' st') hat
   (fun O O O O O O st' h=>h) (fun r O st' k=>bW (tS r _ st' k)) (fun out ia' ib' O O O st2 hat=>?_) fun y out3 ia3 ib3 g3 ac bc st3 T hat3 tS tN tY=>?_
  ·exact bn (pA fun st4 hs4=>bW (tY _ _ _ _ _ ⟨hat.inv,hat.ha,hat.hb,aj (kE hx) hat.pr,hat.same.trans hs4⟩))
  ·generalize ia+ib+1=n at *
   clear hat
   clear hat
   skip
   revert g3
   refine jp (fun O=>rfl) fun g4=>?_
   have ha3:=iO hat3.ha;have hb3:=hat3.hb
   refine IH hc (hat3.same.kind.trans hk) hA hB hb3 (Nat.add_sub_cancel' (aR ha3)) (bd _) (Nat.sub_pos_of_lt ha3) sa fun st4 k hs4 hkn lt1 gt1=>?_
   have hs:=hat3.same.trans hs4
   have p:P1 rk a b ib3 n k out3 ia3:=⟨hat3.inv,hat3.ha,hat3.pr,by lia,lt1,gt1⟩
   clear lt1 gt1 hat3 hs4 ha3 hkn
   revert out3 ia3
   refine B3 (P1 rk a b ib3 n 0) (fun o i xh p=>?_) (fun o i p=>?_) fun xh hJ o i p=>?_
   ·have e:k=0:=jO xh
    subst e;exact p
   ·have inv2:=p.inv.pushY hb3 fun j h1 h2=>ef (p.gt j h1 h2)
    refine pt hb3 (fun e3=>tS _ _ _ ⟨inv2.done (.inl e3),hs⟩) fun e3=>?_
    have hb4:ib3+1<b.size:=c9 hb3 e3
    have ha:=p.ha;have pr:=Nat.le_succ_of_le p.pr
    have ha4:=iO ha
    clear p e3
    change n≤i+(ib3+1) at pr
    generalize o.push b[ib3]=o2 at inv2 ⊢
    generalize ib3+1=i2 at *
    refine It hc (hs.kind.trans hk) hA hB ha4 (Nat.add_sub_cancel' (aR hb4)) (bd _) (Nat.sub_pos_of_lt hb4) sb fun k1 hkn1 lt2 ge2=>?_
    have p:P2 rk a b i n k1 o2 i2:=⟨inv2,hb4,pr,by lia,lt2,ge2⟩
    clear inv2 hb4 pr lt2 ge2 hkn1
    revert o2 i2
    refine B3 (P2 rk a b i n 0) (fun o i xh p=>?_) (fun o' i' p=>?_) fun xh hJ o' i' p=>?_
    ·have e:k1=0:=jO xh
     subst e;exact p
    ·have inv4:=p.inv.pushX ha4 p.ge
     refine pt ha4 (fun e5=>tS _ _ _ ⟨inv4.last e5 fun j hj=>last j hj _ e5,hs⟩) fun e5=>?_
     have t:At rk a b st n (o'.push a[i]) (i+1) i' st4:=⟨inv4,c9 ha e5,p.hb,aj p.pr (cN (Nat.le_succ _) _),hs⟩
     exact yq (tN _ _ _ _ _ _ _ t) (tY _ _ _ _ _ _ _ t)
    ·have inv3:=p.inv.extY k1 fun j hj O l h1 h2=>cx (ef (p.lt j hj)) (sa i l (aX _) h1 h2)
     refine rt (fun e4=>tS _ _ _ ⟨inv3.done (.inl e4),hs⟩) fun e4=>?_
     exact hJ (o'++b.extract i' (i'+k1)) (i'+k1) ⟨inv3,c9 p.hk e4,aj p.pr (fG (co _ _) _),p.hk,fun O h=>absurd h (dv _),p.ge⟩
   ·have inv':=p.inv.extX k fun j hj O l h1 h2=>cx (p.lt j hj) (sb ib3 l (aX _) h1 h2)
    refine rt (fun e1=>tS _ _ _ ⟨inv'.last e1 fun j hj=>last j hj _ e1,hs⟩) fun e1=>?_
    refine rt (fun e2=>tS _ _ _ ⟨inv'.done (.inr e2),hs⟩) fun e2=>?_
    exact hJ (o++a.extract i (i+k)) (i+k) ⟨inv',c9 (c9 p.hk e2) e1,aj p.pr (cN (co _ _) _),p.hk,fun O h=>absurd h (dv _),p.gt⟩
 ·skip
  have ha2:=iO hat.ha;have hb2:=hat.hb
  refine cmp hc (hat.same.kind.trans hk) hA hB hb2 ha2 (Is (fun hw=>?_) fun hw=>?_)
  ·have inv':=hat.inv.pushY hb2 fun j hj1 hj2=>cx (ef hw) (sa ia2 j (aX _) hj1 hj2)
   refine pt hb2 (fun e1=>tS _ _ _ ⟨inv'.done (.inl e1),hat.same⟩) fun e1=>?_
   have t:At rk a b st (ia+ib+(y+1)) (out.push b[ib2]) ia2 (ib2+1) st2:=⟨inv',hat.ha,c9 hb2 e1,kE hat.pr,hat.same⟩
   exact yq (tN _ _ _ _ _ _ (t.less (fG (eO _) _))) (tY _ _ _ _ _ _ t)
  ·have inv':=hat.inv.pushX ha2 fun j hj1 hj2=>cx (jA.mp hw) (sb ib2 j (aX _) hj1 hj2)
   refine pt ha2 (fun e1=>tS _ _ _ ⟨inv'.last e1 fun j hj=>last j hj _ e1,hat.same⟩) fun e1=>?_
   have t:At rk a b st (ia+ib+(y+1)) (out.push a[ia2]) (ia2+1) ib2 st2:=⟨inv',c9 hat.ha e1,hb2,aj (kE hat.pr) (aA (mG ia2 ib2 1)),hat.same⟩
   exact yq (tN _ _ _ _ _ _ (t.less (fG (eO _) _))) (tY _ _ _ _ _ _ t)
end
section
variable {rk:ag→Int}
structure gU (rk:ag→Int) (B R X Y:List a0):Prop where
 perm:(X++Y++R).Perm B
 sr:Sl rk R
 xr:Le rk X R
 yr:Le rk Y R
 sx:Sl rk X
 sy:Sl rk Y
theorem gU.dropX {B R X Y:List a0} (h:gU rk B R X Y) (k:Nat) (hk:Le rk Y (X.drop k)):gU rk B (X.drop k++R) (X.take k) Y:=by
 obtain ⟨s1,s2,s3⟩:=pV h.sx k
 refine ⟨?_,cw.mpr ⟨s2,h.sr,fun x hx y hy=>h.xr x (gI hx) y hy⟩,?_,?_,s1,h.sy⟩
 ·refine qc ?_ h.perm
  conv=>rhs;rw [←ds k X]
  rw [←bK]
  refine ir R ?_
  rw [bK,bK]
  exact f8 _ ku
 ·intro x hx y hy
  rcases bw.mp hy with hy|hy
  ·exact s3 x hx y hy
  ·exact h.xr x (fx hx) y hy
 ·intro x hx y hy
  rcases bw.mp hy with hy|hy
  ·exact hk x hx y hy
  ·exact h.yr x hx y hy
theorem gU.dropY {B R X Y:List a0} (h:gU rk B R X Y) (k:Nat) (hk:Le rk X (Y.drop k)):gU rk B (Y.drop k++R) X (Y.take k):=by
 obtain ⟨s1,s2,s3⟩:=pV h.sy k
 refine ⟨?_,cw.mpr ⟨s2,h.sr,fun x hx y hy=>h.yr x (gI hx) y hy⟩,?_,?_,h.sx,s1⟩
 ·refine qc ?_ h.perm
  conv=>rhs;rw [←ds k Y]
  simp only [bK]
  exact d9.refl _
 ·intro x hx y hy
  rcases bw.mp hy with hy|hy
  ·exact hk x hx y hy
  ·exact h.xr x hx y hy
 ·intro x hx y hy
  rcases bw.mp hy with hy|hy
  ·exact s3 x hx y hy
  ·exact h.yr x (fx hx) y hy
theorem gU.xy {B R X Y:List a0} (h:gU rk B R X Y) (hxy:Le rk X Y):(X++Y++R).Perm B∧Sl rk (X++Y++R):=
 ⟨h.perm,cw.mpr ⟨cw.mpr ⟨h.sx,h.sy,hxy⟩,h.sr,fun x hx y hy=>(bw.mp hx).elim (fun hx=>h.xr x hx y hy) fun hx=>h.yr x hx y hy⟩⟩
theorem gU.yx {B R X Y:List a0} (h:gU rk B R X Y) (hyx:Le rk Y X):(Y++X++R).Perm B∧Sl rk (Y++X++R):=
 ⟨(ir R ku).trans h.perm,cw.mpr ⟨cw.mpr ⟨h.sy,h.sx,hyx⟩,h.sr,fun x hx y hy=>(bw.mp hx).elim (fun hx=>h.yr x hx y hy) fun hx=>h.xr x hx y hy⟩⟩
theorem kN (a:Array a0) (n:Nat):(a.extract 0 n).toList=a.toList.take n:=by
 rw [gE,eY];simp
theorem iV (a:Array a0) (i n:Nat):(a.extract i n).toList=(a.toList.take n).drop i:=by
 rw [gE,eY,List.drop_take]
theorem iW {a:Array a0} {n:Nat} {p:a0} (h:p∈a.toList.take n):∃j,jn (j<n) (j<a.size) (K rk a j=rl rk p):=by
 obtain ⟨m,hm,e⟩:=lP h
 simp only [dE,aJ] at hm
 refine ⟨m,av hm (aN _ _),av hm (br _ _),?_⟩
 rw [fQ (av hm (br _ _))]
 simp only [jK,kZ] at e
 rw [e]
theorem tu {a:Array a0} {i n:Nat} {p:a0} (h:p∈(a.toList.take n).drop i):∃j,lO (i≤j) (j<n) (j<a.size) (K rk a j=rl rk p):=by
 obtain ⟨m,hm,e⟩:=lP h
 simp only [oR,dE,aJ] at hm
 refine ⟨i+m,co _ _,av (Fa hm) (aN _ _),av (Fa hm) (br _ _),?_⟩
 rw [fQ (av (Fa hm) (br _ _))]
 simp only [List.getElem_drop,jK,kZ] at e
 rw [e]
theorem ji {a:Array a0} {n:Nat} (h:n<a.size):(a.toList.take (n+1)).drop n=[a[n]]:=by
 rw [List.drop_take,show n+1-n=1 by exact ak (cW (.le aq (.k 1) (.eq (.p aq ar) (.s 1 1) .o)) τ (aa (oK (.le aq (.s 0 1) .o) τ))) (cW (.le (.k 1) aq (.le (.s 1 1) (.p aq ar) .o)) τ bZ),nx h]
theorem kn (a:Array a0) {i n:Nat} (h:i≤n):(a.toList.take n).take i=a.toList.take i:=by rw [List.take_take,bz h]
theorem gU.pushX {B:List a0} {out a b:Array a0} {na nb:Nat} (h:gU rk B out.toList.reverse (a.toList.take (na+1)) (b.toList.take nb)) (hi:na<a.size)
  (hk:∀j,j<nb→j<b.size→K rk b j≤K rk a na):gU rk B (out.push a[na]).toList.reverse (a.toList.take na) (b.toList.take nb):=by
 have:=h.dropX na (by
  rw [ji hi]
  intro x hx y hy
  rw [aD.mp hy]
  obtain ⟨j,h1,h2,h3⟩:=iW (rk:=rk) hx
  have:=hk j h1 h2
  rw [fQ hi,h3] at this
  exact this)
 rw [ji hi,kn a (by exact Nat.le_succ _)] at this
 rw [bX,lQ];exact this
theorem gU.pushY {B:List a0} {out a b:Array a0} {na nb:Nat} (h:gU rk B out.toList.reverse (a.toList.take na) (b.toList.take (nb+1))) (hi:nb<b.size)
  (hk:∀j,j<na→j<a.size→K rk a j≤K rk b nb):gU rk B (out.push b[nb]).toList.reverse (a.toList.take na) (b.toList.take nb):=by
 have:=h.dropY nb (by
  rw [ji hi]
  intro x hx y hy
  rw [aD.mp hy]
  obtain ⟨j,h1,h2,h3⟩:=iW (rk:=rk) hx
  have:=hk j h1 h2
  rw [fQ hi,h3] at this
  exact this)
 rw [ji hi,kn b (by exact Nat.le_succ _)] at this
 rw [bX,lQ];exact this
theorem gU.extX {B:List a0} {out a b:Array a0} {na nb at_:Nat} (h:gU rk B out.toList.reverse (a.toList.take na) (b.toList.take nb)) (ha:at_≤na)
  (hk:∀i,at_≤i→i<na→i<a.size→∀j,j<nb→j<b.size→K rk b j≤K rk a i):gU rk B (out++(a.extract at_ na).reverse).toList.reverse (a.toList.take at_) (b.toList.take nb):=by
 have:=h.dropX at_ (by
  intro x hx y hy
  obtain ⟨i,g1,g2,g3,g4⟩:=tu (rk:=rk) hy
  obtain ⟨j,h1,h2,h3⟩:=iW (rk:=rk) hx
  rw [←h3,←g4]
  exact hk i g1 g2 g3 j h1 h2)
 rw [kn a ha] at this
 rw [b7,lQ,lc,List.reverse_reverse,iV];exact this
theorem gU.extY {B:List a0} {out a b:Array a0} {na nb at_:Nat} (h:gU rk B out.toList.reverse (a.toList.take na) (b.toList.take nb)) (ha:at_≤nb)
  (hk:∀i,at_≤i→i<nb→i<b.size→∀j,j<na→j<a.size→K rk a j≤K rk b i):gU rk B (out++(b.extract at_ nb).reverse).toList.reverse (a.toList.take na) (b.toList.take at_):=by
 have:=h.dropY at_ (by
  intro x hx y hy
  obtain ⟨i,g1,g2,g3,g4⟩:=tu (rk:=rk) hy
  obtain ⟨j,h1,h2,h3⟩:=iW (rk:=rk) hx
  rw [←h3,←g4]
  exact hk i g1 g2 g3 j h1 h2)
 rw [kn b ha] at this
 rw [b7,lQ,lc,List.reverse_reverse,iV];exact this
theorem gU.done {B:List a0} {out a b:Array a0} {na nb:Nat} (h:gU rk B out.toList.reverse (a.toList.take na) (b.toList.take nb)) (he:na=0∨nb=0):xQ rk B (a.extract 0 na++b.extract 0 nb++out.reverse):=by
 unfold xQ
 rw [b7,b7,kN,kN,lc]
 refine h.xy ?_
 rcases he with rfl|rfl
 ·exact Le.nil_left
 ·exact Le.nil_right
theorem gU.first {B:List a0} {out a b:Array a0} {na nb:Nat} (h:gU rk B out.toList.reverse (a.toList.take na) (b.toList.take nb)) (he:nb=1) (hl:∀j,j<a.size→K rk b 0≤K rk a j):xQ rk B (b.extract 0 nb++a.extract 0 na++out.reverse):=by
 unfold xQ
 rw [b7,b7,kN,kN,lc]
 refine h.yx fun x hx y hy=>?_
 obtain ⟨j,h1,h2,h3⟩:=iW (rk:=rk) hx
 obtain ⟨i,g1,g2,g3⟩:=iW (rk:=rk) hy
 have:j=0:=by exact ak (cW (.le aq (.k 0) (.eq ar (.k 1) (.lt aq ar .o))) τ he h1) (oK (.le (.k 0) aq .o) τ)
 subst this
 rw [←h3,←g3]
 exact hl i g2
theorem gU.popX {B:List a0} {out a b:Array a0} {na nb:Nat} (h:gU rk B out.toList.reverse (a.toList.take na) (b.toList.take nb)) (h0:0<na) (hi:na-1<a.size)
  (hk:∀j,j<nb→j<b.size→K rk b j≤K rk a (na-1)):gU rk B (out.push a[na-1]).toList.reverse (a.toList.take (na-1)) (b.toList.take nb):=
 gU.pushX (by rw [aa h0];exact h) hi hk
theorem gU.popY {B:List a0} {out a b:Array a0} {na nb:Nat} (h:gU rk B out.toList.reverse (a.toList.take na) (b.toList.take nb)) (h0:0<nb) (hi:nb-1<b.size)
  (hk:∀j,j<na→j<a.size→K rk a j≤K rk b (nb-1)):gU rk B (out.push b[nb-1]).toList.reverse (a.toList.take na) (b.toList.take (nb-1)):=
 gU.pushY (by rw [aa h0];exact h) hi hk
end
noncomputable def Ah:Array a0→Array a0→StateT bm mw (Array a0):=sortPriv% PySem.Builtin.mergeHi
section
variable {prog:aV} {w:aP} {A:aS} {E:ag→am→Prop} {s:am} {kd:gb} {rk:ag→Int} {OK:ag→Prop}
structure zi (rk:ag→Int) (a b:Array a0) (st:bm) (m n:Nat) (out:Array a0) (na nb:Nat) (st':bm):Prop where
 inv:gU rk (a.toList++b.toList) out.toList.reverse (a.toList.take na) (b.toList.take nb)
 ha:0<na
 ha':na≤a.size
 hb:1<nb
 hb':nb≤b.size
 pr:na+nb+n≤m
 same:lh st st'
theorem zi.less {rk:ag→Int} {a b:Array a0} {st:bm} {m n n':Nat} {out:Array a0} {na nb:Nat} {st':bm} (h:zi rk a b st m n out na nb st') (l:n'≤n):zi rk a b st m n' out na nb st':=
 ⟨h.inv,h.ha,h.ha',h.hb,h.hb',aj (fG l _) h.pr,h.same⟩
structure H1 (rk:ag→Int) (a b:Array a0) (nb m p c:Nat) (o:Array a0) (i:Nat):Prop where
 inv:gU rk (a.toList++b.toList) o.toList.reverse (a.toList.take i) (b.toList.take nb)
 hi:i≤a.size
 ha:0<i
 pr:i+nb+1≤m
 hk:p≤i
 cn:i-p=c
 gt:∀j,p≤j→j<i→K rk b (nb-1)<K rk a j
structure H2 (rk:ag→Int) (a b:Array a0) (na m p c:Nat) (o:Array a0) (i:Nat):Prop where
 inv:gU rk (a.toList++b.toList) o.toList.reverse (a.toList.take na) (b.toList.take i)
 hi:i≤b.size
 hb:1<i
 pr:na+i+1≤m
 hk:p≤i
 cn:i-p=c
 ge:∀j,p≤j→j<i→K rk a (na-1)≤K rk b j
theorem vM {st:bm} {a b:Array a0} {Q:Array a0→bm→Prop} (hc:rb prog w A s kd rk OK) (hk:kindOf st=kd) (hA:mK OK a) (hB:mK OK b) (ha:0<a.size) (hb:0<b.size)
  (sa:kL rk a 0 a.size) (sb:kL rk b 0 b.size) (hfst:K rk b 0≤K rk a 0) (hlst:K rk b (b.size-1)≤K rk a (a.size-1))
  (h:∀out st',xQ rk (a.toList++b.toList) out→lh st st'→Q out st'):kW (aB prog w) A E s (Ah a b) Q st:=by
 have inv0:gU rk (a.toList++b.toList) (#[]:Array a0).toList.reverse (a.toList.take a.size) (b.toList.take b.size):=by
  rw [←aJ,←aJ,dY,dY]
  exact ⟨by simp,dg,Le.nil_right,Le.nil_right,sa.list,sb.list⟩
 have a1:a.size-1<a.size:=dQ ha
 have inv1:=inv0.popX ha a1 fun j O hj=>cx (sb j (b.size-1) (aX _) (cG hj) (dQ hb)) hlst
 have fst:∀j,j<a.size→K rk b 0≤K rk a j:=fun j hj=>cx hfst (sa 0 j (bd _) (aX _) hj)
 clear inv0 hfst hlst
 skip
 refine bn (wpS_lift (fg ⟨rfl,?_⟩))
 refine bn (gX a1 (rt (fun h1=>h _ st (inv1.done (.inl h1)) (lh.refl _)) fun h1=>rt (fun h2=>h _ st (inv1.first h2 fst) (lh.refl _)) fun h2=>bn (q7 ?_)))
 refine Du (fun x na nb out O st'=>zi rk a b st (a.size+b.size) (x+1) out na nb st') (RS rk a b st) (fun O O O O O=>False) ⟨inv1,iw h1,aR a1,c9 hb (dM h2),bd _,aA (by rw [cY,mG,aa ha]),lh.refl _⟩
  (fun na nb O O st' h=>?_) (fun r O st' k=>bW (h r st' k.res k.same)) (fun O O O O O h=>h.elim) fun x na nb out g st1 T hat tS O tY=>?_
 ·exact absurd h.pr (fZ (av (kD _) (ci _ _)))
 clear h h1 h2 inv1 a1
 have hx:=hat.pr
 skip
 refine Dv (fun y na' nb' out O O st'=>zi rk a b st (na+nb) y out na' nb' st') (RS rk a b st) (fun na' nb' out O O st'=>zi rk a b st (na+nb) 1 out na' nb' st') ⟨hat.inv,hat.ha,hat.ha',hat.hb,hat.hb',bd _,hat.same⟩
  (fun O O O O O st' h=>h.less (Nat.add_pos_left ha _)) (fun r O st' k=>bW (tS r _ st' k)) (fun na' nb' out O O st2 hat=>?_) fun y na2 nb2 out ac bc st2 T hat tS tN tY=>?_
 ·refine bn (wpS_lift (fg ⟨rfl,?_⟩))
  refine Dw (fun O na' nb' out O O O st'=>zi rk a b st (na+nb) 1 out na' nb' st') (RS rk a b st) (fun na' nb' out O O O st'=>zi rk a b st (na+nb) 1 out na' nb' st') hat
   (fun O O O O O O st' h=>h) (fun r O st' k=>bW (tS r _ st' k)) (fun na' nb' out O O O st2 hat=>?_) fun y na3 nb3 out3 g3 ac bc st3 T hat3 tS tN tY=>?_
  ·have:=hat.pr
   exact bn (pA fun st4 hs4=>bW (tY _ _ _ _ _ ⟨hat.inv,hat.ha,hat.ha',hat.hb,hat.hb',by exact kr (.le (.p (.p aq ar) (.p (.s 2 1) (.k 1))) cV (.le (.p (.p aI bx) (.s 2 1)) cV (.le (.p (.p aq ar) (.k 1)) (.p aI bx) .o))) τ hx this,hat.same.trans hs4⟩))
  ·generalize na+nb=m at *
   clear hat
   clear hat hx
   dsimp only
   revert g3
   refine jp (fun O=>rfl) fun g4=>?_
   have ha3:=hat3.ha;have hb3:=hat3.hb
   have hb1:nb3-1<b.size:=av (dQ hb3) hat3.hb'
   refine H5 hc (hat3.same.kind.trans hk) hA hB hb1 hat3.ha' (dQ ha3) sa fun st4 p hs4 hkn lt1 gt1=>?_
   have hs:=hat3.same.trans hs4
   dsimp only
   generalize hcn:na3-p=c
   have p1:H1 rk a b nb3 m p c out3 na3:=⟨hat3.inv,hat3.ha',ha3,hat3.pr,hkn,hcn,gt1⟩
   clear gt1 hat3 hs4 ha3 hkn hcn
   revert p1;revert na3;revert out3
   refine B3 (H1 rk a b nb3 m p 0) (fun o i xh q=>?_) (fun o i q=>?_) fun xh hJ o i q=>?_
   ·have e:c=0:=jO xh
    subst e;exact q
   ·have ip:=Nat.le_of_sub_eq_zero q.cn
    have inv2:=q.inv.popY (iO hb3) hb1 fun j h1 O=>lt1 j (av h1 ip)
    refine pt hb1 (fun e3=>tS _ _ _ ⟨inv2.first e3 fst,hs⟩) fun e3=>?_
    have hb4:1<nb3-1:=c9 (cG hb3) (dM e3)
    have ha:=q.ha;have pr:i+(nb3-1)+2≤m:=by exact cR (.le (.p (.p aq ar) (.k 2)) az (.le (.p (.p aq aI) (.k 1)) az (.eq (.s 1 1) aI .o))) τ q.pr (aa (aR hb3))
    have ha4:i-1<a.size:=av (dQ ha) q.hi
    clear q e3 ip lt1
    generalize o.push b[nb3-1]=o2 at inv2 ⊢
    replace hb1:=aR hb1
    generalize nb3-1=n2 at *
    refine HB hc (hs.kind.trans hk) hA hB ha4 hb1 (dQ hb4) sb fun p2 hkn1 lt2 ge2=>?_
    dsimp only
    generalize hcn:n2-p2=c2
    have q:H2 rk a b i (m-1) p2 c2 o2 n2:=⟨inv2,hb1,hb4,cG pr,hkn1,hcn,ge2⟩
    clear inv2 hb1 hb4 pr ge2 hkn1 hcn
    revert q;revert n2;revert o2
    refine B3 (H2 rk a b i (m-1) p2 0) (fun o i xh q=>?_) (fun o' i' q=>?_) fun xh hJ o' i' q=>?_
    ·have e:c2=0:=jO xh
     subst e;exact q
    ·have ip:=Nat.le_of_sub_eq_zero q.cn
     have inv4:=q.inv.popX ha ha4 fun j h1 O=>ef (lt2 j (av h1 ip))
     refine pt ha4 (fun e5=>tS _ _ _ ⟨inv4.done (.inl e5),hs⟩) fun e5=>?_
     have t:zi rk a b st m 1 (o'.push a[i-1]) (i-1) i' st4:=⟨inv4,iw e5,aR ha4,q.hb,q.hi,aj (cN (cN (aO i 1) _) 1) (aj q.pr (aO m 1)),hs⟩
     exact yq (tN _ _ _ _ _ _ _ t) (tY _ _ _ _ _ _ _ t)
    ·have inv3:=q.inv.extY q.hk fun l h1 h2 O j h3 O=>cx (sa j (i-1) (aX _) (cG h3) ha4) (q.ge l h1 h2)
     refine rt (fun e4=>tS _ _ _ ⟨inv3.first e4 fst,hs⟩) fun e4=>?_
     refine rt (fun e5=>tS _ _ _ ⟨inv3.done (.inr e5),hs⟩) fun e5=>?_
     exact hJ (o'++(b.extract p2 i').reverse) p2 ⟨inv3,aj q.hk q.hi,c9 (iw e5) (dM e4),aj (cN (fG q.hk _) _) q.pr,bd _,pK _,fun O h h'=>absurd h (fZ h')⟩
   ·have inv':=q.inv.extX q.hk fun l h1 h2 O j h3 O=>cx (sb j (nb3-1) (aX _) (cG h3) hb1) (ef (q.gt l h1 h2))
    refine rt (fun e1=>tS _ _ _ ⟨inv'.done (.inl e1),hs⟩) fun e1=>?_
    exact hJ (o++(a.extract p i).reverse) p ⟨inv',aj q.hk q.hi,iw e1,aj (cN (cN q.hk _) _) q.pr,bd _,pK _,fun O h h'=>absurd h (fZ h')⟩
 ·skip
  have ha2:na2-1<a.size:=av (dQ hat.ha) hat.ha'
  have hb2:nb2-1<b.size:=av (dQ hat.hb) hat.hb'
  have pr:=hat.pr;have ha0:=hat.ha;have hb0:=hat.hb
  refine cmp hc (hat.same.kind.trans hk) hA hB hb2 ha2 (Is (fun hw=>?_) fun hw=>?_)
  ·have inv':=hat.inv.popX hat.ha ha2 fun j h1 O=>cx (sb j (nb2-1) (aX _) (cG h1) hb2) (ef hw)
   refine pt ha2 (fun e1=>tS _ _ _ ⟨inv'.done (.inl e1),hat.same⟩) fun e1=>?_
   have t:zi rk a b st (na+nb) (y+1) (out.push a[na2-1]) (na2-1) nb2 st2:=⟨inv',iw e1,aR ha2,hat.hb,hat.hb',by exact kr (.le (.p (.p aq ar) (.s 2 1)) (.p aI bx) (.le (.p (.p cV ar) az) (.p aI bx) (.eq (.s 0 1) cV .o))) τ hat.pr (aa hat.ha),hat.same⟩
   exact yq (tN _ _ _ _ _ _ (t.less (ci _ _))) (tY _ _ _ _ _ _ t)
  ·have inv':=hat.inv.popY (iO hat.hb) hb2 fun j h1 O=>cx (sa j (na2-1) (aX _) (cG h1) ha2) (jA.mp hw)
   refine pt hb2 (fun e1=>tS _ _ _ ⟨inv'.first e1 fst,hat.same⟩) fun e1=>?_
   have t:zi rk a b st (na+nb) (y+1) (out.push b[nb2-1]) na2 (nb2-1) st2:=⟨inv',hat.ha,hat.ha',c9 (cG hat.hb) (dM e1),aR hb2,by exact kr (.le (.p (.p aq ar) (.s 2 1)) (.p aI bx) (.le (.p (.p aq cV) az) (.p aI bx) (.eq (.s 1 1) cV .o))) τ hat.pr (aa (aR hat.hb)),hat.same⟩
   exact yq (tN _ _ _ _ _ _ (t.less (ci _ _))) (tY _ _ _ _ _ _ t)
end
noncomputable def Ad (xs:Array a0) (sa:Nat) (m:List a0):Array a0:=m.zipIdx.foldl (fun a (p,j)=>a.setIfInBounds (sa+j) p) xs
theorem Ca:∀(m:List a0) (n sa:Nat) (xs:Array a0),sa+n+m.length≤xs.size→
  ((m.zipIdx n).foldl (fun a (p,j)=>a.setIfInBounds (sa+j) p) xs).toList=xs.toList.take (sa+n)++m++xs.toList.drop (sa+n+m.length):=fun m=>by
 induction m with
 | nil=>intro n sa xs _;simp
 | cons p m ih=>
  intro n sa xs h
  rw [List.zipIdx_cons,qf]
  simp only [cS] at h
  rw [ih (n+1) sa _ (by simp;exact cR (.le (.p (.p aq (.s 1 1)) az) aI (.le (.p (.p aq ar) (.s 2 1)) aI .o)) τ h)]
  have hlt:sa+n<xs.toList.length:=by simp;exact cR (.lt (.p aq ar) az (.le (.p (.p aq ar) (.s 3 1)) az .o)) τ h
  simp only [Array.toList_setIfInBounds,cS]
  rw [show sa+(n+1)=sa+n+1 from rfl,show sa+n+(m.length+1)=sa+n+1+m.length from mG (sa+n) m.length 1]
  rw [List.set_eq_take_append_cons_drop,if_pos hlt]
  have e1:(xs.toList.take (sa+n)).length=sa+n:=by rw [dE];exact ak (aN _ _) ((aA (cB (bz (aR hlt)))))
  have e2:List.take (sa+n+1) (List.take (sa+n) xs.toList++p::List.drop (sa+n+1) xs.toList)=List.take (sa+n) xs.toList++[p]:=by
   rw [List.take_append,e1,show sa+n+1-(sa+n)=1 by exact ak (c8 (.le aq (.k 1) (.eq (.p aq (.p ar az)) (.p (.p ar az) (.k 1)) .o)) τ (aa (cW (.le (.p aq ar) (.p (.p aq ar) (.k 1)) .o) τ))) (c8 (.le (.k 1) aq (.le (.p (.p ar az) (.k 1)) (.p aq (.p ar az)) .o)) τ bZ),jM (by exact c8 (.le aq (.p (.p ar az) (.k 1)) (.eq aq (.p ar az) .o)) τ e1)]
   rfl
  have e3:List.drop (sa+n+1+m.length) (List.take (sa+n) xs.toList++p::List.drop (sa+n+1) xs.toList)=List.drop (sa+n+1+m.length) xs.toList:=by
   rw [List.drop_append,e1,List.drop_of_length_le (by exact cR (.le aq (.p (.p (.p ar az) (.k 1)) aI) (.eq aq (.p ar az) .o)) τ e1),jy,show sa+n+1+m.length-(sa+n)=m.length+1 by exact ak (cR (.le aq (.s 1 1) (.eq (.p aq (.p az aI)) (.p (.p (.p az aI) (.k 1)) ar) .o)) τ (aa (c8 (.le (.p aq ar) (.p (.p (.p aq ar) (.k 1)) az) .o) τ))) (cR (.le (.s 0 1) ar (.le (.p (.p (.p az aI) (.k 1)) aq) (.p ar (.p az aI)) .o)) τ bZ),List.drop_succ_cons,List.drop_drop]
  rw [e2,e3]
  simp
theorem r5 {xs:Array a0} {sa:Nat} {m:List a0} (h:sa+m.length≤xs.size):(Ad xs sa m).toList=xs.toList.take sa++m++xs.toList.drop (sa+m.length):=by
 have:=Ca m 0 sa xs (by simpa using h)
 simpa [Ad] using this
theorem xl {xs:Array a0} {sa:Nat} {m:Array a0} (h:sa+m.size≤xs.size) (k:Nat):(Ad xs sa m.toList)[k]? = if sa≤k∧k<sa+m.size then m[k-sa]? else xs[k]? :=by
 have hl:=r5 (xs:=xs) (sa:=sa) (m:=m.toList) (by simpa using h)
 have e1:(xs.toList.take sa).length=sa:=by rw [dE];simp;exact ak (aN _ _) ((aA (cB (bz (c8 (.le aq ar (.le (.p aq az) ar .o)) τ h)))))
 rw [←cy,hl]
 by_cases h1:k<sa
 ·rw [if_neg fun q=>fZ h1 q.1,bK,List.getElem?_append_left (by exact av h1 (aA (cB e1))),List.getElem?_take_of_lt h1,cy]
 ·rw [bK,mF (by exact aj (aA e1) (aZ h1)),e1]
  by_cases h2:k<sa+m.size
  ·rw [if_pos (by exact ⟨(aZ h1),h2⟩),List.getElem?_append_left (by simp;exact cR (.lt aq ar (.lt az (.p aI ar) (.eq (.p aq aI) az .o))) τ h2 (aa (aZ h1))),cy]
  ·rw [if_neg fun q=>h2 q.2,mF (by simp;exact cR (.le aq ar (.nl az (.p aI aq) (.le az (.p ar aI) .o))) τ h2 bZ),List.getElem?_drop]
   rw [←cy]
   congr 1
   simp
   exact ak (eW (.le (.p (.p aq ar) az) aI (.eq (.p az ar) bx (.eq (.p bx aq) aI .o))) τ (aa (cR (.le aq ar (.nl az (.p aI aq) (.le az (.p ar aI) .o))) τ h2 bZ)) (aa (aZ h1))) (eW (.le aq (.p (.p ar az) aI) (.le bx (.p aI az) (.le aq (.p bx ar) .o))) τ bZ bZ)
section
variable {prog:aV} {w:aP} {A:aS} {E:ag→am→Prop} {s:am} {kd:gb} {rk:ag→Int} {OK:ag→Prop} {a₀:Array a0}
theorem oj {xs:Array a0} {i j k:Nat} (hj:j≤xs.size) (hk:i+k<j):K rk (xs.extract i j) k=K rk xs (i+k):=by
 refine jx ?_
 rw [Array.getElem?_extract,if_pos (by exact eW (.lt aq ar (.lt (.p az aq) aI (.le bx (.p ar az) (.qe bx aI .o)))) τ hk bZ (bz hj))]
theorem C8 {xs m:Array a0} {sa:Nat} (h:sa+m.size≤xs.size) (k:Nat):K rk (Ad xs sa m.toList) k=if sa≤k∧k<sa+m.size then K rk m (k-sa) else K rk xs k:=by
 have:=xl h k
 split
 ·rename_i h1;rw [if_pos h1] at this;exact jx this
 ·rename_i h1;rw [if_neg h1] at this;exact jx this
theorem wy {xs m:Array a0} {lo sa sb se hi:Nat} (h1:lo≤sa) (h2:sa<sb) (h3:sb<se) (h4:se≤hi) (h5:hi≤xs.size)
  (s1:kL rk xs lo sb) (s2:kL rk xs sb hi) (f1:∀i,lo≤i→i<sa→K rk xs i≤K rk xs sb) (f2:K rk xs sb≤K rk xs sa)
  (f3:∀i,se≤i→i<hi→K rk xs (sb-1)≤K rk xs i)
  (hm:xQ rk ((xs.extract sa sb).toList++(xs.extract sb se).toList) m) :
  (Ad xs sa m.toList).Perm xs∧kL rk (Ad xs sa m.toList) lo hi∧(∀k,k<lo∨hi≤k→(Ad xs sa m.toList)[k]? = xs[k]?):=by
 have hsz:m.size=se-sa:=by
  have:=hm.1.length_eq
  simp only [aJ,bL,Array.size_extract] at this
  exact ak (Fm (.le aq ar (.eq aq (.p az aI) (.le bx (.p ar cV) (.le ee jj (.le tU bx (.eq (.p az cV) ee (.eq (.p aI jj) tU .o))))))) τ this bZ (aN _ _) (aN _ _) (aa (aR (av h2 (aA (cB (bz (cR (.le aq ar (.lt aq az (.le az aI (.le aI ar .o)))) τ h3 h4 h5))))))) (aa (aR (av h3 (aA (cB (bz (aj h4 h5)))))))) (Fm (.le aq ar (.qe ar (.p az aI) (.le bx (.p az cV) (.le ee (.p aI jj) (.eq (.p aq cV) tU (.qe bx jj (.qe ee tU .o))))))) τ this bZ bZ (aa (aR (fS h2 h3))) (bz (cR (.le aq ar (.lt aq az (.le az aI (.le aI ar .o)))) τ h3 h4 h5)) (bz (aj h4 h5)))
 have hle:sa+m.size≤xs.size:=by exact kr (.le (.p aq ar) az (.le aI bx (.le bx az (.eq ar cV (.eq (.p cV aq) aI .o))))) τ h4 h5 hsz (aa (aR (fS h2 h3)))
 have hmem:∀k,k<m.size→∃t,jn (sa≤t) (t<se) (K rk m k=K rk xs t):=by
  intro k hk
  have hin:m[k]∈m.toList:=by simp
  have:=hm.1.mem_iff.mp hin
  rcases bw.mp this with h|h
  ·obtain ⟨j,_,g2,g3⟩:=ik (rk:=rk) (a:=xs.extract sa sb) (i:=0) h
   simp only [Array.size_extract] at g2
   exact ⟨sa+j,by exact co _ _,by exact kr (.lt (.p aq ar) az (.lt aI az (.lt ar bx (.le cV aI (.eq (.p bx aq) cV .o))))) τ h3 g2 (aN _ _) (aa (aR (av h2 (aA (cB (bz (cR (.le aq ar (.lt aq az (.le az aI (.le aI ar .o)))) τ h3 h4 h5))))))),by rw [fQ hk,←oj (rk:=rk) (j:=sb) (by exact cR (.le aq ar (.lt aq az (.le az aI (.le aI ar .o)))) τ h3 h4 h5) (by exact eW (.lt (.p aq ar) az (.lt ar aI (.le bx az (.eq (.p aI aq) bx .o)))) τ g2 (aN _ _) (aa (aR (av h2 (aA (cB (bz (cR (.le aq ar (.lt aq az (.le az aI (.le aI ar .o)))) τ h3 h4 h5))))))))];exact g3.symm⟩
  ·obtain ⟨j,_,g2,g3⟩:=ik (rk:=rk) (a:=xs.extract sb se) (i:=0) h
   simp only [Array.size_extract] at g2
   exact ⟨sb+j,by exact c8 (.le aq (.p ar az) (.lt aq ar .o)) τ h2,by exact eW (.lt (.p aq ar) az (.lt ar aI (.le bx az (.eq (.p aI aq) bx .o)))) τ g2 (aN _ _) (aa (aR (av h3 (aA (cB (bz (aj h4 h5))))))),by rw [fQ hk,←oj (rk:=rk) (j:=se) (by exact aj h4 h5) (by exact eW (.lt (.p aq ar) az (.lt ar aI (.le bx az (.eq (.p aI aq) bx .o)))) τ g2 (aN _ _) (aa (aR (av h3 (aA (cB (bz (aj h4 h5))))))))];exact g3.symm⟩
 have hse:sa+m.size=se:=by rw [hsz];exact Nat.add_sub_of_le (aR (fS h2 h3))
 have lowAll:∀t,sa≤t→t<se→K rk xs sb≤K rk xs t:=by
  intro t g1 g2
  by_cases g:t<sb
  ·exact cx f2 (s1 sa t h1 g1 g)
  ·exact s2 sb t (bd _) (by exact (aZ g)) (by exact av g2 h4)
 have highAll:∀t i,sa≤t→t<se→se≤i→i<hi→K rk xs t≤K rk xs i:=by
  intro t i g1 g2 g3 g4
  by_cases g:t<sb
  ·exact cx (s1 t (sb-1) (by exact aj h1 g1) (by exact c8 (.le aq ar (.lt aq az (.le az (.s 1 1) .o))) τ g bZ) (by exact (aA (aa (cW (.le (.k 1) aq (.lt ar aq .o)) τ h2))))) (f3 i g3 g4)
  ·exact s2 t i (by exact (aZ g)) (by exact aR (av g2 g3)) g4
 refine ⟨?_,?_,?_⟩
 ·rw [Array.perm_iff_toList_perm,r5 (by simpa using hle)]
  have e:xs.toList=xs.toList.take sa++((xs.extract sa sb).toList++(xs.extract sb se).toList)++xs.toList.drop se:=by
   rw [iV,iV]
   have q1:xs.toList=xs.toList.take se++xs.toList.drop se:=(ds _ _).symm
   have q2:xs.toList.take se=(xs.toList.take se).take sa++(xs.toList.take se).drop sa:=(ds _ _).symm
   have q3:(xs.toList.take se).drop sa=((xs.toList.take se).drop sa).take (sb-sa)++((xs.toList.take se).drop sa).drop (sb-sa):=(ds _ _).symm
   rw [kn xs (by exact aR (fS h2 h3))] at q2
   rw [List.drop_drop,show sa+(sb-sa)=sb by exact ak (c8 (.le (.p aq ar) az (.eq (.p ar aq) az .o)) τ (aa (aR h2))) (c8 (.le aq (.p ar az) (.le aq (.p az ar) .o)) τ bZ),←List.drop_take,List.take_take,bz (by exact aR h3)] at q3
   conv=>lhs;rw [q1,q2,q3]
  conv=>rhs;rw [e]
  rw [show sa+m.toList.length=se by simp;exact ak (cR (.le (.p aq ar) az (.eq ar aI (.eq (.p aI aq) az .o))) τ hsz (aa (aR (fS h2 h3)))) (cR (.le aq (.p ar az) (.qe az aI (.le aq (.p aI ar) .o))) τ hsz bZ)]
  exact ir _ (f8 _ hm.1)
 ·intro i j hi' hij hj
  rw [C8 hle,C8 hle]
  by_cases c1:sa≤i∧i<sa+m.size
  ·rw [if_pos c1]
   by_cases c2:sa≤j∧j<sa+m.size
   ·rw [if_pos c2]
    have:=Sl.srt hm.2
    exact this _ _ (aX _) (by exact eW (.le aq ar (.le az aI (.le aI (.p ar bx) (.eq (.p aq bx) az .o)))) τ hij bZ (aa c1.1)) (by exact cR (.lt aq ar (.lt az (.p aI ar) (.eq (.p aq aI) az .o))) τ c2.2 (aa c2.1))
   ·rw [if_neg c2]
    obtain ⟨t,g1,g2,g3⟩:=hmem (i-sa) (by exact cR (.lt aq ar (.lt az (.p aI ar) (.eq (.p aq aI) az .o))) τ c1.2 (aa c1.1))
    rw [g3]
    exact highAll t j g1 g2 (aZ fun z=>c2 ⟨aj c1.1 hij,by rw [hse];exact z⟩) hj
  ·rw [if_neg c1]
   by_cases c2:sa≤j∧j<sa+m.size
   ·rw [if_pos c2]
    obtain ⟨t,g1,g2,g3⟩:=hmem (j-sa) (by exact cR (.lt aq ar (.lt az (.p aI ar) (.eq (.p aq aI) az .o))) τ c2.2 (aa c2.1))
    rw [g3]
    exact cx (f1 i hi' (dZ fun z=>c1 ⟨z,bV hij c2.2⟩)) (lowAll t g1 g2)
   ·rw [if_neg c2]
    by_cases g:j<sb
    ·exact s1 i j hi' hij g
    ·by_cases g':sb≤i
     ·exact s2 i j g' hij hj
     ·exact cx (f1 i hi' (dZ fun z=>c1 ⟨z,by rw [hse];exact fS (dZ g') h3⟩)) (s2 sb j (bd _) (by exact (aZ g)) hj)
 ·intro k hk
  rw [xl hle,if_neg fun q=>hk.elim (fun z=>dT _ (av z (aj h1 q.1))) fun z=>dT _ (av q.2 (by rw [hse];exact aj h4 z))]
theorem C4 {st st1:bm} {Q:PUnit→bm→Prop} (h:Q ⟨⟩ st1):kW (aB prog w) A E s (set st1:StateT bm mw PUnit) Q st:=by
 unfold kW;rw [StateT.run_set];exact ao ⟨rfl,h⟩
theorem yK {p:Array (Nat×Nat×Nat)} {p1 p2:List (Nat×Nat×Nat)} {x y z:Nat×Nat×Nat} {i:Nat} (hp:p.toList=p1++x::y::p2) (hi:p1.length=i) :
  ((p.setIfInBounds i z).eraseIdxIfInBounds (i+1)).toList=p1++z::p2:=by
 have hlt:i+1<(p.setIfInBounds i z).size:=by
  have:=congrArg List.length hp
  simp at this
  simp;exact cR (.lt (.s 0 1) ar (.qe az aq (.qe ar (.p az (.p (.s 3 1) (.k 1))) .o))) τ hi this
 rw [Array.eraseIdxIfInBounds,dif_pos hlt,Array.toList_eraseIdx,Array.toList_setIfInBounds,hp,←hi]
 rw [List.set_append_right _ _ (bd _),pK,List.set_cons_zero,List.eraseIdx_append_of_length_le (by exact Nat.le_succ _)]
 rw [show p1.length+1-p1.length=1 by exact ak (cW (.le aq (.k 1) (.eq (.p aq ar) (.s 1 1) .o)) τ (aa (oK (.le aq (.s 0 1) .o) τ))) (cW (.le (.k 1) aq (.le (.s 1 1) (.p aq ar) .o)) τ bZ)]
 rfl
theorem vL {st:bm} {i:Nat} {p1 p2:List (Nat×Nat×Nat)} {sa na pa nb pb:Nat} {Q:Bool→bm→Prop} (hc:rb prog w A s kd rk OK) (h0:mK OK a₀) (hB:SB kd a₀ st)
  (hp:(bJ st).toList=p1++(sa,na,pa)::(sa+na,nb,pb)::p2) (hi:p1.length=i) (hna:0<na) (hnb:0<nb) (hle:sa+na+nb≤a₀.size)
  (s1:kL rk (bi st) sa (sa+na)) (s2:kL rk (bi st) (sa+na) (sa+na+nb))
  (h:∀st',SB kd a₀ st'→(bJ st').toList=p1++(sa,na+nb,pa)::p2→kL rk (bi st') sa (sa+na+nb)→(∀k,k<sa∨sa+na+nb≤k→(bi st')[k]? = (bi st)[k]?)→Q true st') :
  kW (aB prog w) A E s (mergeAt' i) Q st:=by
 unfold mergeAt'
 refine bn (q7 ?_)
 have g1:(bJ st)[i]? = some (sa,na,pa):=by refine cy▸hp.symm▸hi▸?_;simp
 have g2:(bJ st)[i+1]? = some (sa+na,nb,pb):=by rw [←cy,hp,←hi];simp [mF]
 have hsz:=hB.size
 have hA:=h0.perm hB.perm
 refine g1▸g2▸?_
 skip
 refine bn (C4 ?_)
 have hpl:=yK (z:=(sa,na+nb,pa)) hp hi
 have hB1:SB kd a₀ (bm.mk' (kindOf st) (bi st) (((bJ st).setIfInBounds i (sa,na+nb,pa)).eraseIdxIfInBounds (i+1)) (gallopOf st) (pC st)):=⟨hB.kind,hB.perm,hB.failed⟩
 refine bn (gX (show sa+na<(bi st).size by exact eW (.lt (.p aq ar) az (.lt (.k 0) aI (.le (.p (.p aq ar) aI) bx (.qe az bx .o)))) τ hnb hle hsz) ?_)
 refine bn (mm hc hB1.kind (hA.at (getElem?_pos (bi st) (sa+na) (by exact eW (.lt (.p aq ar) az (.lt (.k 0) aI (.le (.p (.p aq ar) aI) bx (.qe az bx .o)))) τ hnb hle hsz))) hA (show sa+na≤(bi st).size by exact eW (.le (.p aq ar) az (.le (.p (.p aq ar) aI) bx (.qe az bx .o))) τ hle hsz) hna s1 fun k hkn hk1 hk2=>?_)
 dsimp only
 have le1:∀j,sa≤j→j<sa+k→K rk (bi st) j≤K rk (bi st) (sa+na):=fun j hj1 hj2=>by
  have:=hk1 (j-sa) (by exact cR (.lt aq ar (.lt az (.p aI ar) (.eq (.p aq aI) az .o))) τ hj2 (aa hj1))
  simp only [lR,wf,bv,if_false,decide_eq_true_eq] at this
  rw [show sa+(j-sa)=j by exact ak (c8 (.le (.p aq ar) az (.eq (.p ar aq) az .o)) τ (aa hj1)) (c8 (.le aq (.p ar az) (.le aq (.p az ar) .o)) τ bZ)] at this
  rw [fQ (show sa+na<(bi st).size by exact eW (.lt (.p aq ar) az (.lt (.k 0) aI (.le (.p (.p aq ar) aI) bx (.qe az bx .o)))) τ hnb hle hsz)];exact this
 have gt1:∀j,sa+k≤j→j<sa+na→K rk (bi st) (sa+na)<K rk (bi st) j:=fun j hj1 hj2=>by
  have:=hk2 (j-sa) (by exact cR (.le aq ar (.le (.p az aq) aI (.le aI (.p ar az) .o))) τ hj1 bZ) (by exact cR (.lt aq ar (.lt az (.p aI ar) (.eq (.p aq aI) az .o))) τ hj2 (aa (c8 (.le aq ar (.le (.p aq az) ar .o)) τ hj1)))
  simp only [lR,wf,bv,if_false,decide_eq_true_eq] at this
  rw [show sa+(j-sa)=j by exact ak (c8 (.le (.p aq ar) az (.eq (.p ar aq) az .o)) τ (aa (c8 (.le aq ar (.le (.p aq az) ar .o)) τ hj1))) (c8 (.le aq (.p ar az) (.le aq (.p az ar) .o)) τ bZ)] at this
  rw [fQ (show sa+na<(bi st).size by exact eW (.lt (.p aq ar) az (.lt (.k 0) aI (.le (.p (.p aq ar) aI) bx (.qe az bx .o)))) τ hnb hle hsz)];exact Int.not_le.mp this
 have whole:(∀j,sa≤j→j<sa+na→K rk (bi st) j≤K rk (bi st) (sa+na))→kL rk (bi st) sa (sa+na+nb):=by
  intro hh x y hx hxy hy
  by_cases c1:y<sa+na
  ·exact s1 x y hx hxy c1
  ·by_cases c2:sa+na≤x
   ·exact s2 x y c2 hxy hy
   ·exact cx (hh x hx (by exact (dZ c2))) (s2 (sa+na) y (bd _) (by exact (aZ c1)) hy)
 by_cases e1:na-k=0
 ·rw [if_pos (by simpa using e1)]
  exact bW (h _ hB1 hpl (whole fun j hj1 hj2=>le1 j hj1 (by exact eW (.lt aq (.p ar az) (.eq aI (.k 0) (.lt aq (.p ar bx) (.le bx (.p aI az) .o)))) τ e1 hj2 bZ)) fun O O=>rfl)
 rw [if_neg (by simpa using e1)]
 refine bn (gX (show sa+k+(na-k)-1<(bi st).size by exact sG (.lt aq ar (.lt (.k 0) az (.le (.p (.p aI bx) az) cV (.qe ar cV (.le aq (.p (.p aI ee) jj) (.eq (.p jj ee) bx .o)))))) τ hnb hle hsz (aO _ _) (aa hkn)) ?_)
 refine bn (mm hc hB1.kind (hA.at (getElem?_pos (bi st) (sa+k+(na-k)-1) (by exact sG (.lt aq ar (.lt (.k 0) az (.le (.p (.p aI bx) az) cV (.qe ar cV (.le aq (.p (.p aI ee) jj) (.eq (.p jj ee) bx .o)))))) τ hnb hle hsz (aO _ _) (aa hkn)))) hA (show sa+na+nb≤(bi st).size by exact aj hle (aA (cB hsz))) (by exact (aA (aa hnb))) s2 fun nb' hkn' hk3 hk4=>?_)
 dsimp only
 have lt2:∀j,sa+na≤j→j<sa+na+nb'→K rk (bi st) j<K rk (bi st) (sa+na-1):=fun j hj1 hj2=>by
  have:=hk3 (j-(sa+na)) (by exact eW (.lt aq ar (.lt az (.p (.p aI bx) ar) (.eq (.p aq (.p aI bx)) az .o))) τ hj2 (aa hj1))
  simp only [lR,wf,if_true,decide_eq_true_eq] at this
  replace this:=(show sa+na+(j-(sa+na))=j by exact ak (cR (.le (.p (.p aq ar) az) aI (.eq (.p az (.p aq ar)) aI .o)) τ (aa hj1)) (cR (.le aq (.p (.p ar az) aI) (.le aq (.p aI (.p ar az)) .o)) τ bZ))▸this
  rw [show sa+na-1=sa+k+(na-k)-1 by exact ak (kr (.le aq ar (.le (.p (.p az aI) bx) (.s 1 1) (.le cV (.p bx aI) (.eq (.s 0 1) (.p az cV) .o)))) τ bZ bZ (aa (cW (.le (.k 1) (.p aq ar) (.lt (.k 0) ar .o)) τ hna))) (kr (.le aq ar (.le (.p az aI) (.s 1 1) (.eq (.s 0 1) (.p (.p az bx) cV) (.eq (.p cV bx) aI .o)))) τ bZ (aa (cR (.le (.k 1) (.p (.p aq ar) az) (.lt (.k 0) aI (.le aI (.p az ar) .o))) τ hna bZ)) (aa hkn)),fQ (show sa+k+(na-k)-1<(bi st).size by exact sG (.lt aq ar (.lt (.k 0) az (.le (.p (.p aI bx) az) cV (.qe ar cV (.le aq (.p (.p aI ee) jj) (.eq (.p jj ee) bx .o)))))) τ hnb hle hsz (aO _ _) (aa hkn))];exact this
 have ge2:∀j,sa+na+nb'≤j→j<sa+na+nb→K rk (bi st) (sa+na-1)≤K rk (bi st) j:=fun j hj1 hj2=>by
  have:=hk4 (j-(sa+na)) (by exact eW (.le aq ar (.le (.p (.p az aI) aq) bx (.le bx (.p ar (.p az aI)) .o))) τ hj1 bZ) (by exact eW (.lt aq ar (.lt az (.p (.p aI bx) ar) (.eq (.p aq (.p aI bx)) az .o))) τ hj2 (aa (cR (.le (.p aq ar) az (.le (.p (.p aq ar) aI) az .o)) τ hj1)))
  simp only [lR,wf,if_true,decide_eq_true_eq] at this
  rw [show sa+na+(j-(sa+na))=j by exact ak (cR (.le (.p (.p aq ar) az) aI (.eq (.p az (.p aq ar)) aI .o)) τ (aa (cR (.le (.p aq ar) az (.le (.p (.p aq ar) aI) az .o)) τ hj1))) (cR (.le aq (.p (.p ar az) aI) (.le aq (.p aI (.p ar az)) .o)) τ bZ)] at this
  rw [show sa+na-1=sa+k+(na-k)-1 by exact ak (kr (.le aq ar (.le (.p (.p az aI) bx) (.s 1 1) (.le cV (.p bx aI) (.eq (.s 0 1) (.p az cV) .o)))) τ bZ bZ (aa (cW (.le (.k 1) (.p aq ar) (.lt (.k 0) ar .o)) τ hna))) (kr (.le aq ar (.le (.p az aI) (.s 1 1) (.eq (.s 0 1) (.p (.p az bx) cV) (.eq (.p cV bx) aI .o)))) τ bZ (aa (cR (.le (.k 1) (.p (.p aq ar) az) (.lt (.k 0) aI (.le aI (.p az ar) .o))) τ hna bZ)) (aa hkn)),fQ (show sa+k+(na-k)-1<(bi st).size by exact sG (.lt aq ar (.lt (.k 0) az (.le (.p (.p aI bx) az) cV (.qe ar cV (.le aq (.p (.p aI ee) jj) (.eq (.p jj ee) bx .o)))))) τ hnb hle hsz (aO _ _) (aa hkn))];exact jA.mp this
 by_cases e2:nb'=0
 ·rw [if_pos (by simpa using e2)]
  refine bW (h _ hB1 hpl (whole fun j hj1 hj2=>?_) fun O O=>rfl)
  have q1:=s1 j (sa+na-1) hj1 (by exact cR (.le aq ar (.lt aq (.p az aI) (.le (.p az aI) (.s 1 1) .o))) τ hj2 bZ) (by exact (aA (aa (cW (.le (.k 1) (.p aq ar) (.lt (.k 0) ar .o)) τ hna))))
  have q2:=ge2 (sa+na) (by exact c8 (.le (.p (.p aq ar) az) (.p aq ar) (.eq az (.k 0) .o)) τ e2) (by exact c8 (.lt (.p aq ar) (.p (.p aq ar) az) (.lt (.k 0) az .o)) τ hnb)
  exact cx q1 q2
 rw [if_neg (by simpa using e2)]
 have hx1:((bi st).extract (sa+k) (sa+na)).size=na-k:=by simp;exact ak (kr (.le aq ar (.le az (.p ar aI) (.le bx (.p cV az) (.eq (.p aq (.p cV aI)) bx .o)))) τ bZ (aN _ _) (aa (cR (.le (.p aq ar) az (.le ar aI (.qe az (.p aq aI) .o))) τ hkn (bz (eW (.le (.p aq ar) az (.le (.p (.p aq ar) aI) bx (.qe az bx .o))) τ hle hsz))))) (kr (.le aq ar (.le az (.p ar (.p aI bx)) (.eq (.p aq bx) cV (.qe az (.p aI cV) .o)))) τ bZ (aa hkn) (bz (eW (.le (.p aq ar) az (.le (.p (.p aq ar) aI) bx (.qe az bx .o))) τ hle hsz)))
 have hy1:((bi st).extract (sa+na) (sa+na+nb')).size=nb':=by simp;exact ak (eW (.le aq ar (.le az (.p (.p aI bx) ar) (.eq (.p aq (.p aI bx)) az .o))) τ (aN _ _) (aa (cR (.le (.p aq ar) az (.qe az (.p (.p aq ar) aI) .o)) τ (bz (kr (.le (.p (.p aq ar) az) aI (.le (.p (.p aq ar) bx) cV (.qe aI cV (.le az bx .o)))) τ hle hsz hkn'))))) (eW (.le aq ar (.le az (.p ar (.p aI bx)) (.qe az (.p (.p aI bx) aq) .o))) τ bZ (bz (kr (.le (.p (.p aq ar) az) aI (.le (.p (.p aq ar) bx) cV (.qe aI cV (.le az bx .o)))) τ hle hsz hkn')))
 have hAx:mK OK ((bi st).extract (sa+k) (sa+na)):=fun p hp=>hA p (by
  rw [iV] at hp;exact fx (gI hp))
 have hAy:mK OK ((bi st).extract (sa+na) (sa+na+nb')):=fun p hp=>hA p (by
  rw [iV] at hp;exact fx (gI hp))
 have sx:kL rk ((bi st).extract (sa+k) (sa+na)) 0 ((bi st).extract (sa+k) (sa+na)).size:=fun x y O hxy hy=>by
  rw [hx1] at hy
  rw [oj (by exact eW (.le (.p aq ar) az (.le (.p (.p aq ar) aI) bx (.qe az bx .o))) τ hle hsz) (by exact kr (.lt (.p (.p aq ar) az) (.p aq aI) (.le az bx (.lt bx cV (.eq (.p cV ar) aI .o)))) τ hxy hy (aa hkn)),oj (by exact eW (.le (.p aq ar) az (.le (.p (.p aq ar) aI) bx (.qe az bx .o))) τ hle hsz) (by exact eW (.lt (.p (.p aq ar) az) (.p aq aI) (.lt az bx (.eq (.p bx ar) aI .o))) τ hy (aa hkn))]
  exact s1 _ _ (by lia) (by exact cR (.le (.p (.p aq ar) az) (.p (.p aq ar) aI) (.le az aI .o)) τ hxy) (by exact eW (.lt (.p (.p aq ar) az) (.p aq aI) (.lt az bx (.eq (.p bx ar) aI .o))) τ hy (aa hkn))
 have sy:kL rk ((bi st).extract (sa+na) (sa+na+nb')) 0 ((bi st).extract (sa+na) (sa+na+nb')).size:=fun x y O hxy hy=>by
  rw [hy1] at hy
  rw [oj (by exact kr (.le (.p (.p aq ar) az) aI (.le (.p (.p aq ar) bx) cV (.qe aI cV (.le az bx .o)))) τ hle hsz hkn') (by exact eW (.lt (.p (.p aq ar) az) (.p (.p aq ar) aI) (.le az bx (.lt bx aI .o))) τ hxy hy),oj (by exact kr (.le (.p (.p aq ar) az) aI (.le (.p (.p aq ar) bx) cV (.qe aI cV (.le az bx .o)))) τ hle hsz hkn') (by exact cR (.lt (.p (.p aq ar) az) (.p (.p aq ar) aI) (.lt az aI .o)) τ hy)]
  exact s2 _ _ (by exact co _ _) (by exact cR (.le (.p (.p aq ar) az) (.p (.p aq ar) aI) (.le az aI .o)) τ hxy) (by exact eW (.lt (.p (.p aq ar) az) (.p (.p aq ar) aI) (.le bx aI (.lt az bx .o))) τ hkn' hy)
 have hf:K rk ((bi st).extract (sa+na) (sa+na+nb')) 0≤K rk ((bi st).extract (sa+k) (sa+na)) 0:=by
  rw [oj (by exact kr (.le (.p (.p aq ar) az) aI (.le (.p (.p aq ar) bx) cV (.qe aI cV (.le az bx .o)))) τ hle hsz hkn') (by exact (aK e2).elim (fun ζ2=>c8 (.lt (.p (.p aq ar) (.k 0)) (.p (.p aq ar) az) (.lt az (.k 0) .o)) τ ζ2) fun ζ2=>c8 (.lt (.p (.p aq ar) (.k 0)) (.p (.p aq ar) az) (.lt (.k 0) az .o)) τ ζ2),oj (by exact eW (.le (.p aq ar) az (.le (.p (.p aq ar) aI) bx (.qe az bx .o))) τ hle hsz) (by exact (aK e1).elim (fun ζ2=>cR (.lt (.p (.p aq ar) (.k 0)) (.p aq az) (.le ar az (.lt aI (.k 0) .o))) τ hkn ζ2) fun ζ2=>cR (.lt (.p (.p aq ar) (.k 0)) (.p aq az) (.lt (.k 0) aI (.eq (.p aI ar) az .o))) τ ζ2 (aa hkn))]
  exact ef (gt1 _ (by exact co _ _) (by exact (aK e1).elim (fun ζ2=>cR (.lt (.p (.p aq ar) (.k 0)) (.p aq az) (.le ar az (.lt aI (.k 0) .o))) τ hkn ζ2) fun ζ2=>cR (.lt (.p (.p aq ar) (.k 0)) (.p aq az) (.lt (.k 0) aI (.eq (.p aI ar) az .o))) τ ζ2 (aa hkn)))
 have hl:K rk ((bi st).extract (sa+na) (sa+na+nb')) (((bi st).extract (sa+na) (sa+na+nb')).size-1)≤K rk ((bi st).extract (sa+k) (sa+na)) (((bi st).extract (sa+k) (sa+na)).size-1):=by
  rw [hx1,hy1,oj (by exact kr (.le (.p (.p aq ar) az) aI (.le (.p (.p aq ar) bx) cV (.qe aI cV (.le az bx .o)))) τ hle hsz hkn') (by exact (aK e2).elim (fun ζ2=>cR (.lt (.p (.p aq ar) az) (.p (.p aq ar) aI) (.le az aI (.lt aI (.k 0) .o))) τ (aO _ _) ζ2) fun ζ2=>cR (.lt (.p (.p aq ar) az) (.p (.p aq ar) aI) (.eq (.s 2 1) aI .o)) τ (aa ζ2)),oj (by exact eW (.le (.p aq ar) az (.le (.p (.p aq ar) aI) bx (.qe az bx .o))) τ hle hsz) (by exact (aK e1).elim (fun ζ2=>eW (.lt (.p (.p aq ar) az) (.p aq aI) (.le ar aI (.le az bx (.lt bx (.k 0) .o)))) τ hkn (aO _ _) ζ2) fun ζ2=>eW (.lt (.p (.p aq ar) az) (.p aq aI) (.eq (.s 2 1) bx (.eq (.p bx ar) aI .o))) τ (aa ζ2) (aa hkn)),show sa+k+(na-k-1)=sa+na-1 by exact (aK e1).elim (fun ζ2=>ak (kr (.le (.p (.p aq ar) az) aI (.le ar bx (.le az cV (.le (.p aq bx) (.s 3 1) (.lt cV (.k 0) .o))))) τ hkn (aO _ _) bZ ζ2) (kr (.le aq (.p (.p ar az) aI) (.le aq (.p ar bx) (.le bx (.p cV az) (.lt cV (.k 0) .o)))) τ (aO _ _) bZ ζ2)) fun ζ2=>ak (kr (.le (.p (.p aq ar) az) aI (.le (.p aq bx) (.s 3 1) (.eq (.s 2 1) cV (.eq (.p cV ar) bx .o)))) τ bZ (aa ζ2) (aa hkn)) (kr (.le aq (.p (.p ar az) aI) (.le bx (.s 3 1) (.le cV (.p bx az) (.eq (.s 0 1) (.p ar cV) .o)))) τ bZ bZ (aa (cW (.le (.k 1) (.p aq ar) (.lt (.k 0) ar .o)) τ hna)))]
  exact ef (lt2 _ (by exact co _ _) (by exact (aK e2).elim (fun ζ2=>cR (.lt (.p (.p aq ar) az) (.p (.p aq ar) aI) (.le az aI (.lt aI (.k 0) .o))) τ (aO _ _) ζ2) fun ζ2=>cR (.lt (.p (.p aq ar) az) (.p (.p aq ar) aI) (.eq (.s 2 1) aI .o)) τ (aa ζ2)))
 have fin:∀(out:Array a0) (st2:bm),xQ rk (((bi st).extract (sa+k) (sa+na)).toList++((bi st).extract (sa+na) (sa+na+nb')).toList) out→
   lh (bm.mk' (kindOf st) (bi st) (((bJ st).setIfInBounds i (sa,na+nb,pa)).eraseIdxIfInBounds (i+1)) (gallopOf st) (pC st)) st2→
   Q true (setArr st2 (Ad (bi st2) (sa+k) out.toList))∧pC st2=none:=by
  intro out st2 hr hs
  obtain ⟨q1,q2,q3⟩:=wy (rk:=rk) (xs:=bi st) (lo:=sa) (sa:=sa+k) (sb:=sa+na) (se:=sa+na+nb') (hi:=sa+na+nb) (by exact co _ _) (by exact (aK e1).elim (fun ζ2=>cR (.lt (.p aq ar) (.p aq az) (.le ar az (.lt aI (.k 0) .o))) τ hkn ζ2) fun ζ2=>cR (.lt (.p aq ar) (.p aq az) (.lt (.k 0) aI (.eq (.p aI ar) az .o))) τ ζ2 (aa hkn)) (by exact (aK e2).elim (fun ζ2=>c8 (.lt (.p aq ar) (.p (.p aq ar) az) (.lt az (.k 0) .o)) τ ζ2) fun ζ2=>c8 (.lt (.p aq ar) (.p (.p aq ar) az) (.lt (.k 0) az .o)) τ ζ2) (by exact cR (.le (.p (.p aq ar) az) (.p (.p aq ar) aI) (.le az aI .o)) τ hkn') (by exact aj hle (aA (cB hsz))) s1 s2
   (fun j hj1 hj2=>le1 j hj1 hj2) (ef (gt1 _ (by lia) (by exact (aK e1).elim (fun ζ2=>cR (.lt (.p aq ar) (.p aq az) (.le ar az (.lt aI (.k 0) .o))) τ hkn ζ2) fun ζ2=>cR (.lt (.p aq ar) (.p aq az) (.lt (.k 0) aI (.eq (.p aI ar) az .o))) τ ζ2 (aa hkn)))) (fun j hj1 hj2=>ge2 j hj1 hj2) hr
  refine ⟨h _ ⟨hs.kind.trans hB.kind,?_,hs.failed.trans hB.failed⟩ ((congrArg Array.toList hs.pend).trans hpl) ?_ ?_,hs.failed.trans hB.failed⟩
  ·show (Ad (bi st2) (sa+k) out.toList).Perm a₀
   rw [hs.arr];exact q1.trans hB.perm
  ·show kL rk (Ad (bi st2) (sa+k) out.toList) _ _
   rw [hs.arr];exact q2
  ·show ∀j,_→(Ad (bi st2) (sa+k) out.toList)[j]? = _
   rw [hs.arr];exact q3
 by_cases e3:na-k≤nb'
 ·rw [if_pos e3]
  refine bn (vN hc hB1.kind hAx hAy (show 0<((bi st).extract (sa+k) (sa+na)).size by exact (aK e1).elim (fun ζ2=>cW (.lt (.k 0) aq (.lt ar (.k 0) .o)) τ ζ2) fun ζ2=>av ζ2 (aA (cB hx1))) (show 0<((bi st).extract (sa+na) (sa+na+nb')).size by exact (aK e2).elim (fun ζ2=>cW (.lt (.k 0) aq (.lt ar (.k 0) .o)) τ ζ2) fun ζ2=>av ζ2 (aA (cB hy1))) sx sy hf hl fun out st2 hr hs=>?_)
  obtain ⟨q1,q2⟩:=fin out st2 hr hs
  refine bn (oH (bn (q7 (bW ?_))))
  show Q (pC st2).isNone _
  rw [q2]
  exact q1
 ·rw [if_neg e3]
  refine bn (vM hc hB1.kind hAx hAy (show 0<((bi st).extract (sa+k) (sa+na)).size by exact c8 (.lt (.k 0) aq (.qe aq ar (.ne ar az .o))) τ hx1 e3) (show 0<((bi st).extract (sa+na) (sa+na+nb')).size by exact (aK e2).elim (fun ζ2=>cW (.lt (.k 0) aq (.lt ar (.k 0) .o)) τ ζ2) fun ζ2=>av ζ2 (aA (cB hy1))) sx sy hf hl fun out st2 hr hs=>?_)
  obtain ⟨q1,q2⟩:=fin out st2 hr hs
  refine bn (oH (bn (q7 (bW ?_))))
  show Q (pC st2).isNone _
  rw [q2]
  exact q1
end
noncomputable abbrev xR:=Nat×Nat×Nat
noncomputable def sH:Nat→List xR→Nat→Prop
 | s,[],e=>s=e
 | s,x::r,e=>x.1=s∧0<x.2.1∧sH (s+x.2.1) r e
theorem sH.le:∀{p:List xR} {s e:Nat},sH s p e→s+p.length≤e
 | [],_,_,h=>by simp only [sH] at h;simp;exact (aA h)
 | x::r,s,e,⟨_,h2,h3⟩=>by have:=h3.le;exact cR (.le (.p aq (.s 1 1)) az (.lt (.k 0) aI (.le (.p (.p aq aI) ar) az .o))) τ h2 this
theorem sH.mem:∀{p:List xR} {s e:Nat},sH s p e→∀x∈p,s≤x.1∧x.1+x.2.1≤e∧0<x.2.1
 | [],_,_,_,_,h=>by cases h
 | y::r,s,e,⟨h1,h2,h3⟩,x,hx=>by
  have:=h3.le
  rcases aC.mp hx with rfl|hx
  ·exact ⟨(aA (cB h1)),⟨eW (.le (.p aq ar) az (.eq aq aI (.le (.p (.p aI ar) bx) az .o))) τ h1 this,h2⟩⟩
  ·have:=h3.mem x hx;exact ⟨c8 (.le aq ar (.le (.p aq az) ar .o)) τ this.1,⟨this.2.1,this.2.2⟩⟩
theorem sH.append:∀{p q:List xR} {s e:Nat},sH s (p++q) e→∃m,sH s p m∧sH m q e
 | [],_,s,_,h=>⟨s,rfl,h⟩
 | x::r,q,s,e,⟨h1,h2,h3⟩=>by
  obtain ⟨m,a,b⟩:=sH.append h3
  exact ⟨m,⟨h1,h2,a⟩,b⟩
theorem sH.join:∀{p q:List xR} {s m e:Nat},sH s p m→sH m q e→sH s (p++q) e
 | [],_,_,_,_,h,h'=>by cases h;exact h'
 | _::_,_,_,_,_,⟨h1,h2,h3⟩,h'=>⟨h1,h2,sH.join h3 h'⟩
theorem r6 {g:xR→Nat×Nat} {f:xR→xR} (hf:∀x,g (f x)=g x):∀(l:List xR) (i:Nat),(l.modify i f).map g=l.map g
 | [],_=>by simp
 | x::l,0=>by simp [List.modify_cons,hf]
 | x::l,i+1=>by simp [List.modify_cons,r6 hf l i]
theorem sH.map:∀{p q:List xR} {s e:Nat},p.map (fun x=>(x.1,x.2.1))=q.map (fun x=>(x.1,x.2.1))→sH s p e→sH s q e:=fun {p}=>by
 induction p with
 | nil=>intro q s e h c;cases q with
  | nil=>exact c
  | cons=>cases h
 | cons x p ih=>intro q s e h c;cases q with
  | nil=>cases h
  | cons y q=>
   obtain ⟨h1,h2,h3⟩:=c
   obtain ⟨e0,e3⟩:=oQ.inj h
   obtain ⟨e1,e2⟩:=jf.inj (show (x.1,x.2.1)=(y.1,y.2.1) from e0)
   exact ⟨e1▸h1,e2▸h2,e2▸ih e3 h3⟩
noncomputable def sW (rk:ag→Int) (xs:Array a0) (p:List xR):Prop:=∀x∈p,kL rk xs x.1 (x.1+x.2.1)
theorem sW.map {rk:ag→Int} {xs:Array a0} {p q:List xR} (e:p.map (fun x=>(x.1,x.2.1))=q.map (fun x=>(x.1,x.2.1))) (h:sW rk xs p):sW rk xs q:=by
 intro x hx
 have:(x.1,x.2.1)∈p.map fun x=>(x.1,x.2.1):=by rw [e];exact b9.mpr ⟨x,hx,rfl⟩
 obtain ⟨y,hy,he⟩:=b9.mp this
 have:=h y hy
 simp only [dU] at he
 rw [he.1,he.2] at this
 exact this
section
variable {prog:aV} {w:aP} {A:aS} {E:ag→am→Prop} {s:am} {kd:gb} {rk:ag→Int} {OK:ag→Prop} {a₀:Array a0}
structure J (rk:ag→Int) (kd:gb) (a₀:Array a0) (lo:Nat) (st:bm):Prop where
 base:SB kd a₀ st
 cov:sH 0 (bJ st).toList lo
 runs:sW rk (bi st) (bJ st).toList
theorem kL.congr {xs ys:Array a0} {a b:Nat} (h:kL rk xs a b) (e:∀k,a≤k→k<b→ys[k]? = xs[k]?):kL rk ys a b:=fun i j hi hij hj=>by
 rw [jx (e i hi (by exact bV hij hj)),jx (e j (by exact aj hi hij) hj)]
 exact h i j hi hij hj
theorem sF {st:bm} {lo i:Nat} {Q:Bool→bm→Prop} (hc:rb prog w A s kd rk OK) (h0:mK OK a₀) (hJ:J rk kd a₀ lo st) (hlo:lo≤a₀.size) (hi:i+1<(bJ st).size)
  (h:∀st',J rk kd a₀ lo st'→(bJ st').size+1=(bJ st).size→(∀k,lo≤k→(bi st')[k]? = (bi st)[k]?)→Q true st') :
  kW (aB prog w) A E s (mergeAt' i) Q st:=by
 have hlen:(bJ st).toList.length=(bJ st).size:=by simp
 obtain ⟨x,y,p2,hp⟩:lT fun x y p2=>(bJ st).toList=(bJ st).toList.take i++x::y::p2:=by
  refine ⟨(bJ st).toList[i],(bJ st).toList[i+1],(bJ st).toList.drop (i+2),?_⟩
  conv=>lhs;rw [←ds i (bJ st).toList]
  rw [eX (by lia),eX (by assumption)]
 generalize hp1:(bJ st).toList.take i=p1 at hp
 have hl1:p1.length=i:=by rw [←hp1,dE];exact ak (aN _ _) ((aA (cB (bz (c8 (.le aq ar (.lt (.s 0 1) az (.qe ar az .o))) τ hi hlen)))))
 have hcov:=hJ.cov
 rw [hp] at hcov
 obtain ⟨m,c1,c2⟩:=hcov.append
 obtain ⟨sa,na,pa⟩:=x
 obtain ⟨sb,nb,pb⟩:=y
 obtain ⟨rfl,d2,d3,d4,d5⟩:=c2
 simp only at d2 d3 d4 d5
 subst d3
 have hr:=hJ.runs
 rw [hp] at hr
 have hle5:=d5.le
 have hle1:=c1.le
 refine vL hc h0 hJ.base hp hl1 d2 d4 (by exact kr (.le (.p (.p aq ar) az) aI (.le bx aI (.le (.p (.p (.p aq ar) az) cV) bx .o))) τ hlo hle5) (hr (sa,na,pa) (by simp)) (hr (sa+na,nb,pb) (by simp)) fun st' b1 b2 b3 b4=>?_
 refine h st' ⟨b1,?_,?_⟩ ?_ fun k hk=>b4 k (.inr (by exact kr (.le (.p (.p aq ar) az) aI (.le (.p (.p (.p aq ar) az) bx) cV (.le cV aI .o))) τ hle5 hk))
 ·rw [b2]
  exact c1.join ⟨rfl,by simp only;exact cW (.lt (.k 0) (.p aq ar) (.lt (.k 0) aq .o)) τ d2,by simp only;rw [←Nat.add_assoc];exact d5⟩
 ·rw [b2]
  intro z hz
  rcases bw.mp hz with hz|hz
  ·have:=c1.mem z hz
   exact (hr z (by simp [hz])).congr fun k h1 h2=>b4 k (.inl (by exact av h2 this.2.1))
  ·rcases aC.mp hz with rfl|hz
   ·simp only;rw [←Nat.add_assoc];exact b3
   ·have:=d5.mem z hz
    exact (hr z (by simp [hz])).congr fun k h1 h2=>b4 k (.inr (by exact aj this.1 h1))
 ·have q1:=congrArg List.length hp
  have q2:=congrArg List.length b2
  simp only [aJ,bL,cS] at q1 q2
  exact ak (cR (.le (.s 0 1) ar (.qe ar (.p az (.p (.s 3 1) (.k 1))) (.eq aq (.p az (.s 3 1)) .o))) τ q1 q2) (cR (.le aq (.s 1 1) (.eq aq (.p az (.p (.s 3 1) (.k 1))) (.qe ar (.p az (.s 3 1)) .o))) τ q1 q2)
theorem J.push {st:bm} {lo n:Nat} (hJ:J rk kd a₀ lo st) (hn:0<n) (hs:kL rk (bi st) lo (lo+n)):J rk kd a₀ (lo+n) (setPending st ((bJ st).push (lo,n,0))):=by
 refine ⟨⟨hJ.base.kind,hJ.base.perm,hJ.base.failed⟩,?_,?_⟩
 ·show sH 0 ((bJ st).push (lo,n,0)).toList (lo+n)
  rw [bX]
  exact hJ.cov.join ⟨rfl,hn,rfl⟩
 ·show sW rk (bi st) ((bJ st).push (lo,n,0)).toList
  rw [bX]
  intro x hx
  rcases bw.mp hx with hx|hx
  ·exact hJ.runs x hx
  ·rw [aD.mp hx];exact hs
theorem J.power {st:bm} {lo i pw:Nat} (hJ:J rk kd a₀ lo st):J rk kd a₀ lo (setPending st ((bJ st).modify i fun x=>(x.1,x.2.1,pw))):=by
 have e:=r6 (g:=fun x=>(x.1,x.2.1)) (f:=fun x:xR=>(x.1,x.2.1,pw)) (fun O=>rfl) (bJ st).toList i
 refine ⟨⟨hJ.base.kind,hJ.base.perm,hJ.base.failed⟩,?_,?_⟩
 ·show sH 0 ((bJ st).modify i fun x=>(x.1,x.2.1,pw)).toList lo
  rw [Array.toList_modify]
  exact hJ.cov.map e.symm
 ·show sW rk (bi st) ((bJ st).modify i fun x=>(x.1,x.2.1,pw)).toList
  rw [Array.toList_modify]
  exact hJ.runs.map e.symm
theorem HC {γ:Type} {R:γ→bm→Prop} {st:bm} {c:Prop} [Decidable c] {x:StateT bm mw γ} {J:Nat→StateT bm mw γ} {m:Nat} (I:Nat→bm→Prop) (h0:¬c→I m st)
  (key:∀n st',I n st'→kW (aB prog w) A E s (J n) R st') (h1:c→(∀n st',I n st'→kW (aB prog w) A E s (J n) R st')→kW (aB prog w) A E s x R st):kW (aB prog w) A E s (if c then x else J m) R st:=by
 by_cases k:c
 ·rw [if_pos k];exact h1 k key
 ·rw [if_neg k];exact key _ _ (h0 k)
theorem uA {st:bm} {Q:Unit→bm→Prop} (hc:rb prog w A s kd rk OK) (h0:mK OK a₀) (hB:SB kd a₀ st) (hp:bJ st=#[]) (h2:2≤a₀.size)
  (h:∀st',(bi st').Perm a₀→pC st'=none→kL rk (bi st') 0 a₀.size→Q () st'):kW (aB prog w) A E s sortRuns' Q st:=by
 rw [sortRuns'_eq]
 refine bn (q7 ?_)
 dsimp only
 simp only [hB.size]
 refine bn (pD (f4
  (I:=fun x c st'=>∃lo,lO (c=(none,lo)) (J rk kd a₀ lo st') (lo≤a₀.size) ((x≤lo∨lo=a₀.size)))
  (Q:=fun c st'=>∃lo,c=(none,lo)∧J rk kd a₀ a₀.size st') ?step ?fin ?init) ?post)
 case init=>exact ⟨0,rfl,⟨hB,by rw [hp];rfl,by rw [hp];intro x hx;cases hx⟩,aX _,.inl (bd _)⟩
 case fin=>
  rintro c st' ⟨lo,rfl,hJ,hlo,hx⟩
  have:lo=a₀.size:=by exact hx.elim (fun ζ2=>ak hlo (aj (eC _ _) ζ2)) fun ζ2=>ak hlo ((aA (cB ζ2)))
  subst this
  exact ⟨_,rfl,hJ⟩
 case post=>
  rintro c st' ⟨lo,rfl,hJ⟩
  skip
  refine bn (pD (f4 (I:=fun x c st''=>c=(none,())∧J rk kd a₀ a₀.size st''∧((bJ st'').size≤1∨(bJ st'').size+x≤a₀.size)) (Q:=fun c st''=>c=(none,())∧J rk kd a₀ a₀.size st''∧(bJ st'').size≤1) ?fstep ?ffin ?finit) ?fpost)
  case finit=>
   have:=hJ.cov.le
   simp only [aJ] at this
   exact ⟨rfl,hJ,.inr (by exact cW (.le (.s 0 0) ar (.le (.p (.k 0) aq) ar .o)) τ this)⟩
  case ffin=>
   rintro c st'' ⟨rfl,hJ',hx⟩
   exact ⟨rfl,hJ',by exact hx.elim (fun ζ2=>ζ2) fun ζ2=>c8 (.le aq (.k 1) (.le ar az (.le (.p aq az) ar .o))) τ (eC _ _) ζ2⟩
  case fpost=>
   rintro c st'' ⟨rfl,hJ',hx⟩
   refine bW (h _ hJ'.base.perm hJ'.base.failed ?_)
   have hcov:=hJ'.cov
   have hruns:=hJ'.runs
   have hlen:(bJ st'').toList.length=(bJ st'').size:=by simp
   cases hl:(bJ st'').toList with
   | nil=>
    rw [hl] at hcov
    have:0=a₀.size:=hcov
    exact absurd (aj h2 (aA this.symm)) (by decide)
   | cons x r=>
    cases r with
    | nil=>
     rw [hl] at hcov hruns
     obtain ⟨d1,d2,d3⟩:=hcov
     have d4:0+x.2.1=a₀.size:=d3
     have:=hruns x (.head _)
     rw [d1,d4] at this
     exact this
    | cons y r=>rw [hl] at hlen;simp only [cS] at hlen;exact absurd (aj (aA hlen) hx) (fZ (Nat.succ_lt_succ (eO _)))
  case fstep=>
   rintro x c st'' _ hx ⟨rfl,hJ',hsz⟩
   refine bn (q7 ?_)
   by_cases hle:(bJ st'').size≤1
   ·rw [if_pos hle]
    exact bW ⟨rfl,hJ',hle⟩
   ·rw [if_neg hle]
    refine bn (sF hc h0 hJ' (bd _) ?_ fun st3 b1 b2 b3=>?_)
    ·(repeat' split)<;>first|exact aA (aa (dZ hle))|exact bV (cN (aO _ _) 1) (aA (aa (dZ hle)))
    ·skip
     exact bW ⟨rfl,b1,hsz.elim (fun z=>absurd z hle) fun z=>.inr (by rw [←b2,mG] at z;exact z)⟩
 case step=>
  rintro x c st1 _ hx ⟨lo,rfl,hJ,hlo,hpr⟩
  skip
  by_cases hge:lo≥a₀.size
  ·rw [if_pos hge]
   have:lo=a₀.size:=by exact ak hlo hge
   subst this
   exact bW ⟨_,rfl,hJ⟩
  ·rw [if_neg hge]
   refine bn (uy hc h0 (by exact c8 (.le (.p aq ar) az (.eq (.p ar aq) az .o)) τ (aa hlo)) (by exact c8 (.le (.k 1) aq (.ne ar az (.le ar (.p aq az) .o))) τ hge bZ) hJ.base fun m st2 hB2 hm1 hm2 hs2 hl2 hp2=>?_)
   skip
   have hJ2:J rk kd a₀ lo st2:=⟨hB2,by rw [hp2];exact hJ.cov,by
    rw [hp2]
    intro z hz
    have:=hJ.cov.mem z hz
    exact (hJ.runs z hz).congr fun k h1 h2=>hl2 k (by exact av h2 this.2.1)⟩
   apply HC (m:=m) (fun n st3=>lO (J rk kd a₀ lo st3) (kL rk (bi st3) lo (lo+n)) (1≤n) (lo+n≤a₀.size))
   ·exact fun O=>⟨hJ2,hs2,hm1,by exact cR (.le (.p aq ar) az (.le ar aI (.eq (.p aI aq) az .o))) τ hm2 (aa hlo)⟩
   rotate_left
   focus
    intro hmr key
    refine bn (wpS_lift (fg ⟨rfl,?_⟩))
    refine bn (sE hc h0 (by exact cR (.le (.p aq ar) az (.le ar aI (.eq (.p aI aq) az .o))) τ (aN _ _) (aa hlo)) (by exact (dI (a₀.size-lo) (minRun' a₀.size a₀.size 0)).elim (fun ζ2=>aj hm2 (aA (cB (bz ζ2)))) fun ζ2=>aR (av hmr (aA (cB (df ζ2))))) hB2 hs2 fun st3 b1 b2 b3 b4=>?_)
    skip
    have hJ3:J rk kd a₀ lo st3:=⟨b1,by rw [b4];exact hJ2.cov,by
     rw [b4]
     intro z hz
     have:=hJ2.cov.mem z hz
     exact (hJ2.runs z hz).congr fun k h1 h2=>b3 k (by exact av h2 this.2.1)⟩
    have hn1:1≤fU (a₀.size-lo) (minRun' a₀.size a₀.size 0):=by exact (dI (a₀.size-lo) (minRun' a₀.size a₀.size 0)).elim (fun ζ2=>c8 (.le (.k 1) aq (.le (.k 1) ar (.le ar az (.qe aq az .o)))) τ hm1 hm2 (bz ζ2)) fun ζ2=>A5 1 (.le (.k 1) aq (.le (.k 1) ar (.lt ar az (.qe aq az .o)))) τ hm1 hmr (df ζ2)
    have hn2:lo+fU (a₀.size-lo) (minRun' a₀.size a₀.size 0)≤a₀.size:=by exact cR (.le (.p aq ar) az (.le ar aI (.eq (.p aI aq) az .o))) τ (aN _ _) (aa hlo)
    exact key _ _ ⟨hJ3,b2,hn1,hn2⟩
   focus
    clear hJ2 hs2 hl2 hp2 hB2
    rintro n st3 ⟨hJ3,b2,hn1,hn2⟩
    refine bn (q7 ?_)
    cases hb:(bJ st3).back? with
    | none=>
     skip
     exact bn (oH (bW ⟨_,rfl,hJ3.push hn1 b2,hn2,hpr.elim (fun z=>.inl (jN z hn1)) fun z=>absurd (aA z.symm) hge⟩))
    | some t=>
     obtain ⟨q1,q2,q3⟩:=t
     skip
     refine bn (pD (f4 (I:=fun O c st4=>c=(none,())∧J rk kd a₀ lo st4∧kL rk (bi st4) lo (lo+n)) (Q:=fun c st4=>c=(none,())∧J rk kd a₀ lo st4∧kL rk (bi st4) lo (lo+n)) ?lstep (fun O O hh=>hh) ⟨rfl,hJ3,b2⟩) ?lpost)
     case lpost=>
      rintro c st4 ⟨rfl,hJ4,b4⟩
      skip
      refine bn (oH (bn (oH (bW ⟨_,rfl,(hJ4.power).push hn1 b4,hn2,hpr.elim (fun z=>.inl (jN z hn1)) fun z=>absurd (aA z.symm) hge⟩))))
     case lstep=>
      rintro y c st4 _ hy ⟨rfl,hJ4,b4⟩
      refine bn (q7 ?_)
      by_cases hsz:(bJ st4).size>1
      ·simp only [hsz,if_true]
       cases hg:(bJ st4)[(bJ st4).size-2]? with
       | none=>exact bW ⟨rfl,hJ4,b4⟩
       | some t=>
        obtain ⟨t1,t2,t3⟩:=t
        dsimp only
        split
        ·exact bW ⟨rfl,hJ4,b4⟩
        ·refine bn (sF hc h0 hJ4 (by exact hlo) (by exact (aA (aa hsz))) fun st5 d1 d2 d3=>?_)
         skip
         exact bW ⟨rfl,d1,b4.congr fun k h1 h2=>d3 k h1⟩
      ·simp only [hsz,if_false]
       exact bW ⟨rfl,hJ4,b4⟩
end
noncomputable abbrev jz (h:ay) (a:aH) (vs:List ag):ay:=((h.update a (dj fun O=>#[])).push (j6 "tuple" vs.toArray 0)).push (j6 "list" #[] 0)
section
variable {prog:aV} {w:aP} {A:aS} {E:ag→am→Prop} {s:am}
theorem tF {a:aH} {vs:List ag} {n:Nat} {P:PySem.Fin→am→Prop} {kd:gb} {rk:ag→Int} {OK:ag→Prop} (ho:s.heap.get? a=some (j6 "list" vs.toArray n)) (hsz:vs.length≤2^24)
  (hkind:2≤vs.length→∀(Q:gb→am→Prop),Q kd { s with heap:=jz s.heap a vs}→aF (aB prog w) A (keyKind' vs.toArray) Q E { s with heap:=jz s.heap a vs})
  (hc:rb prog w A { s with heap:=jz s.heap a vs} kd rk OK) (hok:∀v∈vs,OK v)
  (h:∀out:Array ag,out.toList.Perm vs→out.toList.Pairwise (fun x y=>rk x≤rk y)→P (.done (.ret .none)) { s with heap:=sortedHeap s.heap a vs out}) :
  aF (aB prog w) A (cc.«list.sort» ⟨[.ref a],[]⟩) P E s:=by
 rw [list_sort_plain]
 have hline:fc=2^24:=rfl
 have ha:a<s.heap.objs.size:=cK ho
 have hsz':vs.toArray.size=vs.length:=by simp
 refine ae (listItems_at ho rfl ?_)
 refine ae (listUpdate_at ho rfl ?_ (by rw [hsz'];exact aj hsz (aA (cB hline))) (by simp))
 obtain ⟨e1,ho1⟩:∃e1,(s.heap.update a (dj fun O=>#[])).get? a=some (j6 "list" #[] e1):=⟨_,iG ho (fun O=>#[])⟩
 refine ae (seqEpoch_at ho1 rfl ?_)
 refine ae (wpAny_newTuple ?_ (by simp;exact aj hsz (aA (cB hline))))
 refine ae (wpAny_newList ?_ (by simp))
 refine bM ?_
 have ho6:(jz s.heap a vs).get? a=some (j6 "list" #[] e1):=by
  rw [ay.get?_push_ne _ _ _ (by rw [size_push',ay.size_update];exact ei (Nat.lt_succ_of_lt ha)),ay.get?_push_ne _ _ _ (by rw [ay.size_update];exact ei ha)]
  exact ho1
 show aF (aB prog w) A _ P E { s with heap:=jz s.heap a vs}
 skip
 have out_eq:∀xs:Array a0,xs.Perm (pairsOf vs)→(xs.map (·.2)).toList=xs.toList.map (·.1)∧(xs.map (·.2)).toList.Perm vs:=fun xs hp=>by
  have hl:xs.toList.Perm (vs.zip vs):=by rw [←pairsOf_toList];exact Array.perm_iff_toList_perm.mp hp
  have e:(xs.map (·.2)).toList=xs.toList.map (·.1):=by
   rw [Array.toList_map];exact List.map_congr_left fun p hp'=>(mem_zip_self (hl.mem_iff.mp hp')).1.symm
  refine ⟨e,?_⟩
  rw [e]
  have:=hl.map (·.1)
  rwa [List.map_fst_zip (bd _)] at this
 by_cases h2:vs.toArray.size<2
 ·rw [if_pos h2,if_pos h2]
  refine ae (ao ?_)
  skip
  refine ae (ao ?_)
  dsimp only
  refine ae (seqEpoch_at ho6 rfl ?_)
  refine ae (listUpdate_at ho6 rfl ?_ (by simp) (by rw [Array.size_map];show (pairsOf vs).size≤_;rw [pairsOf_size];exact c8 (.le aq (.s 1 1) (.le aq az (.qe ar az .o))) τ hsz hline))
  simp only [bne_self_eq_false,bv,if_false]
  have o:=out_eq (pairsOf vs) (Array.Perm.refl _)
  refine ao (h _ o.2 ?_)
  show ((pairsOf vs).map (·.2)).toList.Pairwise _
  have hlen:((pairsOf vs).map (·.2)).toList.length<2:=by rw [o.2.length_eq];exact bV (aA (cB hsz')) h2
  generalize ((pairsOf vs).map (·.2)).toList=l at hlen
  match l,hlen with
  | [],_=>exact dg
  | [_],_=>exact List.pairwise_singleton _ _
  | _::_::_,h=>simp at h;lia
 ·rw [if_neg h2,if_neg h2]
  refine ae (hkind (by exact aj (aZ h2) (aA hsz')) _ ?_)
  refine ae (aL (uA (a₀:=pairsOf vs) (st:=bm.mk' kd (vs.toArray.zip vs.toArray) #[] 7 none)
   (Q:=fun O st'=>(bi st').Perm (pairsOf vs)∧pC st'=none∧kL rk (bi st') 0 (pairsOf vs).size)
   hc ?_ ⟨rfl,Array.Perm.refl _,rfl⟩ rfl (by rw [pairsOf_size];exact aj (aZ h2) (aA hsz')) fun st' a1 a2 a3=>⟨a1,a2,a3⟩) ?_ fun O O e=>e)
  ·intro p hp
   rw [pairsOf_toList] at hp
   exact hok _ (mem_zip_self hp).2
  rintro ⟨⟨⟩,st'⟩ s' ⟨rfl,hp,hf,hs⟩
  skip
  refine ae (seqEpoch_at ho6 rfl ?_)
  refine ae (listUpdate_at ho6 rfl ?_ (by simp) (by refine aj (aA ((Array.size_map ..).trans (hp.size_eq.trans (pairsOf_size _)))) ?_;exact c8 (.le aq (.s 1 1) (.le aq az (.qe ar az .o))) τ hsz hline))
  rw [hf]
  simp only [bne_self_eq_false,bv,if_false]
  obtain ⟨o1,o2⟩:=out_eq _ hp
  refine ao (h _ o2 ?_)
  rw [o1,eZ]
  intro i j hi hj hij
  simp only [eh,aJ] at hi hj
  have:=hs i j (aX _) (aR hij) (by rw [←hp.size_eq];exact hj)
  rw [fQ hi,fQ hj] at this
  simpa using this
theorem wL {l:aH} {vs:List ag} {Q:ag→am→Prop} {kd:gb} {rk:ag→Int} {OK:ag→Prop} (hl:s.heap.IsList l vs.toArray) (hsz:vs.length≤2^24)
  (hkind:∀(h':ay) (A':aS),(∀b o,s.heap.get? b=some o→h'.get? b=some o)→2≤vs.length→∀(Q:gb→am→Prop) (E:ag→am→Prop),Q kd { s with heap:=h'}→aF (aB prog w) A' (keyKind' vs.toArray) Q E { s with heap:=h'})
  (hc:∀(h':ay) (A':aS),(∀b o,s.heap.get? b=some o→h'.get? b=some o)→rb prog w A' { s with heap:=h'} kd rk OK) (hok:∀v∈vs,OK v)
  (h:∀(r:aH) (h':ay) (out:Array ag),out.toList.Perm vs→out.toList.Pairwise (fun x y=>rk x≤rk y)→(∀b o,s.heap.get? b=some o→h'.get? b=some o)→s.heap.get? r=none→(∃n,h'.get? r=some (j6 "list" out n))→Q (.ref r) { s with heap:=h'}) :
  aF (aB prog w) A (sP (.builtin "sorted") [.ref l]) Q E s:=by
 refine Calls.call_function_entry kind_sorted plain_sorted entry_sorted (args_sorted1 _) ?_
 skip
 refine ae (m:=checkCount "sorted" 1 1 _) (ao ?_)
 have hline:fc=2^24:=rfl
 refine ae (collect_list hl ?_ (by exact aj hsz (aA (cB hline))))
 refine ae (wpAny_newList ?_ (by exact aj hsz (aA (cB hline))))
 have hs1:((s.heap.push (j6 "list" #[] 0)).update s.heap.objs.size (dj (· ++ vs.toArray))).objs.size=s.heap.objs.size+1:=by
  rw [ay.size_update,size_push']
 have hoL:(((s.heap.push (j6 "list" #[] 0)).update s.heap.objs.size (dj (· ++ vs.toArray))).push (j6 "list" vs.toArray 0)).get? (s.heap.objs.size+1)=some (j6 "list" vs.toArray 0):=by
  rw [←hs1];exact bG _ rfl
 have hkeep:∀b o,s.heap.get? b=some o→(((s.heap.push (j6 "list" #[] 0)).update s.heap.objs.size (dj (· ++ vs.toArray))).push (j6 "list" vs.toArray 0)).get? b=some o:=fun b o e=>by
  refine bo _ ?_
  rw [nF _ _ _ _ (ei (cK e))]
  exact bo _ e
 show aF _ _ _ _ _ { s with heap:=((s.heap.push (j6 "list" #[] 0)).update s.heap.objs.size (dj (· ++ vs.toArray))).push (j6 "list" vs.toArray 0)}
 rw [hs1]
 generalize hH:((s.heap.push (j6 "list" #[] 0)).update s.heap.objs.size (dj (· ++ vs.toArray))).push (j6 "list" vs.toArray 0)=H at hoL hkeep
 have hne:∀b o,s.heap.get? b=some o→b≠s.heap.objs.size+1:=fun b o e=>by
  have:=cK e
  intro q
  rw [q] at this
  exact absurd this (i7.mpr (Nat.le_succ _))
 have hmid:∀b o,s.heap.get? b=some o→(jz H (s.heap.objs.size+1) vs).get? b=some o:=fun b o e=>by
  refine bo _ (bo _ ?_)
  rw [nF _ _ _ _ (hne b o e)]
  exact hkeep b o e
 refine ae (bM (db slot_list_sort ⟨_,hoL,rfl⟩ entry_list_sort (tF (s:={ s with heap:=H}) hoL hsz (fun h2 Q' hq=>hkind _ _ hmid h2 Q' _ hq) (hc _ _ hmid) hok fun out o1 o2=>⟨_,rfl,?_⟩) (args_list_sort _)))
 refine ao ⟨_,rfl,h _ _ out o1 o2 (fun b o e=>?_) ?_ ?_⟩
 ·show (sortedHeap H (s.heap.objs.size+1) vs out).get? b=some o
  unfold sortedHeap
  rw [nF _ _ _ _ (hne b o e)]
  exact hmid b o e
 ·cases q:s.heap.get? (s.heap.objs.size+1) with
  | none=>rfl
  | some o=>exact absurd rfl (hne _ o q)
 ·show ∃n,(sortedHeap H (s.heap.objs.size+1) vs out).get? (s.heap.objs.size+1)=_
  have ha:=cK hoL
  obtain ⟨e1,ho1⟩:∃e1,(H.update (s.heap.objs.size+1) (dj fun O=>#[])).get? (s.heap.objs.size+1)=some (j6 "list" #[] e1):=⟨_,iG hoL (fun O=>#[])⟩
  refine ⟨_,iG (xs:=#[]) (n:=e1) ?_ fun O=>out⟩
  exact bo _ (bo _ ho1)
end
end S
noncomputable def HM:List ag→Int
 | [.int x _,.int y _,.int z _]=>x*2^60+y*2^30+z
 | _=>0
noncomputable def zg (h:ay) (v:ag):Int:=match v with
 | .ref a=>(match h.get? a with
  | some o=>(match o.data with
   | .seq xs _=>HM xs.toList
   | _=>0)
  | none=>0)
 | _=>0
noncomputable def Ic (h:ay) (v:ag):Prop:=Hf fun a o n x y z t1 t2 t3=>xM (v=.ref a) (h.get? a=some o) (o.data=.seq #[.int x t1,.int y t2,.int z t3] n) (0≤y) (y<2^30) (0≤z) (z<2^30)
theorem VT.three {h:ay} {v:ag} {x y z:Int} (q:VT h v [x,y,z]):xN fun a o n t1 t2 t3=>lO (v=.ref a) (h.get? a=some o) (o.cls=.type "tuple") (o.data=.seq #[.int x t1,.int y t2,.int z t3] n):=by
 obtain ⟨a,rfl,vs,⟨o,ho,hc,n,hd⟩,hi⟩:=q
 cases hi with
 | cons _ t1 hi=>cases hi with
  | cons _ t2 hi=>cases hi with
   | cons _ t3 hi=>cases hi;exact ⟨a,o,n,t1,t2,t3,rfl,ho,hc,hd⟩
theorem nr {h:ay} {a:aH} {o:cA} {n:Nat} {x y z:Int} {t1 t2 t3:jR} (ho:h.get? a=some o) (hd:o.data=.seq #[.int x t1,.int y t2,.int z t3] n):zg h (.ref a)=x*2^60+y*2^30+z:=by
 unfold zg
 simp only [ho,hd]
 rfl
theorem Gf {B a b p q:Int} (hB:0<B) (hb:b<B) (hq:0≤q) (h:a<p):a*B+b<p*B+q:=
 Int.lt_of_lt_of_le (Int.add_lt_add_left hb _) (cx (by rw [show a*B+B=(a+1)*B by rw [Int.add_mul,Int.one_mul]];exact Int.mul_le_mul_of_nonneg_right h (ef hB)) (Int.le_add_of_nonneg_right hq))
theorem Ez {B a b p q:Int} (hB:0<B) (h0:0≤b) (hb:b<B) (k0:0≤q) (hq:q<B):(a*B+b<p*B+q↔a<p∨a=p∧b<q)∧(a*B+b=p*B+q↔a=p∧b=q):=by
 rcases Int.lt_trichotomy a p with h|rfl|h
 ·have:=Gf hB hb k0 h
  exact ⟨⟨fun O=>.inl h,fun O=>this⟩,⟨fun e=>absurd e (jJ this),fun e=>absurd e.1 (jJ h)⟩⟩
 ·exact ⟨⟨fun z=>.inr ⟨rfl,Int.lt_of_add_lt_add_left z⟩,fun z=>z.elim (fun y=>absurd y (n6 _)) fun y=>Int.add_lt_add_left y.2 _⟩,⟨fun z=>⟨rfl,Int.add_left_cancel z⟩,fun z=>by rw [z.2]⟩⟩
 ·have:=Gf hB hq h0 h
  exact ⟨⟨fun z=>absurd z (Int.lt_asymm this),fun z=>absurd h (z.elim Int.lt_asymm fun y=>y.1▸n6 _)⟩,⟨fun e=>absurd e.symm (jJ this),fun e=>absurd e.1.symm (jJ h)⟩⟩
theorem DT {a b c a' b' c':Nat} (n:¬(-(c':Int) < -c∨(-(c':Int) = -c∧((a':Int)<a∨((a':Int)=a∧(b':Int)<b))))):c'<c∨(c=c'∧(a<a'∨(a=a'∧b≤b'))):=by
 rcases nM c c' with p|rfl|p
 ·exact absurd (.inl (Int.neg_lt_neg (cI.mpr p))) n
 ·refine .inr ⟨rfl,?_⟩
  rcases nM a a' with q|rfl|q
  ·exact .inl q
  ·exact .inr ⟨rfl,aZ fun z=>n (.inr ⟨rfl,.inr ⟨rfl,cI.mpr z⟩⟩)⟩
  ·exact absurd (.inr ⟨rfl,.inl (cI.mpr q)⟩) n
 ·exact .inl p
theorem Fi {n s m l:Nat} (h:n+s≤m) (k:m≤l) (z:Nat.blt l (2^30)=true):(n:Int)<2^30:=cI.mpr (bV (aj (cX h) k) (bI z))
theorem wu {x y z x' y' z':Int} (h1:0≤y) (h2:y<2^30) (h3:0≤z) (h4:z<2^30) (h1':0≤y') (h2':y'<2^30) (h3':0≤z') (h4':z'<2^30) :
  (x*2^60+y*2^30+z<x'*2^60+y'*2^30+z')↔(x<x'∨(x=x'∧(y<y'∨(y=y'∧z<z')))):=by
 have e:∀u v:Int,u*2^60+v*2^30=(u*2^30+v)*2^30:=fun u v=>by rw [Int.add_mul,Int.mul_assoc];rfl
 rw [e,e,(Ez (by decide) h3 h4 h3' h4').1,(Ez (by decide) h1 h2 h1' h2').1,(Ez (by decide) h1 h2 h1' h2').2,and_assoc,or_assoc,←and_or_left]
section
variable {prog:aV} {w:aP} {A:aS} {s:am}
theorem Hw {b:Bool} {h:ay} (hk:∀b o,h.get? b=some o→s.heap.get? b=some o):S.rb prog w A s (tuples' b) (zg h) (Ic h):=by
 rintro v v' ⟨a,o,n,x,y,z,t1,t2,t3,rfl,ho,hd,h1,h2,h3,h4⟩ ⟨a',o',n',x',y',z',t1',t2',t3',rfl,ho',hd',h1',h2',h3',h4'⟩ Q E q
 rw [nr ho hd,nr ho' hd',decide_eq_decide.mpr (wu h1 h2 h3 h4 h1' h2' h3' h4')] at q
 have lt1:∀{b:Bool} {p r:Int} {t u:jR} {Q:Bool→am→Prop} {E:ag→am→Prop},Q (decide (p<r)) s→aF (aB prog w) A (oneLt' b (.int p t) (.int r u)) Q E s:=fun {b p r t u Q E} hq=>by
  cases b with
  | true=>exact oneLt_int hq
  | false=>exact kat_one _ _ (P.lt_int hq)
 refine kat_lt (hk _ _ ho) hd (hk _ _ ho') hd' (kat_cons (iI (kat_go (fun e1=>?_) (fun e1=>?_))))
 ·refine kat_yes (kat_cons (iI (kat_go (fun e2=>?_) (fun e2=>?_))))
  ·refine kat_yes (kat_cons (iI (kat_go (fun e3=>?_) (fun e3=>?_))))
   ·refine kat_yes (kat_nil ?_)
    have:decide ((#[gu x t1,.int y t2,.int z t3]:Array ag).size<(#[gu x' t1',.int y' t2',.int z' t3']:Array ag).size)=decide (x<x'∨(x=x'∧(y<y'∨(y=y'∧z<z')))):=by
     have e1:=beq_iff_eq.mp e1;have e2:=beq_iff_eq.mp e2;have e3:=beq_iff_eq.mp e3
     exact decide_eq_decide.mpr ⟨fun z=>absurd z (dT _),fun z=>z.elim (fun y=>absurd e1 (jJ y)) fun y=>y.2.elim (fun y=>absurd e2 (jJ y)) fun y=>absurd e3 (jJ y.2)⟩
    rw [this];exact q
   ·refine kat_no (lt1 ?_)
    have:decide (z<z')=decide (x<x'∨(x=x'∧(y<y'∨(y=y'∧z<z')))):=by
     have e1:=beq_iff_eq.mp e1;have e2:=beq_iff_eq.mp e2
     rw [decide_eq_decide];exact IA e1 e2
    rw [this];exact q
  ·refine kat_no (lt1 ?_)
   have:decide (y<y')=decide (x<x'∨(x=x'∧(y<y'∨(y=y'∧z<z')))):=by
    have e1:=beq_iff_eq.mp e1
    have e2:y≠y':=by simpa using e2
    rw [decide_eq_decide];exact Iz e1 e2
   rw [this];exact q
 ·refine kat_no (lt1 ?_)
  have:decide (x<x')=decide (x<x'∨(x=x'∧(y<y'∨(y=y'∧z<z')))):=by
   have e1:x≠x':=by simpa using e1
   rw [decide_eq_decide];exact Iy e1
  rw [this];exact q
theorem C0 {h h':ay} (hk:∀b o,h.get? b=some o→h'.get? b=some o):∀{vs:List ag},(∀v∈vs,lT fun x y z=>VT h v [x,y,z])→∃fs:List ag,jn (KatTups h' vs fs) (fs.length=vs.length) (∀f∈fs,g8 fun x t=>f=.int x t):=fun {vs}=>by
 induction vs with
 | nil=>exact fun O=>⟨[],.nil,rfl,fun O h=>nomatch h⟩
 | cons v vs ih=>
  intro hv
  obtain ⟨fs,h1,h2,h3⟩:=ih fun u hu=>hv u (.tail _ hu)
  obtain ⟨x,y,z,q⟩:=hv v (.head _)
  obtain ⟨a,o,n,t1,t2,t3,rfl,ho,hc,hd⟩:=q.three
  refine ⟨.int x t1::fs,.cons (hk _ _ ho) hc hd rfl h1,by simp [h2],?_⟩
  intro f hf
  cases hf with
  | head=>exact ⟨x,t1,rfl⟩
  | tail _ hf=>exact h3 f hf
theorem FI {h:ay} (hk:∀b o,h.get? b=some o→s.heap.get? b=some o) {vs:List ag} (hv:∀v∈vs,lT fun x y z=>VT h v [x,y,z]) (h2:2≤vs.length) {Q:gb→am→Prop} {E:ag→am→Prop} (q:Q (tuples' true) s) :
  aF (aB prog w) A (keyKind' vs.toArray) Q E s:=by
 obtain ⟨fs,h1,h3,h4⟩:=C0 hk hv
 refine kat_kind (T:=.type "int") h1 (by exact GH 1 (.lt (.k 0) aq (.le (.k 2) ar (.qe aq ar .o))) τ h2 h3) (fun v hv=>?_) (by decide) q
 obtain ⟨x,t,rfl⟩:=h4 v hv
 exact .now
end
namespace dL
variable {α β:Type} {R:α→β→Prop}
theorem perm {l l':List α} (hp:l'.Perm l):∀{m:List β},dL R l m→∃m',m'.Perm m∧dL R l' m':=by
 induction hp with
 | nil=>intro m h;exact ⟨m,.refl _,h⟩
 | cons a _ ih=>
  intro m h
  cases h with
  | cons x y=>
   obtain ⟨m',h1,h2⟩:=ih y
   exact ⟨_,h1.cons _,.cons x h2⟩
 | swap a b l=>
  intro m h
  cases h with
  | cons x y=>cases y with
   | cons y z=>exact ⟨_,d9.swap _ _ _,.cons y (.cons x z)⟩
 | trans _ _ ih1 ih2=>
  intro m h
  obtain ⟨m1,h1,h2⟩:=ih2 h
  obtain ⟨m2,h3,h4⟩:=ih1 h2
  exact ⟨m2,h3.trans h1,h4⟩
theorem mem {l:List α} {m:List β} (h:dL R l m):∀a∈l,∃b∈m,R a b:=by
 induction h with
 | nil=>simp
 | cons x y ih=>
  intro a ha
  cases ha with
  | head=>exact ⟨_,.head _,x⟩
  | tail _ ha=>obtain ⟨b,hb,q⟩:=ih a ha;exact ⟨b,.tail _ hb,q⟩
theorem HP {l:List α} {m:List β} (h:dL R l m):∀b∈m,∃a∈l,R a b:=by
 induction h with
 | nil=>simp
 | cons x y ih=>
  intro a ha
  cases ha with
  | head=>exact ⟨_,.head _,x⟩
  | tail _ ha=>obtain ⟨b,hb,q⟩:=ih a ha;exact ⟨b,.tail _ hb,q⟩
theorem pairwise {P:α→α→Prop} {P':β→β→Prop} {l:List α} {m:List β} (h:dL R l m) (hP:∀a a' b b',R a b→R a' b'→P a a'→P' b b') (hl:l.Pairwise P):m.Pairwise P':=by
 induction h with
 | nil=>exact dg
 | cons x y ih=>
  obtain ⟨h1,h2⟩:=ez.mp hl
  refine ez.mpr ⟨fun b hb=>?_,ih h2⟩
  obtain ⟨a,ha,q⟩:=HP y b hb
  exact hP _ _ _ _ x q (h1 a ha)
theorem with_mem {l:List α} {m:List β} (h:dL R l m):dL (fun a b=>R a b∧b∈m) l m:=by
 induction h with
 | nil=>exact .nil
 | cons x y ih=>exact .cons ⟨x,.head _⟩ (ih.mono fun a b q=>⟨q.1,.tail _ q.2⟩)
end dL
section
variable {w:aP} {A:aS} {h:ay} {f sd rr:aH} {xs ys:List Int} {S:Int→Bool}
theorem CM (hA:A.handled=none) (hr:A.depth<iH) (X:Cx w (bC h [])) (hf:IL (bC h []) f xs) (hs:IL (bC h []) sd ys) (hS:IS w (bC h []) rr S) (hx:xs.length≤2^20) (hy:ys.length≤2^20)
  (hn:(C.runs (ie xs ys S) xs.length ys.length).length≤2^24) :
  Cg PQ w A h (.ref 253) [.ref f,.ref sd,.ref rr] (fun v h'=>oN fun R its n T=>uB (v=.ref R) (h'.get? R=some (ch its n)) (h.get? R=none) (mQ h' [R] its T) (C.re (ie xs ys S) xs.length ys.length T) (T.Perm (C.runs (ie xs ys S) xs.length ys.length))):=by
 refine yR hA hr X hf hs hS hx hy hn fun A' h' R its n hA' hd' X' ho hsb hR s Q E hs' k=>?_
 subst hs'
 have hlen:=hR.length
 have hmem:∀v∈its.toList,∃x∈C.runs (ie xs ys S) xs.length ys.length,VT (bC s.heap [R]) v (code x):=hR.mem
 have hsub:∀h':ay,(∀b o,s.heap.get? b=some o→h'.get? b=some o)→∀b o,(bC s.heap [R]).get? b=some o→h'.get? b=some o:=fun h' hk b o q=>hk b o (cD _ _ b o q)
 refine Mine.S.wL (vs:=its.toList) (kd:=tuples' true) (rk:=zg (bC s.heap [R])) (OK:=Ic (bC s.heap [R])) ⟨_,ho,rfl,n,by simp⟩ (by exact aj (aA hlen) hn)
  (fun h' A' hk h2 Q' E' q=>FI (s:={ s with heap:=h'}) (hsub h' hk) (fun v hv=>?_) h2 q) (fun h' A' hk=>Hw (hsub h' hk)) (fun v hv=>?_) (fun r h' out hp hpw hk hr ho'=>?_)
 ·obtain ⟨x,_,q⟩:=hmem v hv
  exact ⟨_,_,_,q⟩
 ·obtain ⟨x,hx',q⟩:=hmem v hv
  obtain ⟨a,o,n,t1,t2,t3,rfl,ho,hc,hd⟩:=q.three
  obtain ⟨_,b1,b2⟩:=C.m8.mp hx'
  exact ⟨a,o,n,_,_,_,t1,t2,t3,rfl,ho,hd,c0,Fi b1 hx rfl,c0,Fi b2 hy rfl⟩
 ·obtain ⟨T,hT,hAll⟩:=hR.perm hp
  obtain ⟨n',ho'⟩:=ho'
  have hv:Sub (bC s.heap [R]) (bC h' [r]):=cM fun b o q O O=>⟨hk b o q,fun z=>by
   obtain rfl:b=r:=aD.mp z
   exact nn hr q⟩
  refine k _ h' s.toks (fun b o e O=>hk b o e) ⟨r,out,n',T,rfl,ho',?_,hAll.mono fun v x q=>q.sub hv,C.vy hT ?_,hT⟩
  ·cases q:h.get? r with
   | none=>rfl
   | some o=>rw [hsb _ _ q] at hr;cases hr
  ·have hT':∀x∈T,x∈C.runs (ie xs ys S) xs.length ys.length:=fun x hx=>hT.mem_iff.mp hx
   refine hAll.with_mem.pairwise (fun v v' x x' q q' hle=>?_) hpw
   obtain ⟨a,o,n,t1,t2,t3,rfl,ho,hc,hd⟩:=q.1.three
   obtain ⟨a',o',n',t1',t2',t3',rfl,ho',hc',hd'⟩:=q'.1.three
   rw [nr ho hd,nr ho' hd'] at hle
   obtain ⟨_,b1,b2⟩:=C.m8.mp (hT' x q.2)
   obtain ⟨_,b1',b2'⟩:=C.m8.mp (hT' x' q'.2)
   exact DT fun z=>absurd ((wu c0 (Fi b1' hx rfl) c0 (Fi b2' hy rfl) c0 (Fi b1 hx rfl) c0 (Fi b2 hy rfl)).mpr z) (jA.mpr hle)
end
namespace SI
noncomputable def El (e:Int×ag) (k:Int):Prop:=∃t,e=(hashInt k,.int k t)
noncomputable abbrev iT (es:Array (Int×ag)) (ep:Nat) (t:bH):cA:={ cls:=.type "set",dict:=none,data:=.set es ep t}
noncomputable def uK (w:aP):Bool:=w.params.followText "set-order"
structure iL (w:aP) (es:Array (Int×ag)) (t:bH) (ks:List Int):Prop where
 els:dL El es.toList ks
 nd:ks.Nodup
 small:ks.length<4000
 fits:t.fits es.size=true
 ok:ka (uK w) t
theorem iL.size {w:aP} {es:Array (Int×ag)} {t:bH} {ks:List Int} (h:iL w es t ks):es.size=ks.length:=by have:=h.els.length;rwa [aJ] at this
noncomputable def iS (w:aP) (h:ay) (a:aH) (ks:List Int):Prop:=lT fun es ep t=>h.get? a=some (iT es ep t)∧iL w es t ks
section
variable {prog:aV} {w:aP} {A:aS} {s:am} {E:ag→am→Prop} {a:aH} {es:Array (Int×ag)} {ep:Nat} {t:bH} {ks:List Int}
theorem iL.elems (h:iL w es t ks):ElemsOf (eu prog w) es.toList:=fun e he=>by
 obtain ⟨k,_,tk,rfl⟩:=h.els.mem e he
 exact ⟨⟨k,by simp [eu,ag.isInt],rfl⟩,rfl⟩
theorem iL.absent (h:iL w es t ks) {k:Int} (hk:k∉ks):es.toList.findIdx? (fun e=>(eu prog w).is k e.2)=none:=by
 rw [List.findIdx?_eq_none_iff]
 intro e he
 obtain ⟨k',hk',tk,rfl⟩:=h.els.mem e he
 have:k'≠k:=fun q=>hk (q▸hk')
 simpa [eu,ag.isInt] using this
theorem iL.more (h:iL w es t ks) {k:Int} (hk:k∉ks) (hr:ks.length+1<4000) {es':Array (Int×ag)} {t':bH} {u:jR} (hp:es'.toList.Perm (es.toList++[(hashInt k,.int k u)])) (hf:t'.fits es'.size=true) (ho:ka (uK w) t') :
  ∃ks',ks'.Perm (ks++[k])∧iL w es' t' ks':=by
 obtain ⟨ks',hp',hA⟩:=(h.els.append (.cons (⟨u,rfl⟩:El (hashInt k,.int k u) k) .nil)).perm hp
 refine ⟨ks',hp',hA,?_,?_,hf,ho⟩
 ·refine hp'.nodup_iff.mpr ?_
  rw [List.nodup_append]
  exact ⟨h.nd,by simp,fun x hx y hy=>by rw [aD] at hy;subst hy;exact fun q=>hk (q▸hx)⟩
 ·rw [hp'.length_eq];simpa using hr
theorem iL.same (h:iL w es t ks) {es':Array (Int×ag)} {t':bH} (hp:es'.toList.Perm es.toList) (hf:t'.fits es'.size=true) (ho:ka (uK w) t'):∃ks',ks'.Perm ks∧iL w es' t' ks':=by
 obtain ⟨ks',hp',hA⟩:=h.els.perm hp
 exact ⟨ks',hp',hA,hp'.nodup_iff.mpr h.nd,by rw [hp'.length_eq];exact h.small,hf,ho⟩
theorem tG {h:ay} (ho:h.get? a=some (iT es ep t)) (es':Array (Int×ag)) (t':bH):(h.update a (cA.putSet es' t')).get? a=some (iT es' (ep+1) t'):=by
 have:=fw (cA.putSet es' t') ho (by rw [putSet_of es' t' rfl];rfl)
 rw [putSet_of es' t' rfl] at this;exact this
theorem vY {k:Int} {u:jR} {Q:Bool→am→Prop} (ho:s.heap.get? a=some (iT es ep t)) (hS:iL w es t ks) (hk:k∉ks) (hr:ks.length+1<4000)
  (q:∀h' ks',cq a s.heap h'→ks'.Perm (ks++[k])→iS w h' a ks'→Q true { s with heap:=h'}) :
  aF (aB prog w) A (setAddHashed a (.int k u) (hashInt k)) Q E s:=by
 have hsz:=hS.size
 have hb:es.size<scanBound:=by show _<4096;exact cW (.lt aq (.k 4096) (.lt (.s 1 1) (.k 4000) (.eq aq ar .o))) τ hr hsz
 have hel:=hS.elems (prog:=prog)
 skip
 refine bM (ae (jl ho rfl hS.fits ?_))
 dsimp only
 rw [byScan_of rfl hb hel]
 skip
 unfold setAddByScan
 refine ae (ae (fg (ae (wpAny_setScan_of (knd:=eu prog w) (k:=k) (by simp [eu,ag.isInt]) ho rfl hS.fits hel ?_))))
 rw [hS.absent hk]
 skip
 have hgw:∀(b:Bool) {s₁:am} {Q':Unit→am→Prop},Q' () s₁→aF (aB prog w) A (match b with|true=>rule "set.scan.the-table-gave-way" | false=>cJ ()) Q' E s₁:=
  fun b s₁ Q' hq=>by cases b<;>first|exact ao hq|exact fg hq
 have hperm:=layNew_perm t es (hashInt k) (.int k u)
 have hfits:=layNew_fits t es (hashInt k) (.int k u)
 have hok:=yy hS.ok es (hashInt k) (.int k u)
 generalize layNew t es (hashInt k) (.int k u)=Ln at hperm hfits hok ⊢
 obtain ⟨es1,t1,wasDummy,gave⟩:=Ln
 dsimp only at hperm hfits hok ⊢
 rw [bX] at hperm
 obtain ⟨ks1,hp1,hS1⟩:=hS.more hk hr hperm hfits hok
 have hsz1:=hS1.size
 have hl1:ks1.length=ks.length+1:=by rw [hp1.length_eq];simp
 refine ae (hgw _ ?_)
 have main:aF (aB prog w) A (do
    storeSet a es1 t1
    if (!wasDummy && t1.tooFull)=true then do
      (match (relayAll t1 es1 (jr es1.size)).2.2 with|true=>rule "set.scan.the-table-gave-way" | false=>cJ ())
      storeSet a (relayAll t1 es1 (jr es1.size)).1 (relayAll t1 es1 (jr es1.size)).2.1
      cJ (some true)
     else cJ (some true)) (fun r s'=>r=some true∧Q true s') E s:=by
  refine ae (wpAny_storeSet_of ho rfl ?_ (by rw [ew];exact c8 (.le aq (.k 16777216) (.lt (.s 1 1) (.k 4000) (.eq aq az (.eq az (.s 1 1) .o)))) τ hr hsz1 hl1))
  have ho1:=tG ho es1 t1
  have hsb1:=cj s.heap a (cA.putSet es1 t1)
  split
  ·have hp:=relayAll_perm t1 es1 (jr es1.size)
   have hfr:=relayAll_fits t1 es1 (jr es1.size)
   have hor:=AI hS1.ok es1 (jr es1.size)
   generalize relayAll t1 es1 (jr es1.size)=Rl at hp hfr hor ⊢
   obtain ⟨es2,t3,gave2⟩:=Rl
   dsimp only at hp hfr hor ⊢
   obtain ⟨ks2,hp2,hS2⟩:=hS1.same hp hfr hor
   have hl2:=hp2.length_eq
   have hsz2:=hS2.size
   refine ae (hgw _ (ae (wpAny_storeSet_of ho1 rfl ?_ (by rw [ew];exact cR (.le aq (.k 16777216) (.lt (.s 1 1) (.k 4000) (.eq az (.s 1 1) (.eq aI az (.eq aq aI .o))))) τ hr hl1 hl2 hsz2))))
   exact ao ⟨rfl,q _ ks2 (hsb1.trans (cj _ a _)) (hp2.trans hp1) ⟨es2,_,t3,tG ho1 es2 t3,hS2⟩⟩
  ·exact ao ⟨rfl,q _ ks1 hsb1 hp1 ⟨es1,_,t1,ho1,hS1⟩⟩
 split
 ·refine ae ?_
  skip
  refine ao ?_
  skip
  exact aL main (fun r s' h=>by obtain ⟨rfl,h⟩:=h;exact ao h) fun O O z=>z
 ·refine ae (ao ?_)
  skip
  exact aL main (fun r s' h=>by obtain ⟨rfl,h⟩:=h;exact ao h) fun O O z=>z
theorem zA {k:Int} {u:jR} {Q:ag→am→Prop} (hS:iS w s.heap a ks) (hk:k∉ks) (hr:ks.length+1<4000)
  (q:∀h' ks' tk,cq a s.heap h'→ks'.Perm (ks++[k])→iS w h' a ks'→Q .none (sh s h' tk)) :
  aF (aB prog w) A (sP (.builtin "set.add") [.ref a,.int k u]) Q E s:=by
 obtain ⟨es,ep,t,ho,hS⟩:=hS
 refine db PySem.F.slot_set_add ⟨_,ho,rfl⟩ PySem.F.entry_set_add ?_ (PySem.F.args_set_add_2 _ _)
 delta cc.«set.add» cc.Frozenset.oneOther
 simp only [List.isEmpty_nil,bind_assoc]
 skip
 refine ae (ao ?_)
 try dsimp only
 refine ae (ao ?_)
 try dsimp only
 refine ae (bM (ae (wpAny_pyHash_int ?_)))
 refine vY (s:={ s with toks:=s.toks+1}) ho hS hk hr fun h' ks' hsb hp hS'=>?_
 show aF _ _ (ret kc) _ _ _
 exact ao ⟨_,rfl,q h' ks' _ hsb hp hS'⟩
theorem Ct {Q:ag→am→Prop} (q:∀h' r,iK s.heap h' r (iT #[] 0 (.fresh 0 0 (!uK w)))→iS w h' r []→Q (.ref r) { s with heap:=h'}):aF (aB prog w) A (newSet (.type "set")) Q E s:=by
 skip
 refine ae (ae (eP (ao ?_)))
 dsimp only
 skip
 refine ae (wpAny_alloc (ao ?_))
 have hN:=iK.push s.heap (iT #[] 0 (.fresh 0 0 (!uK w)))
 exact q _ _ hN ⟨#[],0,_,hN.yes,.nil,i5,by decide,rfl,rfl,dg,fun h=>by show (!uK w)=true;rw [h];rfl⟩
end
theorem gj:Slot "set_iterator" "__next__" "set_iterator.__next__" :=
 .of (owner:= "set_iterator") (n:= "__next__") (by rw [eJ,dc];kernel_rfl) (by decide +kernel) (by decide +kernel) (by decide +kernel)
  (by first|exact .inl (by decide +kernel)|exact .inr (by decide +kernel)) (by rw [eG];kernel_rfl)
theorem l4:lr table "set_iterator.__next__" = some cc.«set_iterator.__next__»:=rj (by kernel_rfl)
theorem nN (a:ag):ll "set_iterator.__next__" ⟨[a],[]⟩:=by unfold ll;kernel_rfl
theorem o6:lr table "set.__iter__" = some cc.«frozenset.__iter__»:=
 entryFor_alias (id':= "frozenset.__iter__") (by kernel_rfl) rfl (by decide +kernel) (by kernel_rfl)
theorem oF:Slot "set_iterator" "__iter__" "set_iterator.__iter__" :=
 .of (owner:= "set_iterator") (n:= "__iter__") (by rw [eJ,dc];kernel_rfl) (by decide +kernel) (by decide +kernel) (by decide +kernel)
  (by first|exact .inl (by decide +kernel)|exact .inr (by decide +kernel)) (by rw [eG];kernel_rfl)
theorem rS:lr table "set_iterator.__iter__" = some cc.«dict_keyiterator.__iter__»:=
 entryFor_alias (id':= "dict_keyiterator.__iter__") (by kernel_rfl) rfl (by decide +kernel) (by kernel_rfl)
theorem sO (a:ag):ll "set_iterator.__iter__" ⟨[a],[]⟩:=by unfold ll;kernel_rfl
noncomputable abbrev o9 (first:ag) (i:Nat) (a:aH) (n ep:Nat):cA:={ cls:=.type "set_iterator",data:=.fields #[first,.int i 0,.ref a,.int n 0,.int ep 0]}
theorem o7 {α:Type}:∀(l:List α) (i:Nat) (h:i<l.length),(l[i]::l.eraseIdx i).Perm l
 | a::l,0,_=>by simp
 | a::l,i+1,h=>by
  skip
  exact (d9.swap _ _ _).trans ((o7 l i (by simpa using h)).cons a)
theorem xq {α:Type} (next:Nat→Nat):∀(fuel k:Nat) (left:List α) (out:Array α),left.length=fuel→(ow.go next fuel k left out).toList.Perm (out.toList++left)
 | 0,k,left,out,h=>by
  obtain rfl:=oT.mp h
  simp [ow.go]
 | fuel+1,k,left,out,h=>by
  unfold ow.go
  have hlt:next k % left.length<left.length:=Nat.mod_lt _ (by exact cW (.lt (.k 0) aq (.qe aq (.s 1 1) .o)) τ h)
  rw [aW hlt]
  dsimp only
  refine (xq next fuel (k+1) _ _ (by rw [List.length_eraseIdx];simp [hlt];exact ak (c8 (.le aq ar (.eq az (.s 1 1) (.eq (.s 0 1) az .o))) τ h (aa (cW (.le (.k 1) aq (.qe aq (.s 1 1) .o)) τ h))) (c8 (.le aq ar (.qe az (.s 0 1) (.le az (.s 1 1) .o))) τ h bZ))).trans ?_
  rw [bX,bK]
  refine f8 _ ?_
  skip
  exact o7 _ _ hlt
theorem yL {α:Type} (next:Nat→Nat) (xs:Array α):(ow next xs).toList.Perm xs.toList:=by
 have:=xq next xs.size 0 xs.toList #[] (by simp)
 simpa [ow] using this
section
variable {prog:aV} {w:aP} {A:aS} {s:am} {E:ag→am→Prop} {a I:aH} {es:Array (Int×ag)} {ep:Nat} {t:bH} {ks:List Int}
theorem nu {first:ag} {i n:Nat} (hI:s.heap.get? I=some (o9 first i a n ep)):s.TypeIs (.ref I) "set_iterator" :=⟨_,hI,rfl⟩
theorem sm {first:ag} {i n:Nat} {Q:ag→am→Prop} (hI:s.heap.get? I=some (o9 first i a n ep)) (q:Q (.ref I) s):aF (aB prog w) A (pyIter (.ref I)) Q E s:=by
 refine qo (nu hI) oF (db oF (nu hI) rS ?_ (sO _))
 skip
 exact ao ⟨_,rfl, "set_iterator",_,nu hI,gj.lookup,q⟩
theorem j4 {first:ag} {i n:Nat} {Q:Option ag→am→Prop} (hI:s.heap.get? I=some (o9 first i a n ep)) (ho:s.heap.get? a=some (iT es ep t)) (hf:t.fits es.size=true) (hn:n=es.size)
  (h:aF (aB prog w) A.in1 (if let .int slot _:=first then do
    match ←setNext a slot.toNat i ep with
    | some (x,next)=>
     setField (.ref I) 0 (dy next)
     setField (.ref I) 1 (dy ((i:Int)+1))
     ret x
    | none=>setField (.ref I) 2 .none;raiseNew (←newExc (.type "StopIteration") [])
   else do
    let some places ←seqItems? first|unsupported "internal:set_iterator"
    match places[i]? with
    | some (.int place _)=>
     let x ←setNextDrawn a place.toNat ep
     setField (.ref I) 1 (dy ((i:Int)+1))
     ret x
    | some _=>unsupported "internal:set_iterator"
    | none=>setField (.ref I) 0 (dy 0);setField (.ref I) 2 .none;raiseNew (←newExc (.type "StopIteration") []))
   (fun fin s'=>∃r,fin=.done (.ret r)∧Q (some r) s') (fun e s'=>aF (aB prog w) A (jt e (.type "StopIteration")) (fun b s''=>b=true∧Q none s'') E s') s):aF (aB prog w) A (pyNext (.ref I)) Q E s:=by
 unfold pyNext
 refine ae (jY (eQ (name:=cL "__next__") (nu hI) gj (db gj (nu hI) l4 ?_ (nN _))))
 refine ae (ao ?_)
 refine ae (wpAny_fieldsOf hI rfl ?_)
 skip
 refine ae (wpAny_setEntries_of ho rfl hf ?_)
 subst hn
 rw [if_neg (by simp)]
 skip
 refine aL h (fun fin s' q=>?_) fun e s' q=>?_
 ·obtain ⟨r,rfl,q⟩:=q
  exact ⟨r,rfl,ao q⟩
 ·refine ae (aL q (fun b s'' q=>?_) fun O O z=>z)
  obtain ⟨rfl,q⟩:=q
  exact ao q
theorem n5 {h:ay} {o:cA} {vs:Array ag} (hI:h.get? I=some { cls:=.type "set_iterator",data:=.fields vs}) (j:Nat) (v:ag) :
  (h.update I (i8 (·.setIfInBounds j v))).get? I=some { cls:=.type "set_iterator",data:=.fields (vs.setIfInBounds j v)}:=
 fw _ hI (cA.isFreed_of_fields (cA.data_mapFields rfl _))
theorem uu {Q:Option ag→am→Prop} (hh:A.handled=none) (q:∀h' tk,(∀b o,s.heap.get? b=some o→h'.get? b=some o)→Q none (sh s h' tk)) :
  aF (aB prog w) A.in1 (do raiseNew (←newExc (.type "StopIteration") []):mw Fin)
   (fun fin s'=>∃r,fin=.done (.ret r)∧Q (some r) s') (fun e s'=>aF (aB prog w) A (jt e (.type "StopIteration")) (fun b s''=>b=true∧Q none s'') E s') s:=by
 refine ae ?_
 skip
 refine ae (dq ?_ (by size_fits))
 refine ae (m:=firstArgMember _ _) (iR (a:=kc) (by first|rfl|(simp only [firstArgMember];rfl)) ?_)
 refine dq ?_ (by size_fits)
 dsimp only
 refine ae (wpAny_handled ?_)
 rw [show A.in1.handled=none from hh]
 refine ae (ao (wpAny_throw ?_))
 refine wpAny_isInstance (T:= "StopIteration") (b:=true) ⟨_,bG _ rfl,rfl⟩ isSubtype_stop ?_
 exact ⟨rfl,q _ _ fun b o e=>bo _ (bo _ e)⟩
theorem oz {slot given:Nat} {Q:Option (ag×Nat)→am→Prop} (hb:uK w=false) (hpl:t.plain=true∨es.size≤1) (ho:s.heap.get? a=some (iT es ep t)) (hf:t.fits es.size=true) (hl:t.led=true)
  (q:Q (match es[c4 t.place slot]?,t.place[c4 t.place slot]? with|some (_,x),some j=>some (x,j+1)|_,_=>none) s):aF (aB prog w) A (setNext a slot given ep) Q E s:=by
 skip
 refine ae (jl ho rfl hf (ae (ae (eP (ao ?_)))))
 dsimp only
 rw [show (aB prog w).w.params.followText "set-order" = false from hb]
 simp only [bv,if_false]
 split
 ·rename_i hd
  have hd:(!t.plain && decide (es.size>1))=true:=hd
  rcases hpl with h|h
  ·rw [h] at hd;cases hd
  ·rw [show decide (es.size>1)=false by simp;exact h,mC] at hd;cases hd
 ·show aF _ _ ((if !t.led && !es.isEmpty then unsupported "set:maker-not-led" else cJ ()) >>= _) _ _ _
  refine hl.symm▸?_
  exact ae (ao (ao q))
theorem pU {slot given:Nat} {Q:Option (ag×Nat)→am→Prop} (hb:uK w=true) (ho:s.heap.get? a=some (iT es ep t)) (hf:t.fits es.size=true)
  (q:Q (((ow (w.params.setOrder a ep) es)[given]?).map fun e=>(e.2,slot)) s):aF (aB prog w) A (setNext a slot given ep) Q E s:=by
 skip
 refine ae (jl ho rfl hf (ae (ae (eP (ao ?_)))))
 dsimp only
 rw [show (aB prog w).w.params.followText "set-order" = true from hb]
 simp only [if_true]
 rw [if_neg (by simp)]
 skip
 refine ae (ae (jl ho rfl hf (ae (ae (eP (ao ?_))))))
 refine (cB (show (aB prog w).w.params.followText "set-order" = true from hb))▸?_
 skip
 exact ae (eP (ao (ao q)))
end
noncomputable def sn (t:bH) (i:Nat):Nat:=if i=0 then 0 else t.place.getD (i-1) 0+1
noncomputable def w0 (ks:List Int) (i:Nat) (v:ag):Prop:=g8 fun k u=>ks[i]? = some k∧v=.int k u
theorem rV {t:bH} {n:Nat} (h:t.fits n=true):t.place.size=n:=by
 simp only [bH.fits,g7,beq_iff_eq] at h;exact h.1
theorem sp {t:bH} {i:Nat} (h:qu t.place) (hi:i≤t.place.size):c4 t.place (sn t i)=i:=by
 unfold sn
 cases i with
 | zero=>rw [if_pos rfl];exact wc h
 | succ i=>
  skip
  have hi':i<t.place.size:=by exact hi
  have:t.place.getD (i+1-1) 0=t.place[i]:=by simp [Array.getD,hi']
  rw [this];exact wb h hi'
section
variable {prog:aV} {w:aP} {A:aS} {s:am} {E:ag→am→Prop} {a I:aH} {es:Array (Int×ag)} {ep:Nat} {t:bH} {ks:List Int}
theorem nZ {h h':ay} (hs:cq I h h'):∀b o,b∉[I]→h.get? b=some o→h'.get? b=some o:=fun b o hb e=>(hs.2 b (by simpa using hb)).trans e
theorem wY (hh:A.handled=none) (hne:a≠I) (hS:iL w es t ks) (hb:uK w=false) (hpl:t.plain=true∨es.size≤1) :
  ql prog w A I [I,a] [I] ks.length (w0 ks) (fun i h=>i≤ks.length∧h.get? I=some (o9 (.int (sn t i) 0) i a ks.length ep)∧h.get? a=some (iT es ep t)) where
 sub:=fun b hb=>by simp at hb;simp [hb]
 frame:=fun i h h' st hk=>⟨st.1,hk I (.head _) _ st.2.1,hk a (.tail _ (.head _)) _ st.2.2⟩
 self:=fun i s Q E st q=>sm st.2.1 q
 item:=fun i s Q E hi st q=>by
  obtain ⟨hle,hI,ho⟩:=st
  have hsz:=hS.size
  have hpz:=rV hS.fits
  have hsl:=sp hS.ok.rise (show i≤t.place.size by exact cR (.le aq ar (.lt aq az (.qe aI az (.qe ar aI .o)))) τ hi hsz hpz)
  have hi1:i<es.size:=by exact av hi (aA (cB hsz))
  have hi2:i<t.place.size:=by exact av hi1 (aA (cB hpz))
  obtain ⟨k,hk,u,he⟩:=hS.els.get i es[i] (by simp [hi1])
  refine j4 hI ho hS.fits hsz.symm ?_
  skip
  refine ae (oz hb hpl ho hS.fits (hS.ok.led hb) ?_)
  rw [fB,hsl,gr hi1,gr hi2,he]
  dsimp only
  refine ae (fh hI rfl (by simp) ?_)
  have hI1:=n5 (o:=o9 .none 0 a 0 0) hI 0 (dy ((t.place[i]+1:Nat):Int))
  refine ae (fh (s:={ s with heap:=_}) hI1 rfl (by simp) ?_)
  have hI2:=n5 (o:=o9 .none 0 a 0 0) hI1 1 (dy ((i:Int)+1))
  have hsb:=(cj s.heap I (i8 (·.setIfInBounds 0 (dy ((t.place[i]+1:Nat):Int))))).trans (cj _ I (i8 (·.setIfInBounds 1 (dy ((i:Int)+1)))))
  refine ao ⟨_,rfl,q _ _ s.toks ⟨k,u,hk,rfl⟩ ⟨hi,?_,(hsb.2 a hne).trans ho⟩ (nZ hsb)⟩
  rw [hI2]
  have hsn:sn t (i+1)=t.place[i]+1:=by
   unfold sn
   skip
   simp [Array.getD,hi2]
  rw [hsn]
  simp [dy]
 done:=fun s Q E st q=>by
  obtain ⟨hle,hI,ho⟩:=st
  have hsz:=hS.size
  have hpz:=rV hS.fits
  have hsl:=sp hS.ok.rise (show ks.length≤t.place.size by exact aj (aA (cB hsz)) (aA (cB hpz)))
  refine j4 hI ho hS.fits hsz.symm ?_
  skip
  refine ae (oz hb hpl ho hS.fits (hS.ok.led hb) ?_)
  rw [fB,hsl,Array.getElem?_eq_none (by exact (aA hsz))]
  dsimp only
  refine ae (fh hI rfl (by simp) ?_)
  refine uu hh fun h' tk hk=>q h' tk fun b o hb e=>hk b o (nZ (cj ..) b o hb e)
theorem y8 (hh:A.handled=none) (hne:a≠I) (hf:t.fits es.size=true) (hb:uK w=true) {ks':List Int} (hA:dL El (ow (w.params.setOrder a ep) es).toList ks') (hsz:es.size=ks'.length) :
  ql prog w A I [I,a] [I] ks'.length (w0 ks') (fun i h=>h.get? I=some (o9 (.int 0 0) i a ks'.length ep)∧h.get? a=some (iT es ep t)) where
 sub:=fun b hb=>by simp at hb;simp [hb]
 frame:=fun i h h' st hk=>⟨hk I (.head _) _ st.1,hk a (.tail _ (.head _)) _ st.2⟩
 self:=fun i s Q E st q=>sm st.1 q
 item:=fun i s Q E hi st q=>by
  obtain ⟨hI,ho⟩:=st
  obtain ⟨k,hk⟩:∃k,ks'[i]? = some k:=⟨_,aW hi⟩
  obtain ⟨e,he,u,rfl⟩:=hA.get' i k hk
  rw [cy] at he
  refine j4 hI ho hf hsz.symm ?_
  skip
  refine ae (pU hb ho hf ?_)
  rw [he]
  dsimp only [Option.map]
  refine ae (fh hI rfl (by simp) ?_)
  have hI1:=n5 (o:=o9 .none 0 a 0 0) hI 0 (dy ((0:Nat):Int))
  refine ae (fh (s:={ s with heap:=_}) hI1 rfl (by simp) ?_)
  have hI2:=n5 (o:=o9 .none 0 a 0 0) hI1 1 (dy ((i:Int)+1))
  have hsb:=(cj s.heap I (i8 (·.setIfInBounds 0 (dy ((0:Nat):Int))))).trans (cj _ I (i8 (·.setIfInBounds 1 (dy ((i:Int)+1)))))
  refine ao ⟨_,rfl,q _ _ s.toks ⟨k,u,hk,rfl⟩ ⟨?_,(hsb.2 a hne).trans ho⟩ (nZ hsb)⟩
  exact hI2.trans rfl
 done:=fun s Q E st q=>by
  obtain ⟨hI,ho⟩:=st
  have hl:(ow (w.params.setOrder a ep) es).size=ks'.length:=by have:=hA.length;rwa [aJ] at this
  refine j4 hI ho hf hsz.symm ?_
  skip
  refine ae (pU hb ho hf ?_)
  rw [Array.getElem?_eq_none (by exact (aA hl))]
  dsimp only [Option.map]
  refine ae (fh hI rfl (by simp) ?_)
  refine uu hh fun h' tk hk=>q h' tk fun b o hb e=>hk b o (nZ (cj ..) b o hb e)
noncomputable abbrev AV (ns:List Nat):cA:={ cls:=.type "tuple",data:=.seq (ns.map fun (i:Nat)=>dy (i:Int)).toArray}
theorem wX (hh:A.handled=none) {T:aH} (hne:a≠I) (hTI:T≠I) (hf:t.fits es.size=true) {ns:List Nat} {ks':List Int} (hA:dL (fun j k=>∃e,es[j]? = some e∧El e k) ns ks') (hsz:es.size=ks'.length) :
  ql prog w A I [I,a,T] [I] ks'.length (w0 ks') (fun i h=>h.get? I=some (o9 (.ref T) i a ks'.length ep)∧h.get? a=some (iT es ep t)∧h.get? T=some (AV ns)) where
 sub:=fun b hb=>by simp at hb;simp [hb]
 frame:=fun i h h' st hk=>⟨hk I (.head _) _ st.1,hk a (.tail _ (.head _)) _ st.2.1,hk T (by simp) _ st.2.2⟩
 self:=fun i s Q E st q=>sm st.1 q
 item:=fun i s Q E hi st q=>by
  obtain ⟨hI,ho,hT⟩:=st
  obtain ⟨k,hk⟩:∃k,ks'[i]? = some k:=⟨_,aW hi⟩
  obtain ⟨j,hj,e,he,u,rfl⟩:=hA.get' i k hk
  refine j4 hI ho hf hsz.symm ?_
  skip
  refine ae (fH hT rfl ?_)
  dsimp only
  rw [show (ns.map fun (i:Nat)=>dy (i:Int)).toArray[i]? = some (dy (j:Int)) by simp [hj]]
  simp only [dy]
  skip
  refine ae (ae (jl ho rfl hf ?_))
  dsimp only
  rw [if_neg (by simp),fB,he]
  refine ao ?_
  refine ae (fh hI rfl (by simp) ?_)
  have hI2:=n5 (o:=o9 .none 0 a 0 0) hI 1 (gu ((i:Int)+1) 0)
  have hsb:=cj s.heap I (i8 (·.setIfInBounds 1 (gu ((i:Int)+1) 0)))
  refine ao ⟨_,rfl,q _ _ s.toks ⟨k,u,hk,rfl⟩ ⟨?_,(hsb.2 a hne).trans ho,(hsb.2 T hTI).trans hT⟩ (nZ hsb)⟩
  exact hI2.trans rfl
 done:=fun s Q E st q=>by
  obtain ⟨hI,ho,hT⟩:=st
  have hl:=hA.length
  refine j4 hI ho hf hsz.symm ?_
  skip
  refine ae (fH hT rfl ?_)
  dsimp only
  rw [show (ns.map fun (i:Nat)=>dy (i:Int)).toArray[ks'.length]? = none by simp [hl]]
  dsimp only
  refine ae (fh hI rfl (by simp) ?_)
  have hI1:=n5 (o:=o9 .none 0 a 0 0) hI 0 (dy 0)
  refine ae (fh (s:={ s with heap:=_}) hI1 rfl (by simp) ?_)
  have hsb:=(cj s.heap I (i8 (·.setIfInBounds 0 (dy 0)))).trans (cj _ I (i8 (·.setIfInBounds 2 .none)))
  refine uu hh fun h' tk hk=>q h' tk fun b o hb e=>hk b o (nZ hsb b o hb e)
theorem yd {n:Nat} {Q:Nat→am→Prop} (hn:n≠0) (q:∀i dr,i<n→Q i { s with drawn:=dr}):aF (aB prog w) A (choose .order n) Q E s:=fun Γ p hΓ=>by
 skip
 skip
 exact ⟨hn,q _ _ (Nat.mod_lt _ (iw hn))⟩
theorem xb {α:Type}:∀(n:Nat) (xs:List α) (s:am) (Q:List α→am→Prop),xs.length=n→(∀ys dr,ys.Perm xs→Q ys { s with drawn:=dr})→aF (aB prog w) A (drawOrder n xs) Q E s
 | 0,xs,s,Q,h,q=>by
  obtain rfl:=oT.mp h
  skip
  exact ao (q [] s.drawn .nil)
 | n+1,[],s,Q,h,q=>by cases h
 | n+1,x::xs,s,Q,h,q=>by
  skip
  refine ae (yd (by simp) fun i dr hi=>?_)
  rw [aW hi]
  dsimp only
  refine ae (xb n _ { s with drawn:=dr} _ (by rw [List.length_eraseIdx,if_pos hi];simp at h ⊢;assumption) fun ys dr' hp=>ao ?_)
  exact q _ dr' ((hp.cons _).trans (o7 _ _ hi))
theorem z5 {Q:ag→am→Prop} (hh:A.handled=none) (ho:s.heap.get? a=some (iT es ep t)) (hS:iL w es t ks)
  (q:∀h' I ks' fp S dr,ba [] s.heap h'→s.heap.get? I=none→ks'.Perm ks→ql prog w A I fp [I] ks'.length (w0 ks') S→S 0 h'→(∀b∈fp,b=a∨s.heap.get? b=none)→
   (∀i h,S i h→∀o,h.get? I=some o→cz o=false)→Q (.ref I) { s with heap:=h',drawn:=dr}):aF (aB prog w) A (pyIter (.ref a)) Q E s:=by
 have hsz:=hS.size
 refine qo ⟨_,ho,rfl⟩ PySem.F.slot_set_iter (db PySem.F.slot_set_iter ⟨_,ho,rfl⟩ o6 ?_ (PySem.F.args_set_iter_1 _))
 unfold cc.«frozenset.__iter__» cc.Frozenset.slot0
 simp only [List.isEmpty_nil,Bool.not_true,bv,↓reduceIte,bind_assoc,qg,bne_self_eq_false]
 skip
 refine ae (ao ?_)
 try dsimp only
 refine ae (ao ?_)
 refine ae (ae (wpAny_setEntries_of ho rfl hS.fits (ao ?_)))
 skip
 refine ae (ae (jl ho rfl hS.fits (ae (ae (eP (ao (ao ?_)))))))
 skip
 have hplain:∀(first:ag) (i n:Nat),cz (o9 first i a n ep)=false:=fun O O O=>rfl
 have hfr:∀{b:aH} {h':ay},ba [] s.heap h'→h'.get? b=none→s.heap.get? b=none:=fun k n=>dh k n
 split
 ·rename_i hd
  refine ae (xb es.size _ s _ (by simp) fun ns dr hp=>?_)
  skip
  have hnl:ns.length=es.size:=by rw [hp.length_eq];simp
  refine ae (dq ?_ (by show (ns.map fun (i:Nat)=>dy (i:Int)).toArray.size≤fc;rw [ew];have:=hS.small;simp;exact c8 (.le aq (.k 16777216) (.eq ar az (.eq aq ar (.lt az (.k 4000) .o)))) τ hsz hnl this))
  have hT:=iK.push s.heap (AV ns)
  refine ae (wpAny_setEpoch_of (hT.kept.get ho) rfl hS.fits ?_)
  skip
  refine ae (dq (ao ⟨_,rfl, "set_iterator",_,⟨_,bG _ rfl,rfl⟩,gj.lookup,?_⟩))
  have hI:=iK.push (s.heap.push (AV ns)) (o9 (.ref s.heap.objs.size) 0 a es.size ep)
  have hA:∃ks',ks'.Perm ks∧dL (fun j k=>∃e,es[j]? = some e∧El e k) ns ks':=by
   have h0:dL (fun j k=>∃e,es[j]? = some e∧El e k) (bO es.size) ks:=by
    have h1:∀(l:List (Int×ag)) (ms:List Int) (c:Nat),(∀j e,l[j]? = some e→es[c+j]? = some e)→dL El l ms→dL (fun j k=>∃e,es[j]? = some e∧El e k) ((bO l.length).map (c + ·)) ms:=by
     intro l
     induction l with
     | nil=>intro ms c hc h;cases h;exact .nil
     | cons e l ih=>
      intro ms c hc h
      cases h with
      | cons h1 h2=>
       rw [cS,pH,ft,List.map_map]
       refine .cons ⟨e,hc 0 e rfl,h1⟩ ?_
       have:=ih _ (c+1) (fun j e' he=>by rw [show c+1+j=c+(j+1) by lia];exact hc (j+1) e' he) h2
       rw [show ((fun x=>c+x)∘Nat.succ)=fun x=>c+1+x by funext x;simp;lia]
       exact this
    have:=h1 es.toList ks 0 (fun j e he=>by rw [cY,←cy];exact he) hS.els
    simpa using this
   exact h0.perm hp
  obtain ⟨ks',hp',hA⟩:=hA
  have hl':=hp'.length_eq
  have hTI:s.heap.objs.size≠(s.heap.push (AV ns)).objs.size:=qn hT.yes hI.no
  have haI:a≠(s.heap.push (AV ns)).objs.size:=qn (hT.kept.get ho) hI.no
  refine q _ _ ks' _ _ dr (hT.kept.trans hI.kept) (dh hT.kept hI.no) hp' (wX (ep:=ep) (t:=t) hh haI hTI hS.fits hA (by exact ak (aj (aA hsz) (aA (cB hl'))) (aj (aA hl') (aA (cB hsz))))) ⟨?_,hI.kept.get (hT.kept.get ho),hI.kept.get hT.yes⟩ (lv (.inr (dh hT.kept hI.no)) (.inl rfl) (.inr hT.no)) (fun i h st o ho=>by rw [st.1] at ho;cases ho;rfl)
  rw [hl',←hsz];exact hI.yes
 ·rename_i hd
  refine ae (ao (ae (wpAny_setEpoch_of ho rfl hS.fits ?_)))
  skip
  refine ae (dq (ao ⟨_,rfl, "set_iterator",_,⟨_,bG _ rfl,rfl⟩,gj.lookup,?_⟩))
  have hI:=iK.push s.heap (o9 (.int 0 0) 0 a es.size ep)
  have haI:a≠s.heap.objs.size:=qn ho hI.no
  cases hb:uK w with
  | true=>
   obtain ⟨ks',hp',hA⟩:=hS.els.perm (yL (w.params.setOrder a ep) es)
   have hl':=hp'.length_eq
   refine q _ _ ks' _ _ s.drawn hI.kept hI.no hp' (y8 (ep:=ep) (t:=t) hh haI hS.fits hb hA (by exact ak (aj (aA hsz) (aA (cB hl'))) (aj (aA hl') (aA (cB hsz))))) ⟨?_,hI.kept.get ho⟩ (fv (.inr hI.no) (.inl rfl)) (fun i h st o ho=>by rw [st.1] at ho;cases ho;rfl)
   rw [hl',←hsz];exact hI.yes
  | false=>
   have hd:¬((!(aB prog w).w.params.followText "set-order" && (!t.plain && decide (es.size>1)))=true):=hd
   rw [show (aB prog w).w.params.followText "set-order" = false from hb] at hd
   have hpl:t.plain=true∨es.size≤1:=by
    cases hp:t.plain with
    | true=>exact .inl rfl
    | false=>right;rw [hp] at hd;simp at hd;exact hd
   refine q _ _ ks _ _ s.drawn hI.kept hI.no (.refl _) (wY (ep:=ep) (t:=t) hh haI hS hb hpl) ⟨aX _,?_,hI.kept.get ho⟩ (fv (.inr hI.no) (.inl rfl)) (fun i h st o ho=>by rw [st.2.1] at ho;cases ho;rfl)
   rw [←hsz];exact hI.yes
end
end SI
noncomputable abbrev DI (w:aP) (o:cA) (kvs:List (Int×ag)):Prop:=o.IsDictOf (eu PQ w) kvs
noncomputable abbrev oq:cA:={ cls:=.type "dict",data:=.dict #[]}
theorem DI.nil (w:aP):DI w oq []:=⟨#[],0,⟨rfl,rfl,rfl⟩,rfl,fun e he=>by simp at he,.nil,i5⟩
theorem DI.at {w:aP} {o:cA} {kvs:List (Int×ag)} {h:ay} {a:aH} (d:DI w o kvs) (ho:h.get? a=some o):h.DictOf (eu PQ w) a kvs:=sI.mpr ⟨o,ho,d⟩
theorem DI.cls {w:aP} {o:cA} {kvs:List (Int×ag)} (d:DI w o kvs):o.cls=.type "dict" ∧o.dict=none:=by obtain ⟨_,_,c,_⟩:=d;exact ⟨c.1,c.2.1⟩
theorem DI.plain {w:aP} {o:cA} {kvs:List (Int×ag)} (d:DI w o kvs):cz o=true:=by obtain ⟨es,ep,_,e,_⟩:=d;unfold cz;rw [e]
section
variable {prog:aV} {w:aP} {A:aS} {s:am} {e:gy} {h g:ay} {m ma:List (bU×ag)} {c:List (aH×cA)} {E:ag→am→Prop} {a:aH} {o:cA} {name:bU} {v:ag} {D:List aH}
theorem Ed.methB {xn:bU} {p ap pos:dJ} {T id:String} {ex:au} {rest:List au} {P:List ag→ay→Prop} {R:ag→ay→Prop} (N:Ev prog w A e h (.Name xn p) (· = .ref a)) (ho:h.get? a=some o) (hc:o.cls=.type T) (hd:o.dict=none)
  (pa:PlainAttrs T) (slot:Slot T name id) (hty:mh (.builtin id)=cJ (.type "method_descriptor")) (H:Es prog w A e h (ex::rest) P) (K:∀vs h1,ba [] h h1→P vs h1→Cd prog w A h1 D (.builtin id) (.ref a::vs) R)
  {pl:mw Bool} (he:autoParam (cO (.Call (.Attribute (.Name xn p) name ap) (ex::rest) [] pos) e=(do
   let ov ←cO (.Name xn p) e
   fe ap.atName
   let (f,first) ←gf [ov] (gx ov name pl)
   g9 pos f first (gK pos (aE (ex::rest) e)) [])) rfA) (hst:autoParam (aE (ex::rest) e=(false,cO ex e)::aE rest e) rfA) (hp:autoParam ((gK pos (aE rest e)).any (·.1)=false) rfA) :
  Ed prog w A e h D (.Call (.Attribute (.Name xn p) name ap) (ex::rest) [] pos) R:=fun s Q E hsh k=>by
 subst hsh
 refine jo (N s _ _ rfl fun ov tk hov=>?_) he
 subst hov
 refine getMethod_builtin (s:={ s with toks:=tk}) ⟨o,ho,hc⟩ pa slot hty (fun b q=>by injection q with q;subst q;exact ⟨o,ho,hd⟩) ?_
 refine callWith_method1 (H pos { s with toks:=tk} _ _ rfl fun vs h1 tk1 k1 hp=>?_) hst hp
 exact K vs h1 k1 hp (sh s h1 tk1) _ _ rfl fun v h2 tk2 k2 hr=>k v h2 tk2 ((k1.mono (by simp)).trans k2) hr
theorem Ed.methB0 {xn:bU} {p ap pos:dJ} {T id:String} {R:ag→ay→Prop} (N:Ev prog w A e h (.Name xn p) (· = .ref a)) (ho:h.get? a=some o) (hc:o.cls=.type T) (hd:o.dict=none)
  (pa:PlainAttrs T) (slot:Slot T name id) (hty:mh (.builtin id)=cJ (.type "method_descriptor")) (K:Cd prog w A h D (.builtin id) [.ref a] R)
  {pl:mw Bool} (he:autoParam (cO (.Call (.Attribute (.Name xn p) name ap) [] [] pos) e=(do
   let ov ←cO (.Name xn p) e
   fe ap.atName
   let (f,first) ←gf [ov] (gx ov name pl)
   g9 pos f first (gK pos (aE [] e)) [])) rfA) :
  Ed prog w A e h D (.Call (.Attribute (.Name xn p) name ap) [] [] pos) R:=fun s Q E hsh k=>by
 subst hsh
 refine jo (N s _ _ rfl fun ov tk hov=>?_) he
 subst hov
 refine getMethod_builtin (s:={ s with toks:=tk}) ⟨o,ho,hc⟩ pa slot hty (fun b q=>by injection q with q;subst q;exact ⟨o,ho,hd⟩) ?_
 refine callWith_method0 ?_
 exact K { s with toks:=tk} _ _ rfl fun v h2 tk2 k2 hr=>k v h2 tk2 k2 hr
theorem wO {x:bU} {px pos:dJ} {ex:au} {P:ag→ay→Prop} {Q:dW→am→Prop} (H:Ed prog w A e s.heap D ex P)
  (k:∀v h1 tk,ba D s.heap h1→P v h1→aF (aB prog w) A (rv e x v) (fun O=>Q .next) E (sh s h1 tk))
  (hs:autoParam (jc ex (some (.Name x px)) pos.line e=cJ false) rfA):aF (aB prog w) A (fA (.Assign [.Name x px] ex pos) e) Q E s:=
 wpAny_Assign_Name (H s _ _ rfl fun v h1 tk k1 hv=>k v h1 tk k1 hv) hs
end
section
variable {w:aP} {A:aS} {s:am} {e:gy} {h g:ay} {d:aH} {o:cA} {kvs:List (Int×ag)} {k:Int} {u:jR}
theorem mZ (k:Int) (u:jR):(eu PQ w).is k (.int k u)=true:=by simp [eu,ag.isInt]
theorem sQ {dflt:ag} (ho:h.get? d=some o) (hD:DI w o kvs) (hl:kvs.length≤2^20) (hs:(d==dF)=false) :
  Cd PQ w A h [d] (.builtin "dict.setdefault") [.ref d,.int k u,dflt] (fun v h'=>(∃v0,jn (dG kvs k=some v0) (v=v0) (h'=h))∨(dG kvs k=none∧v=dflt∧∃o',h'.get? d=some o'∧DI w o' (stored kvs k dflt))):=fun s Q E hs' kk=>by
 subst hs'
 refine call_meetsIn PySem.F.slot_dict_setdefault ⟨o,ho,hD.cls.1⟩ PySem.F.entry_dict_setdefault (PySem.F.args_dict_setdefault_3 _ _ _) (kt_meets_setdefault (eu PQ w) d (mZ k u) hs dflt) ⟨kvs,hD.at ho,CW hl,fun v hv=>?_,fun hn h' hD' hsb=>?_⟩
 ·exact kk v s.heap _ (.refl _ _) (.inl ⟨v,hv,rfl,rfl⟩)
 ·obtain ⟨o',ho',hd'⟩:=sI.mp hD'
  exact kk _ h' _ (.same hsb) (.inr ⟨hn,rfl,o',ho',hd'⟩)
theorem D0 {dflt:ag} (ho:h.get? d=some o) (hD:DI w o kvs) (hs:(d==dF)=false) :
  Cd PQ w A h [] (.builtin "dict.get") [.ref d,.int k u,dflt] (fun v h'=>h'=h∧v=(dG kvs k).getD dflt):=fun s Q E hs' kk=>by
 subst hs'
 exact call_meetsIn kz ⟨o,ho,hD.cls.1⟩ PySem.F.entry_dict_get (PySem.F.args_dict_get_3 _ _ _) (meets_dict_get_default (eu PQ w) d (mZ k u) hs dflt) ⟨_,(hD.at ho).mapOf,kk _ _ _ (.refl _ _) ⟨rfl,rfl⟩⟩
theorem zC (ho:h.get? d=some o) (hD:DI w o kvs) (hs:(d==dF)=false) :
  Cd PQ w A h [] (.builtin "dict.items") [.ref d] (fun v h'=>∃r,v=.ref r∧iK h h' r { cls:=.type "dict_items",data:=.fields #[.ref d]}):=fun s Q E hs' kk=>by
 subst hs'
 exact call_meetsIn PySem.F.slot_dict_items ⟨o,ho,hD.cls.1⟩ PySem.F.entry_dict_items (PySem.F.args_dict_items_1 _) (meets_dict_items (eu PQ w) d hs) ⟨⟨kvs,hD.at ho⟩,kk _ _ s.toks (.push _ _ _) ⟨_,rfl,iK.push _ _⟩⟩
theorem zG {Q:Unit→am→Prop} {E:ag→am→Prop} (ho:s.heap.get? d=some o) (hD:DI w o kvs) (hl:kvs.length≤2^20) (ht:(dG kvs k).isSome=true)
  (q:∀h' o' tk,ba [d] s.heap h'→h'.get? d=some o'→DI w o' (without kvs k)→Q () (sh s h' tk)):aF (aB PQ w) A (delItem (.ref d) (.int k u)) Q E s:=by
 have hT:=(hD.at ho).typeIs
 unfold delItem
 try with_reducible refine bM ?_
 refine ae (wpAny_sequenceKey hT (by decide) ?_)
 refine ae (eQ (name:=cL "__delitem__") hT PySem.F.slot_dict_delitem
  (call_meetsIn PySem.F.slot_dict_delitem hT PySem.F.entry_dict_delitem (PySem.F.args_dict_delitem_2 _ _) (meets_dict_delitem_pairs (eu PQ w) d (mZ k u)) ⟨kvs,hD.at ho,CW hl,ht,fun h' hmm hsb=>?_⟩))
 obtain ⟨o',ho',hd'⟩:=sI.mp hmm
 exact ao (q h' o' _ (.same hsb) ho' hd')
theorem AO {v:ag} {Q:Unit→am→Prop} {E:ag→am→Prop} (ho:s.heap.get? d=some o) (hD:DI w o kvs) (hl:kvs.length≤2^20)
  (q:∀h' o' tk,ba [d] s.heap h'→h'.get? d=some o'→DI w o' (stored kvs k v)→Q () (sh s h' tk)):aF (aB PQ w) A (setItem (.ref d) (.int k u) v) Q E s:=
 wpAny_setItem_pairs (mZ k u) (hD.at ho) (fun h' hmm hsb=>by
  obtain ⟨o',ho',hd'⟩:=sI.mp hmm
  exact q h' o' _ (.same hsb) ho' hd') (CW hl)
end
section
variable {prog:aV} {w:aP} {A:aS} {E:ag→am→Prop} {s:am}
theorem uM {Q₁:ag→am→Prop} (h:∀h' r,iK s.heap h' r (SI.iT #[] 0 (.fresh 0 0 (!SI.uK w)))→SI.iS w h' r []→Q₁ (.ref r) { s with heap:=h'}) :
  hW (aB prog w) A (.call (.builtin "set.__new__") ⟨[.type "set"],[]⟩) (wants Q₁ E) s:=by
 refine mU ?_
 show aF _ A.in1 (do checkBuiltinCall "set.__new__" ⟨[.type "set"],[]⟩;again (.builtin "set.__new__" ⟨[.type "set"],[]⟩)) _ _ s
 refine ae (iR PySem.F.newCall_set_0 (ao ⟨plainId_quiet PySem.F.plain_set_new _,mT PySem.F.entry_set_new ?_⟩))
 skip
 delta cc.«set.__new__» cc.Frozenset.newClass
 have hsub:=sub_set_self
 obtain ⟨hp,g,d,tk,os⟩:=s
 dsimp only
 wp_walk
 refine eP (ao ?_)
 dsimp only
 skip
 refine ae (wpAny_alloc (ao ?_))
 have hN:=iK.push hp (SI.iT #[] 0 (.fresh 0 0 (!SI.uK w)))
 exact ao (h _ _ hN ⟨#[],0,_,hN.yes,.nil,i5,by decide,rfl,rfl,dg,fun h=>by show (!SI.uK w)=true;rw [h];rfl⟩)
set_option maxRecDepth 100000 in
theorem yb {Q:ag→am→Prop} (h:∀h' r,iK s.heap h' r (SI.iT #[] 0 (.fresh 0 0 (!SI.uK w)))→SI.iS w h' r []→Q (.ref r) { s with heap:=h'}) :
  aF (aB prog w) A (sP (.type "set") []) Q E s:=by
 obtain ⟨c,tl,hmro⟩:=fk.mro
 have hmade:=fk.made
 have hsub:=fk.sub
 refine f0 (mU ?_)
 skip
 refine ao ⟨Code.quiet_builtin _ (by decide +kernel),mT PySem.F.entry_type_call ?_⟩
 skip
 have h1:=fk.notType
 have h2:=fk.canCreate
 have hct:=PySem.F.typeCall_set_0
 repeat (any_goals (first|assumption|wp_step))
 refine codeAny_mono (uM (E:=E) (Q₁:=fun obj s₁=>g8 fun h' r=>lO (iK s.heap h' r (SI.iT #[] 0 (.fresh 0 0 (!SI.uK w)))) (SI.iS w h' r []) (obj=.ref r) (s₁={ s with heap:=h'})) fun h' r a b=>⟨h',r,a,b,rfl,rfl⟩) fun r s₁ hr=>?_
 cases r with
 | error e=>exact hr
 | ok fl=>
  cases fl with
  | ret obj=>
   obtain ⟨h',rr,hN,hI,rfl,rfl⟩:=hr
   have hS:h'.get? rr=some { cls:=.type "set",dict:=none,data:=.set #[] 0 (.fresh 0 0 (!SI.uK w))}:=hN.yes
   have hT:am.TypeIs { s with heap:=h'} (.ref rr) "set" :=⟨_,hS,rfl⟩
   have hli:=fk.init.lookup
   have hbi:=fk.init.bind (.ref rr)
   repeat (any_goals (first|assumption|wp_step))
   refine codeAny_mono (mH (R:=wants (fun r s₂=>r=.none∧Q (.ref rr) s₂) E) fk.init.plain PySem.F.entry_set_init (check_set_init hT ?_)) fun r₂ s₂ hr₂=>?_
   ·delta cc.«set.__init__» noKeywords
    wp_walk
    exact ⟨rfl,h h' rr hN hI⟩
   ·cases r₂ with
    | error e=>exact hr₂
    | ok fl₂=>
     cases fl₂ with
     | ret r=>
      obtain ⟨rfl,hq⟩:=hr₂
      repeat (any_goals (first|assumption|wp_step))
     | _=>exact hr₂.elim
  | _=>exact hr.elim
end
noncomputable def vU (F:List aH) (h h':ay):Prop:=∀b o,h.get? b=some o→cz o=false∨b∈F→h'.get? b=some o
theorem vU.of {F D:List aH} {h h':ay} (k:ba D h h') (hp:∀b∈D,∀o,h.get? b=some o→cz o=true) (hF:∀b∈F,b∉D):vU F h h':=fun b o e q=>k b o e fun z=>by
 rcases q with q|q
 ·rw [hp b z o e] at q;cases q
 ·exact hF b q z
noncomputable def uD (s:am) (F:List aH) (h:ay) (dw:Nat→ay→Prop) (Q:dW→am→Prop) (i:Nat) (f:dW) (s₃:am):Prop:=match f with
 | .next|.cont=>g8 fun h' tk=>jn (s₃=(sh s h' tk)) (vU F h h') (dw (i+1) h')
 | .brk=>Q .next s₃
 | .ret v=>Q (.ret v) s₃
theorem uD.toP {s:am} {F fp:List aH} {h:ay} {dw:Nat→ay→Prop} {Q:dW→am→Prop} {i:Nat} {f:dW} {s₃:am} (x:uD s F h dw Q i f s₃) (hf:∀b∈fp,∀o,h.get? b=some o→cz o=false∨b∈F):A7 s fp h dw Q i f s₃:=by
 cases f with
 | next=>obtain ⟨h',tk,e,c,i⟩:=x;exact ⟨h',tk,e,fun b hb o ho=>c b o ho (hf b hb o ho),i⟩
 | cont=>obtain ⟨h',tk,e,c,i⟩:=x;exact ⟨h',tk,e,fun b hb o ho=>c b o ho (hf b hb o ho),i⟩
 | brk=>exact x
 | ret v=>exact x
noncomputable def zm (h:ay) (l:aH) (v:ag) (h':ay):Prop:=g8 fun I it=>uB (v=.ref I) (IsEnum h' I it 0 .none) (h'.IsListIter it l 0) (h.get? I=none) (h.get? it=none) (I≠it)
section
variable {prog:aV} {w:aP} {A:aS} {s:am} {e:gy} {h g:ay} {m:List (bU×ag)} {c:List (aH×cA)}
theorem wi:fD pf=some (.type "enumerate"):=by decide +kernel
theorem Eg.enum {p pos:dJ} {ex:au} {l:aH} {items:Array ag} (C:Cx w h) (H:Ev prog w A e h ex (· = .ref l)) (hl:h.IsList l items) (hk:autoParam (e.scope.kind=.function) rfA) (hx:autoParam (e.kindOf pf=some .globalImplicit) rfA)
  (hg:autoParam (e.globals=cu) rfA) (hbi:autoParam (e.builtins=ej) rfA) (he:autoParam (aE [ex] e=(false,cO ex e)::aE [] e) rfA):Eg prog w A e h (.Call (.Name pf p) [ex] [] pos) (zm h l):=
 Eg.callT (Ev.bltn C (fun O=>by kernel_rfl!) wi (by decide +kernel) hk hx hg hbi) (Es.one (Ev.gg H) he) (fun vs h1 O hv=>by
  obtain ⟨v,rfl,rfl,rfl⟩:=hv
  exact fun s Q E hs k=>by
   subst hs
   refine call_enumerate_list hl fun h' he hit hsz hk=>k _ h' s.toks (fun b o q O=>hk b o q) ⟨_,_,rfl,he,hit,ay.get?_none_of_le (Nat.le_succ _),cP,Nat.succ_ne_self _⟩) he rfl
theorem wR {elts:List au} {k:Nat} {tpos pos:dJ} {iter:au} {body:List fC} {Q:dW→am→Prop} {l:aH} {items:Array ag} (hh:A.handled=none) (H:Eg prog w A e s.heap iter (zm s.heap l)) (hl:s.heap.IsList l items)
  (dw:Nat→ay→Prop) (h0:∀h',ba [] s.heap h'→dw 0 h')
  (stab:∀i h h',dw i h→(∀b o,h.get? b=some o→cz o=true∨(∃o,s.heap.get? b=some o)→h'.get? b=some o)→dw i h')
  (turn:∀i T t x h tk,i<items.size→items[i]? = some x→h.IsTuple T #[.int i t,x]→dw i h→aF (aB prog w) A (eT (.Tuple elts k tpos) e (.ref T)) (fun O s₂=>aF (aB prog w) A (eK body e) (uD s [l] h dw Q i) (fun O O=>False) s₂) (fun O O=>False) (sh s h tk))
  (done:∀h tk,dw items.size h→Q .next (sh s h tk))
  (hs:autoParam (∀x,er iter e x=cJ x) rfA):aF (aB prog w) A (fA (.For (.Tuple elts k tpos) iter body [] pos) e) Q (fun O O=>False) s:=by
 refine rx (H s _ _ rfl fun v h1 tk k1 hv=>?_) hs
 obtain ⟨I,it,rfl,he,hit,hIn,hitn,hIt⟩:=hv
 have hl1:h1.IsList l items:=by obtain ⟨o,ho,r⟩:=hl;exact ⟨o,k1.get ho,r⟩
 have hlI:l≠I:=EV hl hIn
 have hlit:l≠it:=EV hl hitn
 have W:=(WalksT.enumerate (prog:=prog) (w:=w) hh I it l hIt hlI hlit items).toU
 refine W.self 0 (sh s h1 tk) _ _ ⟨⟨_,he⟩,hit,hl1⟩ ?_
 have npI:∀{h:ay} {i:Int} {old:ag},IsEnum h I it i old→∀o,h.get? I=some o→cz o=false:=fun he o ho=>by
  have:_=_:=he
  replace ho:=this▸ho;cases ho;rfl
 have npIt:∀{h:ay} {i:Nat},h.IsListIter it l i→∀o,h.get? it=some o→cz o=false:=fun x o ho=>by
  obtain ⟨o',ho',hc,hd⟩:=x
  replace ho:=ho'▸ho;cases ho
  unfold cz;rw [hd,hc];rfl
 refine xF (s:=sh s h1 tk) W dw ⟨⟨_,he⟩,hit,hl1⟩ (h0 h1 k1) (fun i h st=>fv (fun o ho=>let ⟨old,q⟩:=st.1;npI q o ho) (fun o ho=>npIt st.2.1 o ho)) (fun b=>∃o,s.heap.get? b=some o) (fv (fun ⟨o,q⟩=>by exact nn hIn q) (fun ⟨o,q⟩=>by exact nn hitn q)) stab
  (fun i T vals h tk hi hv hT st hI=>?_) (fun h tk hI=>done h tk hI)
 obtain ⟨t,x,hx,rfl⟩:=hv
 refine aL (turn i T t x h tk hi hx hT hI) (fun O s₂ h₂=>aL h₂ (fun f s₃ h₃=>uD.toP (F:=[l]) ?_ ?_) fun O O z=>z) fun O O z=>z
 ·cases f<;>exact h₃
 ·exact lv (fun o ho=>.inl (let ⟨old,q⟩:=st.1;npI q o ho)) (fun o ho=>.inl (npIt st.2.1 o ho)) (fun o ho=>.inr (by simp))
theorem vC {elts:List au} {k:Nat} {tpos pos:dJ} {iter:au} {body:List fC} {Q:dW→am→Prop} {d:aH} {o:cA} {kvs:List (Int×ag)} (hh:A.handled=none)
  (H:Eg PQ w A e s.heap iter (fun v h'=>∃r,v=.ref r∧iK s.heap h' r { cls:=.type "dict_items",data:=.fields #[.ref d]})) (ho:s.heap.get? d=some o) (hD:DI w o kvs)
  (dw:Nat→ay→Prop) (h0:∀h',ba [] s.heap h'→dw 0 h')
  (stab:∀i h h',dw i h→(∀b o,h.get? b=some o→cz o=true∨(∃o,s.heap.get? b=some o)→h'.get? b=some o)→dw i h')
  (turn:∀i T key t v h tk,i<kvs.length→kvs[i]? = some (key,v)→h.IsTuple T #[.int key t,v]→dw i h→aF (aB PQ w) A (eT (.Tuple elts k tpos) e (.ref T)) (fun O s₂=>aF (aB PQ w) A (eK body e) (uD s [d] h dw Q i) (fun O O=>False) s₂) (fun O O=>False) (sh s h tk))
  (done:∀h tk,dw kvs.length h→Q .next (sh s h tk))
  (hs:autoParam (∀x,er iter e x=cJ x) rfA):aF (aB PQ w) A (fA (.For (.Tuple elts k tpos) iter body [] pos) e) Q (fun O O=>False) s:=by
 refine rx (H s _ _ rfl fun v h1 tk k1 hv=>?_) hs
 obtain ⟨r,rfl,hN⟩:=hv
 obtain ⟨ep,hAt⟩:=(hD.at (k1.get ho)).dictAt
 refine wpAny_pyIter_items (s:=sh s h1 tk) (knd:=eu PQ w) (kvs:=kvs) (ep:=ep) ⟨_,hN.yes,rfl,rfl⟩ hAt ?_
 have hI:=iK.push h1 { cls:=.type "dict_itemiterator",data:=.fields #[.none,.bool false,.ref d,.int 0 0,.int kvs.length 0,.int ep 0,.none,.none]}
 have hdI:d≠h1.objs.size:=qn (k1.get ho) hI.no
 have W:=y7 (prog:=PQ) (w:=w) (knd:=eu PQ w) hh h1.objs.size d hdI kvs ep
 have np:∀{h:ay} {i:Nat} {ok ov:ag},IsItemIter h h1.objs.size d i kvs.length ep ok ov→∀o,h.get? h1.objs.size=some o→cz o=false:=fun he o ho=>by
  have:_=_:=he
  replace ho:=this▸ho;cases ho;rfl
 refine xF (s:=sh s _ tk) W dw ⟨⟨_,_,hI.yes⟩,hAt.push _⟩ (h0 _ (k1.trans hI.kept)) (fun i h st=>da (fun o ho=>let ⟨⟨ok,ov,q⟩,_⟩:=st;np q o ho)) (fun b=>∃o,s.heap.get? b=some o) (da (fun ⟨o,q⟩=>by have:=k1.get q;exact nn hI.no this)) stab
  (fun i T vals h tk hi hv hT st hInv=>?_) (fun h tk hI=>done h tk hI)
 obtain ⟨key,v,kv,hx,hkey,rfl⟩:=hv
 obtain ⟨t,rfl⟩:=ag.isInt_shape hkey
 refine aL (turn i T key t v h tk hi hx hT hInv) (fun O s₂ h₂=>aL h₂ (fun f s₃ h₃=>uD.toP (F:=[d]) ?_ ?_) fun O O z=>z) fun O O z=>z
 ·cases f<;>exact h₃
 ·exact fv (fun o ho=>.inl (let ⟨⟨ok,ov,q⟩,_⟩:=st;np q o ho)) (fun o ho=>.inr (by simp))
theorem yU {x:bU} {px pos:dJ} {iter:au} {body:List fC} {Q:dW→am→Prop} {a:aH} {ks:List Int} (hh:A.handled=none) (H:Ev prog w A e s.heap iter (· = .ref a)) (hS:SI.iS w s.heap a ks)
  (dw:List Int→Nat→ay→Prop) (h0:∀ks' h',ks'.Perm ks→ba [] s.heap h'→dw ks' 0 h')
  (stab:∀ks' i h h',dw ks' i h→(∀b o,h.get? b=some o→cz o=true∨(∃o,s.heap.get? b=some o)→h'.get? b=some o)→dw ks' i h')
  (turn:∀F ks' dr i k t h tk,(∀b∈F,b=a∨s.heap.get? b=none)→ks'.Perm ks→ks'[i]? = some k→dw ks' i h→aF (aB prog w) A (rv e x (.int k t)) (fun O s₂=>aF (aB prog w) A (eK body e) (uD { s with drawn:=dr} F h (dw ks') Q i) (fun O O=>False) s₂) (fun O O=>False) (oE s h tk dr))
  (done:∀ks' dr h tk,ks'.Perm ks→dw ks' ks'.length h→Q .next (oE s h tk dr))
  (hs:autoParam (∀x,er iter e x=cJ x) rfA):aF (aB prog w) A (fA (.For (.Name x px) iter body [] pos) e) Q (fun O O=>False) s:=by
 refine rx (H s _ _ rfl fun v tk hv=>?_) hs
 subst hv
 obtain ⟨es,ep,t,q_⟩:=hS;have ho:=q_.1;have hS:=q_.2;clear q_
 refine SI.z5 (s:={ s with toks:=tk}) hh ho hS fun h1 I ks' fp S dr k1 hIn hp W hS0 hfp hnp=>?_
 refine CT (s:=oE s h1 tk dr) W (dw ks') hS0 (h0 ks' h1 hp k1) (fun i h st=>da (fun o ho=>hnp i h st o ho)) (fun b=>∃o,s.heap.get? b=some o) (da (fun ⟨o,q⟩=>by exact nn (show s.heap.get? I=none from hIn) q)) (stab ks')
  (fun i v h tk hi hv st hI=>?_) (fun h tk hI=>done ks' dr h tk hp hI)
 obtain ⟨k,u,hk,rfl⟩:=hv
 refine aL (turn fp ks' dr i k u h tk hfp hp hk hI) (fun O s₂ h₂=>aL h₂ (fun f s₃ h₃=>?_) fun O O z=>z) fun O O z=>z
 have h4:A7 (oE s h1 tk dr) fp h (dw ks') Q i f s₃:=uD.toP (F:=fp) (by cases f<;>exact h₃) fun b hb o ho'=>.inr hb
 exact h4
end
namespace C
noncomputable def one (ev:Bool) (p q:Nat×Nat):List Op:=if p=q then [] else [((if ev then .eql else if p.1=q.1 then .ins else if p.2=q.2 then .del else .rep),p.1,q.1,p.2,q.2)]
noncomputable def pq (l:List (Nat×Nat)) (k:Nat):List Op:=one (decide ((k+1) % 2=0)) (l.getD k (0,0)) (l.getD (k+1) (0,0))
theorem I5 {m:Nat}:m % 2=1↔(m+1) % 2=0:=by lia
theorem tH:∀(l pts:List (Nat×Nat)) (k:Nat) (p:Nat×Nat),pts.drop k=p::l→
  uw (decide ((k+1) % 2=0)) p l=(bO l.length).flatMap fun t=>pq pts (k+t)
 | [],pts,k,p,h=>rfl
 | q::l,pts,k,p,h=>by
  have h1:pts.drop (k+1)=q::l:=by
   have:=congrArg List.tail h
   simpa [List.tail_drop] using this
  have hp:pts.getD k (0,0)=p:=by
   have:=congrArg (fun l=>l[0]?) h
   simp at this
   simp [this]
  have hq:pts.getD (k+1) (0,0)=q:=by
   have:=congrArg (fun l=>l[0]?) h1
   simp at this
   simp [this]
  have ih:=tH l pts (k+1) q h1
  have he:(!decide ((k+1) % 2=0))=decide ((k+1+1) % 2=0):=by
   rw [de];simp only [Bool.not_eq_true',decide_eq_false_iff_not,decide_eq_true_eq];exact Nat.mod_two_ne_zero.trans I5
  rw [uw,he,ih,cS,pH,nG,List.flatMap_map]
  have:pq pts (k+0)=one (decide ((k+1) % 2=0)) p q:=by show one _ (pts.getD k (0,0)) (pts.getD (k+1) (0,0))=_;rw [hp,hq]
  rw [this]
  congr 1
  congr 1
  funext t
  rw [show k+1+t=k+(t+1) by lia]
theorem wU (p:Nat×Nat) (l:List (Nat×Nat)):uw false p l=(bO l.length).flatMap (pq (p::l)):=by
 have:=tH l (p::l) 0 p rfl
 simpa using this
section
variable {e:Nat→Nat→Bool}
noncomputable def Ej (x:cv) (l:List cv) (t:Nat):Bool:=match l[t]?,l[t+1]? with
 | some a,some b=>ins (o8 a b) x
 | _,_=>false
theorem vv {x:cv}:∀(l:List cv),(∀t,t+1<l.length→Ej x l t=false)→gC e x l=l
 | [],_=>rfl
 | [a],_=>rfl
 | a::b::l,h=>by
  have h0:ins (o8 a b) x=false:=h 0 (by simp)
  have hr:=vv (b::l) fun t ht=>by
   have:=h (t+1) (by simp at ht ⊢;exact ht)
   simpa [Ej] using this
  unfold gC
  rw [h0,hr]
  simp
theorem xu {x:cv}:∀(l:List cv) (t:Nat) (a b:cv),l[t]? = some a→l[t+1]? = some b→(∀u,u<t→Ej x l u=false)→ins (o8 a b) x=true→
  gC e x l=l.take (t+1)++eN e (o8 a b) x::l.drop (t+1)
 | [],t,a,b,ha,_,_,_=>by simp at ha
 | [c],t,a,b,ha,hb,_,_=>by simp at hb
 | c::d::l,0,a,b,ha,hb,hm,hi=>by
  simp at ha hb
  subst ha;subst hb
  unfold gC
  rw [hi]
  simp
 | c::d::l,t+1,a,b,ha,hb,hm,hi=>by
  have h0:ins (o8 c d) x=false:=hm 0 (by exact eO _)
  have hr:=xu (d::l) t a b (by simpa using ha) (by simpa using hb) (fun u hu=>by
   have:=hm (u+1) (by exact cW (.lt (.s 0 1) (.s 1 1) (.lt aq ar .o)) τ hu)
   simpa [Ej] using this) hi
  unfold gC
  rw [h0,hr]
  simp
end
theorem sv {xs ys:List Int} {a b t:Nat} (ha:a+t≤xs.length) (hb:b+t≤ys.length) :
  ((xs.drop a).take t==(ys.drop b).take t)=true↔∀u,u<t→(xs.getD (a+u) 0==ys.getD (b+u) 0)=true:=by
 rw [beq_iff_eq]
 constructor
 ·intro h u hu
  have:=congrArg (fun l=>l[u]?) h
  simp only [List.getElem?_take,hu,if_true,List.getElem?_drop] at this
  rw [beq_iff_eq,cC,cC,this]
 ·intro h
  refine List.ext_getElem? fun u=>?_
  simp only [List.getElem?_take,List.getElem?_drop]
  split
  ·rename_i hu
   have:=h u hu
   rw [beq_iff_eq,cC,cC] at this
   rw [aW (show a+u<xs.length by exact cR (.lt (.p aq ar) az (.le (.p aq aI) az (.lt ar aI .o))) τ ha hu),aW (show b+u<ys.length by exact cR (.lt (.p aq ar) az (.le (.p aq aI) az (.lt ar aI .o))) τ hb hu)] at this ⊢
   simpa using this
  ·rfl
section
variable {e:Nat→Nat→Bool}
theorem Br {n i j t:Nat} (ht:t≤n) (hi:n≤i) (hj:n≤j):(∀u,u<t→e (i-t+u) (j-t+u)=true)↔t≤nO e n i j:=by
 constructor
 ·intro h
  refine wg n i j t ht hi hj fun v hv=>?_
  have:=h (t-1-v) (by exact c8 (.lt aq ar (.le aq az (.eq (.s 2 1) ar .o))) τ (aO _ _) (aa (cW (.le (.k 1) aq (.lt ar aq .o)) τ hv)))
  rw [show i-1-v=i-t+(t-1-v) by exact ak (sG (.le aq (.p ar az) (.le aI (.p ar bx) (.le cV (.p az ee) (.le bx (.s 5 1) (.eq (.p aq ee) jj (.eq (.s 7 1) aI .o)))))) τ bZ bZ bZ (aa (eW (.le aq ar (.le az aI (.le aI bx (.lt aq az (.le bx (.s 1 1) .o))))) τ ht hi hv bZ)) (aa (cR (.le (.k 1) aq (.le ar az (.le az aq (.lt aI ar .o)))) τ ht hi hv))) (sG (.le (.p aq ar) az (.le aI (.p az bx) (.le cV (.s 3 1) (.eq (.p aq ee) cV (.eq (.p ar bx) jj (.eq (.s 7 1) ee .o)))))) τ bZ bZ (aa (aj ht hi)) (aa (c8 (.le aq ar (.lt aq az (.le az (.s 1 1) .o))) τ hv bZ)) (aa (cW (.le (.k 1) aq (.lt ar aq .o)) τ hv))),show j-1-v=j-t+(t-1-v) by exact ak (sG (.le aq (.p ar az) (.le aI (.p ar bx) (.le cV (.p az ee) (.le bx (.s 5 1) (.eq (.p aq ee) jj (.eq (.s 7 1) aI .o)))))) τ bZ bZ bZ (aa (eW (.le aq ar (.le az aI (.le aI bx (.lt aq az (.le bx (.s 1 1) .o))))) τ ht hj hv bZ)) (aa (cR (.le (.k 1) aq (.le ar az (.le az aq (.lt aI ar .o)))) τ ht hj hv))) (sG (.le (.p aq ar) az (.le aI (.p az bx) (.le cV (.s 3 1) (.eq (.p aq ee) cV (.eq (.p ar bx) jj (.eq (.s 7 1) ee .o)))))) τ bZ bZ (aa (aj ht hj)) (aa (c8 (.le aq ar (.lt aq az (.le az (.s 1 1) .o))) τ hv bZ)) (aa (cW (.le (.k 1) aq (.lt ar aq .o)) τ hv)))];exact this
 ·intro h u hu
  have:=ry e n i j (t-1-u) hi hj (by exact cR (.lt aq ar (.le az ar (.le aq aI (.eq (.s 3 1) az .o)))) τ h (aO _ _) (aa (cW (.le (.k 1) aq (.lt ar aq .o)) τ hu)))
  rw [show i-t+u=i-1-(t-1-u) by exact ak (sG (.le (.p aq ar) az (.le aI (.p az bx) (.le cV (.s 3 1) (.eq (.p aq ee) cV (.eq (.p bx ar) jj (.eq (.s 7 1) ee .o)))))) τ bZ bZ (aa (aj ht hi)) (aa (c8 (.le aq ar (.lt aq az (.le az (.s 1 1) .o))) τ hu bZ)) (aa (cW (.le (.k 1) aq (.lt ar aq .o)) τ hu))) (sG (.le aq (.p ar az) (.le aI (.p ar bx) (.le cV (.p ee az) (.le bx (.s 5 1) (.eq (.s 7 1) aI (.eq (.p aq ee) jj .o)))))) τ bZ bZ bZ (aa (cR (.le (.k 1) aq (.le ar az (.le az aq (.lt aI ar .o)))) τ ht hi hu)) (aa (kr (.le aq ar (.le az aI (.le aI bx (.le bx (.s 1 1) (.le aq cV (.eq (.s 5 1) az .o)))))) τ ht hi bZ (aO _ _) (aa (cW (.le (.k 1) aq (.lt ar aq .o)) τ hu))))),show j-t+u=j-1-(t-1-u) by exact ak (sG (.le (.p aq ar) az (.le aI (.p az bx) (.le cV (.s 3 1) (.eq (.p aq ee) cV (.eq (.p bx ar) jj (.eq (.s 7 1) ee .o)))))) τ bZ bZ (aa (aj ht hj)) (aa (c8 (.le aq ar (.lt aq az (.le az (.s 1 1) .o))) τ hu bZ)) (aa (cW (.le (.k 1) aq (.lt ar aq .o)) τ hu))) (sG (.le aq (.p ar az) (.le aI (.p ar bx) (.le cV (.p ee az) (.le bx (.s 5 1) (.eq (.s 7 1) aI (.eq (.p aq ee) jj .o)))))) τ bZ bZ bZ (aa (cR (.le (.k 1) aq (.le ar az (.le az aq (.lt aI ar .o)))) τ ht hj hu)) (aa (kr (.le aq ar (.le az aI (.le aI bx (.le bx (.s 1 1) (.le aq cV (.eq (.s 5 1) az .o)))))) τ ht hj bZ (aO _ _) (aa (cW (.le (.k 1) aq (.lt ar aq .o)) τ hu)))))];exact this
theorem BY {n p q t:Nat} (ht:t≤n):(∀u,u<t→e (p+u) (q+u)=true)↔t≤jh e n p q:=
 ⟨fun h=>rX n t p q ht h,fun h u hu=>l6 e n p q u (by exact av hu h)⟩
theorem wW {n M0:Nat} {f:Nat→Bool} (hM:M0≤n) (hf:∀t,t≤n→(f t=true↔t≤M0)) {M:Int} (h1:M∈((bO (n+1)).filter f).map fun i:Nat=>(i:Int)) (h2:∀a∈((bO (n+1)).filter f).map fun i:Nat=>(i:Int),a≤M):M=M0:=by
 obtain ⟨t,ht,rfl⟩:=b9.mp h1
 obtain ⟨ht1,ht2⟩:=iC.mp ht
 have ht3:=fy.mp ht1
 have h3:=(hf t (by exact dH ht3)).mp ht2
 have h4:=h2 M0 (b9.mpr ⟨M0,iC.mpr ⟨fy.mpr (by exact iP hM),(hf M0 hM).mpr (bd _)⟩,rfl⟩)
 lia
theorem wV {n M0:Nat} {f:Nat→Bool} (hf:∀t,t≤n→(f t=true↔t≤M0)):0<(((bO (n+1)).filter f).map fun i:Nat=>(i:Int)).length:=by
 have:0∈(bO (n+1)).filter f:=iC.mpr ⟨fy.mpr (by exact eO _),(hf 0 (aX _)).mpr (aX _)⟩
 rw [eh]
 exact List.length_pos_of_mem this
end
section
variable {e:Nat→Nat→Bool}
theorem xw {x:cv}:∀(l:List cv),(gC e x l).length≤l.length+1
 | []=>by simp [gC]
 | [a]=>by simp [gC]
 | a::b::l=>by
  unfold gC
  split
  ·simp
  ·have:=xw (x:=x) (b::l)
   exact cW (.le (.s 0 1) (.p (.p (.s 1 1) (.k 1)) (.k 1)) (.le aq (.p (.s 1 1) (.k 1)) .o)) τ this
noncomputable def A9 (la lb:Nat) (l:List cv):Prop:=∀y∈l,y.1+y.2.2≤la∧y.2.1+y.2.2≤lb
theorem xv {la lb:Nat} {x:cv}:∀{l:List cv},A9 la lb l→A9 la lb (gC e x l)
 | [],h=>h
 | [a],h=>h
 | a::b::l,h=>by
  unfold gC
  have hb:=h b (.tail _ (.head _))
  cases hi:ins (o8 a b) x with
  | true=>
   skip
   have f:=dC e hi
   intro y hy
   rcases aC.mp hy with rfl|hy
   ·exact h y (.head _)
   rcases aC.mp hy with rfl|hy
   ·have h1:_≤b.1:=f.ah
    have h2:_≤b.2.1:=f.bh
    exact ⟨by exact eW (.le (.p aq ar) az (.le (.p aI bx) az (.le (.p aq ar) aI .o))) τ hb.1 h1,by exact eW (.le (.p aq ar) az (.le (.p aI bx) az (.le (.p aq ar) aI .o))) τ hb.2 h2⟩
   ·exact h y (.tail _ hy)
  | false=>
   skip
   intro y hy
   rcases aC.mp hy with rfl|hy
   ·exact h y (.head _)
   ·exact xv (l:=b::l) (fun z hz=>h z (.tail _ hz)) y hy
noncomputable def row (e:Nat→Nat→Bool) (la lb:Nat) (T:List cv) (t:Nat):List cv:=(T.take t).foldl (fun l x=>gC e x l) [(0,0,0),(la,lb,0)]
theorem AJ {la lb:Nat} {T:List cv} {t:Nat} {x:cv} (h:T[t]? = some x):row e la lb T (t+1)=gC e x (row e la lb T t):=by
 unfold row
 rw [gJ,h,List.foldl_append]
 rfl
theorem CJ {la lb:Nat} {T:List cv} (t:Nat):(row e la lb T t).length≤t+2:=by
 have:∀(S l:List cv),(S.foldl (fun l x=>gC e x l) l).length≤S.length+l.length:=by
  intro S
  induction S with
  | nil=>intro l;simp
  | cons x S ih=>
   intro l
   have h1:=ih (gC e x l)
   have h2:=xw (e:=e) (x:=x) l
   exact cR (.le aq (.p (.s 1 1) az) (.le aq (.p ar aI) (.le aI (.s 2 1) .o))) τ h1 h2
 have h:=this (T.take t) [(0,0,0),(la,lb,0)]
 have h2:(T.take t).length≤t:=by rw [dE];exact (aN _ _)
 simp only [cS,qg] at h
 exact aj h (by exact cW (.le (.p aq (.p (.p (.k 0) (.k 1)) (.k 1))) (.s 1 2) (.le aq ar .o)) τ h2)
theorem xB {la lb:Nat} {T:List cv} (t:Nat):A9 la lb (row e la lb T t):=by
 have:∀(S l:List cv),A9 la lb l→A9 la lb (S.foldl (fun l x=>gC e x l) l):=by
  intro S
  induction S with
  | nil=>intro l h;exact h
  | cons x S ih=>intro l h;exact ih _ (xv h)
 refine this _ _ ?_
 intro y hy
 rcases aC.mp hy with rfl|hy
 ·simp
 ·obtain rfl:=aD.mp hy
  simp
theorem xA {la lb:Nat} {T:List cv} (hT:∀x∈T,0<x.2.2):row e la lb T T.length=(0,0,0)::(G e ⟨0,la,0,lb⟩ T++[(la,lb,0)]):=by
 unfold row
 rw [dY,sk e T _ hT (by simp [pE])]
 rfl
theorem Ch.len:∀{l:List cv} {p q:Nat×Nat},Ch p l q→p.1+l.length≤q.1
 | [],_,_,h=>by simpa using h.1
 | x::l,p,q,⟨a,_,c,d⟩=>by
  have:=Ch.len d
  skip
  exact eW (.le (.p aq (.s 1 1)) az (.le aq aI (.lt (.k 0) bx (.le (.p (.p aI bx) ar) az .o)))) τ a c this
theorem C7 {la lb:Nat} {S:List cv} (hS:∀x∈S,0<x.2.2):(G e ⟨0,la,0,lb⟩ S).length≤la:=by
 have:=(vV (e:=e) S ⟨0,la,0,lb⟩ hS (aX _) (aX _)).len
 simpa using this
end
noncomputable def qA (ys:List Int) (i:Nat) (k:Int):List Nat:=(bO i).filter fun j=>ys.getD j 0==k
theorem rY (ys:List Int) (i:Nat) (k:Int):qA ys (i+1) k=qA ys i k++(if ys.getD i 0==k then [i] else []):=by
 unfold qA
 rw [qh,List.filter_append]
 congr 1
 simp only [kC,List.filter_nil]
theorem xk {ys:List Int} {i:Nat} {k:Int} (hi:i≤ys.length) (hk:k∉ys.take i):qA ys i k=[]:=by
 unfold qA
 rw [fR]
 intro j hj
 have hj:=fy.mp hj
 intro q
 apply hk
 rw [List.mem_iff_getElem?]
 refine ⟨j,?_⟩
 rw [List.getElem?_take,if_pos hj,aW (by exact av hj hi)]
 have:=beq_iff_eq.mp q
 rw [cC,aW (by exact av hj hi)] at this
 simpa using this
theorem vF {ys:List Int} {i:Nat} {x:Int} (h:ys[i]? = some x) (k:Int):k∈ys.take (i+1)↔k∈ys.take i∨k=x:=by
 rw [gJ,h,bw]
 simp
theorem xf {ys:List Int} {i:Nat} {x:Int} (h:ys[i]? = some x):ys.getD i 0=x:=by rw [cC,h];rfl
end C
noncomputable def ze (prog:aV) (w:aP) (A:aS) (h:ay) (D:List aH) (f:ag) (args:List ag) (P:ag→ay→Prop):Prop:=
 ∀(s:am) (Q:ag→am→Prop) (E:ag→am→Prop),s.heap=h→(∀v h' tk dr,ba D h h'→P v h'→Q v (oE s h' tk dr))→aF (aB prog w) A (sP f args) Q E s
noncomputable def Ia (s:am) (g:ay) (P:ag→ay→Prop) (fl:dW) (s':am):Prop:=lT fun h' tk dr=>jn (s'=(oE s h' tk dr)) (Sub g h') (P (q6 fl) h')
noncomputable def vR (prog:aV) (w:aP) (A:aS) (e:gy) (h:ay) (D:List aH) (ex:au) (P:ag→ay→Prop):Prop:=
 ∀(s:am) (Q:ag→am→Prop) (E:ag→am→Prop),s.heap=h→(∀v h' tk dr,ba D h h'→P v h'→Q v (oE s h' tk dr))→aF (aB prog w) A (cO ex e) Q E s
section
variable {prog:aV} {w:aP} {A:aS} {h:ay} {D:List aH} {f:aH} {args:List ag} {P:ag→ay→Prop}
theorem ze.enter {o:cA} {fd:dP} {body:List fC} {binds:List (bU×ag)} {c:List (aH×cA)}
  (hroom:A.depth<iH) (ho:h.get? f=some o) (hdata:o.data=.func fd) (hlim:h.NoLimit) (hcd:h.CodeRec fd.code fd.qualname)
  (hbody:fd.body=.stmts body) (hbind:∀s:am,s.heap=h→BindsTo s fd ⟨args,[]⟩ binds)
  (hcell:∀x∈fd.scope.names,x.2≠.cell) (hloc:∀x∈binds,fd.scope.names.lookup x.1=some .local) (hclo:fd.closure=[])
  (hc:∀p∈c,h.get? p.1=some p.2∧p.1∈D)
  (H:∀L s,h.get? L=none→ba [] h s.heap→St (bp h D) (di fd L f) s.heap binds.reverse c→
   aF (aB prog w) (A.deeper (di fd L f)) (eK body (di fd L f)) (Ia s (bp h D) P) (fun O O=>False) s)
  (hco:autoParam (fd.scope.isCoroutine=false) rfA) (hgen:autoParam (fd.scope.isGenerator=false) rfA) (hk:autoParam (fd.scope.kind=.function) rfA):ze prog w A h D (.ref f) args P:=fun s Q E hs k=>by
 subst hs
 refine f0 (ri (binds:=binds) hroom ho hdata hlim hcd hbody (hbind s rfl) hcell hloc (fun h₀ hns hkp=>?_) hco hgen hk)
 have hcells:(di fd s.heap.objs.size f).cells=[]:=hclo
 have S:St (bp s.heap D) (di fd s.heap.objs.size f) h₀ binds.reverse c:=by
  refine ⟨⟨_,hns,fun x v hx O=>hx⟩,?_,?_,?_,fun b o q=>hkp b o (fE D q),?_,?_,fun p hp=>⟨hkp _ _ (hc p hp).1,?_,cQ D (hc p hp).2⟩⟩
  ·refine hcells.symm▸?_;intro x a ha;cases ha
  ·rw [hcells];exact dg
  ·rw [hcells];intro p hp;cases hp
  ·unfold FA;rw [hcells]
   intro a ha
   obtain rfl:a=s.heap.objs.size:=aD.mp ha
   cases q:(bp s.heap D).get? s.heap.objs.size with
   | none=>rfl
   | some o=>have:=fE D q;exact nn cP this
  ·unfold FA;rw [hcells]
   intro a ha
   obtain rfl:a=s.heap.objs.size:=aD.mp ha
   obtain ⟨o,_,_,q_⟩:=hns;have ho:=q_.1;clear q_
   exact ⟨o,ho⟩
  ·unfold FA;rw [hcells]
   intro ha
   have:p.1=s.heap.objs.size:=aD.mp ha
   have h2:=(hc p hp).1
   rw [this,cP] at h2;cases h2
 refine aL (H s.heap.objs.size (sh s h₀ (s.toks+binds.length)) cP (fun b o e O=>hkp b o e) S) (fun fl s' hb=>?_) fun O O x=>x.elim
 obtain ⟨h',tk,dr,rfl,hsub,hp⟩:=hb
 have:=k (q6 fl) h' tk dr (fun b o e n=>hsub b o (bq D e n)) hp
 cases fl<;>exact this
end
section
variable {g g₀ h h':ay} {D D':List aH} {e:gy} {m m':List (bU×ag)} {c c':List (aH×cA)}
theorem St.follow {a:aH} {o:cA} (S:St g e h m c) (ho:h.get? a=some o) (hF:a∉FA e) (hg:g.get? a=none):St g e h m ((a,o)::c):=by
 refine { S with own:=fun p hp=>?_}
 rcases aC.mp hp with rfl|hp
 ·exact ⟨ho,hF,hg⟩
 ·exact S.own p hp
theorem Lp.on (L:Lp g₀ D e h m c) (S:St (bp h D) e h' m' c') (hD:∀b∈D',b∈D∨h.get? b=none) (hF:∀a∈FA e,a∈D') (hc:∀p∈c',p.1∈D'):Lp g₀ D' e h' m' c' where
 sub:=L.sub.trans (cM fun b o q n O=>⟨S.keep b o (bq D q n),fun z=>by
  rcases hD b z with y|y
  ·exact n y
  ·exact nn y q⟩)
 st:=S.rebase D' hF hc
theorem qz {a:aH} (hn:h.get? a=none):(bp h D).get? a=none:=by
 cases q:(bp h D).get? a with
 | none=>rfl
 | some o=>have:=fE D q;exact nn hn this
end
section
variable {prog:aV} {w:aP} {A:aS} {s:am} {e:gy} {h g:ay} {m ma:List (bU×ag)} {c:List (aH×cA)} {E:ag→am→Prop} {x dx:aH} {od:cA} {name:bU} {v:ag} {D:List aH}
theorem s5:fD Aq=some (.type "set"):=by decide +kernel
theorem Eg.set0 {p pos:dJ} (C:Cx w h) (hk:autoParam (e.scope.kind=.function) rfA) (hx:autoParam (e.kindOf Aq=some .globalImplicit) rfA) (hg:autoParam (e.globals=cu) rfA) (hbi:autoParam (e.builtins=ej) rfA) :
  Eg prog w A e h (.Call (.Name Aq p) [] [] pos) (fun v h'=>oN fun r es ep t=>jn (v=.ref r) (iK h h' r (SI.iT es ep t)) (SI.iL w es t [])):=fun s Q E hs k=>by
 subst hs
 refine eL ((Ev.bltn C (fun O=>by kernel_rfl!) s5 (by decide +kernel) hk hx hg hbi).use rfl fun v tk hv=>?_)
 subst hv
 refine PyProof.Rows.callWith_type0 (yb (s:={ s with toks:=tk}) fun h' r hN hS=>?_)
 obtain ⟨es,ep,t,ho,hS⟩:=hS
 have e1:=hN.yes
 replace ho:=e1▸ho
 cases ho
 exact k _ h' tk hN.kept ⟨r,_,_,_,rfl,hN,hS⟩
theorem Eg.dict1 {pos:dJ}:Eg prog w A e h (.Dict [] [] pos) (fun v h'=>v=.ref h.objs.size∧iK h h' h.objs.size oq):=fun s Q E hs k=>by
 subst hs
 exact wpAny_Dict_empty (k _ _ s.toks (.push _ _ _) ⟨rfl,iK.push _ _⟩)
theorem ur (C:Cx w h):(h.objs.size==dF)=false:=by
 have h1:=cK (C.K 270 (Dt w.params) rfl)
 have h1:(270:Nat)<h.objs.size:=h1
 have:h.objs.size≠dF:=fun q=>by rw [q] at h1;exact absurd h1 (by decide)
 simpa using this
theorem me {xn y:bU} {p pt p' pos:dJ} {ex:au} {P:ag→ay→Prop} {Q:dW→am→Prop} (H:Eg prog w A e s.heap ex P)
  (k:∀v h1 tk,ba [] s.heap h1→P v h1→aF (aB prog w) A (eT (.Attribute (.Name xn p) name pt) e v) (fun O s₂=>aF (aB prog w) A (rv e y v) (fun O=>Q .next) E s₂) E (sh s h1 tk))
  (he:autoParam ((assignEach [.Attribute (.Name xn p) name pt,.Name y p'] e).map (·.2)=[eT (.Attribute (.Name xn p) name pt) e,eT (.Name y p') e]) rfA)
  (hw:autoParam (jb [.Attribute (.Name xn p) name pt,.Name y p'] ex e=cJ none) rfA) :
  aF (aB prog w) A (fA (.Assign [.Attribute (.Name xn p) name pt,.Name y p'] ex pos) e) Q E s:=
 mj (H s _ _ rfl fun v h1 tk k1 hp=>aL (k v h1 tk k1 hp) (fun O s₂ h₂=>assign_Name h₂) fun O O z=>z) he hw
theorem Et.plain {ex:au} {b:Bool} {v:ag} (H:Ev prog w A e h ex (· = v)) (ht:∀(s:am) (Q:Bool→am→Prop) (E:ag→am→Prop),s.heap=h→(∀tk,Q b { s with toks:=tk})→aF (aB prog w) A (truthy v) Q E s)
  (he:autoParam (∀whole,isTrue ex e whole=(do let v ←whole;fe ex.pos;gf [v] (truthy v))) rfA):Et prog w A e h ex b:=fun s Q E hs q=>by
 refine isTrue_plain (H s _ _ hs fun u tk hu=>?_) (he _)
 subst hu
 exact ht _ _ _ hs fun tk2=>q tk2
theorem Et.nm0 {xn:bU} {p:dJ} (H:Ev prog w A e h (.Name xn p) (· = .none)):Et prog w A e h (.Name xn p) false:=Et.plain H fun s Q E O q=>truthy_none (q s.toks)
end
section
variable {prog:aV} {w:aP} {A:aS} {s:am} {e:gy} {h g:ay} {m ma:List (bU×ag)} {c:List (aH×cA)} {E:ag→am→Prop} {x dx:aH} {od:cA} {name:bU} {v:ag} {D:List aH}
theorem vR.meth {xn:bU} {p ap pos:dJ} {f:aH} {fo:cA} {fd:dP} {ex:au} {rest:List au} {P:List ag→ay→Prop} {R:ag→ay→Prop} (C:Cx w h) (N:Ev prog w A e h (.Name xn p) (· = .ref x)) (hx:h.get? x=some (dA 242 dx)) (hd:h.get? dx=some od) (hD:DO od ma)
  (ho:h.get? f=some fo) (hdat:fo.data=.func fd) (H:Es prog w A e h (ex::rest) P) (K:∀vs h1,ba [] h h1→P vs h1→ze prog w A h1 D (.ref f) (.ref x::vs) R)
  (hs:autoParam (iF ma name=none) rfA) (hf:autoParam (∀P,hY (KF P) (.ref 242) name=some (some (.ref f))) rfB) (ht:autoParam (∀P,typeIn (KF P) (.ref f)=some (.type "function")) rfB)
  {pl:mw Bool} (he:autoParam (cO (.Call (.Attribute (.Name xn p) name ap) (ex::rest) [] pos) e=(do
   let ov ←cO (.Name xn p) e
   fe ap.atName
   let (f,first) ←gf [ov] (gx ov name pl)
   g9 pos f first (gK pos (aE (ex::rest) e)) [])) rfA) (hst:autoParam (aE (ex::rest) e=(false,cO ex e)::aE rest e) rfA) :
  vR prog w A e h D (.Call (.Attribute (.Name xn p) name ap) (ex::rest) [] pos) R:=fun s Q E hsh k=>by
 subst hsh
 refine jo (N s _ _ rfl fun o tk hov=>?_) he
 subst hov
 refine mX (s:={ s with toks:=tk}) C hx hd hD hs (hf _) (ht _) ?_
 refine callWith_meth hdat ho (H pos { s with toks:=tk} _ _ rfl fun vs h1 tk1 k1 hp=>⟨k1.all,?_⟩) hst
 exact K vs h1 k1 hp (sh s h1 tk1) _ _ rfl fun v h2 tk2 dr k2 hr=>k v h2 tk2 dr ((k1.mono (by simp)).trans k2) hr
theorem vR.meth0 {xn:bU} {p ap pos:dJ} {f:aH} {fo:cA} {fd:dP} {R:ag→ay→Prop} (C:Cx w h) (N:Ev prog w A e h (.Name xn p) (· = .ref x)) (hx:h.get? x=some (dA 242 dx)) (hd:h.get? dx=some od) (hD:DO od ma)
  (ho:h.get? f=some fo) (hdat:fo.data=.func fd) (K:ze prog w A h D (.ref f) [.ref x] R)
  (hs:autoParam (iF ma name=none) rfA) (hf:autoParam (∀P,hY (KF P) (.ref 242) name=some (some (.ref f))) rfB) (ht:autoParam (∀P,typeIn (KF P) (.ref f)=some (.type "function")) rfB)
  {pl:mw Bool} (he:autoParam (cO (.Call (.Attribute (.Name xn p) name ap) [] [] pos) e=(do
   let ov ←cO (.Name xn p) e
   fe ap.atName
   let (f,first) ←gf [ov] (gx ov name pl)
   g9 pos f first (gK pos (aE [] e)) [])) rfA) :
  vR prog w A e h D (.Call (.Attribute (.Name xn p) name ap) [] [] pos) R:=fun s Q E hsh k=>by
 subst hsh
 refine jo (N s _ _ rfl fun o tk hov=>?_) he
 subst hov
 refine mX (s:={ s with toks:=tk}) C hx hd hD hs (hf _) (ht _) ?_
 refine callWith_meth0 hdat ho ?_
 exact K { s with toks:=tk} _ _ rfl fun v h2 tk2 dr k2 hr=>k v h2 tk2 dr k2 hr
theorem ss {ex:au} {pos:dJ} {P:ag→ay→Prop} {Q:dW→am→Prop} (H:vR prog w A e s.heap D ex P) (hP:∀v h',P v h'→v=.none) (k:∀v h' tk dr,ba D s.heap h'→P v h'→Q .next (oE s h' tk dr))
  (hi:autoParam (qm e=false) rfA) (hsw:autoParam (jc ex none pos.line e=cJ false) rfA):aF (aB prog w) A (fA (.Expr ex pos) e) Q E s:=
 sD (H s _ _ rfl fun v h' tk dr k1 hp=>by obtain rfl:=hP v h' hp;exact k .none h' tk dr k1 hp) hi hsw
end
noncomputable def GK (prog:aV) (w:aP) (A:aS) (h:ay) (D:List aH) (f:ag) (args:List ag) (P:ag→ay→Prop):Prop:=
 ∀(s:am) (R:Result→am→Prop),s.heap=h→(∀v h' tk dr,ba D h h'→P v h'→R (.ok (.ret v)) (oE s h' tk dr))→hW (aB prog w) A (.call f ⟨args,[]⟩) R s
section
variable {prog:aV} {w:aP} {A:aS} {h:ay} {D:List aH} {f:aH} {args:List ag} {P:ag→ay→Prop}
theorem GK.enter {o:cA} {fd:dP} {body:List fC} {binds:List (bU×ag)} {c:List (aH×cA)}
  (hroom:A.depth<iH) (ho:h.get? f=some o) (hdata:o.data=.func fd) (hlim:h.NoLimit) (hcd:h.CodeRec fd.code fd.qualname)
  (hbody:fd.body=.stmts body) (hbind:∀s:am,s.heap=h→BindsTo s fd ⟨args,[]⟩ binds)
  (hcell:∀x∈fd.scope.names,x.2≠.cell) (hloc:∀x∈binds,fd.scope.names.lookup x.1=some .local) (hclo:fd.closure=[])
  (hc:∀p∈c,h.get? p.1=some p.2∧p.1∈D)
  (H:∀L s,h.get? L=none→ba [] h s.heap→St (bp h D) (di fd L f) s.heap binds.reverse c→
   aF (aB prog w) (A.deeper (di fd L f)) (eK body (di fd L f)) (Ia s (bp h D) P) (fun O O=>False) s)
  (hco:autoParam (fd.scope.isCoroutine=false) rfA) (hgen:autoParam (fd.scope.isGenerator=false) rfA) (hk:autoParam (fd.scope.kind=.function) rfA):GK prog w A h D (.ref f) args P:=fun s R hs k=>by
 subst hs
 refine ri (binds:=binds) hroom ho hdata hlim hcd hbody (hbind s rfl) hcell hloc (fun h₀ hns hkp=>?_) hco hgen hk
 have hcells:(di fd s.heap.objs.size f).cells=[]:=hclo
 have S:St (bp s.heap D) (di fd s.heap.objs.size f) h₀ binds.reverse c:=by
  refine ⟨⟨_,hns,fun x v hx O=>hx⟩,?_,?_,?_,fun b o q=>hkp b o (fE D q),?_,?_,fun p hp=>⟨hkp _ _ (hc p hp).1,?_,cQ D (hc p hp).2⟩⟩
  ·refine hcells.symm▸?_;intro x a ha;cases ha
  ·rw [hcells];exact dg
  ·rw [hcells];intro p hp;cases hp
  ·unfold FA;rw [hcells]
   intro a ha
   obtain rfl:a=s.heap.objs.size:=aD.mp ha
   exact qz cP
  ·unfold FA;rw [hcells]
   intro a ha
   obtain rfl:a=s.heap.objs.size:=aD.mp ha
   obtain ⟨o,_,_,q_⟩:=hns;have ho:=q_.1;clear q_
   exact ⟨o,ho⟩
  ·unfold FA;rw [hcells]
   intro ha
   have:p.1=s.heap.objs.size:=aD.mp ha
   have h2:=(hc p hp).1
   rw [this,cP] at h2;cases h2
 refine aL (H s.heap.objs.size (sh s h₀ (s.toks+binds.length)) cP (fun b o e O=>hkp b o e) S) (fun fl s' hb=>?_) fun O O x=>x.elim
 obtain ⟨h',tk,dr,rfl,hsub,hp⟩:=hb
 have:=k (q6 fl) h' tk dr (fun b o e n=>hsub b o (bq D e n)) hp
 cases fl<;>exact this
theorem eV.make {k:Nat} (R:eV A (k+1)) (C:aH) (rest:List ag):eV (A.under (.builtin "type.__call__" ⟨.ref C::rest,[]⟩)) k:=
 ⟨R.hd,by have:=R.dp;exact c8 (.lt (.p (.s 0 1) ar) az (.lt (.p aq (.s 1 1)) az .o)) τ this,by have:=R.un;exact c8 (.lt (.p (.p (.s 0 1) (.m 3 ar)) (.k 20)) az (.lt (.p (.p aq (.m 3 (.s 1 1))) (.k 20)) az .o)) τ this⟩
end
theorem E6 (P:bF):instIn (KF P) (.ref 135) (.type "type")=some true:=by kernel_rfl!
theorem DA (P:bF):subIn (KF P) (.ref 135) (.type "tuple")=some true:=by kernel_rfl!
theorem E7 (P:bF):subIn (KF P) (.ref 135) (.ref 135)=some true:=by kernel_rfl!
theorem E5 (P:bF):hY (KF P) (.ref 135) "__init__" = some (some (.builtin "object.__init__")):=by kernel_rfl!
theorem E4 (P:bF):specialIn (KF P) (.ref 135) "__call__" = some (some (.builtin "type.__call__")):=by kernel_rfl!
theorem G3:kA "tuple.__new__" = some .builtinFn:=by decide +kernel
theorem GG:splitId "tuple.__new__" = some ("tuple", "__new__"):=by decide +kernel
noncomputable abbrev w5:ClassData:={ name:=ko,bases:=[(.type "tuple")],mro:=[(.ref 135),(.type "tuple"),(.type "object")],ns:=134,qualname:=ko,hasDict:=false}
noncomputable abbrev Gz:cA:=⟨.type "type",none,.cls w5,#[(some (.ref 65)),none,(some (.str ko 253)),(some (.str ko 261)),(some .none),(some (.bool false))]⟩
theorem vz:cc.Slots.solid (.type "tuple")=cJ (.type "tuple"):=by first|rfl|kernel_rfl
theorem DU:cc.Slots.bestBase [.type "tuple"]=cJ (.type "tuple"):=by
 unfold cc.Slots.bestBase
 simp only [dS,List.forIn_nil,vz,pure_bind]
structure Ba (M:Model) (h:ay):Prop where
 obj:h.get? 135=some Gz
 made:dn M h (Bind.madeBy (.ref 135)) none
 base:dn M h (Bind.staticBase (.ref 135)) (.type "tuple")
 sub:dn M h (ou (.ref 135) (.type "tuple")) true
 self:dn M h (ou (.ref 135) (.ref 135)) true
 init:dn M h (jv (.ref 135) "__init__") (some (.builtin "object.__init__"))
 sP:dn M h (specialOf (.ref 135) "__call__") (some (.builtin "type.__call__"))
 typ:dn M h (jt (.ref 135) (.type "type")) true
theorem pR {M:Model} {h:ay} {w:aP} (C:Cx w h):Ba M h:=by
 have ho:h.get? 135=some Gz:=C.K 135 _ rfl
 have hc:clsIn (KF w.params) 135=some w5:=rfl
 have hm:dn M h (mroOf (.ref 135)) w5.mro:=(looks_clsIn C.K hc).andThen .now
 have made:dn M h (Bind.madeBy (.ref 135)) none:=by
  intro A Q E s k q
  skip
  refine ae (hm A _ E s k ?_)
  rw [dS]
  refine ae (ae (ae (ae (wpAny_loadPart (k _ _ ho) (ao ?_)))))
  exact ao (ao (ao q))
 refine ⟨ho,made,?_,looks_subIn C.K (DA _),looks_subIn C.K (E7 _),looks_findIn C.K (E5 _),looks_specialIn C.K (E4 _),looks_instIn C.K (E6 _)⟩
 intro A Q E s k q
 skip
 refine ae (hm A _ E s k ?_)
 rw [dS]
 refine ae (ae ?_)
 dsimp only
 refine ae (made A _ E s k ?_)
 skip
 refine ae (looks_clsIn C.K hc A _ E s k ?_)
 refine ae ?_
 skip
 refine ao (ao ?_)
 dsimp only
 rw [dS]
 refine ae ?_
 skip
 refine (PySem.F.called_tuple.made).symm▸?_
 exact ae (ao (ao (ao (ao q))))
noncomputable abbrev jV (dx:aH) (vs:List ag):cA:={ cls:=.ref 135,dict:=some dx,data:=.seq vs.toArray}
theorem CZ (a b:ag):ll "tuple.__new__" ⟨[a,b],[]⟩:=by unfold ll;kernel_rfl
theorem AU:plainId "tuple.__new__" = true:=by decide +kernel
section
variable {prog:aV} {w:aP} {A:aS} {E:ag→am→Prop} {s:am}
theorem yc {T:ag} {Q:Unit→am→Prop} (C:Cx w s.heap) (q:Q () s):aF (aB prog w) A (checkBuiltinCall "tuple.__new__" ⟨[.ref 135,T],[]⟩) Q E s:=by
 obtain ⟨h,g,d,t,os⟩:=s
 have Y:=pR (M:=aB prog w) C
 have y0:=Y.obj
 have y1:=Y.sub
 have y2:=Y.base
 have y3:dn (aB prog w) h (Bind.madeBy (.type "tuple")) (some "tuple.__new__"):=d8 PySem.F.called_tuple.made
 have ha:=CZ (.ref 135) T
 skip
 repeat lk
 exact q
theorem yZ {T:aH} {vs:List ag} {n:Nat} {o:cA} {Q:ag→am→Prop} (C:Cx w s.heap) (ho:s.heap.get? T=some o) (hc:o.cls=.type "tuple") (hd:o.data=.seq vs.toArray n) (hl:vs.length≤1000)
  (q:∀h' r dx,ba [] s.heap h'→s.heap.get? r=none→s.heap.get? dx=none→h'.get? r=some (jV dx vs)→Q (.ref r) { s with heap:=h'}) :
  aF (aB prog w) A (sP (.builtin "tuple.__new__") [.ref 135,.ref T]) Q E s:=by
 refine f0 (mH AU PySem.F.entry_tuple_new (yc C ?_))
 obtain ⟨h,g,d,t,os⟩:=s
 have Y:=pR (M:=aB prog w) C
 have y0:=Y.obj
 have y1:=Y.sub
 have y2:=Y.base
 have y3:dn (aB prog w) h (Bind.madeBy (.type "tuple")) (some "tuple.__new__"):=d8 PySem.F.called_tuple.made
 have y4:dn (aB prog w) h (Bind.madeHere "tuple.__new__" (.ref 135)) ():=y2.andThen (y3.andThen (d8 (by simp only [Option.map_some,bne_self_eq_false,bv,if_false])))
 have y5:=Y.init
 skip
 have hsz:vs.toArray.size≤fc:=by rw [ew,iN];exact oK (.le aq (.k 16777216) (.le aq (.k 1000) .o)) τ hl
 repeat (first|(with_reducible refine wpAny_collect_seq T (.inr rfl) ho hc hd (fun h1 k1=>?_) hsz)|lk)
 have y0':=k1 _ _ y0
 have hN1:=iK.push h1 rP
 have hN2:=iK.push (h1.push rP) (jV h1.objs.size vs)
 have k1':ba [] h h1:=fun b o e O=>k1 b o e
 generalize fc.decLt vs.toArray.size=dd
 cases dd with
 | isTrue z=>exact absurd z (i7.mpr hsz)
 | isFalse z=>
  skip
  skip
  refine ae (wpAny_alloc (ae (ae (wpAny_load (hN2.kept.get (hN1.kept.get y0')) (ao ?_)))))
  refine ao (ao ?_)
  exact q _ _ h1.objs.size ((k1'.trans hN1.kept).trans hN2.kept) (dh k1' (dh hN1.kept hN2.no)) (dh k1' hN1.no) hN2.yes
end
noncomputable def BR:dP:=pP (eA 3 4) mn .none (.str iy 283) (.str bY 194) none (.ref 81)
theorem Ho (P:bF):(KF P).lookup 82=some ⟨.type "function",none,.func BR,#[]⟩:=by kernel_rfl!
theorem Ea (P:bF):oa (KF P) BR.code BR.qualname=true:=by kernel_rfl!
theorem DW (a b c d:ag):js BR ⟨[a,b,c,d],[]⟩=cJ [(Gu,a),(nA,b),(nB,c),(lJ,d)]:=by rfl
theorem H4 (P:bF):findCls (KF P) (.type "tuple") (.type "type") yH=some (.val (.builtin "tuple.__new__")):=by kernel_rfl!
theorem H3 (P:bF):findCls (KF P) (.ref 135) (.type "type") yH=some (.get (.builtin "staticmethod.__get__") (.ref 136) .none (.ref 135)):=by kernel_rfl!
theorem HY (P:bF):findCls (KF P) (.ref 135) (.type "type") Dy=some (.get (.builtin "classmethod.__get__") (.ref 91) .none (.ref 135)):=by kernel_rfl!
theorem xx (P:bF):readsIn (KF P) 135 (.type "type")=true:=by kernel_rfl!
theorem AG (P:bF):recIn (KF P) 136 "staticmethod" = some [.ref 82]:=by kernel_rfl!
theorem CH (P:bF):recIn (KF P) 91 "classmethod" = some [.ref 89,.bool false]:=by kernel_rfl!
theorem uI:fD nh=some (.type "tuple"):=by decide +kernel
theorem y6:mh (.type "tuple")=cJ (.type "type"):=by first|rfl|kernel_rfl
section
variable {prog:aV} {w:aP} {A:aS} {E:ag→am→Prop} {s:am} {e:gy} {h:ay} {name:bU} {v:ag}
theorem IY:handedIn (.builtin "tuple.__new__")=true:=by decide +kernel
theorem CN:opaqueClassAbove (.type "tuple")=cJ none:=by first|rfl|kernel_rfl
theorem yB {pl:mw Bool} {Q:ag×List ag→am→Prop} (C:Cx w s.heap) (h:Q (.builtin "tuple.__new__",[]) { s with toks:=s.toks+1}):aF (aB prog w) A (gx (.type "tuple") yH pl) Q E s:=by
 have X:=C.K
 have L0:dn (aB prog w) s.heap (mh (.type "tuple")) (.type "type"):=d8 y6
 have hg:hY (KF w.params) (.type "type") "__getattribute__" = some (some (.builtin "type.__getattribute__")):=type_tga
 have LO:dn (aB prog w) s.heap (opaqueClassAbove (.type "tuple")) none:=d8 CN
 have LH:dn (aB prog w) s.heap (hookBefore (.type "type")) none:=looks_hook X (by rfl)
 have hsub:subIn (KF w.params) (.type "type") (.type "type")=some true:=by rfl
 skip
 refine ae (ae (L0.here ((looks_findIn X hg).here ?_)))
 skip
 skip
 refine ae (aL (Q:=fun v=>Q (v,[])) (E:=E) ?_ (fun O O z=>ao z) fun O O z=>z)
 refine cls_open X LO L0 hg LH hsub (H4 _) (ao ?_)
 skip
 skip
 exact ao h
noncomputable def mO (h:ay) (vs:List ag) (v:ag) (h':ay):Prop:=g8 fun r dx=>lO (v=.ref r) (h.get? r=none) (h.get? dx=none) (h'.get? r=some (jV dx vs))
theorem Ax (P:bF):nsIn (KF P) cu nh=some none:=by kernel_rfl!
theorem zM {p:dJ} (C:Cx w h) (hk:e.scope.kind=.function) (hx:e.kindOf nh=some .globalImplicit) (hg:e.globals=cu) (hbi:e.builtins=ej):Ev prog w A e h (.Name nh p) (· = .type "tuple"):=
 Ev.bltn C Ax uI (by decide +kernel) hk hx hg hbi
theorem Eg.tupleNew {p ap pos:dJ} {ec et:au} {vs:List ag} {pl:mw Bool} {P:ag→ay→Prop} (C:Cx w h) (Hc:Ev prog w A e h ec (· = .ref 135)) (Ht:Eg prog w A e h et P) (hP:∀v h',P v h'→lT fun t o n=>lO (v=.ref t) (h'.get? t=some o) (o.cls=.type "tuple") (o.data=.seq vs.toArray n)) (hl:vs.length≤1000)
  (hk:autoParam (e.scope.kind=.function) rfA) (hx:autoParam (e.kindOf nh=some .globalImplicit) rfA) (hg:autoParam (e.globals=cu) rfA) (hbi:autoParam (e.builtins=ej) rfA)
  (he:autoParam (cO (.Call (.Attribute (.Name nh p) yH ap) [ec,et] [] pos) e=(do
   let ov ←cO (.Name nh p) e
   fe ap.atName
   let (f,first) ←gf [ov] (gx ov yH pl)
   g9 pos f first (gK pos (aE [ec,et] e)) [])) rfA) (hst:autoParam (aE [ec,et] e=(false,cO ec e)::aE [et] e) rfA) (hst':autoParam (aE [et] e=(false,cO et e)::aE [] e) rfA) :
  Eg prog w A e h (.Call (.Attribute (.Name nh p) yH ap) [ec,et] [] pos) (mO h vs):=fun s Q E hs k=>by
 subst hs
 refine jo ((zM C hk hx hg hbi).use rfl fun ov tk hov=>?_) he
 subst hov
 refine yB (s:={ s with toks:=tk}) C ?_
 refine callWith_builtin1 (Es.cons (P':=fun vs h'=>∃v,vs=[.ref 135,v]∧P v h') (Ev.gg Hc) (fun u h1 k1 hu=>?_) hst pos { s with toks:=tk+1} _ _ rfl fun us h1 tk1 k1 hu=>?_) hst (by rw [hst'];rfl)
 ·obtain ⟨rfl,rfl⟩:=hu
  exact (Es.one Ht hst').mono fun us h2 k2 q=>by
   obtain ⟨v,rfl,q⟩:=q
   exact ⟨v,rfl,q⟩
 ·obtain ⟨v,rfl,hv⟩:=hu
  obtain ⟨t,o,n,rfl,ho,hc,hd⟩:=hP v h1 hv
  exact yZ (s:=sh s h1 tk1) (C.sub k1.all) ho hc hd hl fun h' r dx kk hr hdx hm=>k _ h' tk1 (k1.trans kk) ⟨r,dx,rfl,dh k1 hr,dh k1 hdx,hm⟩
end
section
variable {w:aP} {A:aS} {h:ay}
theorem Gx {va vb vc:ag} (hA:eV A 0) (X:Cx w h):Cd PQ w A h [] (.ref 82) [.ref 135,va,vb,vc] (mO h [va,vb,vc]):=by
 obtain ⟨mg,mb,T⟩:=X.T
 refine Cd.enter (c:=[]) (by have:=hA.dp;exact cW (.lt aq ar (.lt (.s 0 0) ar .o)) τ this) (X.K _ _ (Ho _)) rfl T.nolimit (f7 X.K (Ea _)) rfl (fun s hs=>.of_eq (DW _ _ _ _)) (by decide +kernel) (qD rfl rfl rfl rfl) rfl (by simp) (fun L s hL hk S0=>?_)
 have X1:Cx w s.heap:=X.sub hk.all
 refine aT (md fun tk=>⟨rfl,?_⟩)
 refine nv (s:={ s with toks:=tk}) (P:=mO s.heap [va,vb,vc]) (Eg.tupleNew X1 (Ev.nm S0) (Eg.tup (Es.more (Ev.nm S0) (Es.more (Ev.nm S0) (Es.more (Ev.nm S0) Es.nil))) ?_) ?_ (by simp)) fun v h' tk' k' hp=>?_
 ·rintro vs h' ⟨_,v1,vs1,rfl,_,v2,vs2,rfl,_,v3,vs3,rfl,_,rfl⟩;show 3≤2^24;decide
 ·rintro v h' ⟨vs,h1,a,k1,⟨rfl,v1,vs1,rfl,rfl,v2,vs2,rfl,rfl,v3,vs3,rfl,rfl,rfl⟩,rfl,hN⟩
  exact ⟨a,_,_,rfl,hN.yes,rfl,rfl⟩
 ·obtain ⟨r,dx,rfl,hr,hdx,hm⟩:=hp
  exact ⟨h',tk',rfl,fun b o q=>k'.get (hk.get q),r,dx,rfl,dh hk hr,dh hk hdx,hm⟩
end
theorem Ay (a b c d:ag):ll "object.__init__" ⟨[a,b,c,d],[]⟩:=by unfold ll;kernel_rfl
theorem GE (P:bF):subIn (KF P) (.ref 135) (.type "object")=some true:=by kernel_rfl!
section
variable {prog:aV} {w:aP} {A:aS} {E:ag→am→Prop} {s:am}
theorem BZ {Q:ag→am→Prop} (X:Cx w s.heap) (q:Q (.ref 82) { s with toks:=s.toks+1}):aF (aB prog w) A (getAttr (.ref 135) "__new__") Q E s:=
 cls_bind X.K (xx _) (H3 _) (f0 (sm_get (s:={ s with toks:=s.toks+1}) X.K (AG _) (handed_on rfl q)))
theorem Cz {r:aH} {vs:List ag} {a b c:ag} {dx:aH} {Q:ag→am→Prop} (X:Cx w s.heap) (hr:s.heap.get? r=some (jV dx vs)) (q:Q .none s):aF (aB prog w) A (f6 (.builtin "object.__init__") [.ref r,a,b,c]) Q E s:=by
 obtain ⟨y0,made,base,sub,self,init,sP,typ⟩:=pR (M:=aB prog w) X
 have t1:dn (aB prog w) s.heap (mh (.ref r)) (.ref 135):=(mN hr).andThen .now
 have top:dn (aB prog w) s.heap (jt (.ref r) (.type "object")) true:=t1.andThen (looks_subIn X.K (GE _))
 obtain ⟨h,g,d,t,os⟩:=s
 refine f0 (mH oi_plain entry_oi (@check_slot (aB prog w) _ _ _ "object.__init__" "object" "__init__" (.ref r) [a,b,c] [] _ oi_kind oi_split top (Ay (.ref r) a b c) ?_))
 skip
 skip
 have hc:(!([a,b,c]:List ag).isEmpty || !([]:List (bU×ag)).isEmpty)=true:=rfl
 skip
 refine ae (t1.here (ae (init.here (ae (made.here ?_)))))
 have h1:((some (ag.builtin "object.__init__")) != some (ag.builtin "object.__init__"))=false:=bne_self_eq_false _
 have h2:((none:Option String) != some "object.__new__")=true:=rfl
 skip
 exact ao q
theorem wx {va vb vc:ag} {Q:ag→am→Prop} (X:Cx w s.heap)
  (k:aF (aB prog w) (A.under (.builtin "type.__call__" ⟨.ref 135::[va,vb,vc],[]⟩)) (f6 (.ref 82) [.ref 135,va,vb,vc]) (fun v s'=>lT fun r dx vs=>lO (v=.ref r) (Cx w s'.heap) (s'.heap.get? r=some (jV dx vs)) (Q v s')) E { s with toks:=s.toks+1}) :
  aF (aB prog w) A (f6 (.ref 135) [va,vb,vc]) Q E s:=by
 obtain ⟨y0,made,base,sub,self,init,sP,typ⟩:=pR (M:=aB prog w) X
 have hm:dn (aB prog w) s.heap (mroOf (.ref 135)) w5.mro:=((mN (part:=none) y0).andThen .now).andThen .now
 refine f0 (mU ?_)
 skip
 refine nd_load y0 ?_
 show aF _ _ (callAny.viaDunder (.ref 135) _) _ _ _
 skip
 refine ae (sP.at ?_)
 skip
 skip
 refine ae (ao (ae (ao ?_)))
 refine ao (a:=Fin.again (.call (.builtin "type.__call__") ⟨.ref 135::[va,vb,vc],[]⟩)) (And.intro rfl ?_)
 refine codeAny_call_builtin_at (Code.quiet_builtin _ (by decide +kernel)) entry_typeCall (check_slot tc_kind tc_split typ (tc_args _ _ _) ?_)
 skip
 skip
 have h0:((oo 135)==dk "type")=false:=rfl
 skip
 skip
 refine ae (hm.here ?_)
 skip
 refine ae (made.here ?_)
 skip
 refine ae (BZ X ?_)
 refine ae (bM (aL k (fun v s' z=>?_) fun O O z=>z))
 obtain ⟨r,dx,vs,rfl,X',hr,q⟩:=z
 obtain ⟨y0,made,base,sub,self,init,sP,typ⟩:=pR (M:=aB prog w) X'
 have t1:dn (aB prog w) s'.heap (mh (.ref r)) (.ref 135):=(mN hr).andThen .now
 have inst:dn (aB prog w) s'.heap (jt (.ref r) (.ref 135)) true:=t1.andThen self
 refine ae (inst.here ?_)
 skip
 refine ae (bM ?_)
 skip
 refine ae (ae (t1.here (init.here ?_)))
 skip
 refine bM ?_
 skip
 refine ae (ao (ae (Cz X' hr (ao ?_))))
 exact ao q
theorem Af {h:ay} {va vb vc:ag} (hA:eV A 1) (X:Cx w h):Cd PQ w A h [] (.ref 135) [va,vb,vc] (mO h [va,vb,vc]):=fun s Q E hs k=>by
 subst hs
 refine wx X (Gx (hA.make 135 _) X { s with toks:=s.toks+1} _ _ rfl fun v h' tk kk hv=>?_)
 obtain ⟨r,dx,rfl,hr,hdx,hm⟩:=id hv
 exact ⟨r,dx,_,rfl,X.sub kk.all,hm,k _ h' tk kk hv⟩
end
theorem sq:Slot "method_descriptor" "__get__" "method_descriptor.__get__" :=
 .of (owner:= "method_descriptor") (n:= "__get__") (by rw [eJ,dc];kernel_rfl) (by decide +kernel) (by decide +kernel) (by decide +kernel)
  (by first|exact .inl (by decide +kernel)|exact .inr (by decide +kernel)) (by rw [eG];kernel_rfl)
theorem uR:lr table "method_descriptor.__get__" = some cc.«method_descriptor.__get__»:=rj (by kernel_rfl)
theorem vZ (a b c:ag):ll "method_descriptor.__get__" ⟨[a,b,c],[]⟩:=by unfold ll;kernel_rfl
theorem Av:jv (.type "method_descriptor") "__set__" = cJ none:=by rw [eJ,dc];kernel_rfl
theorem Au:jv (.type "method_descriptor") "__delete__" = cJ none:=by rw [eJ,dc];kernel_rfl
theorem G6:Manifest.toldItsClass.contains "set.__contains__" = false:=by decide +kernel
theorem G4:Manifest.toldItsClass.contains "dict.get" = false:=by decide +kernel
theorem CV:ou (.type "set") (.type "set")=cJ true:=by rw [eG];kernel_rfl
theorem AQ:ou (.type "dict") (.type "dict")=cJ true:=by rw [eG];kernel_rfl
noncomputable abbrev kH (id:String) (a:aH):cA:={ cls:=.type "builtin_function_or_method",data:=.fields #[.builtin id,.ref a]}
section
variable {prog:aV} {w:aP} {A:aS} {E:ag→am→Prop} {s:am} {a:aH} {o:cA}
theorem EC {P:Fin→am→Prop} (hx:s.heap.get? a=some o) (hc:o.cls=.type "set") (h:P (.done (.ret (.ref s.heap.objs.size))) { s with heap:=s.heap.push (kH "set.__contains__" a)}) :
  aF (aB prog w) A (cc.«method_descriptor.__get__» ⟨[.builtin "set.__contains__",.ref a,.type "set"],[]⟩) P E s:=by
 have ti:dn (aB prog w) s.heap (jt (.ref a) (.type "set")) true:=((mN hx).andThen (by rw [hc];exact .now)).andThen (d8 CV)
 skip
 refine ae (iR (a:=(.builtin "set.__contains__",some (.ref a),some (.type "set"))) (by first|rfl|kernel_rfl) ?_)
 skip
 skip
 skip
 refine ae (ae (iR (a:=(("__contains__" : bU),.type "set")) (by first|rfl|kernel_rfl) ?_))
 refine ae (ti.here ?_)
 skip
 exact ao (ae (dq (ao h)))
theorem Ck {P:Fin→am→Prop} (hx:s.heap.get? a=some o) (hc:o.cls=.type "dict") (h:P (.done (.ret (.ref s.heap.objs.size))) { s with heap:=s.heap.push (kH "dict.get" a)}) :
  aF (aB prog w) A (cc.«method_descriptor.__get__» ⟨[.builtin "dict.get",.ref a,.type "dict"],[]⟩) P E s:=by
 have ti:dn (aB prog w) s.heap (jt (.ref a) (.type "dict")) true:=((mN hx).andThen (by rw [hc];exact .now)).andThen (d8 AQ)
 skip
 refine ae (iR (a:=(.builtin "dict.get",some (.ref a),some (.type "dict"))) (by first|rfl|kernel_rfl) ?_)
 skip
 skip
 skip
 refine ae (ae (iR (a:=(("get" : bU),.type "dict")) (by first|rfl|kernel_rfl) ?_))
 refine ae (ti.here ?_)
 skip
 exact ao (ae (dq (ao h)))
end
open PySem PySem.W PyProof.Rows Builtin.ObjectAttr
section
variable {prog:aV} {w:aP} {A:aS} {E:ag→am→Prop} {s:am} {a:aH} {o:cA}
theorem zW {T id:String} {nm:bU} {tk:jR} {Q:ag→am→Prop} (hx:s.heap.get? a=some o) (hc:o.cls=.type T) (hd:o.dict=none) (hcls:∀c,o.data≠.cls c)
  (hl:jv (.type T) nm=cJ (some (.builtin id))) (ht:mh (.builtin id)=cJ (.type "method_descriptor"))
  (hcg:(["__module__", "__name__", "__qualname__", "__doc__", "__annotations__"]:List bU).contains nm=false)
  (get:aF (aB prog w) A.in1 (cc.«method_descriptor.__get__» ⟨[.builtin id,.ref a,.type T],[]⟩) (fun fin s'=>∃v,fin=.done (.ret v)∧Q v s') E s) :
  aF (aB prog w) A (cc.«object.__getattribute__» ⟨[.ref a,.str nm tk],[]⟩) (fun fin s'=>∃v,fin=.done (.ret v)∧Q v s') E s:=by
 have t1:dn (aB prog w) s.heap (mh (.ref a)) (.type T):=(mN hx).andThen (by rw [hc];exact .now)
 have l1:dn (aB prog w) s.heap (jv (.type T) nm) (some (.builtin id)):=d8 hl
 have b1:dn (aB prog w) s.heap (mh (.builtin id)) (.type "method_descriptor"):=d8 ht
 have g1:dn (aB prog w) s.heap (getOf (some (.builtin id))) (some (.builtin "method_descriptor.__get__")):=by
  show dn _ _ (specialOf (.builtin id) "__get__") _
  skip
  exact b1.andThen (d8 sq.lookup)
 have n1:dn (aB prog w) s.heap (takesStores (.builtin id)) false:=by
  skip
  refine (b1.andThen (d8 Av)).andThen ?_
  skip
  exact (b1.andThen (d8 Au)).andThen .now
 have d1:dn (aB prog w) s.heap (dataDescriptor? (some (.builtin id)) (some (.builtin "method_descriptor.__get__"))) none:=n1.andThen .now
 skip
 refine ae (iR (a:=(.ref a,[.str nm tk])) (by rfl) ?_)
 skip
 refine ae (iR (a:=nm) (by rfl) ?_)
 refine ae (t1.here (ae ?_))
 skip
 refine ae (l1.here (ae (g1.here (ae (d1.here ?_)))))
 skip
 skip
 refine ae (ae (ae (wpAny_loadPart hx ?_)))
 have fin:aF (aB prog w) A (bindTo (.builtin "method_descriptor.__get__") (.builtin id) (.ref a) (.type T)) (fun fin s'=>∃v,fin=.done (.ret v)∧Q v s') E s:=by
  unfold bindTo
  skip
  exact ae (bM (db sq ht uR (aL get (fun fin s' z=>by obtain ⟨v,rfl,q⟩:=z;exact ⟨v,rfl,ao ⟨v,rfl,q⟩⟩) fun O O z=>z) (vZ _ _ _)))
 have tail:∀K:_→mw Fin,K (.bind (.builtin "method_descriptor.__get__") (.builtin id))=bindTo (.builtin "method_descriptor.__get__") (.builtin id) (.ref a) (.type T)→aF (aB prog w) A (copiedAttributeGuard nm (.ref a)) (fun O s'=>aF (aB prog w) A (byTheClass (some (.builtin id)) (some (.builtin "method_descriptor.__get__"))) (fun r s'=>aF (aB prog w) A (K r) (fun fin s'=>∃v,fin=.done (.ret v)∧Q v s') E s') E s') E s:=by
  intro K hK
  unfold copiedAttributeGuard
  skip
  refine hcg.symm▸?_
  skip
  refine ao ?_
  skip
  exact ae (fg (ao (by rw [hK];exact fin)))
 obtain ⟨oc,od,oda,osl⟩:=o
 skip
 subst hc hd
 cases oda with
 | cls c=>exact absurd rfl (hcls c)
 | _=>
  refine ae (wpAny_loadPart hx ?_)
  skip
  skip
  refine ao ?_
  skip
  refine ao ?_
  skip
  exact ae (tail _ rfl)
theorem tf {T ga id:String} {nm:bU} {expr:Bool} {Q:ag→am→Prop} (hx:s.heap.get? a=some o) (hc:o.cls=.type T) (hd:o.dict=none) (hcls:∀c,o.data≠.cls c)
  (S:Slot T "__getattribute__" ga) (hE:lr table ga=some cc.«object.__getattribute__») (hargs:∀x y,ll ga ⟨[x,y],[]⟩)
  (hl:jv (.type T) nm=cJ (some (.builtin id))) (ht:mh (.builtin id)=cJ (.type "method_descriptor"))
  (hcg:(["__module__", "__name__", "__qualname__", "__doc__", "__annotations__"]:List bU).contains nm=false)
  (get:∀A P s,s.heap.get? a=some o→P (.done (.ret (.ref s.heap.objs.size))) { s with heap:=s.heap.push (kH id a)}→aF (aB prog w) A (cc.«method_descriptor.__get__» ⟨[.builtin id,.ref a,.type T],[]⟩) P (fun O O=>False) s)
  (q:Q (.ref s.heap.objs.size) (sh s (s.heap.push (kH id a)) (s.toks+1))):aF (aB prog w) A (getAttr (.ref a) nm expr) Q E s:=by
 have t1:dn (aB prog w) s.heap (mh (.ref a)) (.type T):=(mN hx).andThen (by rw [hc];exact .now)
 refine ae (wpAny_mkText (bM (ae (t1 _ _ _ _ (fun O O e=>e) (ae ((d8 S.lookup) _ _ _ _ (fun O O e=>e) ?_))))))
 skip
 skip
 refine ae (ao (ae (jY (bM ?_))))
 unfold callGetattribute
 rw [show (expr && onTheHeap (ag.builtin ga))=false from mC _,if_neg (by decide)]
 unfold boundAndCalled
 rw [S.bind]
 refine ae (ao ?_)
 skip
 refine db (s:={ s with toks:=s.toks+1}) S ⟨o,hx,hc⟩ hE ?_ (hargs _ _)
 refine zW (s:={ s with toks:=s.toks+1}) (E:=fun O O=>False) hx hc hd hcls hl ht hcg ?_ |> fun z=>aL z (fun O O z=>z) fun O O z=>z.elim
 exact get _ _ { s with toks:=s.toks+1} hx ⟨_,rfl,handed_on rfl q⟩
end
theorem Hs:(dk "builtin_function_or_method" == dk "method" || dk "builtin_function_or_method" == dk "builtin_function_or_method" || dk "builtin_function_or_method" == dk "method-wrapper")=true:=by decide
theorem Ie:(dk "builtin_function_or_method" != dk "method")=true:=by decide
section
variable {prog:aV} {w:aP} {A:aS} {E:ag→am→Prop} {s:am} {u a:aH} {o:cA}
theorem rJ {id:String} {b:cc} {args:List ag} {Q:ag→am→Prop} (hu:s.heap.get? u=some (kH id a)) (hp:plainId id=true) (hb:lr table id=some b)
  (hck:∀A E (P:Unit→am→Prop),P () s→aF (aB prog w) A (o0 id ⟨.ref a::args,[]⟩) P E s)
  (h:aF (aB prog w) A.in1 (b ⟨.ref a::args,[]⟩) (fun fin s'=>match fin with|.done f=>(wants Q E) (.ok f) s'|.again c'=>c'.quiet=true∧hW (aB prog w) A c' (wants Q E) s') (fun e s'=>E e s') s) :
  aF (aB prog w) A (sP (.ref u) args) Q E s:=by
 refine f0 (mU ?_)
 skip
 refine nd_load hu ?_
 refine ae (ao ?_)
 skip
 skip
 skip
 skip
 refine ae (hck _ _ _ ?_)
 refine ao (a:=Fin.again (.builtin id ⟨.ref a::args,[]⟩)) (And.intro (plainId_quiet hp _) ?_)
 refine mT hb ?_
 rw [aS.under_plainId hp]
 exact h
end
noncomputable def nR (id full:String) (args:Args):Prop:=(match Manifest.signature? id with|some sig=>Bind.checkArgs id { sig with full:=full} args|none=>cJ ())=cJ ()
theorem zy (a b c:ag):nR "dict.get" "dict.get" ⟨[a,b,c],[]⟩:=by unfold nR;kernel_rfl
theorem Bu (a b:ag):nR "set.__contains__" "set.__contains__" ⟨[a,b],[]⟩:=by unfold nR;kernel_rfl
section
variable {prog:aV} {w:aP} {A:aS} {E:ag→am→Prop} {s:am} {a:aH} {o:cA}
theorem qQ {id T full:String} {args:List ag} {P:Unit→am→Prop} (ho:s.heap.get? a=some o) (hc:o.cls=.type T) (hcls:∀c,o.data≠.cls c)
  (hk:kA id=some .method) (hm:ou (.type T) (.type "module")=cJ false) (hv:rd.contains id=false) (hf:s!"{Bind.lastOf T}.{Bind.lastOf id}" = full)
  (hb:nR id full ⟨.ref a::args,[]⟩) (q:P () s):aF (aB prog w) A (o0 id ⟨.ref a::args,[]⟩) P E s:=by
 have t1:dn (aB prog w) s.heap (mh (.ref a)) (.type T):=(mN ho).andThen (by rw [hc];exact .now)
 have m1:dn (aB prog w) s.heap (jt (.ref a) (.type "module")) false:=t1.andThen (d8 hm)
 unfold o0
 cases hsig:Manifest.signature? id with
 | none=>exact ao q
 | some sig=>
  unfold nR at hb
  replace hb:=hsig▸hb
  dsimp only at hb ⊢
  rw [hk]
  dsimp only
  have h1:(qt != qt && qt != qj.classMethod)=false:=by decide
  skip
  skip
  refine ae (m1.here ?_)
  refine hv.symm▸?_
  skip
  have hty:dn (aB prog w) s.heap (isType (.ref a)) false:=by
   refine (mN ho).andThen ?_
   set_option tactic.hygienic true in split
   ·rename_i c hq;exact absurd hq (hcls c)
   ·exact .now
  refine ae (hty.here ?_)
  skip
  refine ae (t1.here ?_)
  dsimp only
  refine hf.symm▸hb.symm▸?_
  exact ao q
end
theorem D4:(["__module__", "__name__", "__qualname__", "__doc__", "__annotations__"]:List bU).contains "get" = false:=by decide +kernel
theorem D3:(["__module__", "__name__", "__qualname__", "__doc__", "__annotations__"]:List bU).contains "__contains__" = false:=by decide +kernel
theorem Cv:ou (.type "dict") (.type "module")=cJ false:=by rw [eG];kernel_rfl
theorem EX:ou (.type "set") (.type "module")=cJ false:=by rw [eG];kernel_rfl
theorem C3:rd.contains "dict.get" = false:=by decide +kernel
theorem Fd:rd.contains "set.__contains__" = false:=by decide +kernel
theorem BX:s!"{Bind.lastOf "dict"}.{Bind.lastOf "dict.get"}" = "dict.get" :=by decide +kernel
theorem Er:s!"{Bind.lastOf "set"}.{Bind.lastOf "set.__contains__"}" = "set.__contains__" :=by decide +kernel
theorem B7:kA "dict.get" = some .method:=by decide +kernel
theorem Ex:kA "set.__contains__" = some .method:=by decide +kernel
theorem DI.nocls {w:aP} {o:cA} {kvs:List (Int×ag)} (d:DI w o kvs):∀c,o.data≠.cls c:=by obtain ⟨es,ep,_,e,_⟩:=d;intro c q;rw [e] at q;cases q
section
variable {prog:aV} {w:aP} {A:aS} {e:gy} {h:ay} {u a d:aH} {o:cA} {kvs:List (Int×ag)}
noncomputable def vT (h:ay) (id:String) (a:aH) (v:ag) (h':ay):Prop:=∃u,v=.ref u∧iK h h' u (kH id a)
theorem Eg.getGet {ex:au} {pos:dJ} (H:Ev prog w A e h ex (· = .ref d)) (ho:h.get? d=some o) (hD:DI w o kvs)
  (he:autoParam (cO (.Attribute ex EN pos) e=(do
   let o ←cO ex e
   fe pos.atName
   let r ←gf [o] (getAttr o EN true)
   fb ex o r
   cJ r)) rfE):Eg prog w A e h (.Attribute ex EN pos) (vT h "dict.get" d):=fun s Q E hs k=>by
 subst hs
 refine Attribute_any_ (H s _ _ rfl fun v tk hv=>?_) he
 subst hv
 exact tf (s:={ s with toks:=tk}) (o:=o) ho hD.cls.1 hD.cls.2 hD.nocls PySem.F.slot_dict_getattribute PySem.F.entry_dict_ga PySem.F.args_dict_getattribute_2 kz.lookup PySem.F.type_dict_get D4
  (fun A P s hx q=>Ck hx hD.cls.1 q) (k _ _ (tk+1) (.push _ _ _) ⟨_,rfl,iK.push _ _⟩)
theorem Eg.getCon {ex:au} {pos:dJ} {es:Array (Int×ag)} {ep:Nat} {t:bH} (H:Ev prog w A e h ex (· = .ref a)) (ho:h.get? a=some (SI.iT es ep t))
  (he:autoParam (cO (.Attribute ex qG pos) e=(do
   let o ←cO ex e
   fe pos.atName
   let r ←gf [o] (getAttr o qG true)
   fb ex o r
   cJ r)) rfE):Eg prog w A e h (.Attribute ex qG pos) (vT h "set.__contains__" a):=fun s Q E hs k=>by
 subst hs
 refine Attribute_any_ (H s _ _ rfl fun v tk hv=>?_) he
 subst hv
 exact tf (s:={ s with toks:=tk}) ho rfl rfl (fun c q=>by cases q) PySem.F.slot_set_getattribute PySem.F.entry_set_ga PySem.F.args_set_getattribute_2 PySem.F.slot_set_contains.lookup PySem.F.type_set_contains D3
  (fun A P s hx q=>EC hx rfl q) (k _ _ (tk+1) (.push _ _ _) ⟨_,rfl,iK.push _ _⟩)
end
section
variable {w:aP} {A:aS} {e:gy} {h:ay} {u a d:aH} {o:cA} {kvs:List (Int×ag)} {k:Int} {tk:jR}
theorem By {s:am} {E:ag→am→Prop} {x y:ag} {P:Unit→am→Prop} (ho:s.heap.get? d=some o) (hD:DI w o kvs) (q:P () s):aF (aB PQ w) A (o0 "dict.get" ⟨[.ref d,x,y],[]⟩) P E s:=
 @qQ PQ w A E s d o "dict.get" "dict" "dict.get" [x,y] P ho hD.cls.1 hD.nocls B7 Cv C3 BX (zy (.ref d) x y) q
theorem D8 {s:am} {E:ag→am→Prop} {x:ag} {P:Unit→am→Prop} {es:Array (Int×ag)} {ep:Nat} {t:bH} (ho:s.heap.get? a=some (SI.iT es ep t)) (q:P () s):aF (aB PQ w) A (o0 "set.__contains__" ⟨[.ref a,x],[]⟩) P E s:=
 @qQ PQ w A E s a _ "set.__contains__" "set" "set.__contains__" [x] P ho rfl (fun c q=>by cases q) Ex EX Fd Er (Bu (.ref a) x) q
theorem Bx {dflt:ag} (hu:h.get? u=some (kH "dict.get" d)) (ho:h.get? d=some o) (hD:DI w o kvs) (hs:(d==dF)=false) :
  Cd PQ w A h [] (.ref u) [.int k tk,dflt] (fun v h'=>h'=h∧v=(dG kvs k).getD dflt):=fun s Q E hs' kk=>by
 subst hs'
 refine rJ hu kz.plain PySem.F.entry_dict_get (fun A E P q=>By ho hD q) ?_
 exact meets_dict_get_default (eu PQ w) d (mZ k tk) hs dflt A (wants Q E) s ⟨_,(hD.at ho).mapOf,kk _ _ _ (.refl _ _) ⟨rfl,rfl⟩⟩
theorem Bw (hu:h.get? u=some (kH "set.__contains__" a)) (hS:SI.iS w h a []) :
  Cd PQ w A h [] (.ref u) [.int k tk] (fun v h'=>h'=h∧v=.bool false):=fun s Q E hs' kk=>by
 subst hs'
 obtain ⟨es,ep,t,ho,hA⟩:=hS
 have hz:es=#[]:=by have:=hA.size;simpa using this
 subst hz
 have hS:s.heap.SetOf (eu PQ w) a (fun O=>false) 0:=⟨_,_,_,_,ho,⟨rfl,rfl,rfl⟩,rfl,fun e he=>by simp at he,fun k=>by simp,by decide,hA.fits,rfl⟩
 refine rJ hu PySem.F.slot_set_contains.plain entry_set_contains (fun A E P q=>D8 ho q) ?_
 delta cc.«frozenset.__contains__» cc.Frozenset.oneOther
 simp only [List.isEmpty_nil,bind_assoc]
 skip
 refine ae (ao ?_)
 try dsimp only
 refine ae (ao ?_)
 try dsimp only
 refine ae (wpAny_tryCatch ?_)
 refine bM ?_
 refine ae ((eu PQ w).pyHash (mZ k tk) ?_)
 refine ae (wpAny_setFind_of (s:={ s with toks:=s.toks+1}) (mZ k tk) rfl hS fun r hr=>?_)
 refine ao ?_
 show aF _ _ (ret (ag.bool r.isSome)) _ _ _
 refine hr.symm▸?_
 exact ao (kk _ _ _ (.refl _ _) ⟨rfl,rfl⟩)
end
theorem Hq:(dk "builtin_function_or_method" == dk "builtin_function_or_method" || dk "builtin_function_or_method" == dk "method-wrapper")=true:=by decide
section
variable {prog:aV} {w:aP} {M:Model} {A:aS} {E:ag→am→Prop} {s:am} {e:gy} {h:ay} {u a:aH} {id:String}
theorem wk {pos:dJ} {args:List (Bool×mw ag)} {Q:ag→am→Prop} (hp:args.any (·.1)=false)
  (h:aF M A (evalArgs (.ref u) true args []) (fun x s₁=>s₁.heap.get? u=some (kH id a)∧aF M A (sP (.ref u) ([]++x.pos) x.kw) Q E s₁) E s):aF M A (g9 pos (.ref u) [] args []) Q E s:=by
 unfold g9
 refine ae (bM (aL h (fun x s₁ h₁=>ae (gp ?_)) fun O O x=>x))
 obtain ⟨ho,hcall⟩:=h₁
 simp only [hp,List.any_nil,Bool.or_false]
 refine ae (m:=keeperOf (.ref u)) ?_
 skip
 refine ae (wpAny_load ho ?_)
 skip
 refine ao ?_
 exact ae (aL hcall (fun r s₂ hr=>ae (bM (wpAny_point (ao hr)))) fun O O x=>x)
theorem wj {pos:dJ} {ex:au} {rest:List au} {Q:ag→am→Prop}
  (h:aF M A (spliced (gK pos (aE (ex::rest) e))) (fun vs s₁=>s₁.heap.get? u=some (kH id a)∧aF M A (sP (.ref u) ([]++vs)) Q E s₁) E s)
  (he:autoParam (aE (ex::rest) e=(false,cO ex e)::aE rest e) rfA) (hplain:autoParam ((gK pos (aE rest e)).any (·.1)=false) rfA) :
  aF M A (g9 pos (.ref u) [] (gK pos (aE (ex::rest) e)) []) Q E s:=by
 rw [he] at h ⊢
 refine wk (id:=id) (a:=a) (by show (false || (gK pos (aE rest e)).any (·.1))=false;rw [hplain];rfl) ?_
 exact Calls.evalArgs_plain h
theorem Eg.callU {x:bU} {p pos:dJ} {ex:au} {rest:List au} {P:List ag→ay→Prop} {R:ag→ay→Prop} (N:Ev prog w A e h (.Name x p) (· = .ref u)) (ho:h.get? u=some (kH id a)) (H:Es prog w A e h (ex::rest) P)
  (K:∀vs h1,ba [] h h1→P vs h1→Cg prog w A h1 (.ref u) vs R) (he:autoParam (aE (ex::rest) e=(false,cO ex e)::aE rest e) rfA) (hplain:autoParam ((gK pos (aE rest e)).any (·.1)=false) rfA) :
  Eg prog w A e h (.Call (.Name x p) (ex::rest) [] pos) R:=fun s Q E hs k=>eL (N s _ _ hs fun v tk hv=>by
 subst hv
 exact wj (H pos _ _ _ hs fun vs h1 tk1 k1 hvs=>⟨k1.get ho,K vs h1 k1 hvs _ _ _ rfl fun v h2 tk2 k2 hr=>k v h2 tk2 (k1.trans k2) hr⟩) he hplain)
end
noncomputable def xe:dP:=pP (eA 5 3) fM .none (kM (eA 5 3) 435) (.str bY 194) none (.ref 173)
theorem De (P:bF):(KF P).lookup 174=some ⟨.type "function",none,.func xe,#[]⟩:=by kernel_rfl!
theorem BB (P:bF):oa (KF P) xe.code xe.qualname=true:=by kernel_rfl!
theorem Bh (a b:ag):js xe ⟨[a,b],[]⟩=cJ [(my,a),(nA,b)]:=by rfl
theorem j7 (h:ay) (D:List aH):Sub (bC h D) (bp h D):=fun b o q=>by
 obtain ⟨a1,a2,a3⟩:=cZ q
 exact bq D a1 a2
section
variable {w:aP} {A:aS} {h:ay} {x dx f sd:aH} {od:cA}
theorem CO (hA:eV A 0) (X:Cx w (bC h [dx])) (hx:h.get? x=some (dA 242 dx)) (hd:h.get? dx=some od) (hD:DO od [(jW,.none),(nA,.none),(nB,.none),(ix,.bool true)]) :
  Cd PQ w A h [dx] (.ref 174) [.ref x,.ref f] (fun v h'=>v=.none∧∃od',h'.get? dx=some od'∧DO od' [(jW,.none),(nA,.ref f),(nB,.none),(ix,.bool true),(d0,.none),(lI,.none)]):=by
 have X0:=X.sub (cD h [dx])
 obtain ⟨mg,mb,T⟩:=X0.T
 have hne:x≠dx:=fun q=>by
  obtain ⟨es,ep,e1,_⟩:=hD
  rw [q,hd] at hx;cases hx;cases e1
 refine Cd.enter (c:=[(dx,od)]) (by have:=hA.dp;exact cW (.lt aq ar (.lt (.s 0 0) ar .o)) τ this) (X0.K _ _ (De _)) rfl T.nolimit (f7 X0.K (BB _)) rfl (fun s hs=>.of_eq (Bh _ _)) (by decide +kernel) (fv rfl rfl) rfl (da ⟨hd,by simp⟩) (fun L s hL hk S0=>?_)
 have hx0:∀h',Sub (bp h [dx]) h'→h'.get? x=some (dA 242 dx):=fun h' q=>q _ _ (bq _ hx (by simpa using hne))
 have X1:∀h',Sub (bp h [dx]) h'→Cx w h':=fun h' q=>X.sub ((j7 h [dx]).trans q)
 have hP:∀h':ay,ba [dx] s.heap h'→Sub (bp h [dx]) h':=fun h' kd b o q=>kd _ _ (S0.keep _ _ q) (fun z=>by exact nn (cQ [dx] z) q)
 refine wq fun R1_ hR1=>?_
 refine aT (md fun tk=>⟨rfl,?_⟩)
 refine gO (fV (s:={ s with toks:=tk}) (b:=false) (Et.cmp (Ev.nm S0) (Ev.attr (X1 _ S0.keep) (Ev.nm S0) (hx0 _ S0.keep) (S0.get (.head _)) hD) (fun a b ha hb s Q E hs k=>by subst ha;subst hb;exact is_ref_none (k s.toks))) fun tk=>?_)
 skip
 refine aw (show aF _ _ _ _ _ _ from ?_)
 refine aT (ju (s:={ s with toks:=tk}) (pre:=[]) (post:=[]) (X1 _ S0.keep) S0 (hx0 _ S0.keep) hD (by decide) (by simp) (by simp) (Ev.gg (Ev.nm S0)) fun v hv h1 od1 tk1 k1 hp kd hD1 S1=>⟨rfl,?_⟩)
 obtain ⟨rfl,rfl⟩:=hp
 have kd:ba [dx] s.heap h1:=kd
 refine aT (nw (s:=sh s h1 tk1) (pre:=[]) (post:=[]) (X1 _ S1.keep) (fun h' kd'=>X1 _ (hP _ (kd.trans kd'))) S1 (hx0 _ S1.keep) hne hD1 (bI rfl) (by simp) (by simp) (Ev.gg Ev.none) fun v hv h2 od2 tk2 k2 hp kd2 hD2 S2=>⟨rfl,aw (hR1 .next _ ⟨h2,tk2,rfl,S2.keep,rfl,od2,S2.get (.head _),?_⟩)⟩)
 obtain ⟨rfl,rfl⟩:=hp
 exact hD2
end
noncomputable def uW:dP:=pP (eA 5 5) fI .none .none (.str bY 194) none (.ref 187)
theorem Dg (P:bF):(KF P).lookup 188=some ⟨.type "function",none,.func uW,#[]⟩:=by kernel_rfl!
theorem BD (P:bF):oa (KF P) uW.code uW.qualname=true:=by kernel_rfl!
theorem Bj (a:ag):js uW ⟨[a],[]⟩=cJ [(my,a)]:=by rfl
noncomputable abbrev mI (L:aH):gy:=di uW L 188
noncomputable def cb (i:Nat):fC:=(sJ (eA 5 5)).getD i (.Pass p0)
noncomputable def qI (l:List Nat):List Int:=l.map fun (j:Nat)=>(j:Int)
noncomputable abbrev D1 (L d dx:aH) (ks:List (Int×aH)):List aH:=L::d::dx::ks.map (·.2)
noncomputable def gz (ks:List (Int×aH)):List (Int×ag):=ks.map fun p=>(p.1,.ref p.2)
structure mv (h:ay) (ks:List (Int×aH)) (ys:List Int) (i:Nat):Prop where
 nd:(ks.map (·.2)).Nodup
 all:∀p∈ks,g8 fun its n=>h.get? p.2=some (ch its n)∧cf its.toList (qI (C.qA ys i p.1))
theorem mv.stab {h h':ay} {ks:List (Int×aH)} {ys:List Int} {i:Nat} (x:mv h ks ys i) (hk:∀b o,h.get? b=some o→cz o=true→h'.get? b=some o):mv h' ks ys i:=
 ⟨x.nd,fun p hp=>let ⟨its,n,a,b⟩:=x.all p hp;⟨its,n,hk _ _ a rfl,b⟩⟩
theorem Ar {α β:Type} {f:α→β}:∀{l:List α},(l.map f).Nodup→∀{a b:α},a∈l→b∈l→f a=f b→a=b:=fun {l}=>by
 induction l with
 | nil=>exact fun O O O ha=>nomatch ha
 | cons c l ih=>
  intro hn a b ha hb hf
  obtain ⟨h1,h2⟩:=lz.mp hn
  rcases aC.mp ha with rfl|ha
  ·rcases aC.mp hb with rfl|hb
   ·rfl
   ·exact absurd (b9.mpr ⟨b,hb,hf.symm⟩) h1
  ·rcases aC.mp hb with e|hb
   ·exact absurd (b9.mpr ⟨a,ha,hf.trans (congrArg f e)⟩) h1
   ·exact ih h2 ha hb hf
theorem vf (ks:List (Int×aH)):(gz ks).map (·.1)=ks.map (·.1):=by simp [gz]
theorem z9 {ks:List (Int×aH)} {k:Int} {v:ag} (h:dG (gz ks) k=some v):∃l,v=.ref l∧(k,l)∈ks:=by
 skip
 obtain ⟨kv,hf,rfl⟩:=Option.map_eq_some_iff.mp h
 obtain ⟨p,hp,rfl⟩:=b9.mp (List.mem_of_find?_eq_some hf)
 have:=List.find?_some hf
 simp only [decide_eq_true_eq] at this
 exact ⟨p.2,rfl,by rw [←this];exact hp⟩
theorem r0 {ks:List (Int×aH)} {k:Int}:dG (gz ks) k=none↔k∉ks.map (·.1):=by
 delta dG gz
 simp only [pL,mE,b9,decide_eq_true_eq]
 constructor
 ·rintro h ⟨p,hp,rfl⟩
  exact h (p.1,.ref p.2) ⟨p,hp,rfl⟩ rfl
 ·rintro h kv ⟨p,hp,rfl⟩ rfl
  exact h ⟨p,hp,rfl⟩
theorem ws {ks:List (Int×aH)} {k:Int} {l:aH} (h:k∉ks.map (·.1)):stored (gz ks) k (.ref l)=gz (ks++[(k,l)]):=by
 unfold stored
 rw [if_neg]
 ·simp [gz]
 ·rw [List.any_eq_true]
  rintro ⟨kv,hkv,he⟩
  unfold gz at hkv
  obtain ⟨p,hp,rfl⟩:=b9.mp hkv
  exact h (b9.mpr ⟨p,hp,of_decide_eq_true he⟩)
section
variable {w:aP} {A:aS} {g₀ g₁ h:ay} {x dx d L sd:aH} {od odx:cA} {ys:List Int} {s:am}
noncomputable def IN (w:aP) (ks:List (Int×aH)) (k:Int) (od1:cA) (h2:ay) (d:aH) (v:ag) (h4:ay):Prop:=
 (∃l,jn (v=.ref l) ((k,l)∈ks) (h4.get? d=some od1))∨(k∉ks.map (·.1)∧∃l,lO (v=.ref l) (h2.get? l=none) (h4.get? l=some (ch #[] 0)) (∃od',h4.get? d=some od'∧DI w od' (gz (ks++[(k,l)]))))
noncomputable abbrev m1 (x sd d:aH):List (bU×ag):=[(my,.ref x),(nB,.ref sd),(wz,.ref d)]
noncomputable def GL (w:aP) (g₀ g₁:ay) (x dx d L sd:aH) (odx:cA) (ys:List Int) (i:Nat) (h':ay):Prop:=
 g8 fun ks od1=>xM (Lp g₀ (D1 L d dx ks) (mI L) h' (m1 x sd d) [(d,od1),(dx,odx)]) (DI w od1 (gz ks)) (mv h' ks ys i) ((∀k,k∈ks.map (·.1)↔k∈ys.take i)) (Sub g₁ h') ((∀b∈D1 L d dx ks,g₁.get? b=none)) (ks.length≤i)
theorem qC {g h:ay} {e:gy} {m:List (bU×ag)} {c:List (aH×cA)} (S:St g e h m c) {o:cA} (ho:h.get? e.locals=some o):cz o=true:=by
 obtain ⟨ml,⟨o',es,ep,ho',hd',_⟩,_⟩:=S.ns
 rw [ho] at ho';cases ho'
 unfold cz;rw [hd']
theorem uC {g:ay} {m:List (bU×ag)} {od1:cA} {ks:List (Int×aH)} {i:Nat} {h':ay} (S:St g (mI L) h' m [(d,od1),(dx,odx)]) (hD:DI w od1 (gz ks)) (hL:mv h' ks ys i) (hodx:cz odx=true):∀b∈D1 L d dx ks,∀o,h'.get? b=some o→cz o=true:=by
 intro b hb o ho
 rcases aC.mp hb with rfl|hb
 ·exact qC S ho
 rcases aC.mp hb with rfl|hb
 ·rw [S.get (.head _)] at ho;cases ho;exact hD.plain
 rcases aC.mp hb with rfl|hb
 ·rw [S.get (.tail _ (.head _))] at ho;cases ho;exact hodx
 ·obtain ⟨p,hp,rfl⟩:=b9.mp hb
  obtain ⟨its,n,a,_⟩:=hL.all p hp
  rw [a] at ho;cases ho;rfl
theorem DO.plain {o:cA} {ma:List (bU×ag)} (h:DO o ma):cz o=true:=by obtain ⟨es,ep,e,_⟩:=h;unfold cz;rw [e]
theorem m7 {g:ay} {m ma:List (bU×ag)} {od1:cA} {kvs:List (Int×ag)} {h':ay} {a:aH} {its:Array ag} {n:Nat} (S:St g (mI L) h' m [(d,od1),(dx,odx)]) (hD:DI w od1 kvs) (hdx:DO odx ma) (ha:h'.get? a=some (ch its n)):a∉[L,d,dx]:=fun z=>by
 simp only [aC,bT,or_false] at z
 rcases z with z|z|z
 ·obtain ⟨ml,⟨o',es,ep,ho',hd',_⟩,_⟩:=S.ns
  rw [z] at ha
  rw [show (mI L).locals=L from rfl,ha] at ho';cases ho';cases hd'
 ·rw [z,S.get (.head _)] at ha;cases ha
  obtain ⟨es,ep,_,e1,_⟩:=hD
  cases e1
 ·rw [z,S.get (.tail _ (.head _))] at ha;cases ha
  obtain ⟨es,ep,e1,_⟩:=hdx
  cases e1
theorem D5 {ma:List (bU×ag)} (hA:eV A 0) (X:Cx w g₀) (hs:IL g₀ sd ys) (hy:ys.length≤3000) (hdx:DO odx ma) (hsys:(d==dF)=false) (hne:d≠dx)
  (H0:GL w g₀ g₁ x dx d L sd odx ys 0 s.heap):aF (aB PQ w) A (fA (cb 2) (mI L)) (fun fl s'=>fl=.next∧g8 fun h' tk=>s'=(sh s h' tk)∧GL w g₀ g₁ x dx d L sd odx ys ys.length h') (fun O O=>False) s:=by
 have hodx:=hdx.plain
 obtain ⟨ks0,od0,L0,_,_,_,hg0,_,_⟩:=id H0
 obtain ⟨vs,q_⟩:=hs.sub L0.here;have hvl:=q_.1;have hvi:=q_.2;clear q_
 have hlen:=hvi.length
 refine wq fun R1_ hR1=>?_
 refine wR (items:=vs.toArray) (l:=sd) hA.hd (Eg.enum (X.sub L0.here) (Ev.nm L0.st) hvl) hvl (GL w g₀ g₁ x dx d L sd odx ys) (fun h' k'=>?_) ?_ ?_ ?_
 ·obtain ⟨ks,od1,a,b,c,e,f,g,hl⟩:=H0
  exact ⟨ks,od1,a.grow k',b,c.stab fun b o q O=>k'.get q,e,f.trans k'.all,g,hl⟩
 ·rintro i h1 h2 ⟨ks,od1,a,b,c,e,f,g,hl⟩ hk
  exact ⟨ks,od1,a.stab (B:=fun b=>∃o,s.heap.get? b=some o) (fun b' o q z=>hk b' o q (by
   rcases z with z|z|z
   ·exact .inl z
   ·exact .inl (uC a.st b c hodx b' z o q)
   ·exact .inr z)),b,c.stab fun b o q p=>hk b o q (.inl p),e,fun b o q=>hk b o (f b o q) (.inr ⟨o,hg0 b o q⟩),g,hl⟩
 ·rintro i T t v h1 tk1 hi hv hT ⟨ks,od1,L1,hD1,hL1,hk1,hg1,hgn,hkl⟩
  replace hi:=iN▸hi
  obtain ⟨k,hk⟩:∃k,ys[i]? = some k:=⟨_,aW (by exact av hi (aA hlen))⟩
  obtain ⟨u,hu⟩:=hvi.get i k hk
  rw [List.getElem?_toArray] at hv
  obtain rfl:v=.int k u:=by rw [hu] at hv;exact (iE hv).symm
  have hL1d:=uC L1.st hD1 hL1 hodx
  have hin3:∀b∈[L,d,dx],b∈D1 L d dx ks:=lv (.head _) (.tail _ (.head _)) (.tail _ (.tail _ (.head _)))
  refine gP (s:=sh s h1 tk1) hA.hd (L1.st.rebase [L,d,dx] (da (.head _)) (fv (.tail _ (.head _)) (.tail _ (.tail _ (.head _))))) hT (fun h2 tk2 S2=>?_)
  have k12:ba [L,d,dx] h1 h2:=S2.kept
  have kl:(gz ks).length≤2^20:=by rw [gz,eh];lia
  refine wq fun R2_ hR2=>?_
  refine aT (wO (s:=sh s h2 tk2) (D:=[d]) (P:=IN w ks k od1 h2 d) (Ed.methB (Ev.nm S2) (S2.get (.head _)) hD1.cls.1 hD1.cls.2 oU PySem.F.slot_dict_setdefault PySem.F.type_dict_setdefault (Es.two (Ev.gg (Ev.nm S2)) fun u h3 k3 hu=>Eg.lst Es.nil (by rintro vs h' ⟨_,rfl⟩;decide)) fun vs h3 k3 hvs=>?_) fun v h4 tk4 k4 hv=>?_)
  ·obtain ⟨u1,v1,h3',rfl,k3',⟨rfl,rfl⟩,k3'',vs',h5,r,_,⟨rfl,rfl⟩,rfl,hN⟩:=hvs
   refine (sQ (k3.get (S2.get (.head _))) hD1 kl hsys).mono fun v h' kd hq=>?_
   rcases hq with ⟨v0,hv0,rfl,rfl⟩|⟨hv0,rfl,od',ho',hd'⟩
   ·obtain ⟨l,rfl,hl⟩:=z9 hv0
    exact .inl ⟨l,rfl,hl,k3.get (S2.get (.head _))⟩
   ·have hkn:=r0.mp hv0
    rw [ws hkn] at hd'
    have hrd:r≠d:=(qn (S2.get (.head _)) hN.no).symm
    exact .inr ⟨hkn,r,rfl,hN.no,kd _ _ hN.yes (qZ hrd),od',ho',hd'⟩
  have hld:∀p∈ks,p.2∉[L,d,dx]:=fun p hp=>by
   obtain ⟨its,n,q,_⟩:=hL1.all p hp
   exact m7 L1.st hD1 hdx q
  have k14:∀b o,h1.get? b=some o→b∉[L,d,dx]→h4.get? b=some o:=fun b o q n=>k4 b o (k12 b o q n) (by simp only [aC,bT,or_false] at n ⊢;exact fun z=>n (.inr (.inl z)))
  have hmeet:lT fun ks' od4 l=>DK (v=.ref l) ((k,l)∈ks') (DI w od4 (gz ks')) (h4.get? d=some od4) (mv h4 ks' ys i) ((∀k,k∈ks'.map (·.1)↔k∈ys.take (i+1))) ((∀b∈D1 L d dx ks',b∈D1 L d dx ks∨h1.get? b=none)) (ks'.length≤i+1):=by
   have old:∀p∈ks,g8 fun its n=>h4.get? p.2=some (ch its n)∧cf its.toList (qI (C.qA ys i p.1)):=fun p hp=>by
    obtain ⟨its,n,q,hi⟩:=hL1.all p hp
    exact ⟨its,n,k14 _ _ q (hld p hp),hi⟩
   rcases hv with ⟨l,rfl,hl,hd4⟩|⟨hkn,l,rfl,hln,hl4,od',hd4,hD4⟩
   ·refine ⟨ks,od1,l,rfl,hl,hD1,hd4,⟨hL1.nd,old⟩,fun k'=>?_,fun b hb=>.inl hb,by exact cW (.le aq (.s 1 1) (.le aq ar .o)) τ hkl⟩
    rw [hk1,C.vF hk]
    constructor
    ·exact .inl
    ·rintro (q|rfl)
     ·exact q
     ·exact (hk1 _).mp (b9.mpr ⟨_,hl,rfl⟩)
   ·have hln1:h1.get? l=none:=by
     cases q:h1.get? l with
     | none=>rfl
     | some o=>
      by_cases z:l∈[L,d,dx]
      ·simp only [aC,bT,or_false] at z
       rcases z with z|z|z
       ·obtain ⟨o,ho⟩:=S2.lie _ FA.loc
        replace hln:=z▸hln
        rw [show (mI L).locals=L from rfl,hln] at ho;cases ho
       ·rw [z,S2.get (.head _)] at hln;cases hln
       ·rw [z,S2.get (.tail _ (.head _))] at hln;cases hln
      ·replace hln:=(k12 _ _ q z)▸hln;cases hln
    refine ⟨ks++[(k,l)],od',l,rfl,by simp,hD4,hd4,⟨?_,fun p hp=>?_⟩,fun k'=>?_,fun b hb=>?_,by simp;exact hkl⟩
    ·rw [iB,List.nodup_append]
     refine ⟨hL1.nd,by simp,fun a ha b hb q=>?_⟩
     simp only [ft,pG,aD] at hb
     obtain ⟨p,hp,rfl⟩:=b9.mp ha
     obtain ⟨its,n,q',_⟩:=hL1.all p hp
     rw [q,hb,hln1] at q';cases q'
    ·rcases bw.mp hp with hp|hp
     ·exact old p hp
     ·obtain rfl:=aD.mp hp
      refine ⟨#[],0,hl4,?_⟩
      rw [C.xk (by exact aR (av hi (aA hlen))) (fun q=>hkn ((hk1 k).mpr q))]
      exact .nil
    ·rw [iB,bw,hk1,C.vF hk];simp
    ·simp only [D1,iB,ft,pG,aC,bw,bT,or_false] at hb ⊢
     rcases hb with h|h|h|h|h
     ·exact .inl (.inl h)
     ·exact .inl (.inr (.inl h))
     ·exact .inl (.inr (.inr (.inl h)))
     ·exact .inl (.inr (.inr (.inr h)))
     ·exact .inr (h▸hln1)
  obtain ⟨ks',od4,l,rfl,hkl',hD4,hd4,hL4,hk4,hDs,hlen4⟩:=hmeet
  have S4:=(S2.change (pre:=[]) (post:=[(dx,odx)]) k4 hd4 il (by simp [dM hne])).rebase [L,d,dx] (da (.head _)) (fv (.tail _ (.head _)) (.tail _ (.tail _ (.head _))))
  refine bE (s:=sh s h4 tk4) S4 (fun h5 tk5 S5=>⟨rfl,?_⟩)
  have k45:ba [L,d,dx] h4 h5:=S5.kept
  have hL5:mv h5 ks' ys i:=⟨hL4.nd,fun p hp=>by
   obtain ⟨its,n,q,hi⟩:=hL4.all p hp
   exact ⟨its,n,k45 _ _ q (m7 S4 hD4 hdx q),hi⟩⟩
  obtain ⟨its,n,hl5,hli⟩:g8 fun its n=>h5.get? l=some (ch its n)∧cf its.toList (qI (C.qA ys i k)):=hL5.all (k,l) hkl'
  have hlo:l∉[L,d,dx]:=m7 S5 hD4 hdx hl5
  have hlo':l≠L∧l≠d∧l≠dx:=by simpa using hlo
  have S5r:=(S5.rebase [L,d,dx,l] (da (.head _)) (fv (.tail _ (.head _)) (.tail _ (.tail _ (.head _))))).follow hl5 (show l∉[L] by simpa using hlo'.1) (cQ _ (by simp))
  have hits:its.size≤i:=by
   have h1:=hli.length
   have h2:(C.qA ys i k).length≤i:=by unfold C.qA;exact aj (kt _ _) (by simp)
   rw [aJ,qI,eh] at h1
   exact aj (aA h1) h2
  refine aT (fP (s:=sh s h5 tk5) (pre:=[]) (post:=[(d,od4),(dx,odx)]) S5r (Ev.gg (Ev.nm S5r)) il (fv (dM hlo'.2.1) (dM hlo'.2.2)) (by show its.size≤2^24;lia) (fun v hv h7 tk7 kv hp kR S7=>⟨rfl,aw ?_⟩))
  obtain ⟨ehv,rfl⟩:=hp
  have ehv:hv=h5:=ehv
  have k57:ba [l] h5 h7:=by rw [ehv] at kR;exact kR
  have k47:∀b o,h4.get? b=some o→b∉[L,d,dx]→b≠l→h7.get? b=some o:=fun b o q n n'=>k57 b o (k45 b o q n) (qZ n')
  have k17:∀b o,h1.get? b=some o→b∉D1 L d dx ks→h7.get? b=some o:=fun b o q n=>by
   have hn:b∉[L,d,dx]:=fun z=>n (hin3 b z)
   refine k47 b o (k14 b o q hn) hn fun z=>?_
   rcases hDs l (by simp only [D1,aC];exact .inr (.inr (.inr (b9.mpr ⟨_,hkl',rfl⟩)))) with y|y
   ·exact n (z▸y)
   ·rw [z,y] at q;cases q
  have hL7:mv h7 ks' ys (i+1):=⟨hL5.nd,fun p hp=>by
   by_cases z:p.2=l
   ·have hpk:p.1=k:=by
     have:=Ar (f:=fun p:Int×aH=>p.2) hL5.nd hp hkl' z
     rw [this]
    refine ⟨_,_,z▸S7.get (.head _),?_⟩
    rw [bX,hpk,C.rY,C.xf hk]
    simp only [beq_self_eq_true,if_true,qI,iB,ft,pG]
    exact cf.append hli (.cons _ _ .nil)
   ·obtain ⟨its',n',q,hi⟩:=hL5.all p hp
    refine ⟨its',n',k57 _ _ q (qZ z),?_⟩
    have hpk:p.1≠k:=fun q'=>by
     have hnd:(ks'.map (·.1)).Nodup:=by
      obtain ⟨es,ep,q_⟩:=hD4;have hnd:=q_.2.2.2.2;clear q_
      rwa [vf] at hnd
     have:=Ar (f:=fun p:Int×aH=>p.1) hnd hp hkl' q'
     rw [this] at z;exact z rfl
    rw [C.rY,C.xf hk,if_neg (by simpa using dM hpk),du]
    exact hi⟩
  refine hR2 .next _ ⟨h7,tk7,rfl,?_,ks',od4,⟨L1.sub.trans (cM fun b o q n O=>⟨k17 b o q n,fun z=>?_⟩),?_⟩,hD4,hL7,hk4,fun b o q=>?_,fun b hb=>?_,hlen4⟩
  ·exact vU.of (D:=D1 L d dx ks) k17 hL1d (da (fun z=>by
    obtain ⟨vs,⟨o,ho,_⟩,_⟩:=hs
    exact (cZ (L1.sub _ _ ho)).2.1 z))
  ·rcases hDs b z with y|y
   ·exact n y
   ·exact nn y q
  ·exact ((S7.less (c':=[(d,od4),(dx,odx)]) (fv (.tail _ (.head _)) (.tail _ (.tail _ (.head _))))).rebase (D1 L d dx ks') (da (.head _)) (fv (.tail _ (.head _)) (.tail _ (.tail _ (.head _))))).names (lv rfl rfl rfl)
  ·exact k17 b o (hg1 b o q) fun z=>by exact nn (hgn b z) q
  ·rcases hDs b hb with y|y
   ·exact hgn b y
   ·cases q:g₁.get? b with
    | none=>rfl
    | some o=>have:=hg1 b o q;exact nn y this
 ·rintro h1 tk1 H1
  refine hR1 .next _ ⟨rfl,h1,tk1,rfl,?_⟩
  rw [iN,hlen] at H1
  exact H1
end
noncomputable def ot:dP:=pP (g6 9) jw .none .none (.str eo 583) none (.ref 264)
theorem Dm (P:bF):(KF P).lookup 265=some ⟨.type "function",none,.func ot,#[]⟩:=by kernel_rfl!
theorem BJ (P:bF):oa (KF P) ot.code ot.qualname=true:=by kernel_rfl!
theorem Bp (a b c:ag):js ot ⟨[a,b,c],[]⟩=cJ [(m9,a),(lJ,b),(nc,c)]:=by rfl
noncomputable def AR:C.Dc→bU
 | .eql=>⟨⟨[101,113,117,97,108]⟩⟩
 | .ins=>⟨⟨[105,110,115,101,114,116]⟩⟩
 | .del=>⟨⟨[100,101,108,101,116,101]⟩⟩
 | .rep=>⟨⟨[114,101,112,108,97,99,101]⟩⟩
noncomputable def xP (h:ay) (v:ag) (o:C.Op):Prop:=xN fun a t0 t1 t2 t3 t4=>v=.ref a∧IsTup h a #[.str (AR o.1) t0,.int o.2.1 t1,.int o.2.2.1 t2,.int o.2.2.2.1 t3,.int o.2.2.2.2 t4]
theorem xP.sub {h h':ay} {v:ag} {o:C.Op} (x:xP h v o) (hs:Sub h h'):xP h' v o:=by
 obtain ⟨a,t0,t1,t2,t3,t4,e,ob,ho,r⟩:=x
 exact ⟨a,t0,t1,t2,t3,t4,e,ob,hs a ob ho,r⟩
noncomputable def lA (h:ay) (D:List aH) (its:Array ag) (l:List C.Op):Prop:=dL (fun v x=>xP (bC h D) v x) its.toList l
noncomputable def sV (h:ay) (D:List aH) (its:Array ag) (l:List (Nat×Nat)):Prop:=dL (fun v (x:Nat×Nat)=>VT (bC h D) v [(x.1:Int),(x.2:Int)]) its.toList l
noncomputable def e9 (h:ay) (D:List aH) (its:Array ag) (l:List C.cv):Prop:=dL (fun v (x:C.cv)=>VT (bC h D) v [(x.1:Int),(x.2.1:Int),(x.2.2:Int)]) its.toList l
section
variable {w:aP} {A:aS} {h:ay} {kp:aH} {kits:Array ag} {nk:Nat} {l:List C.cv} {la lb:Nat} {tla tlb:jR}
theorem zF (hA:eV A 1) (X:Cx w (bC h [])) (hk:(bC h []).get? kp=some (ch kits nk)) (hl:e9 h [] kits l) (hsz:l.length≤1000) :
  Cg PQ w A h (.ref 265) [.ref kp,.int la tla,.int lb tlb] (fun v h'=>lT fun R its n=>lO (v=.ref R) (h'.get? R=some (ch its n)) (h.get? R=none) (lA h' [R] its (C.uw false (0,0) (C.og l++[(la,lb)])))):=by
 have X0:=X.sub (cD h [])
 obtain ⟨mg,mb,T⟩:=X0.T
 refine Cd.cg (Cd.enter (c:=[]) (by have:=hA.dp;exact cW (.lt aq ar (.lt (.s 0 1) ar .o)) τ this) (X0.K _ _ (Dm _)) rfl T.nolimit (f7 X0.K (BJ _)) rfl (fun s hs=>.of_eq (Bp _ _ _)) (by decide +kernel) ?_ rfl (by simp) (fun L s hL hk' S0=>?_))
 ·intro x hx
  simp only [aC,bT,or_false] at hx
  rcases hx with rfl|rfl|rfl<;>rfl
 have hklen:kits.size=l.length:=by have:=hl.length;rwa [aJ] at this
 refine aT (cT (Eg.lst (Es.one (Eg.pair Ev.int Ev.int)) (by rintro vs h' ⟨v,rfl,_⟩;show 1≤2^24;decide)) fun v h1 tk k1 hv=>?_)
 obtain ⟨vs,hT,R,kT,⟨v1,rfl,us,t,hus,rfl,hNt⟩,rfl,hNR⟩:=hv
 have hsR:=dh kT hNR.no
 have hhR:=dh hk' hsR
 have S1:=S0.add k1 hNR.yes hsR
 have L1:Lp (bC h []) [L,R] (di ot L 265) h1 _ _:=Lp.start S1 [L,R] (da (.head _)) (by simp) (pu (hk'.trans k1).all (fv hL hhR))
 have htR:t≠R:=qn hNt.yes hNR.no
 have htL:t≠L:=fun q=>by
  obtain ⟨o,ho⟩:=S0.lie _ FA.loc
  have:=hNt.no;rw [q] at this
  rw [show (di ot L 265).locals=L from rfl,this] at ho;cases ho
 have hp1:sV h1 [L,R] #[.ref t] [(0,0)]:=.cons (VT.new hus hNt (hNR.kept.mono (by simp)) (by simp [htR,htL])) .nil
 refine bE (s:=sh s h1 tk) L1.st (fun h2 tk2 S2=>⟨rfl,?_⟩)
 have L2:=(L1.next S2 L1.st.inC).forget (m':=[(m9,.ref kp),(lJ,.int la tla),(nc,.int lb tlb),(xo,.ref R)]) (qD rfl rfl rfl rfl)
 have hp2:sV h2 [L,R] #[.ref t] [(0,0)]:=hp1.mono fun O O q=>q.sub (bP S2.keep)
 have k02:Sub h h2:=fun b o q=>S2.keep b o (bq _ (k1.get (hk'.get q)) (GY hL hhR q))
 clear S2 S1 S0 L1 hp1
 have hkp:kp≠R:=qn (cD _ _ _ _ hk) hhR
 have hkL:kp≠L:=qn (cD _ _ _ _ hk) hL
 refine aT (po (s:=sh s h2 tk2) (items:=kits) hA.hd [L,R]
  (fun i h'=>g8 fun its n=>jn (Lp (bC h []) [L,R] (di ot L 265) h' [(m9,.ref kp),(lJ,.int la tla),(nc,.int lb tlb),(xo,.ref R)] [(R,ch its n)]) (sV h' [L,R] its ((0,0)::C.og (l.take i))) (ba [L,R] h2 h'))
  (Eg.mono (Ev.gg (Ev.nm L2.st)) fun v h' O q=>⟨kp,q.2,?_,?_⟩) ?_ (fun h' k'=>⟨#[.ref t],0,L2.grow k',?_,k'.mono (by simp)⟩) ?_ ?_ ?_)
 ·rw [q.1];exact ⟨_,L2.here _ _ hk,rfl,nk,rfl⟩
 ·simp [hkp,hkL]
 ·exact fv (L2.st.lie _ FA.loc) ⟨_,L2.st.get (.head _)⟩
 ·exact hp2.mono fun O O q=>q.sub (bP (L2.st.grow k').keep)
 ·rintro i h3 h4 ⟨its,n,a,b,c⟩ hk
  exact ⟨its,n,a.stab hk,b.mono fun O O q=>q.sub (iX hk),c.stab hk fun b o q O=>⟨o,q⟩⟩
 ·rintro i v h3 tk3 hi hv ⟨its,n,L3,hp3,k23⟩
  obtain ⟨x,hx,hvx⟩:=hl.get i v (by rw [cy];exact hv)
  have hvx3:=hvx.sub L3.here
  obtain ⟨a,o,n',t1,t2,t3,rfl,ho,hc,hd⟩:=hvx3.three
  refine mf (s:=sh s h3 tk3) (u:=.int x.1 t1) (v:=.int x.2.1 t2) (r:=.int x.2.2 t3) hA.hd L3.st ⟨o,ho,hc,n',hd⟩ (fun h4 tk4 S4=>?_)
  refine wq fun R_ hR=>?_
  have hlen3:=hp3.length
  have hflat:(C.og (l.take i)).length≤2*i:=by
   have:∀l:List C.cv,(C.og l).length=2*l.length:=by
    intro l
    induction l with
    | nil=>rfl
    | cons y l ih=>simp only [C.og,nG,bL,cS,qg] at ih ⊢;exact ak (cW (.le (.p (.p (.p (.k 0) (.k 1)) (.k 1)) aq) (.m 2 (.s 1 1)) (.eq aq (.m 2 ar) .o)) τ ih) (cW (.le (.m 2 (.s 0 1)) (.p (.p (.p (.k 0) (.k 1)) (.k 1)) ar) (.qe ar (.m 2 aq) .o)) τ ih)
   rw [this,dE];exact cW (.le (.m 2 aq) (.m 2 ar) (.w 2 (.le aq ar .o))) τ (aN _ _)
  have hits:its.size≤2*i+1:=by
   rw [aJ,cS] at hlen3;exact c8 (.le aq (.p (.m 2 ar) (.k 1)) (.eq aq (.s 2 1) (.le az (.m 2 ar) .o))) τ hlen3 hflat
  refine aT (qL (s:=sh s h4 tk4) (pre:=[]) (post:=[]) S4 (Eg.lst (Es.two (Eg.pair (Ev.nmI S4) (Ev.nmI S4)) fun u h5 k5 hu=>Eg.pair (Ev.add (Ev.nmI (S4.grow k5)) (Ev.nmI (S4.grow k5))) (Ev.add (Ev.nmI (S4.grow k5)) (Ev.nmI (S4.grow k5)))) ?_) ?_ (by simp) (by simp) ?_)
  ·rintro vs h' ⟨u,v,h1,rfl,_⟩;show 2≤2^24;decide
  ·rintro v h' ⟨vs,h1,b,kb,⟨u,v,h5,rfl,_⟩,rfl,hN⟩
   exact ⟨b,_,0,rfl,hN.yes,by show its.size+2≤_;exact cR (.le (.s 0 2) (.k 1048576) (.le aq (.p (.m 2 ar) (.k 1)) (.w 2 (.lt ar az (.w 2 (.eq az aI (.w 2 (.le aI (.k 1000) .o)))))))) τ hits hi hklen hsz⟩
  ·rintro b its2 n2 n' h5 h6 tk6 k45 ⟨vs,h7,b',k47,⟨u,v,h8,rfl,k48,⟨us1,t1',hi1,rfl,hN1⟩,k87,us2,t2',hi2,rfl,hN2⟩,e1,hNb⟩ hb k56 S6
   cases e1
   have hits2:its2=#[.ref t1',.ref t2']:=by
    have:=hNb.yes;rw [hb] at this
    injection this with this
    injection this with _ _ this _
    injection this
   subst hits2
   have hin4:vS [L,R] h4:=fv (S4.lie _ FA.loc) ⟨_,S4.get (.head _)⟩
   have hin8:vS [L,R] h8:=hin4.sub fun b o q=>⟨o,k48.get q⟩
   refine ⟨rfl,aw (hR _ _ ⟨h6,tk6,rfl,S6.kept,_,_,(L3.next S6 (by simp)).forget (qD rfl rfl rfl rfl),?_,k23.trans S6.kept⟩)⟩
   have hx':l.take (i+1)=l.take i++[x]:=by
    obtain ⟨hlt,hxx⟩:=jk.mp hx
    rw [gJ,hx];rfl
   rw [sV,hx',b7,C.og,gY,←dD]
   refine (hp3.mono fun O O q=>q.sub (bP S6.keep)).append (.cons (VT.new hi1 hN1 ?_ (hN1.notin hin4)) (.cons (VT.new hi2 hN2 ?_ (hN2.notin hin8)) .nil))
   ·exact ((k87.trans hNb.kept).mono (by simp)).trans (k56.mono (by simp))
   ·exact (hNb.kept.mono (by simp)).trans (k56.mono (by simp))
 ·rintro h3 tk3 ⟨its,n,L3,hp3,k23⟩
  rw [hklen,dY] at hp3
  have hflat:(C.og l).length=2*l.length:=by
   clear hsz hl hklen hp3
   induction l with
   | nil=>rfl
   | cons y l ih=>simp only [C.og,nG,bL,cS,qg] at ih ⊢;exact ak (cW (.le (.p (.p (.p (.k 0) (.k 1)) (.k 1)) aq) (.m 2 (.s 1 1)) (.eq aq (.m 2 ar) .o)) τ ih) (cW (.le (.m 2 (.s 0 1)) (.p (.p (.p (.k 0) (.k 1)) (.k 1)) ar) (.qe ar (.m 2 aq) .o)) τ ih)
  have hits:its.size=2*l.length+1:=by
   have:=hp3.length
   rw [aJ,cS] at this;exact ak (c8 (.le aq (.p (.m 2 ar) (.k 1)) (.eq az (.m 2 ar) (.eq aq (.s 2 1) .o))) τ hflat this) (c8 (.le (.p (.m 2 aq) (.k 1)) ar (.qe az (.m 2 aq) (.qe ar (.s 2 1) .o))) τ hflat this)
  refine ⟨rfl,?_⟩
  refine aT (fP (s:=sh s h3 tk3) (pre:=[]) (post:=[]) L3.st (Eg.pair (Ev.nmI L3.st) (Ev.nmI L3.st)) (by simp) (by simp) (by show its.size≤2^24;exact aj (aA hits) (ck (cN (gZ 2 hsz) 1) rfl)) (fun v hv h4 tk4 kv hp kR S4=>⟨rfl,?_⟩))
  obtain ⟨us,t4,hi4,rfl,hN4⟩:=hp
  have L4:=L3.next S4 (by simp)
  have hin3:vS [L,R] h3:=fv (L3.st.lie _ FA.loc) ⟨_,L3.st.get (.head _)⟩
  have hp4:sV h4 [L,R] (its.push (.ref t4)) ((0,0)::(C.og l++[(la,lb)])):=by
   rw [sV,bX,←dD]
   exact (hp3.mono fun O O q=>q.sub (bP S4.keep)).append (.cons (VT.new hi4 hN4 (kR.mono (by simp)) (hN4.notin hin3)) .nil)
  have k24:=k23.trans S4.kept
  clear hp3 hp2 L3 hN4 hi4 kR kv
  refine aT (cT (s:=sh s h4 tk4) (Eg.lst Es.nil (by rintro vs h' ⟨_,rfl⟩;decide)) fun v h5 tk5 k45 hv=>?_)
  obtain ⟨vs,h4',R2,_,⟨rfl,rfl⟩,rfl,hN2⟩:=hv
  have S5:=L4.st.add k45 hN2.yes hN2.no
  have hin4:vS [L,R] h4':=fv (L4.st.lie _ FA.loc) ⟨_,L4.st.get (.head _)⟩
  have hRR:R2≠R:=(qn (L4.st.get (.head _)) hN2.no).symm
  have hRL:R2≠L:=(Jb (hin4 L (.head _)) hN2.no).symm
  have L5:Lp (bC h5 [L,R2]) [L,R2] (di ot L 265) h5 _ _:=Lp.start (S5.less (c':=[(R2,ch #[] 0)]) (da (.head _))) [L,R2] (da (.head _)) (by simp) (fun O O q=>q)
  have hv45:Sub (bC h4' [L,R]) (bC h5 [L,R2]):=cM fun b o q n O=>⟨k45.get q,fun z=>by
   simp only [aC,bT,or_false] at z n
   rcases z with rfl|rfl
   ·exact n (.inl rfl)
   ·have:=hN2.no;rw [q] at this;cases this⟩
  have hends:(bC h5 [L,R2]).get? R=some (ch (its.push (.ref t4)) (n+1)):=cH (k45.get (L4.st.get (.head _))) (by
   have hLR:R≠L:=fun q=>(L4.st.own _ (.head _)).2.1 (q▸FA.loc)
   simp [hLR,dM hRR]) rfl
  have hpts:dL (fun v (x:Nat×Nat)=>VT (bC h5 [L,R2]) v [(x.1:Int),(x.2:Int)]) (its.push (.ref t4)).toList ((0,0)::(C.og l++[(la,lb)])):=hp4.mono fun O O q=>q.sub hv45
  have X5:Cx w (bC h5 [L,R2]):=X.sub (L4.sub.trans hv45)
  have k25:ba [L,R] h2 h5:=k24.trans (k45.mono (by simp))
  have hR2h:h.get? R2=none:=by
   cases q:h.get? R2 with
   | none=>rfl
   | some o=>
    have q2:=k02 _ _ q
    have:=k24 _ _ q2 (by simp [hRR,hRL])
    exact nn hN2.no this
  refine bE (s:=sh s h5 tk5) L5.st (fun h6 tk6 S6=>⟨rfl,?_⟩)
  have L6:=(L5.next S6 L5.st.inC).forget (m':=[(xo,.ref R),(Dz,.ref R2)]) (fv rfl rfl)
  have k56:ba [L,R2] h5 h6:=S6.kept
  clear S6 S5 L5 L4 hp4 hv45 hin4
  generalize hpt:(0,0)::(C.og l++[(la,lb)])=pts at hpts
  have hptl:pts.length=2*l.length+2:=by rw [←hpt];simp [hflat]
  have hE6:=fun (h':ay) (hs:Sub (bC h5 [L,R2]) h')=>hs _ _ hends
  generalize its.push (.ref t4)=ens at hends hpts hE6
  have hens:ens.size=2*l.length+2:=by have:=hpts.length;rw [aJ] at this;exact ak (aj (aA this) (aA hptl)) (aj (aA (cB hptl)) (aA (cB this)))
  have hn:((ens.size:Int)-1).toNat=pts.length-1:=(Mine.nk).trans (by rw [hens,hptl])
  have hE:ens.size≤2002:=aj (aA hens) (cN (gZ 2 hsz) 2)
  refine aT (jF (s:=sh s h6 tk6) (n:=pts.length-1) (a:=1) hA.hd [L,R2]
   (fun i h'=>g8 fun its n=>jn (Lp (bC h5 [L,R2]) [L,R2] (di ot L 265) h' [(xo,.ref R),(Dz,.ref R2)] [(R2,ch its n)]) (lA h' [L,R2] its ((bO i).flatMap (C.pq pts))) (ba [L,R2] h5 h'))
   (Eg.mono (Eg.range2 (X5.sub L6.here) Ev.int (Ev.len (X5.sub L6.here) (Ev.nm L6.st) ⟨_,hE6 _ L6.here,rfl,_,rfl⟩ (ck hE rfl)) Bv (c6 hE rfl) (by decide) (by decide)) fun v h' O q=>by rw [hn] at q;exact q)
   (fv (L6.st.lie _ FA.loc) ⟨_,L6.st.get (.head _)⟩) (fun h' k'=>⟨#[],0,L6.grow k',.nil,k56.trans (k'.mono (by simp))⟩) ?_ ?_ ?_)
  ·rintro i h7 h8 ⟨its,n,a,b,c⟩ hk
   exact ⟨its,n,a.stab hk,b.mono fun O O q=>q.sub (iX hk),c.stab hk fun b o q n=>⟨o,k56 b o q n⟩⟩
  ·rintro i v h7 tk7 hi hv ⟨its,n,L7,ho7,k57⟩
   obtain ⟨tv,rfl⟩:=hv
   have hI:i≤2002:=aj (aR hi) (aj (aO _ _) (aj (aA (hptl.trans hens.symm)) hE))
   obtain ⟨p,hp⟩:∃p,pts[i]? = some p:=⟨_,aW (by exact av hi (aO _ _))⟩
   obtain ⟨q,hq⟩:∃q,pts[i+1]? = some q:=⟨_,aW (by exact c8 (.lt (.s 0 1) ar (.lt aq az (.eq (.s 2 1) ar .o))) τ hi (aa (GH 1 (.le (.k 1) aq (.qe aq (.p (.m 2 ar) (.k 2)) .o)) τ hptl)))⟩
   obtain ⟨v1,he1,hv1⟩:=hpts.get' i p hp
   obtain ⟨v2,he2,hv2⟩:=hpts.get' (i+1) q hq
   obtain ⟨a1,t1,t1',rfl,ht1⟩:=hv1.two
   obtain ⟨a2,t2,t2',rfl,ht2⟩:=hv2.two
   rw [cy] at he1 he2
   refine bE (s:=sh s h7 tk7) L7.st (fun h8 tk8 S8=>?_)
   refine wq fun R_ hR=>?_
   have L8:=L7.next S8 L7.st.inC
   refine aT (gN (s:=sh s h8 tk8) (Ev.gg (Ev.item (x:=.ref a1) (Ev.nm S8) (Ev.sub (Ev.nmI S8) Ev.int) ⟨_,hE6 _ L8.here,rfl,_,rfl⟩ Ih (Ii hI rfl) ?_)) fun v h9 tk9 k9 hv=>?_)
   ·rw [show ((1:Int)+(i:Int)-1).toNat=i from Ik];exact he1
   obtain ⟨rfl,rfl⟩:=hv
   refine gP (s:=sh s h9 tk9) hA.hd S8 (ht1.keeps L8.here) (fun h10 tk10 S10=>⟨rfl,?_⟩)
   have L10:=L7.next S10 L7.st.inC
   refine aT (gN (s:=sh s h10 tk10) (Ev.gg (Ev.item (x:=.ref a2) (Ev.nm S10) (Ev.nmI S10) ⟨_,hE6 _ L10.here,rfl,_,rfl⟩ Ig (Il hI rfl) ?_)) fun v h11 tk11 k11 hv=>?_)
   ·rw [show ((1:Int)+(i:Int)).toNat=i+1 from Ij];exact he2
   obtain ⟨rfl,rfl⟩:=hv
   refine gP (s:=sh s h11 tk11) hA.hd S10 (ht2.keeps L10.here) (fun h12 tk12 S12=>⟨rfl,?_⟩)
   have hstep:C.pq pts i=C.one (decide ((i+1) % 2=0)) p q:=by
    rw [C.pq,cC,cC,hp,hq];rfl
   generalize htg:(if decide ((i+1) % 2=0)=true then C.Dc.eql else if p.1=q.1 then .ins else if p.2=q.2 then .del else .rep)=tg
   refine aT (fz (s:=sh s h12 tk12) (P:=fun v=>∃t,v=.str (AR tg) t) S12 ?_ fun vt h13 tk13 hvt S13=>⟨rfl,?_⟩)
   ·refine Ev.ifexp (c:=decide ((i+1) % 2=0)) (Et.of (Et.ints (Ev.fmod (Ev.nmI S12) Ev.int (by decide)) Ev.int) ?_) ?_
    ·simp only [eI]
     rw [Int.fmod_eq_emod_of_nonneg _ (by decide),de]
     simp only [beq_iff_eq,decide_eq_true_eq];rw [jI];exact n8 (m:=(i+1) % 2) (n:=0)
    ·by_cases hev:(i+1) % 2=0
     ·rw [if_pos (by simpa using hev)] at htg ⊢
      subst htg;exact Ev.str
     ·rw [if_neg (by simpa using hev)] at htg ⊢
      refine Ev.ifexp (c:=decide (p.1=q.1)) (Et.of (Et.ints (Ev.nmI S12) (Ev.nmI S12)) ?_) ?_
      ·simp only [eI];rw [de];simp only [beq_iff_eq,decide_eq_true_eq];(exact ce)
      by_cases h1:p.1=q.1
      ·rw [if_pos h1] at htg
       rw [if_pos (by simpa using h1)]
       subst htg;exact Ev.str
      ·rw [if_neg h1] at htg
       rw [if_neg (by simpa using h1)]
       refine Ev.ifexp (c:=decide (p.2=q.2)) (Et.of (Et.ints (Ev.nmI S12) (Ev.nmI S12)) ?_) ?_
       ·simp only [eI];rw [de];simp only [beq_iff_eq,decide_eq_true_eq];(exact ce)
       by_cases h2:p.2=q.2
       ·rw [if_pos h2] at htg
        rw [if_pos (by simpa using h2)]
        subst htg;exact Ev.str
       ·rw [if_neg h2] at htg
        rw [if_neg (by simpa using h2)]
        subst htg;exact Ev.str
   obtain ⟨tt,rfl⟩:=hvt
   have hun:(A.deeper (di ot L 265)).units<cLine:=by have:=hA.un;exact cW (.lt (.s 0 3) ar (.lt (.p (.p aq (.m 3 (.k 1))) (.k 20)) ar .o)) τ this
   refine aT (Fb (s:=sh s h13 tk13) (tW.nePairs hun (Ev.nmI S13) (Ev.nmI S13) (fun h1 k1=>Ev.nmI (S13.grow k1)) (fun h1 k1=>Ev.nmI (S13.grow k1))) fun h14 tk14 k14=>?_)
   have S14:=S13.grow k14
   by_cases hpq:p=q
   ·have hb:(!((p.1:Int)==(q.1:Int) && (p.2:Int)==(q.2:Int)))=false:=by rw [hpq];simp
    rw [hb,if_neg sN]
    refine aw ⟨rfl,aw (hR _ _ ⟨h14,tk14,rfl,S14.kept,its,n,(L7.next S14 L7.st.inC).forget (fv rfl rfl),?_,k57.trans S14.kept⟩)⟩
    rw [C.j0,hstep,C.one,if_pos hpq,du]
    exact ho7.mono fun O O q=>q.sub (bP S14.keep)
   ·have hb:(!((p.1:Int)==(q.1:Int) && (p.2:Int)==(q.2:Int)))=true:=by
     rw [Bool.not_eq_true',gF]
     intro z
     simp only [g7,beq_iff_eq] at z
     exact hpq (Prod.ext (n8.mp z.1) (n8.mp z.2))
    rw [hb,if_pos rfl]
    have hlen:its.size≤i*1:=by
     have h1:=ho7.length
     rw [aJ] at h1
     rw [h1]
     exact C.mV fun j O=>by rw [C.pq,C.one];split<;>simp
    refine aT (fP (s:=sh s h14 tk14) (pre:=[]) (post:=[]) S14 (Eg.tup (Es.more (Ev.nm S14) (Es.more (Ev.nmI S14) (Es.more (Ev.nmI S14) (Es.more (Ev.nmI S14) (Es.more (Ev.nmI S14) Es.nil))))) ?_) (by simp) (by simp) (by show its.size≤2^24;exact aj hlen (aj (aA (Nat.mul_one i)) (ck hI rfl))) (fun v hv h15 tk15 kv hp kR S15=>⟨rfl,aw ⟨rfl,aw ?_⟩⟩))
    ·rintro vs h' ⟨_,v1,vs1,rfl,_,v2,vs2,rfl,_,v3,vs3,rfl,_,v4,vs4,rfl,_,v5,vs5,rfl,_,rfl⟩;refine (?_:5≤2^24);decide
    obtain ⟨vs,h16,a,k16,⟨rfl,v1,vs1,rfl,rfl,v2,vs2,rfl,⟨u2,rfl⟩,v3,vs3,rfl,⟨u3,rfl⟩,v4,vs4,rfl,⟨u4,rfl⟩,v5,vs5,rfl,⟨u5,rfl⟩,rfl⟩,rfl,hN⟩:=hp
    have hin:vS [L,R2] h16:=fv (S14.lie _ FA.loc) ⟨_,S14.get (.head _)⟩
    have ha:=hN.notin hin
    refine hR _ _ ⟨h15,tk15,rfl,S15.kept,its.push (.ref a),n+1,(L7.next S15 (by simp)).forget (fv rfl rfl),?_,k57.trans S15.kept⟩
    rw [C.j0,hstep,C.one,if_neg hpq,lA,bX,htg]
    refine (ho7.mono fun O O q=>q.sub (bP S15.keep)).append (.cons ?_ .nil)
    exact ⟨a,tt,u2,u3,u4,u5,rfl,_,cH (kR _ _ hN.yes fun z=>ha (by simp at z;simp [z])) ha rfl,rfl,_,rfl⟩
  ·rintro h7 tk7 ⟨its,n,L7,ho7,k57⟩
   refine ⟨rfl,nv (s:=sh s h7 tk7) (Ev.gg (Ev.nm L7.st)) fun v h' tk' k' hp=>?_⟩
   obtain ⟨rfl,rfl⟩:=hp
   refine ⟨_,tk',rfl,fun b o q=>?_,R2,its,n,rfl,L7.st.get (.head _),hR2h,?_⟩
   ·have q2:=k02 b o q
    have hbR:b≠R:=fun z=>by rw [z] at q;rw [show bp h []=h from rfl,hhR] at q;cases q
    have hbL:b≠L:=fun z=>by rw [z] at q;rw [show bp h []=h from rfl,hL] at q;cases q
    have hbR2:b≠R2:=fun z=>by rw [z] at q;rw [show bp h []=h from rfl,hR2h] at q;cases q
    exact k57 b o (k25 b o q2 (by simp [hbR,hbL])) (by simp [hbR2,hbL])
   ·rw [C.wU,hpt]
    have:(C.og l++[(la,lb)]).length=pts.length-1:=by rw [←hpt];simp
    rw [this]
    exact ho7.mono fun O O q=>q.sub (cM fun b o q n O=>⟨q,fun z=>n (by simp at z;simp [z])⟩)
end
noncomputable def pO:dP:=pP (g6 8) j8 .none .none (.str eo 583) none (.ref 257)
theorem Dl (P:bF):(KF P).lookup 258=some ⟨.type "function",none,.func pO,#[]⟩:=by kernel_rfl!
theorem BI (P:bF):oa (KF P) pO.code pO.qualname=true:=by kernel_rfl!
theorem Bo (a b c:ag):js pO ⟨[a,b,c],[]⟩=cJ [(eU,a),(dB,b),(qY,c)]:=by rfl
noncomputable abbrev l0 (L:aH):gy:=jT pO L 258
theorem Gv (L:aH):((l0 L).cells.map (·.1)).Nodup:=by
 show [nQ,nP,nJ,nI,dB,eU].Nodup
 decide +kernel
theorem Ev.isI {prog:aV} {w:aP} {A:aS} {e:gy} {h:ay} {ex:au} {a b:Int} (H:Ev prog w A e h ex (fr a)) (q:a=b):Ev prog w A e h ex (fr b):=q▸H
noncomputable abbrev fX (L K:aH):List aH:=K::FA (l0 L)
noncomputable def Iw:List fC:=sJ ((sJ (g6 8)).getD 1 (.Pass p0))
noncomputable def I0:List fC:=sJ (Iw.getD 1 (.Pass p0))
noncomputable def I1:List fC:=sJ (I0.getD 2 (.Pass p0))
namespace dL
variable {α β:Type} {R:α→β→Prop}
theorem take:∀{l:List α} {m:List β} (n:Nat),dL R l m→dL R (l.take n) (m.take n):=fun n h=>by
 induction h generalizing n with
 | nil=>cases n<;>exact .nil
 | cons x _ ih=>cases n with
  | zero=>exact .nil
  | succ n=>exact .cons x (ih n)
theorem drop:∀{l:List α} {m:List β} (n:Nat),dL R l m→dL R (l.drop n) (m.drop n):=fun n h=>by
 induction h generalizing n with
 | nil=>cases n<;>exact .nil
 | cons x y ih=>cases n with
  | zero=>exact .cons x y
  | succ n=>exact ih n
end dL
theorem uF {xs ys:List Int} {i j n t:Nat} (ht:t≤n) (hi:n≤i) (hj:n≤j) (hx:i≤xs.length) (hy:j≤ys.length) :
  ((xs.drop (i-t)).take (i-(i-t))==(ys.drop (j-t)).take (j-(j-t)))=true↔t≤C.nO (gL xs ys) n i j:=by
 rw [show i-(i-t)=t by exact ak (cR (.le aq ar (.le az (.p aI ar) (.eq (.p aq aI) az .o))) τ bZ (aa (aO _ _))) (cR (.le aq ar (.le az (.p ar aI) (.eq (.p aI aq) az .o))) τ bZ (aa (aj ht hi))),show j-(j-t)=t by exact ak (cR (.le aq ar (.le az (.p aI ar) (.eq (.p aq aI) az .o))) τ bZ (aa (aO _ _))) (cR (.le aq ar (.le az (.p ar aI) (.eq (.p aI aq) az .o))) τ bZ (aa (aj ht hj))),C.sv (by exact aj (aA (aa (aj ht hi))) hx) (by exact aj (aA (aa (aj ht hj))) hy),←C.Br (e:=gL xs ys) ht hi hj]
 rfl
theorem wE {xs ys:List Int} {p q n t:Nat} (ht:t≤n) (hx:p+n≤xs.length) (hy:q+n≤ys.length) :
  ((xs.drop p).take (p+t-p)==(ys.drop q).take (q+t-q))=true↔t≤C.jh (gL xs ys) n p q:=by
 rw [show p+t-p=t by exact ak (c8 (.le aq ar (.eq (.p aq az) (.p az ar) .o)) τ (aa (cW (.le aq (.p aq ar) .o) τ))) (c8 (.le aq ar (.le (.p az aq) (.p ar az) .o)) τ bZ),show q+t-q=t by exact ak (c8 (.le aq ar (.eq (.p aq az) (.p az ar) .o)) τ (aa (cW (.le aq (.p aq ar) .o) τ))) (c8 (.le aq ar (.le (.p az aq) (.p ar az) .o)) τ bZ),C.sv (by exact cR (.le (.p aq ar) az (.le ar aI (.le (.p aq aI) az .o))) τ ht hx) (by exact cR (.le (.p aq ar) az (.le ar aI (.le (.p aq aI) az .o))) τ ht hy),←C.BY (e:=gL xs ys) ht]
 rfl
noncomputable abbrev km (f sd K:aH) (x:C.cv) (tl ti tj tp tq:jR) (more:List (bU×ag)):List (bU×ag):=
 (eU,.ref f)::(dB,.ref sd)::(m9,.ref K)::(Am,.int (-(x.2.2:Int)) tl)::(nI,.int x.1 ti)::(nJ,.int x.2.1 tj)::(nP,.int ((x.1+x.2.2:Nat):Int) tp)::(nQ,.int ((x.2.1+x.2.2:Nat):Int) tq)::more
section
variable {w:aP} {A:aS} {g₀ h:ay} {L K f sd:aH} {xs ys:List Int} {its:Array ag} {n:Nat} {x a b:C.cv} {l:List C.cv} {s:am} {tl ti tj tp tq tk ta tb ts te to:jR} {u:Nat}
theorem z7 (hA:eV A 0) (X:Cx w g₀) (hf:IL g₀ f xs) (hs:IL g₀ sd ys) (hx:xs.length≤2^20) (hy:ys.length≤2^20)
  (Lh:Lp g₀ (fX L K) (l0 L) s.heap (km f sd K x tl ti tj tp tq [(nK,.int (1+(u:Int)) tk),(Ak,.int a.1 ta),(xm,.int a.2.1 tb),(lJ,.int a.2.2 ts),(Go,.int b.1 te),(nc,.int b.2.1 to)]) [(K,ch its n)])
  (hb:e9 s.heap (fX L K) its l) (hsz:its.size≤2^20) (ha:l[u]? = some a) (hbl:l[u+1]? = some b) (hins:C.ins (C.o8 a b) x=true) (hin:C.A9 xs.length ys.length l) :
  aF (aB PQ w) A (eK I1 (l0 L)) (fun fl s'=>fl=.brk∧oN fun h' tk' its' n'=>lO (s'=(sh s h' tk')) (ba (fX L K) s.heap h') (Lp g₀ (fX L K) (l0 L) h' (km f sd K x tl ti tj tp tq []) [(K,ch its' n')]) (e9 h' (fX L K) its' (l.take (u+1)++C.eN (gL xs ys) (C.o8 a b) x::l.drop (u+1)))) (fun O O=>False) s:=by
 have S:=Lh.st
 obtain ⟨i1,i2,i3,i4⟩:=C.dO.mp hins
 simp only [C.o8] at i1 i2 i3 i4
 have hbi:=hin b (gH hbl)
 refine wq fun R1_ hR1=>?_
 refine aT (cT (Eg.min2 hA.hd (X.sub Lh.here) (Ev.sub (Ev.sub (Ev.nmI S) (Ev.nmI S)) (Ev.nmI S)) (Ev.sub (Ev.sub (Ev.nmI S) (Ev.nmI S)) (Ev.nmI S))) fun v h1 tk1 k1 hv=>?_)
 generalize hn1:fU (x.1-(a.1+a.2.2)) (x.2.1-(a.2.1+a.2.2))=n1
 have hx1:n1≤x.1:=hn1▸aj (aN _ _) (aO _ _)
 have hx2:n1≤x.2.1:=hn1▸aj (br _ _) (aO _ _)
 have hm1:n1≤2^20:=hn1▸aj (aN _ _) (aj (aO _ _) (aj (co _ _) (aj i3 (aj (co _ _) (aj hbi.1 hx)))))
 have hv':fr (n1:Int) v:=by
  have:((n1:Nat):Int)=(if (x.2.1:Int)-a.2.1-a.2.2<(x.1:Int)-a.1-a.2.2 then (x.2.1:Int)-a.2.1-a.2.2 else (x.1:Int)-a.1-a.2.2):=ED (Ir i1) (Ir i2) hn1
  rw [this];exact hv
 obtain ⟨tv,rfl⟩:=hv'
 refine bE (s:=sh s h1 tk1) (S.grow k1) (fun h2 tk2 S2=>⟨rfl,?_⟩)
 have L2:=Lh.next S2 Lh.st.inC
 have hf2:=hf.sub L2.here
 have hs2:=hs.sub L2.here
 refine aT (cT (s:=sh s h2 tk2) (Eg.maxL hA.hd (X.sub L2.here) (Eg.lcRange (n:=n1+1) (cl:=[(dB,L+2),(nJ,L+4),(nI,L+3),(eU,L+1)]) (m':=[(dB,.ref sd),(nJ,.int x.2.1 tj),(nI,.int x.1 ti),(eU,.ref f)])
  (f:=fun t=>((xs.drop (x.1-t)).take (x.1-(x.1-t))==(ys.drop (x.2.1-t)).take (x.2.1-(x.2.1-t)))) hA.hd S2
  (Eg.range1 (b:=((n1+1:Nat):Int)) (X.sub L2.here) (Ev.isI (Ev.add (Ev.nmI S2) Ev.int) rfl) Bv (Hv hm1)) (DV hm1) (fun C' i t h' hk' S' hi=>?_) (iM rfl) (qD rfl rfl rfl rfl) (by show [dB,nJ,nI,eU].Nodup;decide +kernel) rfl (qD rfl rfl rfl rfl)
  (fun C'=>qD (fun q=>by cases (show some e8=some .local from q)) (fun q=>by cases (show some e8=some .local from q)) (fun q=>by cases (show some e8=some .local from q)) (fun q=>by cases (show some e8=some .local from q))) (fun O=>rfl) (by decide +kernel) (by decide +kernel) rfl (by decide +kernel) rfl)
   (ns:=((bO (n1+1)).filter fun t=>((xs.drop (x.1-t)).take (x.1-(x.1-t))==(ys.drop (x.2.1-t)).take (x.2.1-(x.2.1-t)))).map fun i:Nat=>(i:Int)) (fun v h' q=>?_) ?_) fun v h3 tk3 k3 hv=>?_)
 ·exact tW.of (tW.eqL (xs:=(xs.drop (x.1-i)).take (x.1-(x.1-i))) (ys:=(ys.drop (x.2.1-i)).take (x.2.1-(x.2.1-i))) (by have:=hA.un;exact cW (.lt aq ar (.lt (.p (.p aq (.m 3 (.k 0))) (.k 20)) ar .o)) τ this)
   (Eg.sliceI (a:=x.1-i) (b:=x.1) (Ev.nm S') (hf2.sub hk') (ck hx rfl) (Ev.isI (Ev.sub (Ev.nmI S') (Ev.nmI S')) (cs (aj (dH hi) hx1))) (Ev.nmI S') (by exact (aO _ _)) (by exact eW (.le aq ar (.le (.p aq az) aI (.le (.p aI bx) ar .o))) τ i3 hbi.1))
   fun h4 k4=>Eg.sliceI (a:=x.2.1-i) (b:=x.2.1) (Ev.nm (S'.grow k4)) ((hs2.sub hk').sub k4.all) (ck hy rfl) (Ev.isI (Ev.sub (Ev.nmI (S'.grow k4)) (Ev.nmI (S'.grow k4))) (cs (aj (dH hi) hx2))) (Ev.nmI (S'.grow k4)) (by exact (aO _ _)) (by exact eW (.le aq ar (.le (.p aq az) aI (.le (.p aI bx) ar .o))) τ i4 hbi.2)) rfl
 ·obtain ⟨r,vs,rfl,_,hp,hi⟩:=q
  exact ⟨r,vs,rfl,hp.isList,hi⟩
 ·exact C.wV fun t ht=>uF ht (by exact cR (.le aq ar (.qe az aq (.le az aI (.le aI ar .o)))) τ hn1 (aN _ _) (aO _ _)) (by exact cR (.le aq ar (.qe az aq (.le az aI (.le aI ar .o)))) τ hn1 (br _ _) (aO _ _)) (by exact eW (.le aq ar (.le (.p aq az) aI (.le (.p aI bx) ar .o))) τ i3 hbi.1) (by exact eW (.le aq ar (.le (.p aq az) aI (.le (.p aI bx) ar .o))) τ i4 hbi.2)
 obtain ⟨M,tm,rfl,hM1,hM2⟩:=hv
 have hM:=C.wW (C.mR (gL xs ys) n1 x.1 x.2.1) (fun t ht=>uF (xs:=xs) (ys:=ys) (n:=n1) (i:=x.1) (j:=x.2.1) ht (by exact cR (.le aq ar (.qe az aq (.le az aI (.le aI ar .o)))) τ hn1 (aN _ _) (aO _ _)) (by exact cR (.le aq ar (.qe az aq (.le az aI (.le aI ar .o)))) τ hn1 (br _ _) (aO _ _)) (by exact eW (.le aq ar (.le (.p aq az) aI (.le (.p aI bx) ar .o))) τ i3 hbi.1) (by exact eW (.le aq ar (.le (.p aq az) aI (.le (.p aI bx) ar .o))) τ i4 hbi.2)) hM1 hM2
 generalize hback:C.nO (gL xs ys) n1 x.1 x.2.1=bk at hM
 subst hM
 clear hM1 hM2
 refine bE (s:=sh s h3 tk3) (S2.grow k3) (fun h4 tk4 S4=>⟨rfl,?_⟩)
 have L4:=Lh.next S4 Lh.st.inC
 generalize hn2:fU (b.1-(x.1+x.2.2)) (b.2.1-(x.2.1+x.2.2))=n2
 have hm2:n2≤2^20:=hn2▸aj (aN _ _) (aj (aO _ _) (aj (co _ _) (aj hbi.1 hx)))
 refine aT (cT (s:=sh s h4 tk4) (Eg.min2 hA.hd (X.sub L4.here) (Ev.sub (Ev.nmI S4) (Ev.nmI S4)) (Ev.sub (Ev.nmI S4) (Ev.nmI S4))) fun v h5 tk5 k5 hv=>?_)
 have hv':fr (n2:Int) v:=by
  have:((n2:Nat):Int)=(if (b.2.1:Int)-((x.2.1+x.2.2:Nat):Int)<(b.1:Int)-((x.1+x.2.2:Nat):Int) then (b.2.1:Int)-((x.2.1+x.2.2:Nat):Int) else (b.1:Int)-((x.1+x.2.2:Nat):Int)):=ED (kK i3) (kK i4) hn2
  rw [this];exact hv
 obtain ⟨tv2,rfl⟩:=hv'
 refine bE (s:=sh s h5 tk5) (S4.grow k5) (fun h6 tk6 S6=>⟨rfl,?_⟩)
 have L6:=Lh.next S6 Lh.st.inC
 have hf6:=hf.sub L6.here
 have hs6:=hs.sub L6.here
 refine aT (cT (s:=sh s h6 tk6) (Eg.maxL hA.hd (X.sub L6.here) (Eg.lcRange (n:=n2+1) (cl:=[(dB,L+2),(nQ,L+6),(nP,L+5),(eU,L+1)]) (m':=[(dB,.ref sd),(nQ,.int ((x.2.1+x.2.2:Nat):Int) tq),(nP,.int ((x.1+x.2.2:Nat):Int) tp),(eU,.ref f)])
  (f:=fun t=>((xs.drop (x.1+x.2.2)).take (x.1+x.2.2+t-(x.1+x.2.2))==(ys.drop (x.2.1+x.2.2)).take (x.2.1+x.2.2+t-(x.2.1+x.2.2)))) hA.hd S6
  (Eg.range1 (b:=((n2+1:Nat):Int)) (X.sub L6.here) (Ev.isI (Ev.add (Ev.nmI S6) Ev.int) rfl) Bv (Hv hm2)) (DV hm2) (fun C' i t h' hk' S' hi=>?_) (iM rfl) (qD rfl rfl rfl rfl) (by show [dB,nQ,nP,eU].Nodup;decide +kernel) rfl (qD rfl rfl rfl rfl)
  (fun C'=>qD (fun q=>by cases (show some e8=some .local from q)) (fun q=>by cases (show some e8=some .local from q)) (fun q=>by cases (show some e8=some .local from q)) (fun q=>by cases (show some e8=some .local from q))) (fun O=>rfl) (by decide +kernel) (by decide +kernel) rfl (by decide +kernel) rfl)
   (ns:=((bO (n2+1)).filter fun t=>((xs.drop (x.1+x.2.2)).take (x.1+x.2.2+t-(x.1+x.2.2))==(ys.drop (x.2.1+x.2.2)).take (x.2.1+x.2.2+t-(x.2.1+x.2.2)))).map fun i:Nat=>(i:Int)) (fun v h' q=>?_) ?_) fun v h7 tk7 k7 hv=>?_)
 ·exact tW.of (tW.eqL (xs:=(xs.drop (x.1+x.2.2)).take (x.1+x.2.2+i-(x.1+x.2.2))) (ys:=(ys.drop (x.2.1+x.2.2)).take (x.2.1+x.2.2+i-(x.2.1+x.2.2))) (by have:=hA.un;exact cW (.lt aq ar (.lt (.p (.p aq (.m 3 (.k 0))) (.k 20)) ar .o)) τ this)
   (Eg.sliceI (a:=x.1+x.2.2) (b:=x.1+x.2.2+i) (Ev.nm S') (hf6.sub hk') (ck hx rfl) (Ev.nmI S') (Ev.isI (Ev.add (Ev.nmI S') (Ev.nmI S')) rfl) (by exact co _ _) (by exact Fm (.le (.p (.p aq ar) az) aI (.le (.p bx cV) aI (.qe ee jj (.lt az (.s 7 1) (.le ee tU (.eq (.p tU (.p aq ar)) bx .o)))))) τ hbi.1 hn2 hi (aN _ _) (aa i3)))
   fun h4 k4=>Eg.sliceI (a:=x.2.1+x.2.2) (b:=x.2.1+x.2.2+i) (Ev.nm (S'.grow k4)) ((hs6.sub hk').sub k4.all) (ck hy rfl) (Ev.nmI (S'.grow k4)) (Ev.isI (Ev.add (Ev.nmI (S'.grow k4)) (Ev.nmI (S'.grow k4))) rfl) (by exact co _ _) (by exact Fm (.le (.p (.p aq ar) az) aI (.le (.p bx cV) aI (.qe ee jj (.lt az (.s 7 1) (.le ee tU (.eq (.p tU (.p aq ar)) bx .o)))))) τ hbi.2 hn2 hi (br _ _) (aa i4))) rfl
 ·obtain ⟨r,vs,rfl,_,hp,hi⟩:=q
  exact ⟨r,vs,rfl,hp.isList,hi⟩
 ·exact C.wV fun t ht=>wE ht (by exact sG (.le (.p (.p aq ar) az) aI (.le (.p bx cV) aI (.qe ee az (.le ee jj (.eq (.p jj (.p aq ar)) bx .o))))) τ hbi.1 hn2 (aN _ _) (aa i3)) (by exact sG (.le (.p (.p aq ar) az) aI (.le (.p bx cV) aI (.qe ee az (.le ee jj (.eq (.p jj (.p aq ar)) bx .o))))) τ hbi.2 hn2 (br _ _) (aa i4))
 obtain ⟨M,tm2,rfl,hM1,hM2⟩:=hv
 have hM:=C.wW (C.ls (gL xs ys) n2 (x.1+x.2.2) (x.2.1+x.2.2)) (fun t ht=>wE (xs:=xs) (ys:=ys) (n:=n2) (p:=x.1+x.2.2) (q:=x.2.1+x.2.2) ht (by exact sG (.le (.p (.p aq ar) az) aI (.le (.p bx cV) aI (.qe ee az (.le ee jj (.eq (.p jj (.p aq ar)) bx .o))))) τ hbi.1 hn2 (aN _ _) (aa i3)) (by exact sG (.le (.p (.p aq ar) az) aI (.le (.p bx cV) aI (.qe ee az (.le ee jj (.eq (.p jj (.p aq ar)) bx .o))))) τ hbi.2 hn2 (br _ _) (aa i4))) hM1 hM2
 generalize hon:C.jh (gL xs ys) n2 (x.1+x.2.2) (x.2.1+x.2.2)=on at hM
 subst hM
 clear hM1 hM2
 refine bE (s:=sh s h7 tk7) (S6.grow k7) (fun h8 tk8 S8=>⟨rfl,?_⟩)
 have hbk:=C.mR (gL xs ys) n1 x.1 x.2.1
 rw [hback] at hbk
 have hblk:C.eN (gL xs ys) (C.o8 a b) x=(x.1-bk,x.2.1-bk,bk+x.2.2+on):=by
  unfold C.eN
  simp only [C.o8]
  rw [hn1,hn2,hback,hon]
 have hlen:=hb.length
 rw [aJ] at hlen
 have hul:u+1<l.length:=(jk.mp hbl).1
 refine aT (yV (s:=sh s h8 tk8) (pre:=[]) (post:=[]) (k:=u+1) S8 (Ev.nmI S8) (jI 1 (u:Int)) (Eg.trip (a:=((x.1-bk:Nat):Int)) (b:=((x.2.1-bk:Nat):Int)) (d:=((bk+x.2.2+on:Nat):Int)) (Ev.isI (Ev.sub (Ev.nmI S8) (Ev.nmI S8)) (cs (aj hbk hx1))) (Ev.isI (Ev.sub (Ev.nmI S8) (Ev.nmI S8)) (cs (aj hbk hx2))) (Ev.isI (Ev.add (Ev.sub (Ev.nmI S8) (Ev.nmI S8)) (Ev.nmI S8)) IR)) (by exact aR (av hul (aA (cB hlen)))) hsz (by simp) (by simp) fun v hv h9 n' tk9 kv hp kR S9=>⟨rfl,?_⟩)
 obtain ⟨us,t,hi,rfl,hN⟩:=hp
 refine wP (hR1 .brk _ ⟨rfl,h9,tk9,_,n',rfl,S9.kept,(Lh.next S9 (da (.head _))).forget (by
  intro p hp
  simp only [aC,bT,or_false] at hp
  rcases hp with rfl|rfl|rfl|rfl|rfl|rfl|rfl|rfl<;>rfl),?_⟩)
 have hb9:=hb.mono fun O O q=>q.sub (bP S9.keep)
 have hin8:vS (fX L K) h8:=fun b hb=>by
  cases hb with
  | head=>exact ⟨_,S8.get (.head _)⟩
  | tail _ hb=>exact S8.lie b hb
 rw [e9,hblk]
 exact (hb9.take _).append (.cons (VT.new hi hN (kR.mono (da (.head _))) (hN.notin hin8)) (hb9.drop _))
theorem yv (hA:eV A 0) (X:Cx w g₀) (hf:IL g₀ f xs) (hs:IL g₀ sd ys) (hx:xs.length≤2^20) (hy:ys.length≤2^20)
  (Lh:Lp g₀ (fX L K) (l0 L) s.heap [(eU,.ref f),(dB,.ref sd),(m9,.ref K),(Am,.int (-(x.2.2:Int)) tl),(nI,.int x.1 ti),(nJ,.int x.2.1 tj)] [(K,ch its n)])
  (hb:e9 s.heap (fX L K) its l) (hsz:its.size≤2^20) (hin:C.A9 xs.length ys.length l) :
  aF (aB PQ w) A (eK Iw (l0 L)) (fun fl s'=>fl=.next∧oN fun h' tk' its' n'=>lO (s'=(sh s h' tk')) (ba (fX L K) s.heap h') (Lp g₀ (fX L K) (l0 L) h' [(eU,.ref f),(dB,.ref sd),(m9,.ref K)] [(K,ch its' n')]) (e9 h' (fX L K) its' (C.gC (gL xs ys) x l))) (fun O O=>False) s:=by
 have S:=Lh.st
 have hlen:=hb.length
 rw [aJ] at hlen
 refine wq fun R2_ hR2=>?_
 refine aT (gN (Eg.pair (a:=((x.1+x.2.2:Nat):Int)) (b:=((x.2.1+x.2.2:Nat):Int)) (Ev.isI (Ev.sub (Ev.nmI S) (Ev.nmI S)) (Int.sub_neg _ _)) (Ev.isI (Ev.sub (Ev.nmI S) (Ev.nmI S)) (Int.sub_neg _ _))) fun v h1 tk1 k1 hv=>?_)
 obtain ⟨vs,t,hi,rfl,hN⟩:=hv
 cases hi with|cons _ tp hi=>cases hi with|cons _ tq hi=>cases hi with|nil=>
 refine gP (s:=sh s h1 tk1) hA.hd (S.grow k1) ⟨_,hN.yes,rfl,_,rfl⟩ (fun h2 tk2 S2=>⟨rfl,?_⟩)
 have L2:=(Lh.next S2 Lh.st.inC).forget (m':=km f sd K x tl ti tj tp tq []) (by
  intro p hp
  simp only [aC,bT,or_false] at hp
  rcases hp with rfl|rfl|rfl|rfl|rfl|rfl|rfl|rfl<;>rfl)
 have k02:=S2.kept
 have hb2:=hb.mono fun O O q=>q.sub (bP S2.keep)
 clear S2
 have hin2:∀b∈fX L K,∃o,h2.get? b=some o:=fun b hb=>by
  cases hb with
  | head=>exact ⟨_,L2.st.get (.head _)⟩
  | tail _ hb=>exact L2.st.lie b hb
 refine aT (jF (s:=sh s h2 tk2) (n:=its.size-1) (a:=1) hA.hd (fX L K)
  (fun u h'=>Lp g₀ (fX L K) (l0 L) h' (km f sd K x tl ti tj tp tq []) [(K,ch its n)]∧dL (fun v (x:C.cv)=>VT (bC h' (fX L K)) v [(x.1:Int),(x.2.1:Int),(x.2.2:Int)]) its.toList l∧ba (fX L K) h2 h'∧∀t,t<u→C.Ej x l t=false)
  (Eg.mono (Eg.range2 (X.sub L2.here) Ev.int (Ev.len (X.sub L2.here) (Ev.nm L2.st) ⟨_,L2.st.get (.head _),rfl,_,rfl⟩ (ck hsz rfl)) Bv (c6 hsz rfl) (by decide) (by decide)) fun v h' O q=>by rw [show ((its.size:Int)-1).toNat=its.size-1 from nk] at q;exact q)
  hin2 (fun h' k'=>⟨L2.grow k',?_,k'.mono (by simp),fun O h=>absurd h (dv _)⟩) ?_ ?_ ?_)
 ·exact hb2.mono fun O O q=>q.sub (bP (L2.st.grow k').keep)
 ·rintro i h3 h4 ⟨a,b,c,d⟩ hk
  exact ⟨a.stab hk,b.mono fun O O q=>q.sub (iX hk),c.stab hk fun b o q n=>⟨o,q⟩,d⟩
 ·rintro u v h3 tk3 hu hv ⟨L3,hb3,k23,hmiss⟩
  obtain ⟨tk',rfl⟩:=hv
  obtain ⟨a,ha⟩:∃a,l[u]? = some a:=⟨_,aW (by exact cR (.lt aq ar (.eq az ar (.lt aq aI (.le aI az .o)))) τ hlen hu (aO _ _))⟩
  obtain ⟨b,hbl⟩:∃b,l[u+1]? = some b:=⟨_,aW (by exact cR (.lt (.s 0 1) ar (.eq az ar (.lt aq aI (.eq (.s 3 1) az .o)))) τ hlen hu (aa (c8 (.le (.k 1) aq (.lt ar az (.le az aq .o))) τ hu (aO _ _))))⟩
  obtain ⟨v1,he1,hv1⟩:=hb3.get' u a ha
  obtain ⟨v2,he2,hv2⟩:=hb3.get' (u+1) b hbl
  obtain ⟨a1,o1,n1,ta,tb,ts,rfl,ho1,hc1,hd1⟩:=hv1.three
  obtain ⟨a2,o2,n2,te,to,te',rfl,ho2,hc2,hd2⟩:=hv2.three
  have hU:u≤2^20:=aj (aR hu) (aj (aO _ _) hsz)
  rw [cy] at he1 he2
  refine bE (s:=sh s h3 tk3) L3.st (fun h4 tk4 S4=>?_)
  have hv34:=bP S4.keep
  have L4:=L3.next S4 L3.st.inC
  refine wq fun R3_ hR3=>?_
  refine aT (gN (s:=sh s h4 tk4) (Ev.gg (Ev.item (x:=.ref a1) (Ev.nm S4) (Ev.sub (Ev.nmI S4) Ev.int) ⟨_,S4.get (.head _),rfl,_,rfl⟩ Ih (Ii hU rfl) ?_)) fun v h5 tk5 k5 hv=>?_)
  ·rw [show ((1:Int)+(u:Int)-1).toNat=u from Ik];exact he1
  obtain ⟨rfl,rfl⟩:=hv
  refine mf (s:=sh s h5 tk5) (u:=.int a.1 ta) (v:=.int a.2.1 tb) (r:=.int a.2.2 ts) hA.hd S4 ⟨o1,cD _ _ _ _ (hv34 _ _ ho1),hc1,n1,hd1⟩ (fun h6 tk6 S6=>⟨rfl,?_⟩)
  have hv36:=bP S6.keep
  refine aT (gN (s:=sh s h6 tk6) (Eg.twoA (x:=.int b.1 te) (y:=.int b.2.1 to) (z:=.int b.2.2 te') (Ev.item (x:=.ref a2) (Ev.nm S6) (Ev.nmI S6) ⟨_,S6.get (.head _),rfl,_,rfl⟩ Ig (Il hU rfl) ?_) ⟨o2,cD _ _ _ _ (hv36 _ _ ho2),hc2,n2,hd2⟩) fun v h7 tk7 k7 hv=>?_)
  ·rw [show ((1:Int)+(u:Int)).toNat=u+1 from Ij];exact he2
  obtain ⟨tt,rfl,hNt⟩:=hv
  refine gP (s:=sh s h7 tk7) hA.hd (S6.grow k7) ⟨_,hNt.yes,rfl,_,rfl⟩ (fun h8 tk8 S8=>⟨rfl,?_⟩)
  have k38:=S8.kept
  have L8:=(L3.next S8 L3.st.inC).forget (m':=km f sd K x tl ti tj tp tq [(nK,.int (1+(u:Int)) tk'),(Ak,.int a.1 ta),(xm,.int a.2.1 tb),(lJ,.int a.2.2 ts),(Go,.int b.1 te),(nc,.int b.2.1 to)]) (by
   intro p hp
   simp only [aC,bT,or_false] at hp
   rcases hp with rfl|rfl|rfl|rfl|rfl|rfl|rfl|rfl|rfl|rfl|rfl|rfl|rfl|rfl<;>rfl)
  have hb8:=hb3.mono fun O O q=>q.sub (bP S8.keep)
  clear S8 S6 S4 hv34 hv36
  have hfit:C.Ej x l u=C.ins (C.o8 a b) x:=by unfold C.Ej;rw [ha,hbl]
  have T:=L8.st
  refine gO (fV (s:=sh s h8 tk8) (b:=C.ins (C.o8 a b) x) (Et.and fun whole=>?_) fun tk9=>?_)
  ·by_cases q1:a.1+a.2.2≤x.1
   ·refine jd.yes (Et.of (Et.ints (Ev.add (Ev.nmI T) (Ev.nmI T)) (Ev.nmI T)) ?_) ?_
    ·simp only [eI,decide_eq_true_eq];exact dX.mpr q1
    by_cases q2:a.2.1+a.2.2≤x.2.1
    ·refine jd.yes (Et.of (Et.ints (Ev.add (Ev.nmI T) (Ev.nmI T)) (Ev.nmI T)) ?_) ?_
     ·simp only [eI,decide_eq_true_eq];exact dX.mpr q2
     by_cases q3:x.1+x.2.2≤b.1
     ·refine jd.yes (Et.of (Et.ints (Ev.nmI T) (Ev.nmI T)) ?_) (jd.last (Et.of (Et.ints (Ev.nmI T) (Ev.nmI T)) ?_))
      ·simp only [eI,decide_eq_true_eq];exact dX.mpr q3
      ·simp only [eI,C.ins,C.o8,q1,q2,q3,decide_true,Bool.true_and]
       exact decide_eq_decide.mpr dX
     ·have:C.ins (C.o8 a b) x=false:=by simp only [C.ins,C.o8,q3,decide_false,Bool.false_and,mC]
      rw [this]
      refine jd.no (Et.of (Et.ints (Ev.nmI T) (Ev.nmI T)) ?_)
      simp only [eI,decide_eq_false_iff_not];exact fun z=>q3 (dX.mp z)
    ·have:C.ins (C.o8 a b) x=false:=by simp only [C.ins,C.o8,q2,decide_false,Bool.false_and,mC]
     rw [this]
     refine jd.no (Et.of (Et.ints (Ev.add (Ev.nmI T) (Ev.nmI T)) (Ev.nmI T)) ?_)
     simp only [eI,decide_eq_false_iff_not];exact fun z=>q2 (dX.mp z)
   ·have:C.ins (C.o8 a b) x=false:=by simp only [C.ins,C.o8,q1,decide_false,Bool.false_and]
    rw [this]
    refine jd.no (Et.of (Et.ints (Ev.add (Ev.nmI T) (Ev.nmI T)) (Ev.nmI T)) ?_)
    simp only [eI,decide_eq_false_iff_not];exact fun z=>q1 (dX.mp z)
  ·cases hins:C.ins (C.o8 a b) x with
   | true=>
    skip
    refine aL (z7 (s:=sh s h8 tk9) hA X hf hs hx hy L8 hb8 hsz ha hbl hins hin) (fun fl s' hq=>?_) fun O O z=>z
    obtain ⟨rfl,h',tk',its',n',rfl,kp,Lp',hb'⟩:=hq
    refine hR3 .brk _ ⟨rfl,aw (hR2 .next _ ⟨rfl,h',tk',its',n',rfl,((k02.trans k23).trans k38).trans kp,Lp'.forget (lv rfl rfl rfl),?_⟩)⟩
    rw [C.xu l u a b ha hbl hmiss hins]
    exact hb'
   | false=>
    skip
    refine aw (show aF _ _ _ _ _ _ from aw (hR3 .next _ ⟨h8,tk9,rfl,k38,L8.forget (by
     intro p hp
     simp only [aC,bT,or_false] at hp
     rcases hp with rfl|rfl|rfl|rfl|rfl|rfl|rfl|rfl<;>rfl),hb8,k23.trans k38,fun t ht=>?_⟩))
    by_cases q:t<u
    ·exact hmiss t q
    ·obtain rfl:t=u:=by exact ak (dH ht) (aZ q)
     rw [hfit,hins]
 ·rintro h3 tk3 ⟨L3,hb3,k23,hmiss⟩
  refine ⟨rfl,aw (hR2 .next _ ⟨rfl,h3,tk3,its,n,rfl,k02.trans k23,L3.forget (lv rfl rfl rfl),?_⟩)⟩
  rw [C.vv l fun t ht=>hmiss t (by exact cR (.lt aq ar (.qe az aI (.lt (.s 0 1) aI (.le az (.s 1 1) .o)))) τ hlen ht bZ)]
  exact hb3
end
noncomputable def Im (i:Nat):fC:=(sJ (cb 8)).getD i (.Pass p0)
section
variable {w:aP} {A:aS} {g₁ g₂ h:ay} {d L Pp:aH} {od1:cA} {ys:List Int} {s:am} {ks:List (Int×aH)} {es:Array (Int×ag)} {ep:Nat} {t:bH} {nt:Nat} {tt:jR}
theorem DZ {a:aH} {kp:List Int} {k:Int} {u:jR} (ho:h.get? a=some (SI.iT es ep t)) (hS:SI.iL w es t kp) (hk:k∉kp) (hr:kp.length+1<4000) :
  Cd PQ w A h [a] (.builtin "set.add") [.ref a,.int k u] (fun v h'=>v=.none∧oN fun kp' es' ep' t'=>jn (kp'.Perm (kp++[k])) (h'.get? a=some (SI.iT es' ep' t')) (SI.iL w es' t' kp')):=fun s Q E hs q=>by
 subst hs
 refine SI.zA ⟨es,ep,t,ho,hS⟩ hk hr fun h' kp' tk hsb hp hS'=>?_
 obtain ⟨es',ep',t',ho',hS'⟩:=hS'
 exact q _ h' tk (.same hsb) ⟨rfl,kp',es',ep',t',hp,ho',hS'⟩
noncomputable abbrev m2 (d Pp:aH) (nt:Nat) (tt:jR):List (bU×ag):=[(wz,.ref d),(vk,.ref Pp),(ES,.int nt tt)]
noncomputable def G9 (w:aP) (g₁ g₂:ay) (d L Pp:aH) (ks:List (Int×aH)) (ys:List Int) (nt:Nat) (tt:jR) (i:Nat) (h':ay):Prop:=
 oN fun kp es ep t=>qp (Lp g₂ [L,Pp] (mI L) h' (m2 d Pp nt tt) [(Pp,SI.iT es ep t)]) (SI.iL w es t kp) ((∀k,k∈kp↔k∈(ks.take i).map (·.1)∧nt<(C.qA ys ys.length k).length)) (kp.length≤i) (Sub g₁ h')
theorem D6 (hA:eV A 0) (X:Cx w g₂) (hd:g₂.get? d=some od1) (hD:DI w od1 (gz ks)) (hL:mv g₂ ks ys ys.length) (hkl:ks.length≤3000) (hy:ys.length≤3000) (hsys:(d==dF)=false) (hg:∀b∈[L,Pp],g₁.get? b=none)
  (H0:G9 w g₁ g₂ d L Pp ks ys nt tt 0 s.heap):aF (aB PQ w) A (fA (Im 1) (mI L)) (fun fl s'=>fl=.next∧g8 fun h' tk=>s'=(sh s h' tk)∧G9 w g₁ g₂ d L Pp ks ys nt tt ks.length h') (fun O O=>False) s:=by
 obtain ⟨kp0,es0,ep0,t0,L0,hS0,xh,_,hg0⟩:=id H0
 have hnd:(ks.map (·.1)).Nodup:=by
  obtain ⟨es,ep,q_⟩:=hD;have hnd:=q_.2.2.2.2;clear q_
  rwa [vf] at hnd
 have hkv:(gz ks).length=ks.length:=by simp [gz]
 have hD2p:∀{h':ay} {es ep t},St (bp h' [L,Pp]) (mI L) h' (m2 d Pp nt tt) [(Pp,SI.iT es ep t)]→∀b∈[L,Pp],∀o,h'.get? b=some o→cz o=true:=fun S=>fv (fun o ho=>qC S ho) (fun o ho=>by replace ho:=(S.get (.head _))▸ho;cases ho;rfl)
 refine wq fun R1_ hR1=>?_
 refine vC (d:=d) (o:=od1) (kvs:=gz ks) hA.hd (Ed.eg (Ed.methB0 (Ev.nm L0.st) (L0.here _ _ hd) hD.cls.1 hD.cls.2 oU PySem.F.slot_dict_items PySem.F.type_dict_items (zC (L0.here _ _ hd) hD hsys))) (L0.here _ _ hd) hD (G9 w g₁ g₂ d L Pp ks ys nt tt) (fun h' k'=>?_) ?_ ?_ ?_
 ·obtain ⟨kp,es,ep,t,a,b,c,e,f⟩:=H0
  exact ⟨kp,es,ep,t,a.grow k',b,c,e,f.trans k'.all⟩
 ·rintro i h1 h2 ⟨kp,es,ep,t,a,b,c,e,f⟩ hk
  exact ⟨kp,es,ep,t,a.stab (B:=fun b=>∃o,s.heap.get? b=some o) (fun b' o q z=>hk b' o q (by
   rcases z with z|z|z
   ·exact .inl z
   ·exact .inl (hD2p a.st b' z o q)
   ·exact .inr z)),b,c,e,fun b o q=>hk b o (f b o q) (.inr ⟨o,hg0 b o q⟩)⟩
 ·rintro i T k u v h1 tk1 hi hv hT ⟨kp,es,ep,t,L1,hS1,hk1,hl1,hg1⟩
  replace hi:=hkv▸hi
  obtain ⟨⟨k',l⟩,hkl'⟩:∃p,ks[i]? = some p:=⟨_,aW hi⟩
  have hv':(gz ks)[i]? = some (k',.ref l):=by simp [gz,hkl']
  replace hv':=hv▸hv'
  obtain ⟨rfl,rfl⟩:k=k'∧v=.ref l:=by simpa using hv'
  obtain ⟨its,n,hl,hli⟩:g8 fun its n=>g₂.get? l=some (ch its n)∧cf its.toList (qI (C.qA ys ys.length k)):=hL.all (k,l) (gH hkl')
  have hsz:its.size=(C.qA ys ys.length k).length:=by have:=hli.length;rw [aJ,qI,eh] at this;exact this
  have hidx:(C.qA ys ys.length k).length≤3000:=by unfold C.qA;exact aj (kt _ _) (by simpa using hy)
  refine gP (s:=sh s h1 tk1) hA.hd L1.st hT (fun h2 tk2 S2=>?_)
  have L2:=L1.next S2 L1.st.inC
  have hkn:k∉kp:=fun q=>by
   obtain ⟨q,_⟩:=(hk1 k).mp q
   obtain ⟨p,hp,hpk⟩:=b9.mp q
   obtain ⟨j,hj,e⟩:=lg.mp hp
   rw [dE] at hj
   rw [jK] at e
   have:=List.nodup_iff_pairwise_ne.mp hnd
   rw [eZ] at this
   have h3:=this j i (by simp;exact av hj (br _ _)) (by simpa using hi) (by exact av hj (aN _ _))
   simp only [List.getElem_map] at h3
   obtain ⟨hi',e'⟩:=jk.mp hkl'
   rw [e,e'] at h3
   exact h3 hpk
  have htake:ks.take (i+1)=ks.take i++[(k,l)]:=by rw [gJ,hkl'];rfl
  refine wq fun R2_ hR2=>?_
  refine aT (fV (s:=sh s h2 tk2) (b:=decide (nt<(C.qA ys ys.length k).length)) (Et.of (Et.ints (Ev.len (X.sub L2.here) (Ev.nm S2) ⟨_,L2.here _ _ hl,rfl,_,rfl⟩ (by lia)) (Ev.nmI S2)) ?_) fun tk3=>?_)
  ·skip
   exact decide_eq_decide.mpr (by lia)
  by_cases hpop:nt<(C.qA ys ys.length k).length
  ·rw [decide_eq_true hpop,if_pos rfl]
   refine wq fun R3_ hR3=>?_
   refine aT (ut (s:=sh s h2 tk3) (D:=[Pp]) (P:=fun v h'=>v=.none∧oN fun kp' es' ep' t'=>jn (kp'.Perm (kp++[k])) (h'.get? Pp=some (SI.iT es' ep' t')) (SI.iL w es' t' kp')) (Ed.methB (Ev.nm S2) (S2.get (.head _)) rfl rfl PySem.F.plainAttrs_set PySem.F.slot_set_add PySem.F.type_set_add (Es.one (Ev.gg (Ev.nm S2))) fun vs h3 k3 hvs=>?_) ?_ fun v h4 tk4 k4 hq=>⟨rfl,aw (hR3 .next _ ⟨rfl,aw ?_⟩)⟩)
   ·obtain ⟨v,rfl,rfl,rfl⟩:=hvs
    exact DZ (S2.get (.head _)) hS1 hkn (by exact c8 (.lt (.s 0 1) (.k 4000) (.le ar (.k 3000) (.lt az ar (.le aq az .o)))) τ hkl hi hl1)
   ·exact fun v h' q=>q.1
   ·obtain ⟨_,kp',es',ep',t',hp,ho',hS'⟩:=hq
    have S4:=S2.change (pre:=[]) (post:=[]) k4 ho' (by simp) (by simp)
    refine hR2 .next _ ⟨h4,tk4,rfl,vU.of S4.kept (hD2p L1.st) (da (cZ (L1.sub _ _ hd)).2.1),kp',es',ep',t',(L1.next S4 (da (.tail _ (.head _)))).forget (lv rfl rfl rfl),hS',fun k'=>?_,by rw [hp.length_eq];simp;exact hl1,fun b o q=>S4.kept b o (hg1 b o q) fun z=>by exact nn (hg b z) q⟩
    rw [hp.mem_iff,htake,bw,hk1,iB,bw]
    simp only [aD,ft,pG]
    constructor
    ·rintro (⟨a,b⟩|rfl)
     ·exact ⟨.inl a,b⟩
     ·exact ⟨.inr rfl,hpop⟩
    ·rintro ⟨a|rfl,b⟩
     ·exact .inl ⟨a,b⟩
     ·exact .inr rfl
  ·rw [decide_eq_false hpop,if_neg (by decide)]
   refine aw ⟨rfl,aw (hR2 .next _ ⟨h2,tk3,rfl,vU.of S2.kept (hD2p L1.st) (da (cZ (L1.sub _ _ hd)).2.1),kp,es,ep,t,L2.forget (lv rfl rfl rfl),hS1,fun k'=>?_,by exact cW (.le aq (.s 1 1) (.le aq ar .o)) τ hl1,fun b o q=>S2.kept b o (hg1 b o q) fun z=>by exact nn (hg b z) q⟩)⟩
   rw [hk1,htake,iB,bw]
   simp only [aD,ft,pG]
   constructor
   ·rintro ⟨a,b⟩;exact ⟨.inl a,b⟩
   ·rintro ⟨a|rfl,b⟩
    ·exact ⟨a,b⟩
    ·exact absurd b hpop
 ·rintro h1 tk1 H1
  refine hR1 .next _ ⟨rfl,h1,tk1,rfl,?_⟩
  rw [hkv] at H1
  exact H1
end
noncomputable def rh (kvs:List (Int×ag)) (l:List Int):List (Int×ag):=kvs.filter fun kv=>decide (kv.1∉l)
theorem uL (kvs:List (Int×ag)):rh kvs []=kvs:=by simp [rh]
theorem ye (kvs:List (Int×ag)) (l:List Int) (k:Int):without (rh kvs l) k=rh kvs (l++[k]):=by
 delta without rh
 rw [List.filter_filter]
 congr 1
 funext kv
 rw [de]
 simp only [g7,decide_eq_true_eq,bw,aD,not_or]
 exact ⟨fun ⟨a,b⟩=>⟨b,a⟩,fun ⟨a,b⟩=>⟨b,a⟩⟩
theorem w6 (kvs:List (Int×ag)) (l:List Int) (k:Int):dG (rh kvs l) k=if k∈l then none else dG kvs k:=by
 delta dG rh
 rw [List.find?_filter]
 split
 ·rename_i h
  rw [pL,mE]
  intro kv _ q
  simp only [decide_eq_true_eq] at q
  exact q.1 (q.2▸h)
 ·rename_i h
  congr 2
  funext kv
  rw [de]
  simp only [decide_eq_true_eq]
  exact ⟨fun q=>q.2,fun q=>⟨q▸h,q⟩⟩
section
variable {w:aP} {A:aS} {g₁ g₃ h:ay} {d L Pp:aH} {s:am} {kvs:List (Int×ag)} {kp:List Int}
noncomputable abbrev m3 (d Pp:aH):List (bU×ag):=[(wz,.ref d),(vk,.ref Pp)]
noncomputable def He (w:aP) (g₁ g₃:ay) (d L Pp:aH) (kvs:List (Int×ag)) (ks':List Int) (i:Nat) (h':ay):Prop:=
 ∃od',jn (Lp g₃ [L,d] (mI L) h' (m3 d Pp) [(d,od')]) (DI w od' (rh kvs (ks'.take i))) (Sub g₁ h')
theorem D7 (hA:eV A 0) (hP:SI.iS w g₃ Pp kp) (hkv:kvs.length≤3000) (hall:∀k∈kp,(dG kvs k).isSome=true) (hg:∀b∈[L,d],g₁.get? b=none)
  (H0:He w g₁ g₃ d L Pp kvs [] 0 s.heap):aF (aB PQ w) A (fA (Im 2) (mI L)) (fun fl s'=>fl=.next∧oN fun h' tk dr ks'=>jn (s'=(oE s h' tk dr)) (ks'.Perm kp) (He w g₁ g₃ d L Pp kvs ks' ks'.length h')) (fun O O=>False) s:=by
 obtain ⟨od0,L0,hD0,hg0⟩:=id H0
 have hnd:kp.Nodup:=by obtain ⟨es,ep,t,_,hS⟩:=hP;exact hS.nd
 have hPg:Pp∉[L,d]:=by
  obtain ⟨es,ep,t,ho,_⟩:=hP
  exact (cZ (L0.sub _ _ ho)).2.1
 have hD3p:∀{h':ay} {m od l},St (bp h' [L,d]) (mI L) h' m [(d,od)]→DI w od l→∀b∈[L,d],∀o,h'.get? b=some o→cz o=true:=fun S hD=>fv (fun o ho=>qC S ho) (fun o ho=>by rw [S.get (.head _)] at ho;cases ho;exact hD.plain)
 have hPs:∀{h':ay},Sub g₃ h'→SI.iS w h' Pp kp:=fun hs=>by obtain ⟨es,ep,t,ho,hS⟩:=hP;exact ⟨es,ep,t,hs _ _ ho,hS⟩
 refine wq fun R1_ hR1=>?_
 refine yU hA.hd (Ev.nm L0.st) (hPs L0.here) (He w g₁ g₃ d L Pp kvs) (fun ks' h' hp k'=>?_) ?_ ?_ ?_
 ·obtain ⟨od',a,b,c⟩:=H0
  exact ⟨od',a.grow k',b,c.trans k'.all⟩
 ·rintro ks' i h1 h2 ⟨od',a,b,c⟩ hk
  exact ⟨od',a.stab (B:=fun b=>∃o,s.heap.get? b=some o) (fun b' o q z=>hk b' o q (by
   rcases z with z|z|z
   ·exact .inl z
   ·exact .inl (hD3p a.st b b' z o q)
   ·exact .inr z)),b,fun b o q=>hk b o (c b o q) (.inr ⟨o,hg0 b o q⟩)⟩
 ·rintro F ks' dr i k u h1 tk1 hF hp hk ⟨od1,L1,hD1,hg1⟩
  refine bE (s:=oE s h1 tk1 dr) L1.st (fun h2 tk2 S2=>?_)
  have hcl:(rh kvs (ks'.take i)).length≤2^20:=by unfold rh;exact aj (kt _ _) (by omega)
  have hknt:k∉ks'.take i:=fun q=>by
   obtain ⟨j,hj,e⟩:=lg.mp q
   rw [dE] at hj
   rw [jK] at e
   have:=List.nodup_iff_pairwise_ne.mp (hp.nodup_iff.mpr hnd)
   rw [eZ] at this
   obtain ⟨hi,e'⟩:=jk.mp hk
   exact this j i (by exact av hj (br _ _)) hi (by exact av hj (aN _ _)) (e.trans e'.symm)
  have hat:(dG (rh kvs (ks'.take i)) k).isSome=true:=by
   rw [w6,if_neg hknt]
   exact hall k (hp.mem_iff.mp (gH hk))
  refine wq fun R2_ hR2=>?_
  refine aT (wpAny_Delete (wpAny_deleteEach_cons (delete_Subscript ((Ev.nm S2).use (s:=oE s h2 tk2 dr) rfl fun ov tk3 hov=>(Ev.nm S2).use (s:=oE s h2 tk3 dr) rfl fun iv tk4 hiv=>?_))))
  subst hov
  subst hiv
  refine zG (s:=oE s h2 tk4 dr) (S2.get (.head _)) hD1 hcl hat fun h3 od3 tk5 k3 ho3 hD3=>wpAny_deleteEach_nil ⟨rfl,aw ?_⟩
  have S3:=S2.change (pre:=[]) (post:=[]) k3 ho3 (by simp) (by simp)
  refine hR2 .next _ ⟨h3,tk5,rfl,vU.of S3.kept (hD3p L1.st hD1) (fun b hb z=>?_),od3,(L1.next S3 (da (.tail _ (.head _)))).forget (fv rfl rfl),?_,fun b o q=>S3.kept b o (hg1 b o q) fun z=>by exact nn (hg b z) q⟩
  ·rcases hF b hb with rfl|q
   ·exact hPg z
   ·simp only [aC,bT,or_false] at z
    rcases z with rfl|rfl
    ·obtain ⟨o,ho⟩:=L0.st.lie _ FA.loc
     rw [show (mI b).locals=b from rfl,q] at ho;cases ho
    ·rw [L0.st.get (.head _)] at q;cases q
  ·rw [ye] at hD3
   rw [gJ,hk]
   exact hD3
 ·rintro ks' dr h1 tk1 hp H1
  exact hR1 .next _ ⟨rfl,h1,tk1,dr,ks',rfl,hp,H1⟩
end
noncomputable def C5 (w:aP) (g:ay) (d:aH) (ys:List Int) (S:Int→Bool):Prop:=g8 fun od kvs=>jn (g.get? d=some od) (DI w od kvs) (∀k,(∃l,jn (dG kvs k=some (.ref l)) (IL g l (qI (C.qA ys ys.length k))) (S k=true))∨(dG kvs k=none∧(S k=false∨C.qA ys ys.length k=[])))
theorem C5.sub {w:aP} {g g':ay} {d:aH} {ys:List Int} {S:Int→Bool} (x:C5 w g d ys S) (hs:Sub g g'):C5 w g' d ys S:=by
 obtain ⟨od,kvs,a,b,c⟩:=x
 refine ⟨od,kvs,hs _ _ a,b,fun k=>?_⟩
 rcases c k with ⟨l,p,q,r⟩|q
 ·exact .inl ⟨l,p,q.sub hs,r⟩
 ·exact .inr q
noncomputable abbrev IB (f sd:aH):List (bU×ag):=[(jW,.none),(nA,.ref f),(nB,.ref sd),(ix,.bool true),(d0,.none),(lI,.none),(qX,.none)]
noncomputable abbrev Gk (f sd d J Pp:aH):List (bU×ag):=[(jW,.none),(nA,.ref f),(nB,.ref sd),(ix,.bool true),(d0,.none),(lI,.none),(qX,.none),(wz,.ref d),(wA,.ref J),(yE,.ref Pp)]
noncomputable def nj (ys:List Int) (k:Int):Bool:=decide (200≤ys.length) && decide (ys.length / 100+1<(C.qA ys ys.length k).length)
section
variable {w:aP} {A:aS} {h:ay} {x dx f sd:aH} {od:cA} {ys:List Int} {S:Int→Bool}
noncomputable def lS (w:aP) (dx f sd:aH) (ys:List Int) (S:Int→Bool) (h':ay):Prop:=
 oN fun od' d J Pp=>qp (h'.get? dx=some od') (DO od' (Gk f sd d J Pp)) (C5 w (bC h' [dx]) d ys S) (SI.iS w (bC h' [dx]) J []) ((d==dF)=false)
theorem s6 {h9:ay} {od9 odx:cA} {d J Pp:aH} {ks:List (Int×aH)} {l:List Int} (hsys:(d==dF)=false) (hdx:h9.get? dx=some odx) (hO:DO odx (Gk f sd d J Pp)) (hd:h9.get? d=some od9) (hD:DI w od9 (rh (gz ks) l)) (hne:d≠dx) (hJ:SI.iS w h9 J []) (hL:mv h9 ks ys ys.length)
  (hk:∀k,k∈ks.map (·.1)↔k∈ys) (hl:∀k,k∈l↔k∈ys∧nj ys k=true) (hS:∀k∈ys,S k=!nj ys k):lS w dx f sd ys S h9:=by
 have hdd:∀{es ep},odx.data=.dict es ep→cz odx=true:=fun e=>by unfold cz;rw [e]
 obtain ⟨esx,epx,ex,_⟩:=id hO
 refine ⟨odx,d,J,Pp,hdx,hO,⟨od9,_,cH hd (by simpa using hne) hD.plain,hD,fun k=>?_⟩,?_,hsys⟩
 ·rw [w6]
  by_cases hkl:k∈l
  ·rw [if_pos hkl]
   obtain ⟨hky,hp⟩:=(hl k).mp hkl
   exact .inr ⟨rfl,.inl (by rw [hS k hky,hp];rfl)⟩
  ·rw [if_neg hkl]
   cases hv:dG (gz ks) k with
   | none=>
    refine .inr ⟨rfl,.inr (C.xk (bd _) ?_)⟩
    rw [dY]
    exact fun q=>r0.mp hv ((hk k).mpr q)
   | some v=>
    obtain ⟨a,rfl,ha⟩:=z9 hv
    obtain ⟨its,n,q,hi⟩:g8 fun its n=>h9.get? a=some (ch its n)∧cf its.toList (qI (C.qA ys ys.length k)):=hL.all (k,a) ha
    have hky:k∈ys:=(hk k).mp (b9.mpr ⟨_,ha,rfl⟩)
    have hpn:nj ys k=false:=by
     cases hp:nj ys k with
     | false=>rfl
     | true=>exact absurd ((hl k).mpr ⟨hky,hp⟩) hkl
    refine .inl ⟨a,rfl,⟨its.toList,⟨_,cH q (fun z=>?_) rfl,rfl,n,by simp⟩,hi⟩,by rw [hS k hky,hpn];rfl⟩
    obtain rfl:=aD.mp z
    rw [hdx] at q;cases q;cases ex
 ·obtain ⟨es,ep,t,ho,hS⟩:=hJ
  refine ⟨es,ep,t,cH ho (fun z=>?_) rfl,hS⟩
  obtain rfl:=aD.mp z
  rw [hdx] at ho;cases ho;cases ex
theorem zE (hA:eV A 1) (X:Cx w (bC h [dx])) (hx:h.get? x=some (dA 242 dx)) (hd:h.get? dx=some od) (hO:DO od (IB f sd)) (hs:IL (bC h [dx]) sd ys) (hy:ys.length≤3000) (hS:∀k∈ys,S k=!nj ys k) :
  ze PQ w A h [dx] (.ref 188) [.ref x] (fun v h'=>v=.none∧lS w dx f sd ys S h'):=by
 have X0:=X.sub (cD h [dx])
 obtain ⟨mg,mb,T⟩:=X0.T
 have hne:x≠dx:=fun q=>by
  obtain ⟨es,ep,q_⟩:=hO;have e1:=q_.1;clear q_
  rw [q,hd] at hx;cases hx;cases e1
 refine ze.enter (c:=[(dx,od)]) (by have:=hA.dp;exact cW (.lt aq ar (.lt (.s 0 1) ar .o)) τ this) (X0.K _ _ (Dg _)) rfl T.nolimit (f7 X0.K (BD _)) rfl (fun s hs=>.of_eq (Bj _)) (by decide +kernel) (da rfl) rfl (da ⟨hd,by simp⟩) (fun L s hL hk S0=>?_)
 have hA1:=(hA.deeper (mI L)).less (bd 0)
 have hx0:∀h',Sub (bp h [dx]) h'→h'.get? x=some (dA 242 dx):=fun h' q=>q _ _ (bq _ hx (qZ hne))
 have X1:∀h',Sub (bp h [dx]) h'→Cx w h':=fun h' q=>X.sub ((j7 h [dx]).trans q)
 have hs1:∀h',Sub (bp h [dx]) h'→IL h' sd ys:=fun h' q=>hs.sub ((j7 h [dx]).trans q)
 refine aT (fz S0 (Ev.attr (X1 _ S0.keep) (Ev.nm S0) (hx0 _ S0.keep) (S0.get (.head _)) hO) fun v h1 tk1 hv S1=>⟨rfl,?_⟩)
 subst hv
 refine aT (me (s:=sh s h1 tk1) Eg.dict1 fun v h2 tk2 k2 hv=>?_)
 obtain ⟨rfl,hN⟩:=hv
 have hsys:(h1.objs.size==dF)=false:=ur (X1 _ S1.keep)
 generalize h1.objs.size=d at hN hsys
 have hddx:d≠dx:=(qn (S1.get (.head _)) hN.no).symm
 have S2:=S1.add k2 hN.yes hN.no
 refine ke (s:=sh s h2 tk2) (pre:=[(d,oq)]) (post:=[]) (X1 _ S2.keep) S2 (hx0 _ S2.keep) hO (bI rfl) (da hddx) il fun h3 od3 tk3 k3 hO3 S3=>?_
 refine bE (s:=sh s h3 tk3) S3 (fun h4 tk4 S4=>⟨rfl,?_⟩)
 have hLn:(bp h [dx]).get? L=none:=qz hL
 have hdn:(bp h [dx]).get? d=none:=by
  cases q:(bp h [dx]).get? d with
  | none=>rfl
  | some o=>have:=S1.keep _ _ q;exact nn hN.no this
 have hdh:h.get? d=none:=by
  cases q:h.get? d with
  | none=>rfl
  | some o=>replace hdn:=(bq _ q (qZ hddx))▸hdn;cases hdn
 have L4:Lp (bC h [dx]) [L,d,dx] (mI L) h4 (m1 x sd d) [(d,oq),(dx,od3)]:=⟨cM fun b o q n O=>⟨S4.keep _ _ (bq _ q n),fun z=>by
   simp only [aC,bT,or_false] at z n
   rcases z with rfl|rfl|rfl
   ·exact nn hL q
   ·exact nn hdh q
   ·exact n rfl⟩,(S4.names (m':=m1 x sd d) (lv rfl rfl rfl)).rebase [L,d,dx] (da (.head _)) (fv (.tail _ (.head _)) (.tail _ (.tail _ (.head _))))⟩
 have hg4:∀b∈[L,d,dx],(bp h [dx]).get? b=none:=lv hLn hdn (cQ _ (.head _))
 have H0:GL w (bC h [dx]) (bp h [dx]) x dx d L sd od3 ys 0 h4:=⟨[],oq,L4,DI.nil w,⟨i5,by simp⟩,by simp,S4.keep,hg4,bd _⟩
 refine aT (aL (D5 (s:=sh s h4 tk4) hA1 X hs hy hO3 hsys hddx H0) (fun fl s' hq=>?_) fun O O z=>z)
 obtain ⟨rfl,h5,tk5,rfl,ks,od5,L5,hD5,hL5,hk5,hg5,hgn5,hkl5⟩:=hq
 refine ⟨rfl,?_⟩
 replace hk5:=dY▸hk5
 have S5:=(L5.st.less (c':=[(dx,od3)]) (da (.tail _ (.head _)))).rebase [L,dx] (da (.head _)) (da (.tail _ (.head _)))
 have G5:∀h',Sub (bp h5 [L,dx]) h'→Sub (bp h [dx]) h':=fun h' q b o e=>q b o (bq _ (hg5 b o e) (GY hLn (cQ _ (.head _)) e))
 have hd5:∀h',Sub (bp h5 [L,dx]) h'→h'.get? d=some od5:=fun h' q=>q _ _ (bq _ (L5.st.get (.head _)) (fun z=>by
  simp only [aC,bT,or_false] at z
  rcases z with z|z
  ·exact (L5.st.own _ (.head _)).2.1 (z▸FA.loc)
  ·exact hddx z))
 have hL5':∀h',Sub (bp h5 [L,dx]) h'→mv h' ks ys ys.length:=fun h' q=>⟨hL5.nd,fun p hp=>by
  obtain ⟨its,n,a,b⟩:=hL5.all p hp
  have:=m7 L5.st hD5 hO3 a
  exact ⟨its,n,q _ _ (bq _ a (fun z=>this (by simp at z ⊢;rcases z with z|z<;>simp [z]))),b⟩⟩
 refine aT (me (s:=sh s h5 tk5) (Eg.set0 (X1 _ (G5 _ S5.keep))) fun v h6 tk6 k6 hv=>?_)
 obtain ⟨J,esJ,epJ,tJ,rfl,hNJ,hSJ⟩:=hv
 have hJdx:J≠dx:=(qn (S5.get (.head _)) hNJ.no).symm
 have S6:=S5.add k6 hNJ.yes hNJ.no
 refine ke (s:=sh s h6 tk6) (pre:=[(J,SI.iT esJ epJ tJ)]) (post:=[]) (X1 _ (G5 _ S6.keep)) S6 (hx0 _ (G5 _ S6.keep)) hO3 (bI rfl) (da hJdx) il fun h7 od7 tk7 k7 hO7 S7=>?_
 refine bE (s:=sh s h7 tk7) S7 (fun h8 tk8 S8=>⟨rfl,?_⟩)
 refine aT (fz (s:=sh s h8 tk8) S8 (Ev.attr (X1 _ (G5 _ S8.keep)) (Ev.nm S8) (hx0 _ (G5 _ S8.keep)) (S8.get (.tail _ (.head _))) hO7) fun v h9 tk9 hv S9=>⟨rfl,?_⟩)
 subst hv
 refine gO (fV (s:=sh s h9 tk9) (b:=false) (Et.nm0 (Ev.nm S9)) fun tk10=>?_)
 skip
 refine aw (show aF _ _ _ _ _ _ from ?_)
 refine aT (me (s:=sh s h9 tk10) (Eg.set0 (X1 _ (G5 _ S9.keep))) fun v h11 tk11 k11 hv=>?_)
 obtain ⟨Pp,esP,epP,tP,rfl,hNP,hSP⟩:=hv
 have hPdx:Pp≠dx:=(qn (S9.get (.tail _ (.head _))) hNP.no).symm
 have hPJ:Pp≠J:=(qn (S9.get (.head _)) hNP.no).symm
 have S11:=S9.add k11 hNP.yes hNP.no
 refine ke (s:=sh s h11 tk11) (pre:=[(Pp,SI.iT esP epP tP),(J,SI.iT esJ epJ tJ)]) (post:=[]) (X1 _ (G5 _ S11.keep)) S11 (hx0 _ (G5 _ S11.keep)) hO7 (bI rfl) (fv hPdx hJdx) il fun h12 od12 tk12 k12 hO12 S12=>?_
 refine bE (s:=sh s h12 tk12) S12 (fun h13 tk13 S13=>⟨rfl,?_⟩)
 have hO13:DO od12 (Gk f sd d J Pp):=hO12
 refine aT (fz (s:=sh s h13 tk13) S13 (Ev.lenL (X1 _ (G5 _ S13.keep)) (Ev.nm S13) (hs1 _ (G5 _ S13.keep)) (by exact ck (m:=3000) (by assumption) (by with_unfolding_all rfl))) fun v h14 tk14 hv S14=>⟨rfl,?_⟩)
 obtain ⟨tn,rfl⟩:=hv
 have hdx14:h14.get? dx=some od12:=S14.get (.tail _ (.tail _ (.head _)))
 have hJ14:SI.iS w h14 J []:=⟨_,_,_,S14.get (.tail _ (.head _)),hSJ⟩
 have hPp14:=S14.get (.head _)
 refine gO (fV (s:=sh s h14 tk14) (b:=decide (200≤ys.length)) (Et.and fun whole=>jd.yes (Et.plain (Ev.attr (X1 _ (G5 _ S14.keep)) (Ev.nm S14) (hx0 _ (G5 _ S14.keep)) hdx14 hO13) fun s Q E O q=>ig (q s.toks)) (jd.last (Et.of (Et.ints (Ev.nmI S14) Ev.int) ?_))) fun tk15=>?_)
 ·skip
  exact decide_eq_decide.mpr (by lia)
 by_cases hn:200≤ys.length
 ·rw [decide_eq_true hn,if_pos rfl]
  have hdL:d≠L:=fun z=>(L5.st.own _ (.head _)).2.1 (z▸FA.loc)
  have hdP:d≠Pp:=qn (hd5 _ S9.keep) hNP.no
  have hPL:Pp≠L:=fun z=>(S14.own _ (.head _)).2.1 (z▸FA.loc)
  have hJL:J≠L:=fun z=>(S14.own _ (.tail _ (.head _))).2.1 (z▸FA.loc)
  have hdxL:dx≠L:=fun z=>(S14.own _ (.tail _ (.tail _ (.head _)))).2.1 (z▸FA.loc)
  have hJd:J≠d:=(qn (hd5 _ S5.keep) hNJ.no).symm
  have hPn:(bp h [dx]).get? Pp=none:=by
   cases q:(bp h [dx]).get? Pp with
   | none=>rfl
   | some o=>have:=G5 _ S9.keep _ _ q;exact nn hNP.no this
  refine aT (fz (s:=sh s h14 tk15) S14 (Ev.add (Ev.fdiv (Ev.nmI S14) Ev.int (by decide) ?_) Ev.int) fun v h16 tk16 hv S16=>⟨rfl,?_⟩)
  ·rfl
  generalize hnt:ys.length / 100+1=nt
  have hv':fr (nt:Int) v:=by
   have:(((ys.length:Int)).fdiv 100+1)=(nt:Int):=by
    rw [Int.fdiv_eq_ediv_of_nonneg _ (by decide)];lia
   rw [←this];exact hv
  obtain ⟨tt,rfl⟩:=hv'
  have L16:Lp (bC h16 [L,Pp]) [L,Pp] (mI L) h16 (m2 d Pp nt tt) [(Pp,SI.iT esP epP tP)]:=⟨fun O O q=>q,((S16.less (c':=[(Pp,SI.iT esP epP tP)]) (da (.head _))).rebase [L,Pp] (da (.head _)) (da (.tail _ (.head _)))).names (lv rfl rfl rfl)⟩
  have hL16:mv (bC h16 [L,Pp]) ks ys ys.length:=⟨hL5.nd,fun p hp=>by
   obtain ⟨its,n,a,b⟩:=(hL5' _ S16.keep).all p hp
   refine ⟨its,n,cH a (fun z=>?_) rfl,b⟩
   simp only [aC,bT,or_false] at z
   rcases z with z|z
   ·obtain ⟨ml,⟨o',es,ep,ho',hd',_⟩,_⟩:=S16.ns
    replace a:=z▸a
    rw [show (mI L).locals=L from rfl,a] at ho';cases ho';cases hd'
   ·rw [z,S16.get (.head _)] at a
    have:=congrArg cA.data (iE a)
    cases this⟩
  have X16:Cx w (bC h16 [L,Pp]):=X.sub (cM fun b o q n O=>⟨G5 _ S16.keep _ _ (bq _ q n),fun z=>by
   simp only [aC,bT,or_false] at z
   rcases z with rfl|rfl
   ·exact nn hL q
   ·replace hPn:=(bq _ q n)▸hPn;cases hPn⟩)
  refine aT (aL (D6 (s:=sh s h16 tk16) (od1:=od5) (g₁:=bp h [dx]) hA1 X16 (cH (hd5 _ S16.keep) (A6 hdL hdP) hD5.plain) hD5 hL16 (by exact aj hkl5 hy) hy hsys (fv hLn hPn) ⟨[],esP,epP,tP,L16,hSP,by simp,bd _,G5 _ S16.keep⟩) (fun fl s' hq=>?_) fun O O z=>z)
  obtain ⟨rfl,h17,tk17,rfl,kp,es7,ep7,t7,L17,hS17,hkp,_,hg17⟩:=hq
  refine ⟨rfl,?_⟩
  replace hkp:=dY▸hkp
  have hd17:h17.get? d=some od5:=L17.here _ _ (cH (hd5 _ S16.keep) (A6 hdL hdP) hD5.plain)
  have L17':Lp (bC h17 [L,d]) [L,d] (mI L) h17 (m3 d Pp) [(d,od5)]:=⟨fun O O q=>q,(((L17.st.less (c':=[]) il).rebase [L,d] (da (.head _)) il).follow hd17 (show d∉[L] by simpa using hdL) (cQ _ (.tail _ (.head _)))).names (fv rfl rfl)⟩
  refine aT (aL (D7 (s:=sh s h17 tk17) (g₁:=bp h [dx]) (kvs:=gz ks) (kp:=kp) hA1 ⟨es7,ep7,t7,cH (L17.st.get (.head _)) (A6 hPL (dM hdP)) rfl,hS17⟩ (by rw [gz,eh];exact aj hkl5 hy) (fun k hk=>?_) (fv hLn hdn) ⟨od5,L17',by simpa [uL] using hD5,hg17⟩) (fun fl s' hq=>?_) fun O O z=>z)
  ·cases q:dG (gz ks) k with
   | some v=>rfl
   | none=>exact absurd ((hkp k).mp hk).1 (r0.mp q)
  obtain ⟨rfl,h18,tk18,dr,ks',rfl,hpm,od8,L18,hD18,hg18⟩:=hq
  rw [dY] at hD18
  have V:∀b o,h16.get? b=some o→b∉[L,Pp]→b∉[L,d]→cz o=true→h18.get? b=some o:=fun b o q n n' p=>L18.here _ _ (cH (L17.here _ _ (cH q n p)) n' p)
  refine ⟨rfl,aw (show aF _ _ _ _ _ _ from aw ⟨h18,tk18,dr,rfl,hg18,rfl,?_⟩)⟩
  refine s6 (l:=ks') hsys (V _ _ (S16.get (.tail _ (.tail _ (.head _)))) (A6 hdxL (dM hPdx)) (A6 hdxL (dM hddx)) hO13.plain) hO13 (L18.st.get (.head _)) hD18 hddx ⟨_,_,_,V _ _ (S16.get (.tail _ (.head _))) (A6 hJL (dM hPJ)) (A6 hJL hJd) rfl,hSJ⟩ ?_ hk5 (fun k=>?_) hS
  ·refine ⟨hL5.nd,fun p hp=>?_⟩
   obtain ⟨its,n,a,b⟩:=hL16.all p hp
   obtain ⟨a1,a2,a3⟩:=cZ a
   have hpd:=match hL5.all p hp with|⟨_,_,q,_⟩=>m7 L5.st hD5 hO3 q
   exact ⟨its,n,V _ _ a1 a2 (fun z=>hpd (by simp at z ⊢;rcases z with z|z<;>simp [z])) rfl,b⟩
  ·rw [hpm.mem_iff,hkp,hk5]
   simp only [nj,hn,decide_true,Bool.true_and,decide_eq_true_eq,hnt]
 ·rw [decide_eq_false hn,if_neg (by decide)]
  refine aw (show aF _ _ _ _ _ _ from aw ⟨h14,tk15,s.drawn,rfl,G5 _ S14.keep,rfl,?_⟩)
  refine s6 (l:=[]) hsys hdx14 hO13 (hd5 _ S14.keep) (by rw [uL];exact hD5) hddx hJ14 (hL5' _ S14.keep) hk5 (fun k=>?_) hS
  simp [nj,hn]
end
noncomputable def uV:dP:=pP (eA 5 4) fN .none (kM (eA 5 4) 444) (.str bY 194) none (.ref 180)
theorem Df (P:bF):(KF P).lookup 181=some ⟨.type "function",none,.func uV,#[]⟩:=by kernel_rfl!
theorem BC (P:bF):oa (KF P) uV.code uV.qualname=true:=by kernel_rfl!
theorem Bi (a b:ag):js uV ⟨[a,b],[]⟩=cJ [(my,a),(nB,b)]:=by rfl
noncomputable def uU:dP:=pP (eA 5 2) fO .none (kM (eA 5 2) 426) (.str bY 194) none (.ref 166)
theorem Dd (P:bF):(KF P).lookup 167=some ⟨.type "function",none,.func uU,#[]⟩:=by kernel_rfl!
theorem BA (P:bF):oa (KF P) uU.code uU.qualname=true:=by kernel_rfl!
theorem Bg (a b c:ag):js uU ⟨[a,b,c],[]⟩=cJ [(my,a),(nA,b),(nB,c)]:=by rfl
noncomputable def uT:dP:=pP (eA 5 1) gk (.ref 153) (kM (eA 5 1) 416) (.str bY 194) none (.ref 159)
theorem Fw (P:bF):(KF P).lookup 160=some ⟨.type "function",none,.func uT,#[]⟩:=by kernel_rfl!
theorem Bz (P:bF):oa (KF P) uT.code uT.qualname=true:=by kernel_rfl!
theorem Bf {w:aP} {s:am} (X:Cx w s.heap) (a b c d:ag):BindsTo s uT ⟨[a,b,c,d],[]⟩ [(my,a),(jW,b),(nA,c),(nB,d),(ix,.bool true)]:=
 .of_defaults (T:=153) rfl (X.K 153 (Dr w.params) rfl) rfl rfl rfl
section
variable {w:aP} {A:aS} {h:ay} {x dx f sd:aH} {od:cA} {ys:List Int} {S:Int→Bool}
theorem CP (hA:eV A 2) (X:Cx w (bC h [dx])) (hx:h.get? x=some (dA 242 dx)) (hd:h.get? dx=some od) (hO:DO od [(jW,.none),(nA,.ref f),(nB,.none),(ix,.bool true),(d0,.none),(lI,.none)])
  (hs:IL (bC h [dx]) sd ys) (hy:ys.length≤3000) (hS:∀k∈ys,S k=!nj ys k) :
  ze PQ w A h [dx] (.ref 181) [.ref x,.ref sd] (fun v h'=>v=.none∧lS w dx f sd ys S h'):=by
 have X0:=X.sub (cD h [dx])
 obtain ⟨mg,mb,T⟩:=X0.T
 have hne:x≠dx:=fun q=>by
  obtain ⟨es,ep,e1,_⟩:=hO
  rw [q,hd] at hx;cases hx;cases e1
 refine ze.enter (c:=[(dx,od)]) (by have:=hA.dp;exact cW (.lt aq ar (.lt (.s 0 2) ar .o)) τ this) (X0.K _ _ (Df _)) rfl T.nolimit (f7 X0.K (BC _)) rfl (fun s hs=>.of_eq (Bi _ _)) (by decide +kernel) (fv rfl rfl) rfl (da ⟨hd,by simp⟩) (fun L s hL hk S0=>?_)
 have hA1:=hA.deeper (di uV L 181)
 have hx0:∀h',Sub (bp h [dx]) h'→h'.get? x=some (dA 242 dx):=fun h' q=>q _ _ (bq _ hx (qZ hne))
 have X1:∀h',Sub (bp h [dx]) h'→Cx w h':=fun h' q=>X.sub ((j7 h [dx]).trans q)
 have V1:∀h',Sub (bp h [dx]) h'→Sub (bC h [dx]) (bC h' [dx]):=fun h' q=>bP q
 have hP:∀h':ay,ba [dx] s.heap h'→Sub (bp h [dx]) h':=fun h' kd b o q=>kd _ _ (S0.keep _ _ q) (fun z=>by exact nn (cQ [dx] z) q)
 refine wq fun R1_ hR1=>?_
 refine aT (md fun tk=>⟨rfl,?_⟩)
 refine gO (fV (s:={ s with toks:=tk}) (b:=false) (Et.cmp (Ev.nm S0) (Ev.attr (X1 _ S0.keep) (Ev.nm S0) (hx0 _ S0.keep) (S0.get (.head _)) hO) (fun a b ha hb s Q E hs k=>by subst ha;subst hb;exact is_ref_none (k s.toks))) fun tk=>?_)
 skip
 refine aw (show aF _ _ _ _ _ _ from ?_)
 refine aT (ju (s:={ s with toks:=tk}) (pre:=[]) (post:=[]) (X1 _ S0.keep) S0 (hx0 _ S0.keep) hO (bI rfl) (by simp) (by simp) (Ev.gg (Ev.nm S0)) fun v hv h1 od1 tk1 k1 hp kd hO1 S1=>⟨rfl,?_⟩)
 obtain ⟨rfl,rfl⟩:=hp
 have kd:ba [dx] s.heap h1:=kd
 refine aT (nw (s:=sh s h1 tk1) (pre:=[]) (post:=[]) (X1 _ S1.keep) (fun h' kd'=>X1 _ (hP _ (kd.trans kd'))) S1 (hx0 _ S1.keep) hne hO1 (bI rfl) (by simp) (by simp) (Ev.gg Ev.none) fun v hv h2 od2 tk2 k2 hp kd2 hO2 S2=>⟨rfl,?_⟩)
 obtain ⟨rfl,rfl⟩:=hp
 refine aT (ju (s:=sh s h2 tk2) (pre:=[]) (post:=[]) (X1 _ S2.keep) S2 (hx0 _ S2.keep) hO2 (bI rfl) (by simp) (by simp) (Ev.gg Ev.none) fun v hv h3 od3 tk3 k3 hp kd3 hO3 S3=>⟨rfl,?_⟩)
 obtain ⟨rfl,rfl⟩:=hp
 have hO3':DO od3 (IB f sd):=hO3
 refine aT (ss (s:=sh s h3 tk3) (D:=[dx]) (vR.meth0 (X1 _ S3.keep) (Ev.nm S3) (hx0 _ S3.keep) (S3.get (.head _)) hO3' ((X1 _ S3.keep).K _ _ (Dg _)) rfl
  (zE hA1 (X.sub (V1 _ S3.keep)) (hx0 _ S3.keep) (S3.get (.head _)) hO3' (hs.sub (V1 _ S3.keep)) hy hS)) (fun v h' q=>q.1) fun v h4 tk4 dr k4 hq=>⟨rfl,aw (hR1 .next _ ⟨h4,tk4,dr,rfl,fun b o q=>k4 _ _ (S3.keep _ _ q) (fun z=>by exact nn (cQ [dx] z) q),rfl,hq.2⟩)⟩)
end
section
variable {w:aP} {A:aS} {h:ay} {x dx f sd:aH} {od:cA} {ys:List Int} {S:Int→Bool}
theorem CQ (hA:eV A 3) (X:Cx w (bC h [dx])) (hx:h.get? x=some (dA 242 dx)) (hd:h.get? dx=some od) (hO:DO od [(jW,.none),(nA,.none),(nB,.none),(ix,.bool true)])
  (hs:IL (bC h [dx]) sd ys) (hy:ys.length≤3000) (hS:∀k∈ys,S k=!nj ys k) :
  ze PQ w A h [dx] (.ref 167) [.ref x,.ref f,.ref sd] (fun v h'=>v=.none∧lS w dx f sd ys S h'):=by
 have X0:=X.sub (cD h [dx])
 obtain ⟨mg,mb,T⟩:=X0.T
 have hne:x≠dx:=fun q=>by
  obtain ⟨es,ep,e1,_⟩:=hO
  rw [q,hd] at hx;cases hx;cases e1
 refine ze.enter (c:=[(dx,od)]) (by have:=hA.dp;exact cW (.lt aq ar (.lt (.s 0 3) ar .o)) τ this) (X0.K _ _ (Dd _)) rfl T.nolimit (f7 X0.K (BA _)) rfl (fun s hs=>.of_eq (Bg _ _ _)) (by decide +kernel) (lv rfl rfl rfl) rfl (da ⟨hd,by simp⟩) (fun L s hL hk S0=>?_)
 have hA1:=hA.deeper (di uU L 167)
 have hx0:∀h',Sub (bp h [dx]) h'→h'.get? x=some (dA 242 dx):=fun h' q=>q _ _ (bq _ hx (by simpa using hne))
 have X1:∀h',Sub (bp h [dx]) h'→Cx w h':=fun h' q=>X.sub ((j7 h [dx]).trans q)
 have V1:∀h',Sub (bp h [dx]) h'→Sub (bC h [dx]) (bC h' [dx]):=fun h' q=>bP q
 refine wq fun R1_ hR1=>?_
 refine aT (md fun tk=>⟨rfl,?_⟩)
 refine aT (ut (s:={ s with toks:=tk}) (D:=[dx]) (P:=fun v h'=>v=.none∧∃od',h'.get? dx=some od'∧DO od' [(jW,.none),(nA,.ref f),(nB,.none),(ix,.bool true),(d0,.none),(lI,.none)]) (Ed.meth (X1 _ S0.keep) (Ev.nm S0) (hx0 _ S0.keep) (S0.get (.head _)) hO ((X1 _ S0.keep).K _ _ (De _)) rfl (Es.one (Ev.gg (Ev.nm S0))) fun vs h1 k1 hvs=>?_) (fun v h' q=>q.1) fun v h1 tk1 k1 hq=>⟨rfl,?_⟩)
 ·obtain ⟨v,rfl,rfl,rfl⟩:=hvs
  exact CO (hA1.less (by exact ci _ _)) (X.sub (V1 _ S0.keep)) (hx0 _ S0.keep) (S0.get (.head _)) hO
 obtain ⟨_,od1,hd1,hO1⟩:=hq
 have S1:=S0.change (pre:=[]) (post:=[]) k1 hd1 (by simp) (by simp)
 refine aT (ss (s:=sh s h1 tk1) (D:=[dx]) (P:=fun v h'=>v=.none∧lS w dx f sd ys S h') (vR.meth (X1 _ S1.keep) (Ev.nm S1) (hx0 _ S1.keep) (S1.get (.head _)) hO1 ((X1 _ S1.keep).K _ _ (Df _)) rfl (Es.one (Ev.gg (Ev.nm S1))) fun vs h2 k2 hvs=>?_) (fun v h' q=>q.1) fun v h4 tk4 dr k4 hq=>⟨rfl,aw (hR1 .next _ ⟨h4,tk4,dr,rfl,fun b o q=>k4 _ _ (S1.keep _ _ q) (fun z=>by exact nn (cQ [dx] z) q),rfl,hq.2⟩)⟩)
 obtain ⟨v,rfl,rfl,rfl⟩:=hvs
 exact CP (hA1.less (by exact ci _ _)) (X.sub (V1 _ S1.keep)) (hx0 _ S1.keep) (S1.get (.head _)) hO1 (hs.sub (V1 _ S1.keep)) hy hS
theorem B0 (hA:eV A 4) (X:Cx w (bC h [dx])) (hx:h.get? x=some (dA 242 dx)) (hd:h.get? dx=some od) (hO:DO od [])
  (hs:IL (bC h [dx]) sd ys) (hy:ys.length≤3000) (hS:∀k∈ys,S k=!nj ys k) :
  GK PQ w A h [dx] (.ref 160) [.ref x,.none,.ref f,.ref sd] (fun v h'=>v=.none∧lS w dx f sd ys S h'):=by
 have X0:=X.sub (cD h [dx])
 obtain ⟨mg,mb,T⟩:=X0.T
 have hne:x≠dx:=fun q=>by
  obtain ⟨es,ep,e1,_⟩:=hO
  rw [q,hd] at hx;cases hx;cases e1
 refine GK.enter (c:=[(dx,od)]) (by have:=hA.dp;exact cW (.lt aq ar (.lt (.s 0 4) ar .o)) τ this) (X0.K _ _ (Fw _)) rfl T.nolimit (f7 X0.K (Bz _)) rfl (fun s hs=>Bf (by rw [hs];exact X0) _ _ _ _) (by decide +kernel) ?_ rfl (da ⟨hd,by simp⟩) (fun L s hL hk S0=>?_)
 ·exact Ag rfl rfl rfl rfl rfl
 have hA1:=hA.deeper (di uT L 160)
 have hx0:∀h',Sub (bp h [dx]) h'→h'.get? x=some (dA 242 dx):=fun h' q=>q _ _ (bq _ hx (qZ hne))
 have X1:∀h',Sub (bp h [dx]) h'→Cx w h':=fun h' q=>X.sub ((j7 h [dx]).trans q)
 have V1:∀h',Sub (bp h [dx]) h'→Sub (bC h [dx]) (bC h' [dx]):=fun h' q=>bP q
 have hP:∀h':ay,ba [dx] s.heap h'→Sub (bp h [dx]) h':=fun h' kd b o q=>kd _ _ (S0.keep _ _ q) (fun z=>by exact nn (cQ [dx] z) q)
 refine wq fun R2_ hR2=>?_
 refine aT (md fun tk=>⟨rfl,?_⟩)
 refine aT (ju (s:={ s with toks:=tk}) (pre:=[]) (post:=[]) (X1 _ S0.keep) S0 (hx0 _ S0.keep) hO (by decide) (by simp) (by simp) (Ev.gg (Ev.nm S0)) fun v hv h1 od1 tk1 k1 hp kd hO1 S1=>⟨rfl,?_⟩)
 obtain ⟨rfl,rfl⟩:=hp
 have kd:ba [dx] s.heap h1:=kd
 refine aT (nw (s:=sh s h1 tk1) (pre:=[]) (post:=[]) (X1 _ S1.keep) (fun h' kd'=>X1 _ (hP _ (kd.trans kd'))) S1 (hx0 _ S1.keep) hne hO1 (bI rfl) (by simp) (by simp) (Ev.gg Ev.none) fun v hv h2 od2 tk2 k2 hp kd2 hO2 S2=>⟨rfl,?_⟩)
 obtain ⟨rfl,rfl⟩:=hp
 refine aT (ju (s:=sh s h2 tk2) (pre:=[]) (post:=[]) (X1 _ S2.keep) S2 (hx0 _ S2.keep) hO2 (bI rfl) (by simp) (by simp) (Ev.gg (Ev.nm S2)) fun v hv h3 od3 tk3 k3 hp kd3 hO3 S3=>⟨rfl,?_⟩)
 obtain ⟨rfl,rfl⟩:=hp
 have hO3':DO od3 [(jW,.none),(nA,.none),(nB,.none),(ix,.bool true)]:=hO3
 refine aT (ss (s:=sh s h3 tk3) (D:=[dx]) (P:=fun v h'=>v=.none∧lS w dx f sd ys S h') (vR.meth (X1 _ S3.keep) (Ev.nm S3) (hx0 _ S3.keep) (S3.get (.head _)) hO3' ((X1 _ S3.keep).K _ _ (Dd _)) rfl (Es.more (Ev.nm S3) (Es.more (Ev.nm S3) Es.nil)) fun vs h4 k4 hvs=>?_) (fun v h' q=>q.1) fun v h4 tk4 dr k4 hq=>⟨rfl,aw (hR2 .next _ ⟨h4,tk4,dr,rfl,fun b o q=>k4 _ _ (S3.keep _ _ q) (fun z=>by exact nn (cQ [dx] z) q),rfl,hq.2⟩)⟩)
 obtain ⟨rfl,v1,vs1,rfl,rfl,v2,vs2,rfl,rfl,rfl⟩:=hvs
 exact CQ hA1 (X.sub (V1 _ S3.keep)) (hx0 _ S3.keep) (S3.get (.head _)) hO3' (hs.sub (V1 _ S3.keep)) hy hS
theorem B5 (P:bF):makesIn (KF P) 242=true:=by kernel_rfl!
theorem Ew (P:bF):hY (KF P) (.ref 242) "__init__" = some (some (.ref 160)):=by kernel_rfl!
theorem B4 (P:bF):typeIn (KF P) (.ref 160)=some (.type "function"):=by kernel_rfl!
theorem Cj (hA:eV A 5) (X:Cx w (bC h [])) (hs:IL (bC h []) sd ys) (hy:ys.length≤3000) (hS:∀k∈ys,S k=!nj ys k) :
  ze PQ w A h [] (.ref 242) [.none,.ref f,.ref sd] (fun v h'=>g8 fun x dx=>uB (v=.ref x) (h.get? x=none) (h.get? dx=none) (x≠dx) (h'.get? x=some (dA 242 dx)) (lS w dx f sd ys S h')):=fun s Q E hs' k=>by
 subst hs'
 obtain ⟨hh,g,d,t,os⟩:=s
 have X0:=X.sub (cD hh [])
 refine f0 (make_core (makes_of X0.K (B5 _)) (looks_findIn X0.K (Ew _)) (fun self=>bind_fn X0.K self (B4 _)) (.inl rfl) ?_)
 have hN1:=iK.push hh rP
 have hN2:=iK.push (hh.push rP) (dA 242 hh.objs.size)
 have hsz:(hh.push rP).objs.size=hh.objs.size+1:=lf ..
 rw [hsz] at hN2
 have hxd:hh.objs.size+1≠hh.objs.size:=Nat.succ_ne_self _
 have kk:ba [] hh ((hh.push rP).push (dA 242 hh.objs.size)):=hN1.kept.trans hN2.kept
 have hv:Sub (bC hh []) (bC ((hh.push rP).push (dA 242 hh.objs.size)) [hh.objs.size]):=pu kk.all (da hN1.no)
 refine B0 (x:=hh.objs.size+1) (dx:=hh.objs.size) (hA.make 242 _) (X.sub hv) hN2.yes (hN2.kept.get hN1.yes) ⟨#[],0,rfl,fun e he=>by simp at he,dg,fun O=>rfl⟩ (hs.sub hv) hy hS _ _ rfl fun v h' tk dr k1 hq=>?_
 obtain ⟨rfl,hq⟩:=hq
 refine ⟨rfl,k _ h' tk dr (fun b o q O=>k1 b o (kk.get q) (fun z=>?_)) ⟨_,_,rfl,dh hN1.kept hN2.no,hN1.no,hxd,k1 _ _ hN2.yes (by simp),hq⟩⟩
 obtain rfl:=aD.mp z
 exact nn (show hh.get? hh.objs.size=none from hN1.no) q
end
noncomputable def rU:dP:=pP (eA 5 6) fJ (.ref 189) (kM (eA 5 6) 490) (.str bY 194) none (.ref 195)
theorem Dh (P:bF):(KF P).lookup 196=some ⟨.type "function",none,.func rU,#[]⟩:=by kernel_rfl!
theorem BE (P:bF):oa (KF P) rU.code rU.qualname=true:=by kernel_rfl!
theorem Bk {w:aP} {s:am} (X:Cx w s.heap) (a b c d e:ag):BindsTo s rU ⟨[a,b,c,d,e],[]⟩ [(my,a),(EH,b),(EG,c),(EL,d),(EK,e)]:=
 .of_defaults (T:=189) rfl (X.K 189 (Ds w.params) rfl) rfl rfl rfl
namespace C
noncomputable def rZ (r:Nat→Nat→Bool) (g:eS) (i:Nat):List Nat→cv→cv
 | [],b=>b
 | j::ps,b=>if j<g.bl then rZ r g i ps b else if g.bh≤j then b else rZ r g i ps (gW b i j (dl r g.al g.bl i j))
theorem vd {r:Nat→Nat→Bool} {g:eS} {i:Nat}:∀{ps:List Nat} {b:cv},ps.Pairwise (· < ·)→rZ r g i ps b=(ps.filter fun j=>decide (g.bl≤j) && decide (j<g.bh)).foldl (fun b j=>gW b i j (dl r g.al g.bl i j)) b:=fun {ps}=>by
 induction ps with
 | nil=>exact fun O=>rfl
 | cons j ps ih=>
  intro b h
  obtain ⟨h1,h2⟩:=ez.mp h
  unfold rZ
  by_cases q:j<g.bl
  ·rw [if_pos q,ih h2,kC,if_neg (by simp;lia)]
  ·rw [if_neg q]
   by_cases q':g.bh≤j
   ·rw [if_pos q']
    have:(j::ps).filter (fun j=>decide (g.bl≤j) && decide (j<g.bh))=[]:=by
     rw [fR]
     intro z hz
     rcases aC.mp hz with rfl|hz
     ·simp;lia
     ·have:=h1 z hz
      simp;lia
    rw [this];rfl
   ·rw [if_neg q',ih h2,kC,if_pos (by simp;exact ⟨(aZ q),(dZ q')⟩)];rfl
theorem qy {r:Nat→Bool} {f:cv→Nat→cv} (hf:∀b j,r j=false→f b j=b):∀(l:List Nat) (b:cv),l.foldl f b=(l.filter r).foldl f b
 | [],_=>rfl
 | j::l,b=>by
  rw [qf,kC]
  split
  ·exact qy hf l _
  ·rename_i q
   rw [hf b j (by simpa using q)]
   exact qy hf l b
theorem yO {lo hi n:Nat} (h1:lo≤hi) (h2:hi≤n):(bO n).filter (fun j=>decide (lo≤j) && decide (j<hi))=d7 lo (hi-lo):=by
 have e:bO n=d7 0 lo++(d7 lo (hi-lo)++d7 hi (n-hi)):=by
  rw [List.range_eq_range']
  have a:d7 lo (hi-lo)++d7 hi (n-hi)=d7 lo (n-lo):=by
   have:=List.range'_append_1 (s:=lo) (m:=hi-lo) (n:=n-hi)
   rw [show lo+(hi-lo)=hi by exact ak (c8 (.le (.p aq ar) az (.eq (.p ar aq) az .o)) τ (aa h1)) (c8 (.le aq (.p ar az) (.le aq (.p az ar) .o)) τ bZ),show hi-lo+(n-hi)=n-lo by exact ak (kr (.le (.p aq ar) az (.le aI (.p az bx) (.eq (.p aq bx) cV (.eq (.p ar cV) aI .o)))) τ bZ (aa h1) (aa h2)) (kr (.le aq (.p ar az) (.le aI (.p ar bx) (.le cV (.p az aI) (.eq (.p aq bx) cV .o)))) τ bZ bZ (aa (aj h1 h2)))] at this
   exact this
  rw [a]
  have:=List.range'_append_1 (s:=0) (m:=lo) (n:=n-lo)
  rw [cY,show lo+(n-lo)=n by exact ak (c8 (.le (.p aq ar) az (.eq (.p ar aq) az .o)) τ (aa (aj h1 h2))) (c8 (.le aq (.p ar az) (.le aq (.p az ar) .o)) τ bZ)] at this
  exact this.symm
 rw [e,List.filter_append,List.filter_append]
 have z1:(d7 0 lo).filter (fun j=>decide (lo≤j) && decide (j<hi))=[]:=by
  rw [fR];intro j hj;have:=nH.mp hj;simp;lia
 have z2:(d7 lo (hi-lo)).filter (fun j=>decide (lo≤j) && decide (j<hi))=d7 lo (hi-lo):=by
  rw [List.filter_eq_self];intro j hj;have:=nH.mp hj;simp;exact ⟨this.1,cR (.lt aq ar (.lt aq (.p az aI) (.eq (.p aI az) ar .o))) τ this.2 (aa h1)⟩
 have z3:(d7 hi (n-hi)).filter (fun j=>decide (lo≤j) && decide (j<hi))=[]:=by
  rw [fR];intro j hj;have:=nH.mp hj;simp;lia
 rw [z1,z2,z3]
 simp
theorem yp {r:Nat→Nat→Bool} {g:eS} {i n:Nat} {b:cv} (h1:g.bl≤g.bh) (h2:g.bh≤n):rZ r g i ((bO n).filter (r i)) b=xW r g b i:=by
 rw [vd (dz.filter _ jL)]
 unfold xW
 conv=>rhs;rw [qy (r:=r i) (fun b j q=>by rw [uP q];unfold gW;rw [if_neg (dv _)])]
 rw [←yO h1 h2]
 congr 1
 rw [List.filter_filter,List.filter_filter]
 congr 1
 funext j
 exact Bool.and_comm _ _
end C
section
variable {prog:aV} {w:aP} {A:aS} {s:am} {e:gy} {h g:ay} {m:List (bU×ag)} {c:List (aH×cA)} {E:ag→am→Prop}
theorem pW {x y z:bU} {px py pz tpos pos:dJ} {k:Nat} {ea eb ed:au} {k':Nat} {vpos:dJ} {a b d:Int} {Q:dW→am→Prop} (hh:A.handled=none) (S:St g e s.heap m c)
  (Ha:Ev prog w A e s.heap ea (fr a)) (Hb:Ev prog w A e s.heap eb (fr b)) (Hd:Ev prog w A e s.heap ed (fr d))
  (K:∀h' tk ta tb td,St g e h' (gC x (.int a ta) (gC y (.int b tb) (gC z (.int d td) m))) c→Q .next (sh s h' tk)) (hx:autoParam (kI e x=true) rfA) (hy:autoParam (kI e y=true) rfA) (hz:autoParam (kI e z=true) rfA)
  (h1:autoParam (aE [ea,eb,ed] e=(false,cO ea e)::aE [eb,ed] e) rfA) (h2:autoParam (aE [eb,ed] e=(false,cO eb e)::aE [ed] e) rfA) (h3:autoParam (aE [ed] e=(false,cO ed e)::aE [] e) rfA)
  (hs:autoParam (swapsWithSole [.Tuple [.Name x px,.Name y py,.Name z pz] k tpos] (.Tuple [ea,eb,ed] k' vpos) pos.line e=cJ false) rfA)
  (hw:autoParam (jb [.Tuple [.Name x px,.Name y py,.Name z pz] k tpos] (.Tuple [ea,eb,ed] k' vpos) e=cJ (some [x,y,z])) rfA) :
  aF (aB prog w) A (fA (.Assign [.Tuple [.Name x px,.Name y py,.Name z pz] k tpos] (.Tuple [ea,eb,ed] k' vpos) pos) e) Q E s:=by
 refine Assign_Tuple_swapped (names:=[x,y,z]) (Eg.trip Ha Hb Hd h1 h2 h3 s _ _ rfl fun v h' tk k1 hv=>?_) hs hw
 obtain ⟨vs,t,hi,rfl,hN⟩:=hv
 obtain ⟨ta,tb,td,rfl⟩:lT fun ta tb td=>vs=[.int a ta,.int b tb,.int d td]:=by
  cases hi with|cons _ ta hi=>cases hi with|cons _ tb hi=>cases hi with|cons _ td hi=>cases hi with|nil=>exact ⟨ta,tb,td,rfl⟩
 have hT:IsTup h' t #[.int a ta,.int b tb,.int d td]:=⟨_,hN.yes,rfl,_,rfl⟩
 show aF _ _ (unpackItems (.ref t) (#[.int a ta,.int b tb,.int d td]:Array ag).size none) _ _ _
 refine unpackItems_tuple (s:=sh s h' tk) hh hT fun h1 he1=>?_
 skip
 have S1:=(S.grow k1).grow (lG he1)
 refine bQ (bindName_ (bE (s:=sh s h1 tk) S1 (fun h2 tk2 S2=>?_) hz))
 refine bQ (bindName_ (bE (s:=sh s h2 tk2) S2 (fun h3 tk3 S3=>?_) hy))
 refine bQ (bindName_ (bE (s:=sh s h3 tk3) S3 (fun h4 tk4 S4=>?_) hx))
 exact fF (K h4 tk4 ta tb td S4)
theorem AP {x xd xj:bU} {px pd pj ps pos:dJ} {ex:au} {P:ag→ay→Prop} {d:aH} {j:Int} {tj:jR} {Q:dW→am→Prop} (S:St g e s.heap m c) (H:Eg prog w A e s.heap ex P) (hxd:iF m xd=some (.ref d)) (hxj:iF m xj=some (.int j tj)) (hnd:xd≠x) (hnj:xj≠x)
  (K:∀v h1 h2 tk,ba [] s.heap h1→P v h1→St g e h2 (gC x v m) c→aF (aB prog w) A (setItem (.ref d) (.int j tj) v) (fun O=>Q .next) E (sh s h2 tk))
  (hx:autoParam (kI e x=true) rfA) (ld:autoParam (m0 e xd=true) rfA) (lj:autoParam (m0 e xj=true) rfA) (hdd:autoParam ((xd==("__debug__" : bU))=false) rfD) (hdj:autoParam ((xj==("__debug__" : bU))=false) rfD)
  (he:autoParam ((assignEach [.Name x px,.Subscript (.Name xd pd) (.Name xj pj) ps] e).map (·.2)=[eT (.Name x px) e,eT (.Subscript (.Name xd pd) (.Name xj pj) ps) e]) rfA)
  (hw:autoParam (jb [.Name x px,.Subscript (.Name xd pd) (.Name xj pj) ps] ex e=cJ none) rfA) :
  aF (aB prog w) A (fA (.Assign [.Name x px,.Subscript (.Name xd pd) (.Name xj pj) ps] ex pos) e) Q E s:=by
 refine mj (H s _ _ rfl fun v h1 tk k1 hp=>?_) he hw
 refine assign_Name (bE (s:=sh s h1 tk) (S.grow k1) (fun h2 tk2 S2=>?_) hx)
 skip
 have b1:iF (gC x v m) xd=some (.ref d):=by unfold iF;rw [ki,if_neg hnd];exact hxd
 have b2:iF (gC x v m) xj=some (.int j tj):=by unfold iF;rw [ki,if_neg hnj];exact hxj
 refine ae (bM ((Ev.nm S2 b1 ld hdd).use (s:=sh s h2 tk2) rfl fun ov tk3 hov=>?_))
 subst hov
 refine ae (bM ((Ev.nm S2 b2 lj hdj).use (s:=sh s h2 tk3) rfl fun iv tk4 hiv=>?_))
 subst hiv
 refine ae (gp (ae (bM (aL (K v h1 h2 tk4 k1 hp S2) (fun O s' z=>?_) fun O O z=>z))))
 exact wpAny_release z
end
theorem vI (k y:Int) (v:ag):∀kvs:List (Int×ag),dG (kvs.map (fun kv=>if kv.1=k then (kv.1,v) else kv)) y=if y=k then (dG kvs y).map (fun O=>v) else dG kvs y:=fun kvs=>by
 induction kvs with
 | nil=>unfold dG;simp
 | cons p kvs ih=>
  unfold dG at ih ⊢
  rw [ft,List.find?_cons,List.find?_cons]
  by_cases h1:p.1=k
  ·by_cases h2:p.1=y
   ·have:y=k:=h2▸h1
    simp [h1,h2,this]
   ·have h3:y≠k:=fun q=>h2 (h1.trans q.symm)
    simp only [h1,if_true,if_neg h3] at ih ⊢
    have h4:¬k=y:=fun q=>h3 q.symm
    simp only [decide_eq_false h4,ih]
  ·by_cases h2:p.1=y
   ·have h3:y≠k:=fun q=>h1 (h2.trans q)
    simp [h1,h2,h3]
   ·simp only [if_neg h1,decide_eq_false h2]
    exact ih
theorem ny (kvs:List (Int×ag)) (k y:Int) (v:ag):dG (stored kvs k v) y=if y=k then some v else dG kvs y:=by
 unfold stored
 split
 ·rename_i q
  rw [vI]
  split
  ·rename_i z
   subst z
   cases h:dG kvs y with
   | some u=>rfl
   | none=>
    unfold dG at h
    rw [pL,mE] at h
    obtain ⟨p,hp,hq⟩:=List.any_eq_true.mp q
    exact absurd hq (h p hp)
  ·rfl
 ·rename_i q
  have q':∀p∈kvs,¬p.1=k:=fun p hp z=>q (List.any_eq_true.mpr ⟨p,hp,decide_eq_true z⟩)
  unfold dG
  rw [List.find?_append]
  split
  ·rename_i z
   subst z
   rw [mE.mpr (fun p hp z=>q' p hp (of_decide_eq_true z))]
   simp
  ·rename_i z
   have:List.find? (fun kv=>decide (kv.1=y)) [(k,v)]=none:=by simp;exact fun q=>z q.symm
   rw [this,Option.or_none]
noncomputable def lE (r:Nat→Nat→Bool) (g:C.eS) (i:Nat) (kvs:List (Int×ag)) (done:List Nat):Prop:=∀z:Int,
 (∃j,qp (j∈done) (g.bl≤j) (j<g.bh) (z=(j:Int)) (∃t,dG kvs z=some (.int (C.dl r g.al g.bl i j:Nat) t)))∨((∀j∈done,z=(j:Int)→¬(g.bl≤j∧j<g.bh))∧dG kvs z=none)
noncomputable def yI (r:Nat→Nat→Bool) (g:C.eS) (i:Nat) (z:Int):Int:=if g.al<i∧(g.bl:Int)≤z∧z<g.bh then (C.dl r g.al g.bl (i-1) z.toNat:Nat) else 0
noncomputable def tZ (r:Nat→Nat→Bool) (g:C.eS) (i:Nat) (kvs:List (Int×ag)):Prop:=∀(z:Int) (t0:jR),∃t,(dG kvs z).getD (.int 0 t0)=.int (yI r g i z) t
section
variable {r:Nat→Nat→Bool} {g:C.eS} {i j:Nat} {kvs:List (Int×ag)} {done:List Nat}
theorem lE.nil:lE r g i [] []:=fun z=>.inr ⟨fun O h=>(nomatch h),rfl⟩
theorem tZ.nil:tZ r g g.al []:=fun z t0=>⟨t0,by unfold yI;rw [if_neg fun q=>dT _ q.1];rfl⟩
theorem lE.skip (H:lE r g i kvs done) (hj:¬(g.bl≤j∧j<g.bh)):lE r g i kvs (done++[j]):=fun z=>by
 rcases H z with ⟨k,a,b,c,d,e⟩|⟨a,b⟩
 ·exact .inl ⟨k,iZ _ a,b,c,d,e⟩
 ·refine .inr ⟨fun k hk hz=>?_,b⟩
  rcases bw.mp hk with hk|hk
  ·exact a k hk hz
  ·rw [aD.mp hk];exact hj
theorem lE.store {t:jR} {z:Int} (H:lE r g i kvs done) (h1:g.bl≤j) (h2:j<g.bh) (hz:z=(C.dl r g.al g.bl i j:Nat)):lE r g i (stored kvs (j:Int) (.int z t)) (done++[j]):=fun y=>by
 subst hz
 by_cases hy:y=(j:Int)
 ·refine .inl ⟨j,by simp,h1,h2,hy,t,?_⟩
  subst hy
  rw [ny,if_pos rfl]
 ·have e:dG (stored kvs (j:Int) (.int (C.dl r g.al g.bl i j:Nat) t)) y=dG kvs y:=by rw [ny,if_neg hy]
  rcases H y with ⟨k,a,b,c,d,t',q⟩|⟨a,b⟩
  ·exact .inl ⟨k,iZ _ a,b,c,d,t',e.trans q⟩
  ·refine .inr ⟨fun k hk hz=>?_,e.trans b⟩
   rcases bw.mp hk with hk|hk
   ·exact a k hk hz
   ·rw [aD.mp hk] at hz;exact absurd hz hy
theorem lE.old {n:Nat} (H:lE r g i kvs ((bO n).filter (r i))) (hn:g.bh≤n) (hi:g.al≤i):tZ r g (i+1) kvs:=fun z t0=>by
 unfold yI
 rcases H z with ⟨j,a,b,c,rfl,t,q⟩|⟨a,b⟩
 ·refine ⟨t,?_⟩
  rw [q,if_pos ⟨iP hi,dX.mpr b,cI.mpr c⟩,fB]
  rfl
 ·refine ⟨t0,?_⟩
  rw [b]
  split
  ·rename_i q
   obtain ⟨q1,q2,q3⟩:=q
   obtain ⟨z,rfl⟩:=Int.eq_ofNat_of_zero_le (cx c0 q2)
   have q2:=dX.mp q2
   have q3:=cI.mp q3
   rw [fB]
   have hr:r i z=false:=by
    cases hr:r i z with
    | false=>rfl
    | true=>exact absurd ⟨q2,q3⟩ (a z (iC.mpr ⟨fy.mpr (av q3 hn),hr⟩) rfl)
   show gu 0 t0=_
   rw [jB,C.uP hr]
   rfl
  ·rfl
theorem CA (hi:g.al≤i) (h1:g.bl≤j) (h2:j<g.bh) (hr:r i j=true):yI r g i ((j:Int)-1)+1=(C.dl r g.al g.bl i j:Nat):=by
 rw [C.w9 hi h1 hr]
 unfold yI
 by_cases q:g.al<i∧g.bl<j
 ·rw [if_pos ⟨q.1,(cp q.2)▸dX.mpr (cG q.2),(cp q.2)▸cI.mpr (bV (aO _ _) h2)⟩,if_pos q,show ((j:Int)-1).toNat=j-1 from nk]
  simp
 ·rw [if_neg fun z=>q ⟨z.1,cI.mp (Int.lt_of_le_sub_one z.2.1)⟩,if_neg q]
  rfl
end
noncomputable abbrev cE (L:aH):gy:=di rU L 196
noncomputable def yi:List fC:=sJ (eA 5 6)
noncomputable def Ei:List fC:=sJ (yi.getD 7 (.Pass p0))
noncomputable def IV:List fC:=sJ (Ei.getD 2 (.Pass p0))
noncomputable abbrev fm (x f sd B U Z:aH) (g:C.eS) (t1 t2 t3 t4:jR) (b:C.cv) (u1 u2 u3:jR) (J:aH) (more:List (bU×ag)):List (bU×ag):=
 (my,.ref x)::(EH,.int g.al t1)::(EG,.int g.ah t2)::(EL,.int g.bl t3)::(EK,.int g.bh t4)::(nA,.ref f)::(nB,.ref sd)::(wz,.ref B)::(sg,.ref U) ::
 (EI,.int b.1 u1)::(EJ,.int b.2.1 u2)::(yD,.int b.2.2 u3)::(EP,.ref J)::(Ap,.ref Z)::more
noncomputable def iY (m:List (bU×ag)):List (bU×ag)→Prop
 | []=>True
 | p::l=>iF m p.1=some p.2∧iY m l
theorem iY.mem {m:List (bU×ag)} {l:List (bU×ag)} (x:iY m l):∀p∈l,iF m p.1=some p.2:=by
 induction l with
 | nil=>intro p h;cases h
 | cons a l ih=>
  intro p h
  cases h with
  | head=>exact x.1
  | tail _ h=>exact ih x.2 p h
theorem Ev.ofG {prog:aV} {w:aP} {A:aS} {e:gy} {h:ay} {ex:au} {P:ag→Prop} (H:Eg prog w A e h ex (fun v h'=>h'=h∧P v)):Ev prog w A e h ex P:=fun s Q E hs k=>by
 subst hs
 exact H s Q E rfl fun v h' tk O q=>by obtain ⟨rfl,q⟩:=q;exact k v tk q
section
variable {w:aP} {A:aS} {g₀:ay} {L N G J x f sd B U Z:aH} {oJ o:cA} {kJ kvs:List (Int×ag)} {r:Nat→Nat→Bool} {g:C.eS} {i j:Nat} {done:List Nat} {s:am} {t1 t2 t3 t4 u1 u2 u3 ti tj:jR} {b:C.cv}
theorem zS (hA:eV A 0) (X:Cx w g₀) (hG:g₀.get? G=some (kH "dict.get" J)) (hJ:g₀.get? J=some oJ) (hDJ:DI w oJ kJ) (hJs:(J==dF)=false) (hold:tZ r g i kJ)
  (Lh:Lp g₀ (N::FA (cE L)) (cE L) s.heap (fm x f sd B U Z g t1 t2 t3 t4 b u1 u2 u3 J [(nI,.int i ti),(j2,.ref G),(j3,.ref N),(nJ,.int j tj)]) [(N,o)]) (hD:DI w o kvs) (hl:kvs.length≤3000)
  (hR:lE r g i kvs done) (hr:r i j=true) (hi:g.al≤i) (hib:i<2^20) (hjb:j<2^20) :
  aF (aB PQ w) A (eK IV (cE L)) (fun fl s'=>Ff fun h' tk b' v1 v2 v3 o' kvs'=>xM (s'=(sh s h' tk)) (ba (N::FA (cE L)) s.heap h') (Lp g₀ (N::FA (cE L)) (cE L) h' (fm x f sd B U Z g t1 t2 t3 t4 b' v1 v2 v3 J [(nI,.int i ti),(j2,.ref G),(j3,.ref N)]) [(N,o')]) (DI w o' kvs') (kvs'.length≤kvs.length+1) (lE r g i kvs' (done++[j])) (((fl=.cont∧j<g.bl∧b'=b)∨(fl=.brk∧¬j<g.bl∧g.bh≤j∧b'=b)∨(fl=.next∧¬j<g.bl∧¬g.bh≤j∧b'=C.gW b i j (C.dl r g.al g.bl i j))))) (fun O O=>False) s:=by
 have S:=Lh.st
 refine gO (fV (s:=s) (b:=decide (j<g.bl)) (Et.of (Et.ints (Ev.nmI S) (Ev.nmI S)) ?_) fun tk=>?_)
 ·simp only [eI];exact decide_eq_decide.mpr ct
 have F0:∀tk fl,((fl=dW.cont∧j<g.bl)∨(fl=.brk∧¬j<g.bl∧g.bh≤j))→(Ff fun h' tk' b' v1 v2 v3 o' kvs'=>xM (({ s with toks:=tk}:am)=(sh s h' tk')) (ba (N::FA (cE L)) s.heap h') (Lp g₀ (N::FA (cE L)) (cE L) h' (fm x f sd B U Z g t1 t2 t3 t4 b' v1 v2 v3 J [(nI,.int i ti),(j2,.ref G),(j3,.ref N)]) [(N,o')]) (DI w o' kvs') (kvs'.length≤kvs.length+1) (lE r g i kvs' (done++[j])) (((fl=.cont∧j<g.bl∧b'=b)∨(fl=.brk∧¬j<g.bl∧g.bh≤j∧b'=b)∨(fl=.next∧¬j<g.bl∧¬g.bh≤j∧b'=C.gW b i j (C.dl r g.al g.bl i j))))):=fun tk fl hfl=>
  ⟨s.heap,tk,b,u1,u2,u3,o,kvs,rfl,.refl _ _,Lh.forget (iY.mem ⟨rfl,rfl,rfl,rfl,rfl,rfl,rfl,rfl,rfl,rfl,rfl,rfl,rfl,rfl,rfl,rfl,rfl,trivial⟩),hD,Nat.le_succ _,hR.skip (by lia),by
   rcases hfl with ⟨a,c⟩|⟨a,c,d⟩
   ·exact .inl ⟨a,c,rfl⟩
   ·exact .inr (.inl ⟨a,c,d,rfl⟩)⟩
 by_cases h1:j<g.bl
 ·rw [decide_eq_true h1,if_pos rfl]
  exact gO (wpAny_Continue (F0 tk _ (.inl ⟨rfl,h1⟩)))
 rw [decide_eq_false h1,if_neg (by decide)]
 refine aw (show aF _ _ _ _ _ _ from ?_)
 refine gO (fV (s:={ s with toks:=tk}) (b:=decide (g.bh≤j)) (Et.of (Et.ints (Ev.nmI S) (Ev.nmI S)) ?_) fun tk1=>?_)
 ·simp only [eI];exact decide_eq_decide.mpr dX
 by_cases h2:g.bh≤j
 ·rw [decide_eq_true h2,if_pos rfl]
  exact wP (F0 tk1 _ (.inr ⟨rfl,h1,h2⟩))
 rw [decide_eq_false h2,if_neg (by decide)]
 refine aw (show aF _ _ _ _ _ _ from ?_)
 have hdl:=C.zI (r:=r) (al:=g.al) (bl:=g.bl) (i:=i) (j:=j)
 have hov:=CA (r:=r) (g:=g) hi (by exact (aZ h1):g.bl≤j) (by exact (dZ h2)) hr
 refine aT (AP (s:={ s with toks:=tk1}) S (P:=fun v h'=>h'=s.heap∧fr ((C.dl r g.al g.bl i j:Nat):Int) v) (Ev.gg (Ev.isI (Ev.add (a:=yI r g i ((j:Int)-1)) (Ev.ofG (Eg.callU (Ev.nm S) (Lh.here _ _ hG) (Es.more (Ev.sub (Ev.nmI S) Ev.int) (Es.more Ev.int Es.nil)) fun vs hh kk hvs=>?_)) Ev.int) hov)) rfl rfl (by decide) (by decide) fun v ha h3 tk3 k3 hv S3=>?_)
 ·obtain ⟨rfl,_,_,rfl,⟨ta,rfl⟩,_,_,rfl,⟨tb,rfl⟩,rfl⟩:=hvs
  refine fun s Q E hs k=>Bx (Lh.here _ _ hG) (Lh.here _ _ hJ) hDJ hJs s Q E hs fun v h' tk kk hp=>k v h' tk kk ⟨hp.1,?_⟩
  obtain ⟨t,ht⟩:=hold ((j:Int)-1) tb
  exact ⟨t,hp.2.trans ht⟩
 obtain ⟨rfl,td,rfl⟩:=hv
 refine AO (s:=sh s h3 tk3) (S3.get (.head _)) hD (ck hl rfl) fun h4 o4 tk4 k4 ho4 hD4=>⟨rfl,?_⟩
 have S4:=S3.change (pre:=[]) (post:=[]) k4 ho4 (by simp) (by simp)
 have hR4:=hR.store (t:=td) (by exact (aZ h1):g.bl≤j) (by exact (dZ h2)) rfl
 have hl4:=stored_length_le kvs (j:Int) (.int ((C.dl r g.al g.bl i j:Nat):Int) td)
 have L4:Lp g₀ (N::FA (cE L)) (cE L) h4 _ _:=Lh.next S4 (da (.head _))
 refine aT (fV (s:=sh s h4 tk4) (b:=decide (b.2.2<C.dl r g.al g.bl i j)) (Et.of (Et.ints (Ev.nmI S4) (Ev.nmI S4)) ?_) fun tk5=>?_)
 ·simp only [eI];exact decide_eq_decide.mpr ct
 by_cases h5:b.2.2<C.dl r g.al g.bl i j
 ·rw [decide_eq_true h5,if_pos rfl]
  refine aT (pW (s:=sh s h4 tk5) (a:=((i+1-C.dl r g.al g.bl i j:Nat):Int)) (b:=((j+1-C.dl r g.al g.bl i j:Nat):Int)) (d:=((C.dl r g.al g.bl i j:Nat):Int)) hA.hd S4 (Ev.isI (Ev.add (Ev.sub (Ev.nmI S4) (Ev.nmI S4)) Ev.int) (Iq (aj hdl.1 (aO _ _)))) (Ev.isI (Ev.add (Ev.sub (Ev.nmI S4) (Ev.nmI S4)) Ev.int) (Iq (aj hdl.2 (aO _ _)))) (Ev.nmI S4) fun h6 tk6 ta tb tc S6=>⟨rfl,?_⟩)
  refine aw ⟨rfl,aw ?_⟩
  refine ⟨h6,tk6,C.gW b i j (C.dl r g.al g.bl i j),ta,tb,tc,o4,_,rfl,S6.kept,?_,hD4,hl4,hR4,.inr (.inr ⟨rfl,h1,h2,rfl⟩)⟩
  have L6:Lp g₀ (N::FA (cE L)) (cE L) h6 _ _:=Lh.next S6 (da (.head _))
  have eb:C.gW b i j (C.dl r g.al g.bl i j)=(i+1-C.dl r g.al g.bl i j,j+1-C.dl r g.al g.bl i j,C.dl r g.al g.bl i j):=by unfold C.gW;rw [if_pos h5]
  rw [eb]
  exact L6.forget (iY.mem ⟨rfl,rfl,rfl,rfl,rfl,rfl,rfl,rfl,rfl,rfl,rfl,rfl,rfl,rfl,rfl,rfl,rfl,trivial⟩)
 ·rw [decide_eq_false h5,if_neg (by decide)]
  refine aw ⟨rfl,aw ?_⟩
  refine ⟨h4,tk5,C.gW b i j (C.dl r g.al g.bl i j),u1,u2,u3,o4,_,rfl,S4.kept,?_,hD4,hl4,hR4,.inr (.inr ⟨rfl,h1,h2,rfl⟩)⟩
  have eb:C.gW b i j (C.dl r g.al g.bl i j)=b:=by unfold C.gW;rw [if_neg h5]
  rw [eb]
  exact L4.forget (iY.mem ⟨rfl,rfl,rfl,rfl,rfl,rfl,rfl,rfl,rfl,rfl,rfl,rfl,rfl,rfl,rfl,rfl,rfl,trivial⟩)
end
section
variable {r:Nat→Nat→Bool} {g:C.eS} {i:Nat} {kvs:List (Int×ag)} {done:List Nat}
theorem lE.skips:∀{rest done:List Nat},lE r g i kvs done→(∀j∈rest,¬(g.bl≤j∧j<g.bh))→lE r g i kvs (done++rest)
 | [],done,H,_=>by simpa using H
 | j::rest,done,H,h=>by
  have:=lE.skips (rest:=rest) (H.skip (h j (.head _))) fun k hk=>h k (.tail _ hk)
  simpa using this
end
section
variable {w:aP} {A:aS} {g₀:ay} {L N G J x f sd B U Z:aH} {oJ:cA} {kJ:List (Int×ag)} {r:Nat→Nat→Bool} {g:C.eS} {i n:Nat} {ps:List Nat} {vs:List ag} {s:am} {t1 t2 t3 t4 u1 u2 u3 ti:jR} {b:C.cv}
theorem yj (hA:eV A 0) (X:Cx w g₀) (hG:g₀.get? G=some (kH "dict.get" J)) (hJ:g₀.get? J=some oJ) (hDJ:DI w oJ kJ) (hJs:(J==dF)=false) (hold:tZ r g i kJ)
  (Lh:Lp g₀ (N::FA (cE L)) (cE L) s.heap (fm x f sd B U Z g t1 t2 t3 t4 b u1 u2 u3 J [(nI,.int i ti),(j2,.ref G),(j3,.ref N)]) [(N,oq)])
  (hI:Eg PQ w A (cE L) s.heap (Fj (Ei.getD 2 (.Pass p0))) (fun v h'=>∃a,jn (v=.ref a) (h'.IsList a vs.toArray) (a∉(N::FA (cE L))))) (hv:cf vs (qI ps))
  (hps:ps.Pairwise (· < ·)) (hpl:ps.length≤3000) (hpb:∀j∈ps,j<2^20∧r i j=true) (hi:g.al≤i) (hib:i<2^20) :
  aF (aB PQ w) A (fA (Ei.getD 2 (.Pass p0)) (cE L)) (fun fl s'=>fl=.next∧DM fun h' tk v1 v2 v3 o' kvs'=>qp (s'=(sh s h' tk)) (ba (N::FA (cE L)) s.heap h') (Lp g₀ (N::FA (cE L)) (cE L) h' (fm x f sd B U Z g t1 t2 t3 t4 (C.rZ r g i ps b) v1 v2 v3 J [(nI,.int i ti),(j2,.ref G),(j3,.ref N)]) [(N,o')]) (DI w o' kvs') (lE r g i kvs' ps)) (fun O O=>False) s:=by
 have hvl:vs.length=ps.length:=by have:=hv.length;rw [qI,eh] at this;exact this
 refine po (items:=vs.toArray) hA.hd (N::FA (cE L)) (fun p h=>xN fun b' v1 v2 v3 o' kvs'=>uB (ba (N::FA (cE L)) s.heap h) (Lp g₀ (N::FA (cE L)) (cE L) h (fm x f sd B U Z g t1 t2 t3 t4 b' v1 v2 v3 J [(nI,.int i ti),(j2,.ref G),(j3,.ref N)]) [(N,o')]) (DI w o' kvs') (kvs'.length≤p) (lE r g i kvs' (ps.take p)) (C.rZ r g i ps b=C.rZ r g i (ps.drop p) b')) hI ?_ ?_ ?_ ?_ ?_
 ·intro c hc
  rcases aC.mp hc with rfl|hc
  ·exact ⟨_,(Lh.st.own _ (.head _)).1⟩
  ·exact Lh.st.lie c hc
 ·exact fun h' k=>⟨b,u1,u2,u3,oq,[],k.mono (by simp),Lh.grow k,DI.nil w,bd _,lE.nil,rfl⟩
 ·rintro p h h' ⟨b',v1,v2,v3,o',kvs',k,Lx,d1,d2,d3,d4⟩ hk
  exact ⟨b',v1,v2,v3,o',kvs',k.stab hk (fun b o q O=>⟨o,q⟩),Lx.stab hk,d1,d2,d3,d4⟩
 ·rintro p v h tk hp hpv ⟨b',v1,v2,v3,o',kvs',k,Lx,d1,d2,d3,d4⟩
  rw [iN,hvl] at hp
  obtain ⟨z,tj,rfl,hz⟩:=hv.at p v (by simpa using hpv)
  have hpz:z=((ps[p]:Nat):Int):=by
   rw [qI,List.getElem?_map,aW hp] at hz
   simpa using hz.symm
  subst hpz
  have hdrop:ps.drop p=ps[p]::ps.drop (p+1):=eX hp
  have htake:ps.take (p+1)=ps.take p++[ps[p]]:=List.take_succ_eq_append_getElem hp
  have hm:=hpb ps[p] (List.getElem_mem hp)
  refine assign_Name (bE (s:=sh s h tk) Lx.st fun h1 tk1 S1=>?_)
  have L1:Lp g₀ (N::FA (cE L)) (cE L) h1 _ _:=Lx.next S1 Lx.st.inC
  refine aL (zS (s:=sh s h1 tk1) (done:=ps.take p) hA X hG hJ hDJ hJs hold L1 d1 (by exact c8 (.le aq (.k 3000) (.le ar (.k 3000) (.lt az ar (.le aq az .o)))) τ hpl hp d2) d3 hm.2 hi hib hm.1) (fun fl s' q=>?_) fun O O z=>z
  obtain ⟨h2,tk2,b2,w1,w2,w3,o2,kvs2,rfl,k2,L2,e1,e2,e3,e4⟩:=q
  have kk:ba (N::FA (cE L)) h h2:=S1.kept.trans k2
  rw [←htake] at e3
  rw [hdrop] at d4
  rcases e4 with ⟨rfl,a1,rfl⟩|⟨rfl,a1,a2,rfl⟩|⟨rfl,a1,a2,rfl⟩
  ·refine ⟨h2,tk2,rfl,kk,_,w1,w2,w3,o2,kvs2,k.trans kk,L2,e1,by exact c8 (.le aq (.s 1 1) (.le az ar (.le aq (.s 2 1) .o))) τ d2 e2,e3,?_⟩
   rw [d4,C.rZ,if_pos a1]
  ·refine ⟨rfl,h2,tk2,w1,w2,w3,o2,kvs2,rfl,k.trans kk,?_,e1,?_⟩
   ·rw [d4,C.rZ,if_neg a1,if_pos a2];exact L2
   ·have:=e3.skips (rest:=ps.drop (p+1)) fun j hj=>?_
    ·rwa [ds] at this
    ·have hs:=(ez.mp (hdrop▸hps.drop)).1 j hj
     lia
  ·refine ⟨h2,tk2,rfl,kk,_,w1,w2,w3,o2,kvs2,k.trans kk,L2,e1,by exact c8 (.le aq (.s 1 1) (.le az ar (.le aq (.s 2 1) .o))) τ d2 e2,e3,?_⟩
   rw [d4,C.rZ,if_neg a1,if_neg a2]
 ·rintro h tk ⟨b',v1,v2,v3,o',kvs',k,Lx,d1,d2,d3,d4⟩
  rw [iN,hvl] at d3 d4
  rw [dY] at d3
  rw [List.drop_length] at d4
  refine ⟨rfl,h,tk,v1,v2,v3,o',kvs',rfl,k,?_,d1,d3⟩
  rw [d4];exact Lx
end
theorem tB (xs ys:List Int) (S:Int→Bool) (i:Nat):(bO ys.length).filter (ie xs ys S i)=if S (xs.getD i 0) then C.qA ys ys.length (xs.getD i 0) else []:=by
 unfold C.qA
 split
 ·rename_i h
  congr 1
  funext j
  delta ie gL
  rw [h,Bool.and_true]
  exact Bool.beq_comm
 ·rename_i h
  rw [fR]
  intro j _ q
  unfold ie at q
  rw [g7] at q
  exact h q.2
section
variable {w:aP} {A:aS} {g₀:ay} {L J x f sd B U Z:aH} {oJ:cA} {kJ:List (Int×ag)} {xs ys:List Int} {S:Int→Bool} {g:C.eS} {i nz:Nat} {s:am} {t1 t2 t3 t4 u1 u2 u3 ti:jR} {b:C.cv}
theorem BW (hA:eV A 0) (X:Cx w g₀) (hf:IL g₀ f xs) (hB:C5 w g₀ B ys S) (hBs:(B==dF)=false) (hZ:g₀.get? Z=some (ch #[] nz)) (hg1:g.bl≤g.bh) (hg2:g.bh≤ys.length) (hy:ys.length≤3000) (hx:xs.length≤3000)
  (hi:g.al≤i) (hix:i<xs.length) (hJ:s.heap.get? J=some oJ) (hDJ:DI w oJ kJ) (hJs:(J==dF)=false) (hJF:J∉FA (cE L)) (hold:tZ (ie xs ys S) g i kJ)
  (Lh:Lp g₀ (FA (cE L)) (cE L) s.heap (fm x f sd B U Z g t1 t2 t3 t4 b u1 u2 u3 J [(nI,.int i ti)]) []) :
  aF (aB PQ w) A (eK Ei (cE L)) (fun fl s'=>fl=.next∧Ff fun h' tk v1 v2 v3 J' oJ' kJ'=>DK (s'=(sh s h' tk)) (ba (FA (cE L)) s.heap h') (Lp g₀ (FA (cE L)) (cE L) h' (fm x f sd B U Z g t1 t2 t3 t4 (C.xW (ie xs ys S) g b i) v1 v2 v3 J' []) []) (h'.get? J'=some oJ') (DI w oJ' kJ') ((J'==dF)=false) (J'∉FA (cE L)) (tZ (ie xs ys S) g (i+1) kJ')) (fun O O=>False) s:=by
 have S0:=Lh.st
 refine wq fun R1_ hR1=>?_
 refine aT (cT (s:=s) (P:=vT s.heap "dict.get" J) (Eg.getGet (Ev.nm S0) hJ hDJ) fun v h1 tk1 k1 hv=>?_)
 obtain ⟨G,rfl,hG⟩:=hv
 refine bE (s:=sh s h1 tk1) (S0.add k1 hG.yes hG.no) fun h2 tk2 S2=>⟨rfl,?_⟩
 have C2:Cx w h2:=X.sub ((Lh.next (S2.less (c':=[]) il) il).here)
 refine aT (cT (s:=sh s h2 tk2) (P:=fun v h'=>v=.ref h2.objs.size∧iK h2 h' h2.objs.size oq) Eg.dict1 fun v h3 tk3 k3 hv=>?_)
 obtain ⟨rfl,hN⟩:=hv
 have hNs:=ur C2
 refine bE (s:=sh s h3 tk3) (S2.add k3 hN.yes hN.no) fun h4 tk4 S4=>⟨rfl,?_⟩
 generalize h2.objs.size=N at hN hNs S4 ⊢
 have hNF:N∉FA (cE L):=(S4.own _ (.head _)).2.1
 have hGF:G∉FA (cE L):=(S4.own _ (.tail _ (.head _))).2.1
 have hG2:h2.get? G=some (kH "dict.get" J):=S2.get (.head _)
 have hGN:G≠N:=qn hG2 hN.no
 have hN0:s.heap.get? N=none:=by
  cases q:s.heap.get? N with
  | none=>rfl
  | some o=>have:=S2.keep _ _ (bq _ q hNF);exact nn hN.no this
 have L4:Lp g₀ (N::FA (cE L)) (cE L) h4 _ _:=Lh.on (S4.less (c':=[(N,oq)]) (da (.head _))) (fun c hc=>by rcases aC.mp hc with rfl|hc;exact .inr hN0;exact .inl hc) (fun c hc=>.tail _ hc) (da (.head _))
 have L4':Lp (bC h4 (N::FA (cE L))) (N::FA (cE L)) (cE L) h4 _ _:=⟨fun O O q=>q,L4.st⟩
 have hJ4:h4.get? J=some oJ:=S4.keep _ _ (bq _ hJ hJF)
 have hJN:J≠N:=qn hJ hN0
 have hib:i<2^20:=by lia
 obtain ⟨oB,kB,hB1,hB2,hB3⟩:=hB
 have hIt:∃vs,cf vs (qI ((bO ys.length).filter (ie xs ys S i)))∧Eg PQ w A (cE L) h4 (Fj (Ei.getD 2 (.Pass p0))) (fun v h'=>∃a,jn (v=.ref a) (h'.IsList a vs.toArray) (a∉(N::FA (cE L)))):=by
  have H0:Eg PQ w A (cE L) h4 (Fj (Ei.getD 2 (.Pass p0))) (fun v h'=>h'=h4∧v=(dG kB (xs.getD i 0)).getD (.ref Z)):=
   Ed.methB (D:=[]) (Ev.nm S4) (L4.here _ _ hB1) hB2.cls.1 hB2.cls.2 oU kz PySem.F.type_dict_get (Es.more (Ev.itemL (k:=(i:Int)) (Ev.nm S4) (Ev.nmI S4) (hf.sub L4.here) (by exact c0) (by exact cl (by assumption)) (by exact ck (m:=3000) (by assumption) (by with_unfolding_all rfl))) (Es.more (P:=(· = .ref Z)) (Ev.nm S4) Es.nil)) (fun us hh kk hus=>by
    obtain ⟨rfl,_,_,rfl,⟨ta,rfl⟩,_,_,rfl,rfl,rfl⟩:=hus
    exact D0 (L4.here _ _ hB1) hB2 hBs)
  rcases hB3 (xs.getD i 0) with ⟨l,e1,e2,e3⟩|⟨e1,e2⟩
  ·obtain ⟨vs,e4,e5⟩:=e2
   refine ⟨vs,by rw [tB,if_pos e3];exact e5,H0.mono fun v h' O q=>?_⟩
   obtain ⟨rfl,rfl⟩:=q
   obtain ⟨o,e6,e7⟩:=e4
   rw [e1]
   exact ⟨l,rfl,⟨o,L4.here _ _ e6,e7⟩,(cZ (L4.sub _ _ e6)).2.1⟩
  ·have hnil:(bO ys.length).filter (ie xs ys S i)=[]:=by
    rw [tB]
    split
    ·rename_i q
     rcases e2 with e2|e2
     ·rw [e2] at q;cases q
     ·exact e2
    ·rfl
   refine ⟨[],by rw [hnil];exact .nil,H0.mono fun v h' O q=>?_⟩
   obtain ⟨rfl,rfl⟩:=q
   rw [e1]
   exact ⟨Z,rfl,⟨_,L4.here _ _ hZ,rfl,_,rfl⟩,(cZ (L4.sub _ _ hZ)).2.1⟩
 obtain ⟨vs,hvs,hI⟩:=hIt
 refine aT (show aF _ _ (fA (Ei.getD 2 (.Pass p0)) (cE L)) _ _ _ from aL (yj (s:=sh s h4 tk4) (ps:=(bO ys.length).filter (ie xs ys S i)) hA (X.sub L4.sub) (cH (S4.get (.tail _ (.head _))) (by simp [hGN,hGF]) rfl) (cH hJ4 (by simp [hJN,hJF]) hDJ.plain) hDJ hJs hold L4' hI hvs (dz.filter _ jL) (aj (kt _ _) (by simpa using hy)) (fun j hj=>?_) hi hib) (fun fl s' q=>?_) fun O O z=>z)
 ·obtain ⟨q1,q2⟩:=iC.mp hj
  have:=fy.mp q1
  exact ⟨by lia,q2⟩
 obtain ⟨rfl,h5,tk5,v1,v2,v3,o5,kvs5,rfl,k5,L5,d1,d2⟩:=q
 refine ⟨rfl,?_⟩
 rw [C.yp hg1 hg2] at L5
 refine aT (cT (s:=sh s h5 tk5) (P:=fun v h'=>h'=h5∧v=.ref N) (Ev.gg (Ev.nm L5.st)) fun v h6 tk6 k6 hv=>?_)
 obtain ⟨rfl,rfl⟩:=hv
 refine bE (s:=sh s h6 tk6) L5.st fun h7 tk7 S7=>⟨rfl,aw (hR1 .next _ ⟨rfl,?_⟩)⟩
 have kk:ba (N::FA (cE L)) h4 h7:=k5.trans S7.kept
 refine ⟨h7,tk7,v1,v2,v3,N,o5,kvs5,rfl,fun c o q n=>kk c o (S4.kept c o q n) (fun z=>by rcases aC.mp z with rfl|z;(exact nn hN0 q);exact n z),?_,S7.get (.head _),d1,hNs,hNF,d2.old hg2 hi⟩
 have S8:=(S7.less (c':=[]) il).rebase (FA (cE L)) (fun O q=>q) il
 have L8:Lp g₀ (FA (cE L)) (cE L) h7 _ []:=⟨(L4.sub.trans (L5.sub.trans (bP S7.keep))).trans (cM fun c o q n O=>⟨q,fun z=>n (.tail _ z)⟩),S8⟩
 exact L8.forget (iY.mem ⟨rfl,rfl,rfl,rfl,rfl,rfl,rfl,rfl,rfl,rfl,rfl,rfl,rfl,rfl,trivial⟩)
end
noncomputable def CK (r:Nat→Nat→Bool) (g:C.eS) (p:Nat):C.cv:=(d7 g.al p).foldl (C.xW r g) (g.al,g.bl,0)
theorem yP (r:Nat→Nat→Bool) (g:C.eS) (p:Nat):CK r g (p+1)=C.xW r g (CK r g p) (g.al+p):=by
 unfold CK
 rw [List.range'_1_concat,List.foldl_append]
 rfl
section
variable {w:aP} {A:aS} {g₀:ay} {L J x f sd B U Z:aH} {oJ:cA} {xs ys:List Int} {S:Int→Bool} {g:C.eS} {nz:Nat} {s:am} {t1 t2 t3 t4 u1 u2 u3:jR}
theorem yk (hA:eV A 0) (X:Cx w g₀) (hf:IL g₀ f xs) (hB:C5 w g₀ B ys S) (hBs:(B==dF)=false) (hZ:g₀.get? Z=some (ch #[] nz)) (hg0:g.al≤g.ah) (hg3:g.ah≤xs.length) (hg1:g.bl≤g.bh) (hg2:g.bh≤ys.length) (hy:ys.length≤3000) (hx:xs.length≤3000)
  (hJ:s.heap.get? J=some oJ) (hDJ:DI w oJ []) (hJs:(J==dF)=false) (hJF:J∉FA (cE L))
  (Lh:Lp g₀ (FA (cE L)) (cE L) s.heap (fm x f sd B U Z g t1 t2 t3 t4 (g.al,g.bl,0) u1 u2 u3 J []) []) :
  aF (aB PQ w) A (fA (yi.getD 7 (.Pass p0)) (cE L)) (fun fl s'=>fl=.next∧xN fun h' tk v1 v2 v3 J'=>jn (s'=(sh s h' tk)) (ba (FA (cE L)) s.heap h') (Lp g₀ (FA (cE L)) (cE L) h' (fm x f sd B U Z g t1 t2 t3 t4 (C.bst (ie xs ys S) g) v1 v2 v3 J' []) [])) (fun O O=>False) s:=by
 have S0:=Lh.st
 refine wq fun R1_ hR1=>?_
 refine jF (n:=g.ah-g.al) (a:=(g.al:Int)) hA.hd (FA (cE L)) (fun p h=>xN fun v1 v2 v3 J oJ kJ=>xM (ba (FA (cE L)) s.heap h) (Lp g₀ (FA (cE L)) (cE L) h (fm x f sd B U Z g t1 t2 t3 t4 (CK (ie xs ys S) g p) v1 v2 v3 J []) []) (h.get? J=some oJ) (DI w oJ kJ) ((J==dF)=false) (J∉FA (cE L)) (tZ (ie xs ys S) g (g.al+p) kJ)) ((Eg.range2 (X.sub Lh.here) (Ev.nmI S0) (Ev.nmI S0) Bv (c6 (aj hg3 hx) rfl) Bv (c6 (aj hg0 (aj hg3 hx)) rfl)).mono fun v h' O q=>?_) (fun c hc=>S0.lie c hc) ?_ ?_ ?_ ?_
 ·rw [show ((g.ah:Int)-(g.al:Int)).toNat=g.ah-g.al from Int.toNat_sub g.ah g.al] at q
  exact q
 ·exact fun h' k=>⟨u1,u2,u3,J,oJ,[],k.mono (by simp),Lh.grow k,k.get hJ,hDJ,hJs,hJF,tZ.nil⟩
 ·rintro p h h' ⟨v1,v2,v3,J,oJ,kJ,k,Lx,d1,d2,d3,d4,d5⟩ hk
  exact ⟨v1,v2,v3,J,oJ,kJ,k.stab hk (fun b o q O=>⟨o,q⟩),Lx.stab hk,hk _ _ d1 (.inl d2.plain),d2,d3,d4,d5⟩
 ·rintro p v h tk hp ⟨ti,rfl⟩ ⟨v1,v2,v3,J,oJ,kJ,k,Lx,d1,d2,d3,d4,d5⟩
  refine bE (s:=sh s h tk) Lx.st fun h1 tk1 S1=>?_
  have L1:Lp g₀ (FA (cE L)) (cE L) h1 _ _:=Lx.next S1 Lx.st.inC
  have hJ1:h1.get? J=some oJ:=S1.keep _ _ (bq _ d1 d4)
  refine aL (BW (s:=sh s h1 tk1) (i:=g.al+p) (ti:=ti) hA X hf hB hBs hZ hg1 hg2 hy hx (by exact cW (.le aq (.p aq ar) .o) τ) (by exact eW (.lt (.p aq ar) az (.le aI az (.lt ar bx (.eq (.p bx aq) aI .o)))) τ hg3 hp (aa hg0)) hJ1 d2 d3 d4 d5 L1) (fun fl s' q=>?_) fun O O z=>z
  obtain ⟨rfl,h2,tk2,w1,w2,w3,J2,oJ2,kJ2,rfl,k2,L2,e1,e2,e3,e4,e5⟩:=q
  rw [←yP] at L2
  exact ⟨h2,tk2,rfl,S1.kept.trans k2,w1,w2,w3,J2,oJ2,kJ2,k.trans (S1.kept.trans k2),L2,e1,e2,e3,e4,e5⟩
 ·rintro h tk ⟨v1,v2,v3,J,oJ,kJ,k,Lx,_⟩
  exact hR1 .next _ ⟨rfl,h,tk,v1,v2,v3,J,rfl,k,Lx⟩
end
section
variable {prog:aV} {w:aP} {A:aS} {e:gy} {h:ay}
theorem Et.bool {ex:au} {b:Bool} (H:Ev prog w A e h ex (· = .bool b)) (he:autoParam (∀whole,isTrue ex e whole=(do let v ←whole;fe ex.pos;gf [v] (truthy v))) rfA):Et prog w A e h ex b:=
 Et.plain H (fun s Q E O q=>ig (q s.toks)) he
theorem Et.not {x:au} {pos:dJ} {b:Bool} (H:Et prog w A e h x b):Et prog w A e h (.UnaryOp .Not x pos) (!b):=fun s Q E hs q=>isTrue_not (H s _ _ hs fun tk=>q tk)
end
namespace C
variable {e:Nat→Nat→Bool} {g:eS} {x:cv}
noncomputable def back (e:Nat→Nat→Bool) (g:eS) (x:cv):cv:=let t:=nO e (fU (x.1-g.al) (x.2.1-g.bl)) x.1 x.2.1;(x.1-t,x.2.1-t,t+x.2.2)
noncomputable def mW (e:Nat→Nat→Bool) (g:eS) (x:cv):cv:=let u:=jh e (fU (g.ah-(x.1+x.2.2)) (g.bh-(x.2.1+x.2.2))) (x.1+x.2.2) (x.2.1+x.2.2);(x.1,x.2.1,x.2.2+u)
theorem Be (h:¬(g.al<x.1∧g.bl<x.2.1∧e (x.1-1) (x.2.1-1)=true)):back e g x=x:=by
 have:nO e (fU (x.1-g.al) (x.2.1-g.bl)) x.1 x.2.1=0:=by
  cases q:fU (x.1-g.al) (x.2.1-g.bl) with
  | zero=>rfl
  | succ n=>
   unfold nO
   rw [if_neg fun z=>h ⟨ml q,mr q,z⟩]
 unfold back
 simp only [this,jP,cY]
theorem EF {a b c d:Nat} (h1:c<a) (h2:d<b):fU (a-c) (b-d)=fU (a-1-c) (b-1-d)+1:=by
 rw [show a-c=a-1-c+1 by exact ak (eW (.le aq (.s 1 1) (.le az (.p ar aI) (.le bx (.s 2 1) (.eq (.p aq aI) bx .o)))) τ bZ bZ (aa (aR h1))) (eW (.le (.s 0 1) ar (.le az (.p ar aI) (.eq (.p aq aI) bx (.eq (.s 4 1) az .o)))) τ bZ (aa (c8 (.le aq ar (.lt aq az (.le az (.s 1 1) .o))) τ h1 bZ)) (aa (cW (.le (.k 1) aq (.lt ar aq .o)) τ h1))),show b-d=b-1-d+1 by exact ak (eW (.le aq (.s 1 1) (.le az (.p ar aI) (.le bx (.s 2 1) (.eq (.p aq aI) bx .o)))) τ bZ bZ (aa (aR h2))) (eW (.le (.s 0 1) ar (.le az (.p ar aI) (.eq (.p aq aI) bx (.eq (.s 4 1) az .o)))) τ bZ (aa (c8 (.le aq ar (.lt aq az (.le az (.s 1 1) .o))) τ h2 bZ)) (aa (cW (.le (.k 1) aq (.lt ar aq .o)) τ h2))),Nat.add_min_add_right]
theorem EE {a b c d:Nat} (h1:a<c) (h2:b<d):fU (c-a) (d-b)=fU (c-(a+1)) (d-(b+1))+1:=by
 rw [show c-a=c-(a+1)+1 by exact ak (cR (.le aq (.s 1 1) (.le az (.p ar (.s 3 1)) (.eq (.p aq aI) az .o))) τ bZ (aa (aR h1))) (cR (.le (.s 0 1) ar (.le az (.p ar aI) (.eq (.p aq (.s 3 1)) az .o))) τ bZ (aa h1)),show d-b=d-(b+1)+1 by exact ak (cR (.le aq (.s 1 1) (.le az (.p ar (.s 3 1)) (.eq (.p aq aI) az .o))) τ bZ (aa (aR h2))) (cR (.le (.s 0 1) ar (.le az (.p ar aI) (.eq (.p aq (.s 3 1)) az .o))) τ bZ (aa h2)),Nat.add_min_add_right]
theorem zx (h1:g.al<x.1) (h2:g.bl<x.2.1) (h3:e (x.1-1) (x.2.1-1)=true):back e g (x.1-1,x.2.1-1,x.2.2+1)=back e g x:=by
 unfold back
 have:nO e (fU (x.1-g.al) (x.2.1-g.bl)) x.1 x.2.1=nO e (fU (x.1-1-g.al) (x.2.1-1-g.bl)) (x.1-1) (x.2.1-1)+1:=by
  rw [EF h1 h2]
  conv=>lhs;unfold nO
  rw [if_pos h3]
 simp only [this]
 generalize nO e (fU (x.1-1-g.al) (x.2.1-1-g.bl)) (x.1-1) (x.2.1-1)=t
 simp only [dU]
 exact ⟨(dI (x.fst-1) t).elim (fun ζ2=>ak (cW (.le aq ar (.eq aq (.k 0) .o)) τ (bR ζ2)) (cW (.le aq ar (.eq aq (.k 0) .o)) τ (bR (c8 (.le aq (.s 1 1) (.le aq (.s 2 1) (.le az ar .o))) τ bZ ζ2)))) fun ζ2=>ak (eW (.le aq ar (.le az (.p ar (.s 3 1)) (.eq (.p aq aI) bx (.eq (.s 4 1) az .o)))) τ bZ (aa ζ2) (aa (cW (.le (.k 1) aq (.lt ar aq .o)) τ h1))) (eW (.le aq ar (.le az (.p ar aI) (.le bx (.s 2 1) (.eq (.p aq (.s 3 1)) bx .o)))) τ bZ bZ (aa (c8 (.le (.s 0 1) ar (.le aq az (.eq (.s 2 1) ar .o))) τ ζ2 (aa (cW (.le (.k 1) aq (.lt ar aq .o)) τ h1))))),⟨(dI (x.snd.fst-1) t).elim (fun ζ2=>ak (cW (.le aq ar (.eq aq (.k 0) .o)) τ (bR ζ2)) (cW (.le aq ar (.eq aq (.k 0) .o)) τ (bR (c8 (.le aq (.s 1 1) (.le aq (.s 2 1) (.le az ar .o))) τ bZ ζ2)))) fun ζ2=>ak (eW (.le aq ar (.le az (.p ar (.s 3 1)) (.eq (.p aq aI) bx (.eq (.s 4 1) az .o)))) τ bZ (aa ζ2) (aa (cW (.le (.k 1) aq (.lt ar aq .o)) τ h2))) (eW (.le aq ar (.le az (.p ar aI) (.le bx (.s 2 1) (.eq (.p aq (.s 3 1)) bx .o)))) τ bZ bZ (aa (c8 (.le (.s 0 1) ar (.le aq az (.eq (.s 2 1) ar .o))) τ ζ2 (aa (cW (.le (.k 1) aq (.lt ar aq .o)) τ h2))))),ak (cW (.le (.p aq (.s 1 1)) (.p (.s 0 1) ar) .o) τ) (cW (.le (.p (.s 0 1) ar) (.p aq (.s 1 1)) .o) τ)⟩⟩
theorem zT (h:¬(x.1+x.2.2<g.ah∧x.2.1+x.2.2<g.bh∧e (x.1+x.2.2) (x.2.1+x.2.2)=true)):mW e g x=x:=by
 have:jh e (fU (g.ah-(x.1+x.2.2)) (g.bh-(x.2.1+x.2.2))) (x.1+x.2.2) (x.2.1+x.2.2)=0:=by
  cases q:fU (g.ah-(x.1+x.2.2)) (g.bh-(x.2.1+x.2.2)) with
  | zero=>rfl
  | succ n=>
   unfold jh
   rw [if_neg fun z=>h ⟨ml q,mr q,z⟩]
 unfold mW
 simp only [this,fu]
theorem yl (h1:x.1+x.2.2<g.ah) (h2:x.2.1+x.2.2<g.bh) (h3:e (x.1+x.2.2) (x.2.1+x.2.2)=true):mW e g (x.1,x.2.1,x.2.2+1)=mW e g x:=by
 unfold mW
 have:jh e (fU (g.ah-(x.1+x.2.2)) (g.bh-(x.2.1+x.2.2))) (x.1+x.2.2) (x.2.1+x.2.2)=jh e (fU (g.ah-(x.1+(x.2.2+1))) (g.bh-(x.2.1+(x.2.2+1)))) (x.1+(x.2.2+1)) (x.2.1+(x.2.2+1))+1:=by
  rw [EE h1 h2]
  conv=>lhs;unfold jh
  rw [if_pos h3]
  rfl
 simp only [this,dU,true_and]
 rw [Nat.add_assoc,iu 1]
theorem wo (h:ins g x=true):mW e g (back e g x)=eN e g x:=by
 obtain ⟨a,b,c,d⟩:=dO.mp h
 have:=mR e (fU (x.1-g.al) (x.2.1-g.bl)) x.1 x.2.1
 delta mW back eN
 generalize nO e (fU (x.1-g.al) (x.2.1-g.bl)) x.1 x.2.1=t at this ⊢
 simp only
 rw [show x.1-t+(t+x.2.2)=x.1+x.2.2 by exact ak (cR (.le (.p aq (.p ar az)) (.p aI az) (.eq (.p aq ar) aI .o)) τ (aa (cR (.le aq ar (.le aq az (.le az aI (.le aI ar .o)))) τ this (aN _ _) (aO _ _)))) (cR (.le (.p aq ar) (.p az (.p aI ar)) (.le aq (.p az aI) .o)) τ bZ),show x.2.1-t+(t+x.2.2)=x.2.1+x.2.2 by exact ak (cR (.le (.p aq (.p ar az)) (.p aI az) (.eq (.p aq ar) aI .o)) τ (aa (cR (.le aq ar (.le aq az (.le az aI (.le aI ar .o)))) τ this (br _ _) (aO _ _)))) (cR (.le (.p aq ar) (.p az (.p aI ar)) (.le aq (.p az aI) .o)) τ bZ)]
end C
section
variable {w:aP} {A:aS} {g₀:ay} {L J x f sd B U Z uj:aH} {xs ys:List Int} {g:C.eS} {s:am} {t1 t2 t3 t4 u1 u2 u3:jR} {b:C.cv}
theorem Ev.isb {e:gy} {h:ay} {ex:au} {p pos:dJ} {z:Int} (N:Ev PQ w A e h (.Name sg p) (· = .ref U)) (hU:h.get? U=some (kH "set.__contains__" uj)) (hS:SI.iS w h uj []) (H:Ev PQ w A e h ex (fr z))
  (he:autoParam (aE [ex] e=(false,cO ex e)::aE [] e) rfA):Ev PQ w A e h (.Call (.Name sg p) [ex] [] pos) (· = .bool false):=
 Ev.ofG (Eg.callU N hU (Es.more H Es.nil he) (fun vs hh kk hvs=>by
  obtain ⟨rfl,_,_,rfl,⟨t,rfl⟩,rfl⟩:=hvs
  exact Bw hU hS) he rfl)
theorem Em (hA:eV A 0) (hf:IL g₀ f xs) (hs:IL g₀ sd ys) (hU:g₀.get? U=some (kH "set.__contains__" uj)) (hS:SI.iS w g₀ uj []) (hg3:g.ah≤xs.length) (hg2:g.bh≤ys.length) (hy:ys.length≤3000) (hx:xs.length≤3000) (hb:C.ins g b=true)
  (Lh:Lp g₀ (FA (cE L)) (cE L) s.heap (fm x f sd B U Z g t1 t2 t3 t4 b u1 u2 u3 J []) []) :
  aF (aB PQ w) A (fA (yi.getD 8 (.Pass p0)) (cE L)) (fun fl s'=>fl=.next∧zf fun h' tk v1 v2 v3=>jn (s'=(sh s h' tk)) (ba (FA (cE L)) s.heap h') (Lp g₀ (FA (cE L)) (cE L) h' (fm x f sd B U Z g t1 t2 t3 t4 (C.back (gL xs ys) g b) v1 v2 v3 J []) [])) (fun O O=>False) s:=by
 refine lM (n₀:=b.1) (fun n h=>oN fun b' v1 v2 v3=>qp (n=b'.1) (C.ins g b'=true) (C.back (gL xs ys) g b'=C.back (gL xs ys) g b) (ba (FA (cE L)) s.heap h) (Lp g₀ (FA (cE L)) (cE L) h (fm x f sd B U Z g t1 t2 t3 t4 b' v1 v2 v3 J []) []))
  ⟨b,u1,u2,u3,rfl,hb,rfl,.refl _ _,Lh⟩ ?_
 rintro n h ⟨b',v1,v2,v3,rfl,hb',he,k,Lx⟩
 have S:=Lx.st
 obtain ⟨i1,i2,i3,i4⟩:=C.dO.mp hb'
 have stop:¬(g.al<b'.1∧g.bl<b'.2.1∧gL xs ys (b'.1-1) (b'.2.1-1)=true)→∀tk':Nat,(dW.next=.next∧zf fun h' tk v1 v2 v3=>jn (((sh s h tk'):am)=(sh s h' tk)) (ba (FA (cE L)) s.heap h') (Lp g₀ (FA (cE L)) (cE L) h' (fm x f sd B U Z g t1 t2 t3 t4 (C.back (gL xs ys) g b) v1 v2 v3 J []) [])):=fun hn tk'=>
  ⟨rfl,h,tk',v1,v2,v3,rfl,k,by rw [←he,C.Be hn];exact Lx⟩
 by_cases c1:g.al<b'.1
 ·by_cases c2:g.bl<b'.2.1
  ·have hS':SI.iS w h uj []:=by obtain ⟨es,ep,t,q1,q2⟩:=hS;exact ⟨es,ep,t,Lx.here _ _ q1,q2⟩
   have T:∀q,gL xs ys (b'.1-1) (b'.2.1-1)=q→Et PQ w A (cE L) h (Fj (yi.getD 8 (.Pass p0))) q:=fun q hq=>by
    refine Et.and fun whole=>jd.yes (Et.of (Et.ints (Ev.nmI S) (Ev.nmI S)) ?_) (jd.yes (Et.of (Et.ints (Ev.nmI S) (Ev.nmI S)) ?_) (jd.yes (Et.not (Et.bool (Ev.isb (Ev.nm S) (Lx.here _ _ hU) hS' (Ev.itemL (k:=((b'.2.1-1:Nat):Int)) (Ev.nm S) (Ev.isI (Ev.sub (Ev.nmI S) Ev.int) (cp c2)) (hs.sub Lx.here) c0 (GR c2 (aj (cX i4) hg2)) (ck hy rfl))))) ?_))
    ·simp only [eI];exact decide_eq_true (cl c1)
    ·simp only [eI];exact decide_eq_true (cl c2)
    ·refine jd.last (Et.of (Et.ints (op:=.Eq) (Ev.itemL (k:=((b'.1-1:Nat):Int)) (Ev.nm S) (Ev.isI (Ev.sub (Ev.nmI S) Ev.int) (cp c1)) (hf.sub Lx.here) c0 (GR c1 (aj (cX i3) hg3)) (ck hx rfl)) (Ev.itemL (k:=((b'.2.1-1:Nat):Int)) (Ev.nm S) (Ev.isI (Ev.sub (Ev.nmI S) Ev.int) (cp c2)) (hs.sub Lx.here) c0 (GR c2 (aj (cX i4) hg2)) (ck hy rfl))) hq)
   cases hq:gL xs ys (b'.1-1) (b'.2.1-1) with
   | false=>exact ⟨false,T false hq,fun O=>stop (fun q=>by rw [hq] at q;cases q.2.2),fun q=>by cases q⟩
   | true=>
    refine ⟨true,T true hq,(fun q=>by cases q),fun O tk=>?_⟩
    refine aT (pW (s:=sh s h tk) (a:=((b'.1-1:Nat):Int)) (b:=((b'.2.1-1:Nat):Int)) (d:=((b'.2.2+1:Nat):Int)) hA.hd S (Ev.isI (Ev.sub (Ev.nmI S) Ev.int) (cp c1)) (Ev.isI (Ev.sub (Ev.nmI S) Ev.int) (cp c2)) (Ev.isI (Ev.add (Ev.nmI S) Ev.int) rfl) fun h1 tk1 ta tb tc S1=>⟨rfl,aw ?_⟩)
    refine ⟨h1,tk1,b'.1-1,rfl,by exact (aA (aa (cW (.le (.k 1) aq (.lt ar aq .o)) τ c1))),(b'.1-1,b'.2.1-1,b'.2.2+1),ta,tb,tc,rfl,C.dO.mpr ⟨cG c1,cG c2,Ip c1 i3,Ip c2 i4⟩,(C.zx c1 c2 hq).trans he,k.trans S1.kept,(Lx.next S1 Lx.st.inC).forget (iY.mem ⟨rfl,rfl,rfl,rfl,rfl,rfl,rfl,rfl,rfl,rfl,rfl,rfl,rfl,rfl,trivial⟩)⟩
  ·refine ⟨false,Et.and fun whole=>jd.yes (Et.of (Et.ints (Ev.nmI S) (Ev.nmI S)) ?_) (jd.no (Et.of (Et.ints (Ev.nmI S) (Ev.nmI S)) ?_)),fun O=>stop (fun q=>c2 q.2.1),fun q=>by cases q⟩
   ·simp only [eI];exact decide_eq_true (cl c1)
   ·simp only [eI];exact decide_eq_false (cm c2)
 ·refine ⟨false,Et.and fun whole=>jd.no (Et.of (Et.ints (Ev.nmI S) (Ev.nmI S)) ?_),fun O=>stop (fun q=>c1 q.1),fun q=>by cases q⟩
  simp only [eI];exact decide_eq_false (cm c1)
end
section
variable {w:aP} {A:aS} {g₀:ay} {L J x f sd B U Z uj:aH} {xs ys:List Int} {g:C.eS} {s:am} {t1 t2 t3 t4 u1 u2 u3:jR} {b:C.cv}
theorem En (hA:eV A 0) (hf:IL g₀ f xs) (hs:IL g₀ sd ys) (hU:g₀.get? U=some (kH "set.__contains__" uj)) (hS:SI.iS w g₀ uj []) (hg3:g.ah≤xs.length) (hg2:g.bh≤ys.length) (hy:ys.length≤3000) (hx:xs.length≤3000) (hb:C.ins g b=true)
  (Lh:Lp g₀ (FA (cE L)) (cE L) s.heap (fm x f sd B U Z g t1 t2 t3 t4 b u1 u2 u3 J []) []) :
  aF (aB PQ w) A (fA (yi.getD 9 (.Pass p0)) (cE L)) (fun fl s'=>fl=.next∧zf fun h' tk v1 v2 v3=>jn (s'=(sh s h' tk)) (ba (FA (cE L)) s.heap h') (Lp g₀ (FA (cE L)) (cE L) h' (fm x f sd B U Z g t1 t2 t3 t4 (C.mW (gL xs ys) g b) v1 v2 v3 J []) [])) (fun O O=>False) s:=by
 refine lM (n₀:=g.ah-b.2.2) (fun n h=>oN fun b' v1 v2 v3=>qp (n=g.ah-b'.2.2) (C.ins g b'=true) (C.mW (gL xs ys) g b'=C.mW (gL xs ys) g b) (ba (FA (cE L)) s.heap h) (Lp g₀ (FA (cE L)) (cE L) h (fm x f sd B U Z g t1 t2 t3 t4 b' v1 v2 v3 J []) []))
  ⟨b,u1,u2,u3,rfl,hb,rfl,.refl _ _,Lh⟩ ?_
 rintro n h ⟨b',v1,v2,v3,rfl,hb',he,k,Lx⟩
 have S:=Lx.st
 obtain ⟨i1,i2,i3,i4⟩:=C.dO.mp hb'
 have stop:¬(b'.1+b'.2.2<g.ah∧b'.2.1+b'.2.2<g.bh∧gL xs ys (b'.1+b'.2.2) (b'.2.1+b'.2.2)=true)→∀tk':Nat,(dW.next=.next∧zf fun h' tk v1 v2 v3=>jn (((sh s h tk'):am)=(sh s h' tk)) (ba (FA (cE L)) s.heap h') (Lp g₀ (FA (cE L)) (cE L) h' (fm x f sd B U Z g t1 t2 t3 t4 (C.mW (gL xs ys) g b) v1 v2 v3 J []) [])):=fun hn tk'=>
  ⟨rfl,h,tk',v1,v2,v3,rfl,k,by rw [←he,C.zT hn];exact Lx⟩
 by_cases c1:b'.1+b'.2.2<g.ah
 ·by_cases c2:b'.2.1+b'.2.2<g.bh
  ·have hS':SI.iS w h uj []:=by obtain ⟨es,ep,t,q1,q2⟩:=hS;exact ⟨es,ep,t,Lx.here _ _ q1,q2⟩
   have T:∀q,gL xs ys (b'.1+b'.2.2) (b'.2.1+b'.2.2)=q→Et PQ w A (cE L) h (Fj (yi.getD 9 (.Pass p0))) q:=fun q hq=>by
    refine Et.and fun whole=>jd.yes (Et.of (Et.ints (Ev.add (Ev.nmI S) (Ev.nmI S)) (Ev.nmI S)) ?_) (jd.yes (Et.of (Et.ints (Ev.add (Ev.nmI S) (Ev.nmI S)) (Ev.nmI S)) ?_) (jd.yes (Et.not (Et.bool (Ev.isb (Ev.nm S) (Lx.here _ _ hU) hS' (Ev.itemL (k:=((b'.2.1+b'.2.2:Nat):Int)) (Ev.nm S) (Ev.isI (Ev.add (Ev.nmI S) (Ev.nmI S)) rfl) (hs.sub Lx.here) c0 (cl (av c2 hg2)) (ck hy rfl))))) ?_))
    ·simp only [eI];exact decide_eq_true (ca c1)
    ·simp only [eI];exact decide_eq_true (ca c2)
    ·refine jd.last (Et.of (Et.ints (op:=.Eq) (Ev.itemL (k:=((b'.1+b'.2.2:Nat):Int)) (Ev.nm S) (Ev.isI (Ev.add (Ev.nmI S) (Ev.nmI S)) rfl) (hf.sub Lx.here) c0 (cl (av c1 hg3)) (ck hx rfl)) (Ev.itemL (k:=((b'.2.1+b'.2.2:Nat):Int)) (Ev.nm S) (Ev.isI (Ev.add (Ev.nmI S) (Ev.nmI S)) rfl) (hs.sub Lx.here) c0 (cl (av c2 hg2)) (ck hy rfl))) hq)
   cases hq:gL xs ys (b'.1+b'.2.2) (b'.2.1+b'.2.2) with
   | false=>exact ⟨false,T false hq,fun O=>stop (fun q=>by rw [hq] at q;cases q.2.2),fun q=>by cases q⟩
   | true=>
    refine ⟨true,T true hq,(fun q=>by cases q),fun O tk=>?_⟩
    refine aT (wN (s:=sh s h tk) (a:=(b'.2.2:Int)) S Ev.int fun v h1 tk1 hv S1=>⟨rfl,aw ?_⟩)
    obtain ⟨tc,rfl⟩:=hv
    have e1:(b'.2.2:Int)+1=((b'.2.2+1:Nat):Int):=rfl
    rw [e1] at S1
    refine ⟨h1,tk1,g.ah-(b'.2.2+1),rfl,by exact cR (.lt aq ar (.le az (.p ar aI) (.eq (.p aq (.s 3 1)) az .o))) τ bZ (aa (c8 (.le (.s 0 1) ar (.lt (.p az aq) ar .o)) τ c1)),(b'.1,b'.2.1,b'.2.2+1),v1,v2,tc,rfl,C.dO.mpr ⟨i1,i2,c1,c2⟩,(C.yl c1 c2 hq).trans he,k.trans S1.kept,(Lx.next S1 Lx.st.inC).forget (iY.mem ⟨rfl,rfl,rfl,rfl,rfl,rfl,rfl,rfl,rfl,rfl,rfl,rfl,rfl,rfl,trivial⟩)⟩
  ·refine ⟨false,Et.and fun whole=>jd.yes (Et.of (Et.ints (Ev.add (Ev.nmI S) (Ev.nmI S)) (Ev.nmI S)) ?_) (jd.no (Et.of (Et.ints (Ev.add (Ev.nmI S) (Ev.nmI S)) (Ev.nmI S)) ?_)),fun O=>stop (fun q=>c2 q.2.1),fun q=>by cases q⟩
   ·simp only [eI];exact decide_eq_true (ca c1)
   ·simp only [eI];exact decide_eq_false (cn c2)
 ·refine ⟨false,Et.and fun whole=>jd.no (Et.of (Et.ints (Ev.add (Ev.nmI S) (Ev.nmI S)) (Ev.nmI S)) ?_),fun O=>stop (fun q=>c1 q.1),fun q=>by cases q⟩
  simp only [eI];exact decide_eq_false (cn c1)
end
section
variable {w:aP} {A:aS} {g₀:ay} {L J x f sd B U Z uj:aH} {xs ys:List Int} {g:C.eS} {s:am} {t1 t2 t3 t4 u1 u2 u3:jR} {b:C.cv}
theorem Eo (hs:IL g₀ sd ys) (hU:g₀.get? U=some (kH "set.__contains__" uj)) (hS:SI.iS w g₀ uj []) (hg2:g.bh≤ys.length) (hy:ys.length≤3000) (hb:C.ins g b=true)
  (Lx:Lp g₀ (FA (cE L)) (cE L) s.heap (fm x f sd B U Z g t1 t2 t3 t4 b u1 u2 u3 J []) []) {Q:dW→am→Prop} (q:∀tk:Nat,Q .next { s with toks:=tk}) :
  aF (aB PQ w) A (fA (yi.getD 10 (.Pass p0)) (cE L)) Q (fun O O=>False) s:=by
 have S:=Lx.st
 obtain ⟨i1,i2,i3,i4⟩:=C.dO.mp hb
 have hS':SI.iS w s.heap uj []:=by obtain ⟨es,ep,t,q1,q2⟩:=hS;exact ⟨es,ep,t,Lx.here _ _ q1,q2⟩
 refine lM (n₀:=0) (fun O h=>h=s.heap) rfl ?_
 rintro n h rfl
 refine ⟨false,?_,fun O=>q,(fun z=>by cases z)⟩
 by_cases c1:g.al<b.1
 ·by_cases c2:g.bl<b.2.1
  ·refine Et.and fun whole=>jd.yes (Et.of (Et.ints (Ev.nmI S) (Ev.nmI S)) ?_) (jd.yes (Et.of (Et.ints (Ev.nmI S) (Ev.nmI S)) ?_) (jd.no (Et.bool (Ev.isb (Ev.nm S) (Lx.here _ _ hU) hS' (Ev.itemL (k:=((b.2.1-1:Nat):Int)) (Ev.nm S) (Ev.isI (Ev.sub (Ev.nmI S) Ev.int) (cp c2)) (hs.sub Lx.here) c0 (GR c2 (aj (cX i4) hg2)) (ck hy rfl))))))
   ·simp only [eI];exact decide_eq_true (cl c1)
   ·simp only [eI];exact decide_eq_true (cl c2)
  ·refine Et.and fun whole=>jd.yes (Et.of (Et.ints (Ev.nmI S) (Ev.nmI S)) ?_) (jd.no (Et.of (Et.ints (Ev.nmI S) (Ev.nmI S)) ?_))
   ·simp only [eI];exact decide_eq_true (cl c1)
   ·simp only [eI];exact decide_eq_false (cm c2)
 ·refine Et.and fun whole=>jd.no (Et.of (Et.ints (Ev.nmI S) (Ev.nmI S)) ?_)
  simp only [eI];exact decide_eq_false (cm c1)
theorem Ep (hs:IL g₀ sd ys) (hU:g₀.get? U=some (kH "set.__contains__" uj)) (hS:SI.iS w g₀ uj []) (hg2:g.bh≤ys.length) (hy:ys.length≤3000) (hb:C.ins g b=true)
  (Lx:Lp g₀ (FA (cE L)) (cE L) s.heap (fm x f sd B U Z g t1 t2 t3 t4 b u1 u2 u3 J []) []) {Q:dW→am→Prop} (q:∀tk:Nat,Q .next { s with toks:=tk}) :
  aF (aB PQ w) A (fA (yi.getD 11 (.Pass p0)) (cE L)) Q (fun O O=>False) s:=by
 have S:=Lx.st
 obtain ⟨i1,i2,i3,i4⟩:=C.dO.mp hb
 have hS':SI.iS w s.heap uj []:=by obtain ⟨es,ep,t,q1,q2⟩:=hS;exact ⟨es,ep,t,Lx.here _ _ q1,q2⟩
 refine lM (n₀:=0) (fun O h=>h=s.heap) rfl ?_
 rintro n h rfl
 refine ⟨false,?_,fun O=>q,(fun z=>by cases z)⟩
 by_cases c1:b.1+b.2.2<g.ah
 ·by_cases c2:b.2.1+b.2.2<g.bh
  ·refine Et.and fun whole=>jd.yes (Et.of (Et.ints (Ev.add (Ev.nmI S) (Ev.nmI S)) (Ev.nmI S)) ?_) (jd.yes (Et.of (Et.ints (Ev.add (Ev.nmI S) (Ev.nmI S)) (Ev.nmI S)) ?_) (jd.no (Et.bool (Ev.isb (Ev.nm S) (Lx.here _ _ hU) hS' (Ev.itemL (k:=((b.2.1+b.2.2:Nat):Int)) (Ev.nm S) (Ev.isI (Ev.add (Ev.nmI S) (Ev.nmI S)) rfl) (hs.sub Lx.here) c0 (cl (av c2 hg2)) (ck hy rfl))))))
   ·simp only [eI];exact decide_eq_true (ca c1)
   ·simp only [eI];exact decide_eq_true (ca c2)
  ·refine Et.and fun whole=>jd.yes (Et.of (Et.ints (Ev.add (Ev.nmI S) (Ev.nmI S)) (Ev.nmI S)) ?_) (jd.no (Et.of (Et.ints (Ev.add (Ev.nmI S) (Ev.nmI S)) (Ev.nmI S)) ?_))
   ·simp only [eI];exact decide_eq_true (ca c1)
   ·simp only [eI];exact decide_eq_false (cn c2)
 ·refine Et.and fun whole=>jd.no (Et.of (Et.ints (Ev.add (Ev.nmI S) (Ev.nmI S)) (Ev.nmI S)) ?_)
  simp only [eI];exact decide_eq_false (cn c1)
end
theorem C.ins_back {e:Nat→Nat→Bool} {g:C.eS} {x:C.cv} (h:C.ins g x=true):C.ins g (C.back e g x)=true:=by
 obtain ⟨a,b,c,d⟩:=C.dO.mp h
 have:=C.mR e (fU (x.1-g.al) (x.2.1-g.bl)) x.1 x.2.1
 unfold C.back
 generalize C.nO e (fU (x.1-g.al) (x.2.1-g.bl)) x.1 x.2.1=t at this ⊢
 have h1:=eB a (aj this (aN _ _))
 have h2:=eB b (aj this (br _ _))
 clear this
 exact C.dO.mpr ⟨ky h1,ky h2,IG (cX h1) c,IG (cX h2) d⟩
theorem vn (P:bF):nsIn (KF P) cu wC=some (some (.ref 135)):=by kernel_rfl!
section
variable {prog:aV} {w:aP} {A:aS} {e:gy} {h:ay}
theorem Eg.callM {x:bU} {p pos:dJ} {C:aH} {ex:au} {rest:List au} {P:List ag→ay→Prop} {R:ag→ay→Prop} (N:Ev prog w A e h (.Name x p) (· = .ref C)) (X:Cx w h) (H:Es prog w A e h (ex::rest) P)
  (K:∀vs h1,ba [] h h1→P vs h1→Cg prog w A h1 (.ref C) vs R) (hk:autoParam (∀P,keepIn (KF P) (.ref C)=true) rfB) (he:autoParam (aE (ex::rest) e=(false,cO ex e)::aE rest e) rfA) (hp:autoParam ((gK pos (aE rest e)).any (·.1)=false) rfA) :
  Eg prog w A e h (.Call (.Name x p) (ex::rest) [] pos) R:=fun s Q E hs k=>eL (N s _ _ hs fun v tk hv=>by
 subst hv
 exact callWith_K (first:=[]) X.K (hk _) (H pos _ _ _ hs fun vs h1 tk1 k1 hvs=>⟨X.K.keeps k1.all,K vs h1 k1 hvs _ _ _ rfl fun v h2 tk2 k2 hr=>k v h2 tk2 (k1.trans k2) hr⟩) he hp)
end
section
variable {w:aP} {A:aS} {h:ay} {x dx f sd d uj:aH} {od:cA} {ma:List (bU×ag)} {xs ys:List Int} {S:Int→Bool} {g:C.eS} {t1 t2 t3 t4:jR}
theorem Ek (hA:eV A 2) (X:Cx w (bC h [])) (hx:h.get? x=some (dA 242 dx)) (hd:h.get? dx=some od) (hO:DO od ma) (hmA:iF ma nA=some (.ref f)) (hmB:iF ma nB=some (.ref sd)) (hmD:iF ma wz=some (.ref d)) (hmJ:iF ma wA=some (.ref uj)) (hf:IL (bC h []) f xs) (hs:IL (bC h []) sd ys) (hB:C5 w (bC h []) d ys S) (hBs:(d==dF)=false) (hS:SI.iS w (bC h []) uj [])
  (hg:C.Sub xs.length ys.length g) (hxl:xs.length≤3000) (hyl:ys.length≤3000) :
  Cd PQ w A h [] (.ref 196) [.ref x,.int g.al t1,.int g.ah t2,.int g.bl t3,.int g.bh t4] (fun v h'=>∃vs,cf vs [((C.eN (gL xs ys) g (C.bst (ie xs ys S) g)).1:Int),((C.eN (gL xs ys) g (C.bst (ie xs ys S) g)).2.1:Int),((C.eN (gL xs ys) g (C.bst (ie xs ys S) g)).2.2:Int)]∧mO h vs v h'):=by
 have X0:=X.sub (cD h [])
 obtain ⟨mg,mb,T⟩:=X0.T
 refine Cd.enter (c:=[]) (by have:=hA.dp;exact cW (.lt aq ar (.lt (.s 0 2) ar .o)) τ this) (X0.K _ _ (Dh _)) rfl T.nolimit (f7 X0.K (BE _)) rfl (fun s hs=>Bk (hs▸X0) _ _ _ _ _) (by decide +kernel) (Ag rfl rfl rfl rfl rfl) rfl il (fun L s hL hk S0=>?_)
 have hA1:=hA.deeper (di rU L 196)
 have X1:∀h',Sub (bp h []) h'→Cx w h':=fun h' q=>X0.sub (fun b o z=>q b o (bq [] z (by simp)))
 have H1:∀h',Sub (bp h []) h'→Sub h h':=fun h' q b o z=>q b o (bq [] z (by simp))
 refine wq fun R1_ hR1=>?_
 refine aT (md fun tk=>⟨rfl,?_⟩)
 obtain ⟨es,ep,st,hS1,hS2⟩:=id hS
 have hsu:Sub h s.heap:=H1 _ S0.keep
 have hx0:s.heap.get? x=some (dA 242 dx):=hsu _ _ hx
 have hd0:s.heap.get? dx=some od:=hsu _ _ hd
 have hu0:s.heap.get? uj=some (SI.iT es ep st):=hsu _ _ (cZ hS1).1
 refine aT (gN (s:={ s with toks:=tk}) (P:=fun v h'=>g8 fun u t=>lO (v=.ref t) (IsTup h' t #[.ref f,.ref sd,.ref d,.ref u]) (h'.get? u=some (kH "set.__contains__" uj)) (s.heap.get? u=none))
  ((Eg.tup (P:=fun vs h'=>∃u,vs=[.ref f,.ref sd,.ref d,.ref u]∧iK s.heap h' u (kH "set.__contains__" uj)) (Es.cons (Ev.gg (Ev.attr (X1 _ S0.keep) (Ev.nm S0) hx0 hd0 hO hmA)) (fun v h1 O hv=>by
   obtain ⟨rfl,rfl⟩:=hv
   exact Es.cons (Ev.gg (Ev.attr (X1 _ S0.keep) (Ev.nm S0) hx0 hd0 hO hmB)) (fun v h1 O hv=>by
    obtain ⟨rfl,rfl⟩:=hv
    exact Es.cons (Ev.gg (Ev.attr (X1 _ S0.keep) (Ev.nm S0) hx0 hd0 hO hmD)) (fun v h1 O hv=>by
     obtain ⟨rfl,rfl⟩:=hv
     exact (Es.one (Eg.getCon (Ev.attr (X1 _ S0.keep) (Ev.nm S0) hx0 hd0 hO hmJ) hu0)).mono fun vs h2 O q=>by
      obtain ⟨v,rfl,u,rfl,hN⟩:=q
      exact ⟨u,rfl,hN⟩)))) (by rintro vs h' ⟨u,rfl,_⟩;show 4≤2^24;decide)).mono fun v h' O q=>by
   obtain ⟨vs,h1,a,k1,⟨u,rfl,hN⟩,rfl,hN'⟩:=q
   exact ⟨u,a,rfl,⟨_,hN'.yes,rfl,_,rfl⟩,hN'.kept.get hN.yes,hN.no⟩) fun v h1 tk1 k1 hv=>?_)
 obtain ⟨U,t,rfl,hT,hU1,hU0⟩:=hv
 refine su (s:=sh s h1 tk1) hA1.hd (S0.add k1 hU1 hU0) hT fun h2 tk2 S2=>⟨rfl,?_⟩
 refine gO (fV (s:=sh s h2 tk2) (b:=false) (Et.cmp (Ev.nm S2) Ev.none (fun a b ha hb s Q E hs k=>by subst ha;subst hb;exact is_none_ne (by intro x;cases x) (k s.toks))) fun tk3=>?_)
 skip
 refine aw (show aF _ _ _ _ _ _ from ?_)
 refine gO (fV (s:=sh s h2 tk3) (b:=false) (Et.cmp (Ev.nm S2) Ev.none (fun a b ha hb s Q E hs k=>by subst ha;subst hb;exact is_none_ne (by intro x;cases x) (k s.toks))) fun tk4=>?_)
 skip
 refine aw (show aF _ _ _ _ _ _ from ?_)
 refine aT (pW (s:=sh s h2 tk4) hA1.hd S2 (Ev.nmI S2) (Ev.nmI S2) Ev.int fun h3 tk5 ta tb tc S3=>⟨rfl,?_⟩)
 refine aT (cT (s:=sh s h3 tk5) (P:=fun v h'=>v=.ref h3.objs.size∧iK h3 h' h3.objs.size oq) Eg.dict1 fun v h4 tk6 k4 hv=>?_)
 obtain ⟨rfl,hN4⟩:=hv
 have hNs:=ur (X1 _ S3.keep)
 refine bE (s:=sh s h4 tk6) (S3.add k4 hN4.yes hN4.no) fun h5 tk7 S5=>⟨rfl,?_⟩
 generalize h3.objs.size=J at hN4 hNs S5 ⊢
 refine aT (cT (s:=sh s h5 tk7) (P:=fun v h'=>g8 fun z n=>v=.ref z∧iK h5 h' z (ch #[] n)) ((Eg.lst Es.nil (by rintro vs h' ⟨_,rfl⟩;exact aX _)).mono fun v h' O q=>?_) fun v h6 tk8 k6 hv=>?_)
 ·obtain ⟨vs,h1',a,k1',⟨rfl,rfl⟩,rfl,hN⟩:=q
  exact ⟨a,_,rfl,hN⟩
 obtain ⟨Z,nz,rfl,hZ⟩:=hv
 refine bE (s:=sh s h6 tk8) (S5.add k6 hZ.yes hZ.no) fun h7 tk9 S7=>⟨rfl,?_⟩
 have hFA:FA (di rU L 196)=FA (cE L):=rfl
 have hv7:Sub (bC h []) (bC h7 (FA (cE L))):=cM fun b o q n O=>⟨S7.keep _ _ (bq [] q (by simp)),fun z=>by
  have:=S7.off b z
  rw [bq [] q (by simp)] at this;cases this⟩
 have L7:Lp (bC h7 (FA (cE L))) (FA (cE L)) (cE L) h7 (fm x f sd d U Z g t1 t2 t3 t4 (g.al,g.bl,0) ta tb tc J []) []:=
  Lp.forget ⟨fun O O q=>q,(S7.less (c':=[]) il).rebase (FA (cE L)) (fun O q=>q) il⟩ (iY.mem ⟨rfl,rfl,rfl,rfl,rfl,rfl,rfl,rfl,rfl,rfl,rfl,rfl,rfl,rfl,trivial⟩)
 have X7:=X.sub hv7
 have hU7:(bC h7 (FA (cE L))).get? U=some (kH "set.__contains__" uj):=cH (S7.get (.tail _ (.tail _ (.head _)))) (S7.own _ (.tail _ (.tail _ (.head _)))).2.1 rfl
 have hZ7:(bC h7 (FA (cE L))).get? Z=some (ch #[] nz):=cH (S7.get (.head _)) (S7.own _ (.head _)).2.1 rfl
 have hS7:SI.iS w (bC h7 (FA (cE L))) uj []:=⟨es,ep,st,hv7 _ _ hS1,hS2⟩
 refine aT (show aF _ _ (fA (yi.getD 7 (.Pass p0)) (cE L)) _ _ _ from aL (yk (s:=sh s h7 tk9) (hA1.less (aX _)) X7 (hf.sub hv7) (hB.sub hv7) hBs hZ7 hg.a1 hg.a2 hg.b1 hg.b2 hyl hxl (S7.get (.tail _ (.head _))) (DI.nil w) hNs (S7.own _ (.tail _ (.head _))).2.1 L7) (fun fl s' q=>?_) fun O O z=>z)
 obtain ⟨rfl,h8,tk10,v1,v2,v3,J8,rfl,k8,L8⟩:=q
 refine ⟨rfl,?_⟩
 have hin:=C.kf hg (C.kg (r:=ie xs ys S) hg)
 refine aT (show aF _ _ (fA (yi.getD 8 (.Pass p0)) (cE L)) _ _ _ from aL (Em (s:=sh s h8 tk10) (hA1.less (aX _)) (hf.sub hv7) (hs.sub hv7) hU7 hS7 hg.a2 hg.b2 hyl hxl hin L8) (fun fl s' q=>?_) fun O O z=>z)
 obtain ⟨rfl,h9,tk11,v4,v5,v6,rfl,k9,L9⟩:=q
 refine ⟨rfl,?_⟩
 have hin2:=C.ins_back (e:=gL xs ys) hin
 refine aT (show aF _ _ (fA (yi.getD 9 (.Pass p0)) (cE L)) _ _ _ from aL (En (s:=sh s h9 tk11) (hA1.less (aX _)) (hf.sub hv7) (hs.sub hv7) hU7 hS7 hg.a2 hg.b2 hyl hxl hin2 L9) (fun fl s' q=>?_) fun O O z=>z)
 obtain ⟨rfl,h10,tk12,v7,v8,v9,rfl,k10,L10⟩:=q
 refine ⟨rfl,?_⟩
 rw [C.wo hin] at L10
 have f:=C.dC (gL xs ys) hin
 have hin3:C.ins g (C.eN (gL xs ys) g (C.bst (ie xs ys S) g))=true:=C.dO.mpr ⟨f.al,f.bl,f.ah,f.bh⟩
 refine aT (show aF _ _ (fA (yi.getD 10 (.Pass p0)) (cE L)) _ _ _ from Eo (s:=sh s h10 tk12) (hs.sub hv7) hU7 hS7 hg.b2 hyl hin3 L10 fun tk13=>⟨rfl,?_⟩)
 refine aT (show aF _ _ (fA (yi.getD 11 (.Pass p0)) (cE L)) _ _ _ from Ep (s:=sh s h10 tk13) (hs.sub hv7) hU7 hS7 hg.b2 hyl hin3 L10 fun tk14=>⟨rfl,?_⟩)
 have S10:=L10.st
 have hsub10:Sub h h10:=fun b o q=>by
  have h7q:=S7.keep _ _ (bq [] q (by simp))
  have hb:b∉FA (cE L):=fun z=>by
   have:=S7.off b z
   rw [bq [] q (by simp)] at this;cases this
  exact k10 _ _ (k9 _ _ (k8 _ _ h7q hb) hb) hb
 have X10:Cx w h10:=X0.sub hsub10
 refine nv (s:=sh s h10 tk14) (P:=mO h10 [.int ((C.eN (gL xs ys) g (C.bst (ie xs ys S) g)).1:Int) v7,.int ((C.eN (gL xs ys) g (C.bst (ie xs ys S) g)).2.1:Int) v8,.int ((C.eN (gL xs ys) g (C.bst (ie xs ys S) g)).2.2:Int) v9]) (Eg.callM (Ev.glob X10 vn) X10 (Es.more (Ev.nm S10) (Es.more (Ev.nm S10) (Es.more (Ev.nm S10) Es.nil))) fun vs h11 k11 hvs=>?_) fun v h' tk15 k' hp=>?_
 ·obtain ⟨rfl,_,_,rfl,rfl,_,_,rfl,rfl,_,_,rfl,rfl,rfl⟩:=hvs
  exact Af (hA1.less (by omega)) X10
 ·obtain ⟨r,dx',rfl,hr,hdx,hm⟩:=hp
  refine hR1 (.ret _) _ ⟨h',tk15,rfl,fun b o q=>k'.get (hsub10 _ _ (fE [] q)),_,.cons _ _ (.cons _ _ (.cons _ _ .nil)),r,dx',rfl,?_,?_,hm⟩
  ·cases q:h.get? r with
   | none=>rfl
   | some o=>have:=hsub10 _ _ q;exact nn hr this
  ·cases q:h.get? dx' with
   | none=>rfl
   | some o=>have:=hsub10 _ _ q;exact nn hdx this
end
theorem wH (P:bF):hY (KF P) (.ref 135) "__iter__" = some (some (.builtin "tuple.__iter__")):=by kernel_rfl!
theorem HZ (P:bF):hY (KF P) (.ref 135) "__lt__" = some (some (.builtin "tuple.__lt__")):=by kernel_rfl!
theorem GD (P:bF):hY (KF P) (.ref 135) "__len__" = some (some (.builtin "tuple.__len__")):=by kernel_rfl!
theorem CX:kA "tuple.__iter__" = some .slot:=by decide +kernel
theorem AS:splitId "tuple.__iter__" = some ("tuple", "__iter__"):=by decide +kernel
theorem CY:kA "tuple.__lt__" = some .slot:=by decide +kernel
theorem AT:splitId "tuple.__lt__" = some ("tuple", "__lt__"):=by decide +kernel
theorem C1:kA "tuple.__len__" = some .slot:=by decide +kernel
theorem AX:splitId "tuple.__len__" = some ("tuple", "__len__"):=by decide +kernel
noncomputable def Sq (h:ay) (t:aH) (items:Array ag):Prop:=g8 fun o n=>h.get? t=some o∧o.data=.seq items n
theorem Sq.sub {h h':ay} {t:aH} {items:Array ag} (x:Sq h t items) (hk:∀o,h.get? t=some o→h'.get? t=some o):Sq h' t items:=by obtain ⟨o,n,ho,hd⟩:=x;exact ⟨o,n,hk o ho,hd⟩
theorem Cm {h:ay} {r dx:aH} {vs:List ag} (hr:h.get? r=some (jV dx vs)):Sq h r vs.toArray:=⟨_,_,hr,rfl⟩
section
variable {prog:aV} {w:aP} {A:aS} {E:ag→am→Prop} {s:am} {r dx:aH} {vs rest:List ag}
theorem ww {M:Model} {h:ay} (hr:h.get? r=some (jV dx vs)):dn M h (mh (.ref r)) (.ref 135):=(mN hr).andThen .now
theorem Dx {M:Model} {h:ay} (C:Cx w h) (hr:h.get? r=some (jV dx vs)):dn M h (jt (.ref r) (.type "tuple")) true:=(ww hr).andThen (looks_subIn C.K (DA _))
theorem lH {M:Model} {h:ay} {name:bU} {v:Option ag} (C:Cx w h) (hr:h.get? r=some (jV dx vs)) (hf:∀P,hY (KF P) (.ref 135) name=some v):dn M h (specialOf (.ref r) name) v:=
 (ww hr).andThen (looks_findIn C.K (hf _))
theorem oY {id n:String} {b:cc} {Q:ag→am→Prop} (C:Cx w s.heap) (hr:s.heap.get? r=some (jV dx vs)) (hp:plainId id=true) (hb:lr table id=some b) (hk:kA id=some .slot) (hs:splitId id=some ("tuple",n)) (ha:ll id ⟨.ref r::rest,[]⟩)
  (hc:aF (aB prog w) A.in1 (b ⟨.ref r::rest,[]⟩) (fun fin s'=>∃v,fin=.done (.ret v)∧Q v s') E s):aF (aB prog w) A (f6 (.builtin id) (.ref r::rest)) Q E s:=by
 refine f0 (mH hp hb (@check_slot (aB prog w) A.in1 _ s id "tuple" n (.ref r) rest [] _ hk hs (Dx C hr) ha (aL hc (fun fin s' h'=>?_) fun O O h'=>h')))
 obtain ⟨v,rfl,h'⟩:=h'
 exact h'
theorem wp {Q:ag→am→Prop} (C:Cx w s.heap) (hr:s.heap.get? r=some (jV dx vs))
  (hQ:Q (.ref s.heap.objs.size) { s with heap:=s.heap.push { cls:=.type "tuple_iterator",data:=.fields #[.ref r,.int 0 0]}}):aF (aB prog w) A (pyIter (.ref r)) Q E s:=by
 unfold pyIter
 refine ae ((lH C hr wH).here ?_)
 skip
 refine ae ?_
 skip
 refine bM (ae (ae ((lH C hr wH).here ?_)))
 skip
 have fin:aF (aB prog w) A (f6 (.builtin "tuple.__iter__") [.ref r]) (fun v s₁=>aF (aB prog w) A (specialOf v "__next__") (fun o s₂=>∃f,o=some f∧Q v s₂) E s₁) E s:=by
  refine oY C hr slot_tuple_iter.plain entry_tuple_iter CX AS (args_tuple_iter _) ?_
  show aF _ _ (do ret (←newFields "tuple_iterator" [.ref r,dy 0])) _ _ s
  exact ae (dq (ao ⟨_,rfl,nC ⟨_,bG _ rfl,rfl⟩ kU.lookup ⟨_,rfl,hQ⟩⟩))
 refine ae (eP (wpAny_ite ?_))
 split
 ·refine ae (ao (ao ?_))
  refine ae (aL fin (fun v s₁ h₁=>ao ?_) fun O O z=>z)
  refine ae (aL h₁ (fun o s₂ h₂=>?_) fun O O z=>z)
  obtain ⟨f,rfl,hq⟩:=h₂
  exact ao hq
 ·refine wpAny_tryCatch (ae (ao (ao ?_)))
  refine ae (aL fin (fun v s₁ h₁=>ao ?_) fun O O z=>z)
  refine ae (aL h₁ (fun o s₂ h₂=>?_) fun O O z=>z)
  obtain ⟨f,rfl,hq⟩:=h₂
  exact ao hq
theorem lK {it t:aH} {i:Nat} {items:Array ag} {x:ag} {Q:Option ag→am→Prop} (hit:IsTupIter s.heap it t i) (ht:Sq s.heap t items) (hx:items[i]? = some x)
  (hQ:∀h',IsTupIter h' it t (i+1)→cq it s.heap h'→Q (some x) { s with heap:=h'}):aF (aB prog w) A (pyNext (.ref it)) Q E s:=by
 obtain ⟨o,ho,hc,hd⟩:=id hit
 obtain ⟨ol,nl,hol,hdl⟩:=ht
 skip
 refine ae (jY (eQ (name:=cL "__next__") hit.typeIs kU (db kU hit.typeIs entry_tupleiter_next ?_ (args_tupleiter_next _))))
 show aF _ _ (field (.ref it) 0 >>= _) _ _ s
 refine ae (iQ ho hd (x:=.ref t) rfl ?_)
 skip
 refine (if_neg (show ¬((oo t==kc)=true) from sN)).symm▸?_
 show aF _ _ (field (.ref it) 1 >>= _) _ _ s
 refine ae (iQ ho hd (x:=.int i 0) rfl ?_)
 skip
 refine ae (fH hol hdl ?_)
 simp only [fB,hx]
 refine ae (fh ho hd (by simp) (ao ⟨x,rfl,ao (hQ _ ?_ (cj ..))⟩))
 exact ⟨_,fw _ ho (cA.isFreed_of_fields (cA.data_mapFields hd _)),(cA.cls_mapFields ..).trans hc,by rw [cA.data_mapFields hd];simp [dy]⟩
theorem qK {it t:aH} {i:Nat} {items:Array ag} {Q:Option ag→am→Prop} (hh:A.handled=none) (hit:IsTupIter s.heap it t i) (ht:Sq s.heap t items) (hx:items[i]? = none)
  (hQ:∀h',ay.ExtBut it s.heap h'→Q none { s with heap:=h'}):aF (aB prog w) A (pyNext (.ref it)) Q E s:=by
 obtain ⟨o,ho,hc,hd⟩:=id hit
 obtain ⟨ol,nl,hol,hdl⟩:=ht
 skip
 refine ae (jY (eQ (name:=cL "__next__") hit.typeIs kU (db kU hit.typeIs entry_tupleiter_next ?_ (args_tupleiter_next _))))
 show aF _ _ (field (.ref it) 0 >>= _) _ _ s
 refine ae (iQ ho hd (x:=.ref t) rfl ?_)
 skip
 refine (if_neg (show ¬((oo t==kc)=true) from sN)).symm▸?_
 show aF _ _ (field (.ref it) 1 >>= _) _ _ s
 refine ae (iQ ho hd (x:=.int i 0) rfl ?_)
 skip
 refine ae (fH hol hdl ?_)
 simp only [fB,hx]
 refine ae (fg (ae (fh ho hd (by simp) ?_)))
 skip
 refine ae ?_
 skip
 refine ae (dq ?_ (by show 0≤2^24;decide))
 refine ae (m:=firstArgMember _ _) (iR (a:=kc) (by first|rfl|(simp only [firstArgMember];rfl)) ?_)
 refine dq ?_ (by size_fits)
 dsimp only
 refine ae (wpAny_handled ?_)
 refine (cB (show A.in1.handled=none from hh))▸?_
 refine ae (ao (wpAny_throw ?_))
 refine ae (wpAny_isInstance (T:= "StopIteration") (b:=true) ⟨_,bG _ rfl,rfl⟩ isSubtype_stop ?_)
 exact ao (hQ _ (((cj ..).extBut.push _).push _))
theorem ux {a b c:ag} {targets:List (Bool×(ag→mw Unit))} {Q:Unit→am→Prop} (hh:A.handled=none) (C:Cx w s.heap) (hr:s.heap.get? r=some (jV dx [a,b,c])) (hn:targets.length=3) (hstar:targets.findIdx? (·.1)=none)
  (h:∀h',ay.ExtBut s.heap.objs.size s.heap h'→aF (aB prog w) A (assignInOrder (targets.map (·.2)) [a,b,c]) Q E { s with heap:=h'}):aF (aB prog w) A (unpack (.ref r) targets) Q E s:=by
 unfold unpack
 refine hn.symm▸hstar.symm▸?_
 refine ae (bM ?_)
 skip
 refine ae (ae ((lH C hr wH).here (ao ?_)))
 skip
 have hlt:r≠s.heap.objs.size:=ei (cK hr)
 refine ae (bM (wp C hr ?_))
 have hN:=iK.push s.heap { cls:=.type "tuple_iterator",data:=.fields #[.ref r,.int 0 0]}
 generalize s.heap.push { cls:=.type "tuple_iterator",data:=.fields #[.ref r,.int 0 0]}=h0 at hN
 generalize s.heap.objs.size=it at *
 have e0:ay.ExtBut it s.heap h0:=fun b o O q=>hN.kept.get q
 have s0:Sq h0 r #[a,b,c]:=(Cm hr).sub fun o q=>hN.kept.get q
 refine ae (bM ?_)
 skip
 refine ae (lK (s:={ s with heap:=h0}) ⟨_,hN.yes,rfl,rfl⟩ s0 (x:=a) rfl fun h1 i1 b1=>?_)
 refine ae (bM ?_)
 skip
 have s1:Sq h1 r #[a,b,c]:=s0.sub fun o q=>(b1.2 r hlt).trans q
 refine ae (lK (s:={ s with heap:=h1}) i1 s1 (x:=b) rfl fun h2 i2 b2=>?_)
 refine ae (bM ?_)
 skip
 have s2:Sq h2 r #[a,b,c]:=s1.sub fun o q=>(b2.2 r hlt).trans q
 refine ae (lK (s:={ s with heap:=h2}) i2 s2 (x:=c) rfl fun h3 i3 b3=>?_)
 refine ae (bM ?_)
 refine ao (ao (ao (ao ?_)))
 have s3:Sq h3 r #[a,b,c]:=s2.sub fun o q=>(b3.2 r hlt).trans q
 skip
 refine ae (bM (qK (s:={ s with heap:=h3}) hh i3 s3 rfl fun h4 e4=>?_))
 skip
 exact ao (h h4 fun b o hb q=>e4 b o hb ((b3.2 b hb).trans ((b2.2 b hb).trans ((b1.2 b hb).trans (e0 b o hb q)))))
end
section
variable {prog:aV} {w:aP} {A:aS} {E:ag→am→Prop} {s:am} {r dx r' dx':aH} {x y z x' y' z':Int} {t1 t2 t3 t1' t2' t3':jR}
theorem vi {Q:ag→am→Prop} (C:Cx w s.heap) (hr:s.heap.get? r=some (jV dx [.int x t1,.int y t2,.int z t3])) (hr':s.heap.get? r'=some (jV dx' [.int x' t1',.int y' t2',.int z' t3']))
  (q:Q (.bool (decide (x<x'∨(x=x'∧(y<y'∨(y=y'∧z<z')))))) s):aF (aB prog w) A (f6 (.builtin "tuple.__lt__") [.ref r,.ref r']) Q E s:=by
 refine oY C hr PySem.F.slot_tuple_lt.plain PySem.F.entry_tuple_lt CY AT (PySem.F.args_tuple_lt_2 _ _) ?_
 show aF _ _ (jt (.ref r') (.type "tuple") >>= _) _ _ s
 refine ae ((Dx C hr').here ?_)
 dsimp only
 skip
 refine ae (ae (fH hr rfl (ao ?_)))
 refine ae (ae (fH hr' rfl (ao ?_)))
 show aF _ _ (forIn [(gu x t1,gu x' t1'),(gu y t2,gu y' t2'),(gu z t3,gu z' t3')] _ _ >>= _) _ _ s
 refine ae ?_
 rw [dS]
 refine ae (ae (iI ?_))
 by_cases e1:x=x'
 ·rw [show (x==x')=true by simpa using e1]
  skip
  refine ao ?_
  dsimp only
  rw [dS]
  refine ae (ae (iI ?_))
  by_cases e2:y=y'
  ·rw [show (y==y')=true by simpa using e2]
   skip
   refine ao ?_
   dsimp only
   rw [dS]
   refine ae (ae (iI ?_))
   by_cases e3:z=z'
   ·rw [show (z==z')=true by simpa using e3]
    skip
    refine ao ?_
    skip
    skip
    refine ao (ao ⟨_,rfl,?_⟩)
    have:decide (x<x'∨(x=x'∧(y<y'∨(y=y'∧z<z'))))=false:=decide_eq_false (by lia)
    rw [this] at q
    exact q
   ·rw [show (z==z')=false by simpa using e3]
    skip
    refine ae (fg (ae (show aF _ _ (ja .Lt _ _) _ _ _ from P.lt_int ?_)))
    refine ae (ao (ao (ao (ao ⟨_,rfl,?_⟩))))
    have:decide (z<z')=decide (x<x'∨(x=x'∧(y<y'∨(y=y'∧z<z')))):=decide_eq_decide.mpr (IA e1 e2)
    rw [this];exact q
  ·rw [show (y==y')=false by simpa using e2]
   skip
   refine ae (fg (ae (show aF _ _ (ja .Lt _ _) _ _ _ from P.lt_int ?_)))
   refine ae (ao (ao (ao (ao ⟨_,rfl,?_⟩))))
   have:decide (y<y')=decide (x<x'∨(x=x'∧(y<y'∨(y=y'∧z<z')))):=decide_eq_decide.mpr (Iz e1 e2)
   rw [this];exact q
 ·rw [show (x==x')=false by simpa using e1]
  skip
  refine ae (fg (ae (show aF _ _ (ja .Lt _ _) _ _ _ from P.lt_int ?_)))
  refine ae (ao (ao (ao (ao ⟨_,rfl,?_⟩))))
  have:decide (x<x')=decide (x<x'∨(x=x'∧(y<y'∨(y=y'∧z<z')))):=decide_eq_decide.mpr (Iy e1)
  rw [this];exact q
noncomputable def GO (h:ay) (v:ag):Prop:=Ff fun a dx x y z t1 t2 t3=>uB (v=.ref a) (h.get? a=some (jV dx [.int x t1,.int y t2,.int z t3])) (0≤y) (y<2^30) (0≤z) (z<2^30)
theorem E2 {Q:Bool→am→Prop} (hu:A.units<cLine) (C:Cx w s.heap) (hr:s.heap.get? r=some (jV dx [.int x t1,.int y t2,.int z t3])) (hr':s.heap.get? r'=some (jV dx' [.int x' t1',.int y' t2',.int z' t3']))
  (q:Q (decide (x<x'∨(x=x'∧(y<y'∨(y=y'∧z<z'))))) s):aF (aB prog w) A (oneLt' true (.ref r) (.ref r')) Q E s:=by
 rw [oneLt'_eq]
 dsimp only
 refine ae (wpAny_cRoomFor hu ?_)
 refine ae ?_
 skip
 refine bM (ae (ae ((lH C hr HZ).here ?_)))
 skip
 refine ae (eP (wpAny_ite ?_))
 split
 ·refine ae (ao (ao (ae (vi C hr hr' (ao ?_)))))
  exact ae (ig (ao q))
 ·refine wpAny_tryCatch (ae (ao (ao (ae (vi C hr hr' (ao ?_))))))
  exact ae (ig (ao q))
theorem HA {h:ay} (hu:A.units<cLine) (C:Cx w s.heap) (hk:∀b o,h.get? b=some o→s.heap.get? b=some o):S.rb prog w A s oneType' (zg h) (GO h):=by
 rintro v v' ⟨a,d,x,y,z,t1,t2,t3,rfl,ho,h1,h2,h3,h4⟩ ⟨a',d',x',y',z',t1',t2',t3',rfl,ho',h1',h2',h3',h4'⟩ Q E q
 rw [nr ho rfl,nr ho' rfl,decide_eq_decide.mpr (wu h1 h2 h3 h4 h1' h2' h3' h4')] at q
 skip
 exact E2 hu C (hk _ _ ho) (hk _ _ ho') q
theorem FJ {M:Model} {h:ay} (hk:∀b o,h.get? b=some o→s.heap.get? b=some o) {vs:List ag} (hv:∀v∈vs,GO h v) (h2:2≤vs.length) {Q:gb→am→Prop} (q:Q oneType' s) :
  aF M A (keyKind' vs.toArray) Q E s:=by
 have hT:∀v∈vs,dn M s.heap (mh v) (.ref 135):=fun v m=>by
  obtain ⟨a,d,x,y,z,t1,t2,t3,rfl,ho,_⟩:=hv v m
  exact ww (hk _ _ ho)
 obtain ⟨v₁,vr,rfl⟩:g8 fun v₁ vr=>vs=v₁::vr:=by
  match vs,h2 with
  | v₁::vr,_=>exact ⟨v₁,vr,rfl⟩
 rw [kat_kind_eq,List.mapM_toArray,map_eq_pure_bind]
 refine ae (ae (kas_mapM (r:=none) _ (fun v hv Q' hq=>?_) (ao ?_)))
 ·skip
  refine ae ((hT v hv).here ?_)
  skip
  exact ao hq
 simp only [ft,List.all_toArray,List.all_cons,Option.isSome_none,Bool.false_and,bv,if_false]
 have h0:((none::vr.map fun O=>(none:Option ag)).toArray[0]?.bind id).isSome=false:=by simp
 skip
 skip
 rw [oneTypeOnly'_eq,List.mapM_toArray,map_eq_pure_bind]
 refine ae (ae (ae (kas_mapM (r:=.ref 135) _ (fun v hv Q' hq=>(hT v hv).here hq) (ao ?_))))
 have h1:(List.map (fun O=>oo 135) (v₁::vr)).toArray[0]? = some (oo 135):=by simp
 rw [h1]
 have hall2:((List.map (fun O=>oo 135) (v₁::vr)).toArray.all fun x=>x==oo 135)=true:=by
  simp only [List.all_toArray,List.all_map,oP]
  intro _ _
  rfl
 dsimp only
 refine hall2.symm▸?_
 exact ao (ao q)
end
section
variable {prog:aV} {w:aP} {A:aS} {s:am} {e:gy} {h g:ay} {m:List (bU×ag)} {c:List (aH×cA)} {E:ag→am→Prop} {D:List aH}
theorem vD {x y:bU} {px py tpos pos:dJ} {k:Nat} {ea eb:au} {k':Nat} {vpos:dJ} {a b:Int} {Q:dW→am→Prop} (hh:A.handled=none) (S:St g e s.heap m c)
  (Ha:Ev prog w A e s.heap ea (fr a)) (Hb:Ev prog w A e s.heap eb (fr b))
  (K:∀h' tk ta tb,St g e h' (gC x (.int a ta) (gC y (.int b tb) m)) c→Q .next (sh s h' tk)) (hx:autoParam (kI e x=true) rfA) (hy:autoParam (kI e y=true) rfA)
  (h1:autoParam (aE [ea,eb] e=(false,cO ea e)::aE [eb] e) rfA) (h2:autoParam (aE [eb] e=(false,cO eb e)::aE [] e) rfA)
  (hs:autoParam (swapsWithSole [.Tuple [.Name x px,.Name y py] k tpos] (.Tuple [ea,eb] k' vpos) pos.line e=cJ false) rfA)
  (hw:autoParam (jb [.Tuple [.Name x px,.Name y py] k tpos] (.Tuple [ea,eb] k' vpos) e=cJ (some [x,y])) rfA) :
  aF (aB prog w) A (fA (.Assign [.Tuple [.Name x px,.Name y py] k tpos] (.Tuple [ea,eb] k' vpos) pos) e) Q E s:=by
 refine Assign_Tuple_swapped (names:=[x,y]) (Eg.pair Ha Hb h1 h2 s _ _ rfl fun v h' tk k1 hv=>?_) hs hw
 obtain ⟨vs,t,hi,rfl,hN⟩:=hv
 obtain ⟨ta,tb,rfl⟩:g8 fun ta tb=>vs=[.int a ta,.int b tb]:=by
  cases hi with|cons _ ta hi=>cases hi with|cons _ tb hi=>cases hi with|nil=>exact ⟨ta,tb,rfl⟩
 have hT:IsTup h' t #[.int a ta,.int b tb]:=⟨_,hN.yes,rfl,_,rfl⟩
 show aF _ _ (unpackItems (.ref t) (#[.int a ta,.int b tb]:Array ag).size none) _ _ _
 refine unpackItems_tuple (s:=sh s h' tk) hh hT fun h1 he1=>?_
 skip
 have S1:=(S.grow k1).grow (lG he1)
 refine bQ (bindName_ (bE (s:=sh s h1 tk) S1 (fun h2 tk2 S2=>?_) hy))
 refine bQ (bindName_ (bE (s:=sh s h2 tk2) S2 (fun h3 tk3 S3=>?_) hx))
 exact fF (K h3 tk3 ta tb S3)
theorem Et.isNot {l:au} {k:Nat} {p pos:dJ} {v:ag} (H:Ev prog w A e h l (· = v)):Et prog w A e h (.Compare l [.IsNot] [.Constant .none k p] pos) (!(v==.none)):=
 Et.cmp H Ev.none (fun a b ha hb s Q E hs q=>by subst ha;subst hb;exact isnot_none_gen (q s.toks))
theorem Et.int {xn:bU} {p:dJ} {n:Int} (H:Ev prog w A e h (.Name xn p) (fr n)) (he:autoParam (∀whole,isTrue (.Name xn p) e whole=(do let v ←whole;fe p;gf [v] (truthy v))) rfA):Et prog w A e h (.Name xn p) (n != 0):=fun s Q E hs q=>by
 refine isTrue_plain (H s _ _ hs fun u tk hu=>?_) (he _)
 obtain ⟨t,rfl⟩:=hu
 exact PySem.P.truthy_int (q tk)
theorem Et.list {xn:bU} {p:dJ} {a:aH} {its:Array ag} (H:Ev prog w A e h (.Name xn p) (· = .ref a)) (hl:h.IsList a its) (hsz:its.size≤2^30) (he:autoParam (∀whole,isTrue (.Name xn p) e whole=(do let v ←whole;fe p;gf [v] (truthy v))) rfA):Et prog w A e h (.Name xn p) (!its.isEmpty):=fun s Q E hs q=>by
 subst hs
 refine isTrue_plain (H s _ _ rfl fun u tk hu=>?_) (he _)
 subst hu
 exact wpAny_truthy_list (s:={ s with toks:=tk}) hl (by exact c7 (m:=2^30) (by assumption) (by with_unfolding_all rfl)) (q _)
theorem pp {x y z:bU} {px py pz pos:dJ} {k:Nat} {r dx:aH} {u v q:ag} {Q:Unit→am→Prop} (hh:A.handled=none) (C:Cx w s.heap) (S:St g e s.heap m c) (hr:s.heap.get? r=some (jV dx [u,v,q]))
  (K:∀h' tk,St g e h' (gC z q (gC y v (gC x u m))) c→Q () (sh s h' tk)) (hx:autoParam (kI e x=true) rfA) (hy:autoParam (kI e y=true) rfA) (hz:autoParam (kI e z=true) rfA) :
  aF (aB prog w) A (eT (.Tuple [.Name x px,.Name y py,.Name z pz] k pos) e (.ref r)) Q E s:=by
 skip
 refine ae (gp (ux hh C hr rfl rfl fun h' he=>?_))
 refine bQ (assign_Name (bE (s:={ s with heap:=h'}) (S.grow (lG he)) (fun h1 tk1 S1=>?_) hx))
 refine bQ (assign_Name (bE (s:=sh s h1 tk1) S1 (fun h2 tk2 S2=>?_) hy))
 refine bQ (assign_Name (bE (s:=sh s h2 tk2) S2 (fun h3 tk3 S3=>?_) hz))
 exact fF (K h3 tk3 S3)
theorem vB {elts:List au} {k:Nat} {tpos pos:dJ} {ex:au} {P:ag→ay→Prop} {Q:dW→am→Prop} (H:Ed prog w A e s.heap D ex P)
  (K:∀v h1 tk,ba D s.heap h1→P v h1→aF (aB prog w) A (eT (.Tuple elts k tpos) e v) (fun O=>Q .next) E (sh s h1 tk))
  (hs:autoParam (swapsWithSole [.Tuple elts k tpos] ex pos.line e=cJ false) rfA) (hw:autoParam (jb [.Tuple elts k tpos] ex e=cJ none) rfA) :
  aF (aB prog w) A (fA (.Assign [.Tuple elts k tpos] ex pos) e) Q E s:=Assign_Tuple (H s _ _ rfl fun v h1 tk k1 hv=>K v h1 tk k1 hv) hs hw
theorem yM (vs:List ag) (v:ag):(vs++[v]).toArray.eraseIdxIfInBounds ((vs++[v]).toArray.size-1)=vs.toArray:=by
 skip
 congr 1
 simp [List.eraseIdx_append_of_length_le]
theorem D2 {a:aH} {vs:List ag} {v:ag} {n:Nat} (ho:h.get? a=some (ch (vs++[v]).toArray n)) (hsz:vs.length≤2^20) :
  Cd prog w A h [a] (.builtin "list.pop") [.ref a] (fun u h'=>u=v∧∃n',h'.get? a=some (ch vs.toArray n')):=fun s Q E hs k=>by
 subst hs
 have hl:(vs++[v]).toArray.size≤fc:=by rw [ew];simp;(exact ck (m:=2^20) (by assumption) (by with_unfolding_all rfl))
 refine rK PySem.F.slot_list_pop ⟨_,ho,rfl⟩ PySem.F.entry_list_pop (PySem.F.args_list_pop_1 _) (MeetsSeq.list_pop_last a (vs++[v]).toArray n v (by simp) hl) ⟨ho,?_⟩
 have ho':=iG ho (fun xs:Array ag=>xs.eraseIdxIfInBounds ((vs++[v]).toArray.size-1))
 rw [yM] at ho'
 exact k _ _ s.toks (.same (cj ..)) ⟨rfl,_,ho'⟩
theorem zD {a:aH} {vs:List ag} {n:Nat} (hu:A.units+20<cLine) (C:∀h',ba [a] h h'→Cx w h') (ho:h.get? a=some (ch vs.toArray n)) (hsz:vs.length≤2^20) (hv:∀v∈vs,GO (bC h [a]) v) :
  Cd prog w A h [a] (.builtin "list.sort") [.ref a] (fun u h'=>u=.none∧g8 fun out n'=>jn (h'.get? a=some (ch out n')) (out.toList.Perm vs) (out.toList.Pairwise (fun x y=>zg (bC h [a]) x≤zg (bC h [a]) y))):=fun s Q E hs k=>by
 subst hs
 have kmid:ba [a] s.heap (S.jz s.heap a vs):=fun b o q nb=>by
  refine bo _ (bo _ ?_)
  rw [nF _ _ _ _ (fun z=>nb (by simp [z]))]
  exact q
 have hmid:∀b o,(bC s.heap [a]).get? b=some o→(S.jz s.heap a vs).get? b=some o:=fun b o q=>kmid b o (cZ q).1 (cZ q).2.1
 refine db slot_list_sort ⟨_,ho,rfl⟩ entry_list_sort (S.tF (kd:=oneType') (rk:=zg (bC s.heap [a])) (OK:=GO (bC s.heap [a])) ho (by exact ck (m:=2^20) (by assumption) (by with_unfolding_all rfl)) (fun h2 Q' hq=>FJ (s:={ s with heap:=S.jz s.heap a vs}) hmid hv h2 hq) (HA (by show A.units+1<cLine;exact cW (.lt (.s 0 1) ar (.lt (.s 0 20) ar .o)) τ hu) (C _ kmid) hmid) hv fun out o1 o2=>⟨_,rfl,?_⟩) (args_list_sort _)
 obtain ⟨e1,ho1⟩:∃e1,(s.heap.update a (dj fun O=>#[])).get? a=some (j6 "list" #[] e1):=⟨_,iG ho (fun O=>#[])⟩
 have ho2:(S.jz s.heap a vs).get? a=some (j6 "list" #[] e1):=bo _ (bo _ ho1)
 have ho3:=iG ho2 (fun O=>out)
 refine k _ (sortedHeap s.heap a vs out) s.toks (kmid.trans (.same (cj ..))) ⟨rfl,out,_,ho3,o1,o2⟩
end
namespace C
section
variable {e r:Nat→Nat→Bool} {b0:eS→cv}
theorem Ch.len1:∀{l:List cv} {p q:Nat×Nat},Ch p l q→l.length+p.1≤q.1
 | [],_,_,h=>by simpa using h.1
 | x::l,p,q,⟨a,b,c,d⟩=>by
  have:=d.len1
  simp only [cv.fin] at this
  skip
  exact eW (.le (.p (.s 0 1) ar) az (.le ar aI (.lt (.k 0) bx (.le (.p aq (.p aI bx)) az .o)))) τ a c this
theorem zq {la lb:Nat} (hb:∀g,Sub la lb g→mB r g (b0 g)) {g:eS} (hg:Sub la lb g):(MM e b0 g).length≤g.ah-g.al:=by
 have:=(zt (e:=e) hb (g.ah-g.al+1) g hg).len1
 simp only at this
 skip
 exact cR (.le aq ar (.le (.p aq az) aI (.le aI (.p ar az) .o))) τ this bZ
theorem sB:∀(q:List eS),q.length≤iU q
 | []=>aX _
 | g::q=>by
  have:=sB q
  skip
  skip
  exact c8 (.le (.s 0 1) (.p (.p (.m 2 ar) (.k 1)) az) (.le aq az .o)) τ this
theorem pv (p q:List eS):iU (p++q)=iU p+iU q:=by
 unfold iU
 rw [iB,List.sum_append]
theorem sC (g:eS):iU [g]=2*(g.ah-g.al)+1:=by
 unfold iU
 simp
noncomputable def q5 (q:List eS) (g:eS) (x:cv):List eS:=if x.2.2=0 then q else q++(if g.al<x.1∧g.bl<x.2.1 then [jU g x] else [])++(if x.1+x.2.2<g.ah∧x.2.1+x.2.2<g.bh then [mJ g x] else [])
noncomputable def w4 (acc:List cv) (x:cv):List cv:=if x.2.2=0 then acc else acc++[x]
theorem vJ {q:List eS} {g:eS} {x:cv} (h1:g.al≤x.1) (h2:x.1+x.2.2≤g.ah):iU (q5 q g x)<iU (q++[g]):=by
 unfold q5
 rw [pv,sC]
 split
 ·omega
 ·rename_i hz
  rw [pv,pv]
  have a1:iU (if g.al<x.1∧g.bl<x.2.1 then [jU g x] else [])≤2*(x.1-g.al)+1:=by
   split
   ·exact bd _
   ·exact aX _
  have a2:iU (if x.1+x.2.2<g.ah∧x.2.1+x.2.2<g.bh then [mJ g x] else [])≤2*(g.ah-(x.1+x.2.2))+1:=by
   split
   ·exact bd _
   ·exact aX _
  exact (aK hz).elim (fun ζ2=>GJ (.lt (.p (.p aq ar) az) (.p aq (.p (.m 2 aI) (.k 1))) (.le ar (.p (.m 2 bx) (.k 1)) (.le az (.p (.m 2 cV) (.k 1)) (.w 2 (.le ee (.p aI jj) (.w 2 (.lt tU (.k 0) (.w 2 (.eq (.p bx jj) G8 (.w 2 (.eq (.p cV (.p G8 tU)) ee .o))))))))))) τ a1 a2 bZ ζ2 (aa h1) (aa h2)) fun ζ2=>GJ (.lt (.p (.p aq ar) az) (.p aq (.p (.m 2 aI) (.k 1))) (.le ar (.p (.m 2 bx) (.k 1)) (.le az (.p (.m 2 cV) (.k 1)) (.w 2 (.le ee (.p aI jj) (.w 2 (.lt (.k 0) tU (.w 2 (.eq (.p bx jj) G8 (.w 2 (.eq (.p cV (.p G8 tU)) ee .o))))))))))) τ a1 a2 bZ ζ2 (aa h1) (aa h2)
theorem yN {la lb:Nat} {q:List eS} {g:eS} {x:cv} (hq:∀r∈q,Sub la lb r) (hg:Sub la lb g) (hi:ins g x=true):∀r∈q5 q g (eN e g x),Sub la lb r:=by
 intro r hr
 unfold q5 at hr
 split at hr
 ·exact hq r hr
 ·rcases bw.mp hr with hr|hr
  ·rcases bw.mp hr with hr|hr
   ·exact hq r hr
   ·split at hr
    ·rw [aD.mp hr];exact nY hg hi
    ·cases hr
  ·split at hr
   ·rw [aD.mp hr];exact l9 hg hi
   ·cases hr
theorem sf (c y:cv) (l:List cv):g0 c (y::l)=(if c.1+c.2.2=y.1∧c.2.1+c.2.2=y.2.1 then [] else if c.2.2=0 then [] else [c])++g0 (if c.1+c.2.2=y.1∧c.2.1+c.2.2=y.2.1 then (c.1,c.2.1,c.2.2+y.2.2) else y) l:=by
 conv=>lhs;unfold g0
 split
 ·rfl
 ·split<;>rfl
theorem qF:∀(l:List cv) (c:cv),(g0 c l).length≤l.length+1
 | [],c=>by unfold g0;split<;>simp
 | y::l,c=>by
  rw [sf,bL]
  have:=qF l (if c.1+c.2.2=y.1∧c.2.1+c.2.2=y.2.1 then (c.1,c.2.1,c.2.2+y.2.2) else y)
  have h2:(if c.1+c.2.2=y.1∧c.2.1+c.2.2=y.2.1 then [] else if c.2.2=0 then [] else [c]).length≤1:=by split<;>(try split)<;>simp
  skip
  exact c8 (.le (.p aq ar) (.p (.s 2 1) (.k 1)) (.le ar (.s 2 1) (.le aq (.k 1) .o))) τ this h2
end
end C
noncomputable def s8:dP:=pP (eA 5 7) fK .none (kM (eA 5 7) 517) (.str bY 194) none (.ref 202)
theorem Di (P:bF):(KF P).lookup 203=some ⟨.type "function",none,.func s8,#[]⟩:=by kernel_rfl!
theorem BF (P:bF):oa (KF P) s8.code s8.qualname=true:=by kernel_rfl!
theorem Bl (a:ag):js s8 ⟨[a],[]⟩=cJ [(my,a)]:=by rfl
noncomputable abbrev gw (L:aH):gy:=di s8 L 203
noncomputable def Dp:List fC:=sJ (eA 5 7)
noncomputable def IW:List fC:=sJ (Dp.getD 5 (.Pass p0))
structure MX (w:aP) (g:ay) (x dx f sd d uj:aH) (xs ys:List Int) (S:Int→Bool):Prop where
 X:Cx w g
 hx:g.get? x=some (dA 242 dx)
 hf:IL g f xs
 hs:IL g sd ys
 hB:C5 w g d ys S
 hBs:(d==dF)=false
 hS:SI.iS w g uj []
 lx:xs.length≤3000
 ly:ys.length≤3000
theorem SI.iS.sub {w:aP} {g g':ay} {u:aH} {ks:List Int} (x:SI.iS w g u ks) (hs:Sub g g'):SI.iS w g' u ks:=by obtain ⟨es,ep,t,a,b⟩:=x;exact ⟨es,ep,t,hs _ _ a,b⟩
theorem MX.sub {w:aP} {g g':ay} {x dx f sd d uj:aH} {xs ys:List Int} {S:Int→Bool} (m:MX w g x dx f sd d uj xs ys S) (hs:Sub g g'):MX w g' x dx f sd d uj xs ys S:=
 ⟨m.X.sub hs,hs _ _ m.hx,m.hf.sub hs,m.hs.sub hs,m.hB.sub hs,m.hBs,SI.iS.sub m.hS hs,m.lx,m.ly⟩
structure AM (ma:List (bU×ag)) (f sd d uj:aH):Prop where
 a:iF ma nA=some (.ref f)
 b:iF ma nB=some (.ref sd)
 d:iF ma wz=some (.ref d)
 j:iF ma wA=some (.ref uj)
 m:iF ma d0=some .none
 n1:iF ma pS=none
 n2:iF ma pg=none
 len:ma.length≤90
noncomputable def MV (h:ay) (v:ag) (x:C.cv):Prop:=zf fun r dx t1 t2 t3=>v=.ref r∧h.get? r=some (jV dx [.int x.1 t1,.int x.2.1 t2,.int x.2.2 t3])
theorem MV.sub {h h':ay} {v:ag} {x:C.cv} (m:MV h v x) (hs:Sub h h'):MV h' v x:=by obtain ⟨r,d,a,b,c,e,q⟩:=m;exact ⟨r,d,a,b,c,e,hs _ _ q⟩
noncomputable def tX (h:ay) (D:List aH) (its:Array ag) (l:List C.cv):Prop:=dL (fun v x=>MV (bC h D) v x) its.toList l
noncomputable def G0 (g:C.eS):List Int:=[g.al,g.ah,g.bl,g.bh]
noncomputable def t6 (h:ay) (D:List aH) (its:Array ag) (l:List C.eS):Prop:=dL (fun v g=>VT (bC h D) v (G0 g)) its.toList l
theorem VT.four {h:ay} {v:ag} {x y z u:Int} (q:VT h v [x,y,z,u]):zf fun a t1 t2 t3 t4=>v=.ref a∧IsTup h a #[.int x t1,.int y t2,.int z t3,.int u t4]:=by
 obtain ⟨a,rfl,vs,ht,hi⟩:=q
 cases hi with
 | cons _ t1 hi=>cases hi with
  | cons _ t2 hi=>cases hi with
   | cons _ t3 hi=>cases hi with
    | cons _ t4 hi=>cases hi;exact ⟨a,t1,t2,t3,t4,rfl,ht⟩
theorem dL.snoc {α β:Type} {R:α→β→Prop} {b:β} {m:List β}:∀{l:List α},dL R l (m++[b])→g8 fun l' a=>jn (l=l'++[a]) (dL R l' m) (R a b):=by
 induction m with
 | nil=>intro l h;cases h with|cons x y=>cases y;exact ⟨[],_,rfl,.nil,x⟩
 | cons c m ih=>intro l h;cases h with
  | cons x y=>
   obtain ⟨l',a,e,p,q⟩:=ih y
   exact ⟨_::l',a,by rw [e];rfl,.cons x p,q⟩
section
variable {prog:aV} {w:aP} {A:aS} {s:am} {e:gy} {h g:ay} {E:ag→am→Prop}
theorem Eg.quad {x y z u:au} {k:Nat} {pos:dJ} {a b c d:Int} (Hx:Ev prog w A e h x (fr a)) (Hy:Ev prog w A e h y (fr b)) (Hz:Ev prog w A e h z (fr c)) (Hu:Ev prog w A e h u (fr d)) (h1:autoParam (aE [x,y,z,u] e=(false,cO x e)::aE [y,z,u] e) rfA) (h2:autoParam (aE [y,z,u] e=(false,cO y e)::aE [z,u] e) rfA) (h3:autoParam (aE [z,u] e=(false,cO z e)::aE [u] e) rfA) (h4:autoParam (aE [u] e=(false,cO u e)::aE [] e) rfA) :
  Eg prog w A e h (.Tuple [x,y,z,u] k pos) (fun v h'=>g8 fun vs t=>jn (cf vs [a,b,c,d]) (v=.ref t) (iK h h' t (jX vs))):=
 (Eg.tup (Es.more Hx (Es.more Hy (Es.more Hz (Es.more Hu Es.nil h4) h3) h2) h1) (by rintro vs h' ⟨_,v1,vs1,rfl,_,v2,vs2,rfl,_,v3,vs3,rfl,_,v4,vs4,rfl,_,rfl⟩;show 4≤2^24;decide)).mono fun v h' O q=>by
  obtain ⟨vs,h1,t,k1,⟨rfl,u1,vs1,rfl,⟨t1,rfl⟩,u2,vs2,rfl,⟨t2,rfl⟩,u3,vs3,rfl,⟨t3,rfl⟩,u4,vs4,rfl,⟨t4,rfl⟩,rfl⟩,e1,hn⟩:=q
  exact ⟨_,t,.cons _ _ (.cons _ _ (.cons _ _ (.cons _ _ .nil))),e1,hn⟩
theorem Et.and2 {l r:au} {pos:dJ} {p q:Prop} [Decidable p] [Decidable q] {b1 b2:Bool} (hx:Et prog w A e h l b1) (hy:Et prog w A e h r b2) (h1:b1=decide p) (h2:b2=decide q):Et prog w A e h (.BoolOp .And [l,r] pos) (decide (p∧q)):=by
 subst h1 h2
 by_cases z1:p
 ·rw [decide_eq_true z1] at hx
  by_cases z2:q
  ·rw [decide_eq_true z2] at hy
   rw [decide_eq_true ⟨z1,z2⟩]
   exact Et.and fun O=>jd.yes hx (jd.last hy)
  ·rw [decide_eq_false z2] at hy
   rw [decide_eq_false fun z=>z2 z.2]
   exact Et.and fun O=>jd.yes hx (jd.last hy)
 ·rw [decide_eq_false z1] at hx
  rw [decide_eq_false fun z=>z1 z.1]
  exact Et.and fun O=>jd.no hx
theorem vA {D:List aH} {u1 u2 ex:au} {pos:dJ} {P:ag→ay→Prop} {Q:dW→am→Prop} (H:Ed prog w A e s.heap D ex P)
  (K:∀v h1 tk,ba D s.heap h1→P v h1→aF (aB prog w) A (eT u1 e v) (fun O s₂=>aF (aB prog w) A (eT u2 e v) (fun O=>Q .next) E s₂) E (sh s h1 tk))
  (he:autoParam ((assignEach [u1,u2] e).map (·.2)=[eT u1 e,eT u2 e]) rfA) (hw:autoParam (jb [u1,u2] ex e=cJ none) rfA) :
  aF (aB prog w) A (fA (.Assign [u1,u2] ex pos) e) Q E s:=mj (H s _ _ rfl fun v h1 tk k1 hv=>K v h1 tk k1 hv) he hw
end
noncomputable abbrev gm (x Q M:aH) (la lb:Nat) (t1 t2:jR) (more:List (bU×ag)):List (bU×ag):=
 (my,.ref x)::(I9,.int la t1)::(Ja,.int lb t2)::(EU,.ref Q)::(d0,.ref M)::more
noncomputable abbrev gD (L Q M dx:aH):List aH:=Q::M::dx::FA (gw L)
theorem zV {g h:ay} {L Q M dx:aH} {m:List (bU×ag)} {o1 o2 o3:cA} {c:List (aH×cA)} (S:St g (gw L) h m ((Q,o1)::(M,o2)::(dx,o3)::c)):∀a∈gD L Q M dx,∃o,h.get? a=some o:=by
 intro a ha
 rcases aC.mp ha with e|ha
 ·rw [e];exact ⟨_,S.get (.head _)⟩
 rcases aC.mp ha with e|ha
 ·rw [e];exact ⟨_,S.get (.tail _ (.head _))⟩
 rcases aC.mp ha with e|ha
 ·rw [e];exact ⟨_,S.get (.tail _ (.tail _ (.head _)))⟩
 exact S.lie _ (by simpa [FA] using ha)
section
variable {w:aP} {A:aS} {g₀:ay} {L Q M x dx f sd d uj:aH} {od:cA} {ma:List (bU×ag)} {xs ys:List Int} {S:Int→Bool} {g:C.eS} {qs:List C.eS} {acc:List C.cv} {s:am} {qi mi:Array ag} {nq nm:Nat} {t1 t2:jR}
theorem z4 (hA:eV A 3) (N:MX w g₀ x dx f sd d uj xs ys S) (hO:DO od ma) (hM:AM ma f sd d uj) (hQM:Q≠M) (hQd:Q≠dx) (hMd:M≠dx)
  (Lh:Lp g₀ (gD L Q M dx) (gw L) s.heap (gm x Q M xs.length ys.length t1 t2 []) [(Q,ch qi nq),(M,ch mi nm),(dx,od)])
  (hq:t6 s.heap (gD L Q M dx) qi (qs++[g])) (hm:tX s.heap (gD L Q M dx) mi acc) (hg:C.Sub xs.length ys.length g) (hql:qs.length≤10000) (hal:acc.length≤10000) :
  aF (aB PQ w) A (eK IW (gw L)) (fun fl s'=>fl=.next∧xN fun h' tk qi' nq' mi' nm'=>qp (s'=(sh s h' tk)) (ba (gD L Q M dx) s.heap h') (Lp g₀ (gD L Q M dx) (gw L) h' (gm x Q M xs.length ys.length t1 t2 []) [(Q,ch qi' nq'),(M,ch mi' nm'),(dx,od)]) (t6 h' (gD L Q M dx) qi' (C.q5 qs g (C.eN (gL xs ys) g (C.bst (ie xs ys S) g)))) (tX h' (gD L Q M dx) mi' (C.w4 acc (C.eN (gL xs ys) g (C.bst (ie xs ys S) g))))) (fun O O=>False) s:=by
 generalize hb:C.eN (gL xs ys) g (C.bst (ie xs ys S) g)=b
 refine wq fun R hR=>?_
 have S0:=Lh.st
 obtain ⟨qv,v,hqi,hq1,hvg⟩:=hq.snoc
 have hqi:qi=(qv++[v]).toArray:=by rw [←hqi]
 subst hqi
 have hqvl:=hq1.length
 obtain ⟨T,u1,u2,u3,u4,rfl,hT⟩:=VT.four hvg
 have hTD:T∉gD L Q M dx:=by obtain ⟨o,ho,_⟩:=hT;exact (cZ ho).2.1
 refine aT (vB (s:=s) (D:=[Q]) (P:=fun u h'=>u=.ref T∧∃n',h'.get? Q=some (ch qv.toArray n')) (Ed.methB0 (Ev.nm S0) (S0.get (.head _)) rfl rfl oV PySem.F.slot_list_pop PySem.F.type_list_pop (D2 (S0.get (.head _)) (by omega))) fun v h1 tk1 k1 hv=>?_)
 obtain ⟨rfl,nq1,hQ1⟩:=hv
 have S1:=S0.change (pre:=[]) (post:=[(M,ch mi nm),(dx,od)]) k1 hQ1 il (fv (dM hQM) (dM hQd))
 have hT1:IsTup h1 T #[.int g.al u1,.int g.ah u2,.int g.bl u3,.int g.bh u4]:=by
  obtain ⟨o,ho,r⟩:=hT
  exact ⟨o,k1 _ _ (cZ ho).1 (fun z=>hTD (by rw [aD.mp z];exact .head _)),r⟩
 refine su (s:=sh s h1 tk1) hA.hd S1 hT1 fun h2 tk2 S2=>⟨rfl,?_⟩
 have L2:Lp g₀ (gD L Q M dx) (gw L) h2 _ _:=Lh.next S2 (lv (.head _) (.tail _ (.head _)) (.tail _ (.tail _ (.head _))))
 have V2:Sub (bC s.heap (gD L Q M dx)) (bC h2 (gD L Q M dx)):=bP S2.keep
 have N2:MX w (bC h2 []) x dx f sd d uj xs ys S:=N.sub (L2.sub.trans (cM fun b o q n O=>⟨q,by simp⟩))
 refine aT (vA (s:=sh s h2 tk2) (D:=[]) (P:=fun v h'=>zf fun r dx' t1 t2 t3=>jn (v=.ref r) (h2.get? r=none) (h'.get? r=some (jV dx' [.int b.1 t1,.int b.2.1 t2,.int b.2.2 t3]))) (Ed.meth (N2.X.sub (cD _ _)) (Ev.nm S2) (cD _ _ _ _ N2.hx) (S2.get (.tail _ (.tail _ (.head _)))) hO ((N2.X.sub (cD _ _)).K _ _ (Dh _)) rfl (Es.more (Ev.nm S2) (Es.more (Ev.nm S2) (Es.more (Ev.nm S2) (Es.more (Ev.nm S2) Es.nil)))) (fun vs h3 k3 hvs=>?_) hM.n1) fun v h3 tk3 k3 hv=>?_)
 ·obtain ⟨rfl,_,_,rfl,rfl,_,_,rfl,rfl,_,_,rfl,rfl,_,_,rfl,rfl,rfl⟩:=hvs
  refine (Ek (hA.less (by omega)) N2.X (cD _ _ _ _ N2.hx) (S2.get (.tail _ (.tail _ (.head _)))) hO hM.a hM.b hM.d hM.j N2.hf N2.hs N2.hB N2.hBs N2.hS hg N2.lx N2.ly).mono fun v h' O q=>?_
  obtain ⟨vs,hi,r,dx',rfl,hr,_,hm⟩:=q
  rw [hb] at hi
  cases hi with|cons _ a1 hi=>cases hi with|cons _ a2 hi=>cases hi with|cons _ a3 hi=>cases hi with|nil=>exact ⟨r,dx',a1,a2,a3,rfl,hr,hm⟩
 obtain ⟨r,dx',a1,a2,a3,rfl,hr0,hr⟩:=hv
 have S3:=S2.add k3 hr hr0
 refine pp (s:=sh s h3 tk3) hA.hd ((N2.X.sub (cD _ _)).sub k3.all) S3 hr fun h4' tk4' S4'=>?_
 refine assign_Name (bE (s:=sh s h4' tk4') S4' fun h4 tk4 S4=>⟨rfl,?_⟩)
 have hrD:r∉gD L Q M dx:=fun z=>by
  obtain ⟨o,ho⟩:=zV S2 _ z
  exact nn hr0 ho
 have hr4:(bC h4 (gD L Q M dx)).get? r=some (jV dx' [.int b.1 a1,.int b.2.1 a2,.int b.2.2 a3]):=cH (S4.get (.head _)) hrD rfl
 have S4:=S4.less (c':=[(Q,ch qv.toArray nq1),(M,ch mi nm),(dx,od)]) (fun p hp=>.tail _ hp)
 have hC:∀(q m:cA),∀p∈[(Q,q),(M,m),(dx,od)],p.1∈gD L Q M dx:=fun q m=>lv (.head _) (.tail _ (.head _)) (.tail _ (.tail _ (.head _)))
 have V4:Sub (bC s.heap (gD L Q M dx)) (bC h4 (gD L Q M dx)):=bP S4.keep
 have k4:ba (gD L Q M dx) s.heap h4:=S4.kept
 have L4:Lp g₀ (gD L Q M dx) (gw L) h4 _ _:=Lh.next S4 (hC _ _)
 have hq4:t6 h4 (gD L Q M dx) qv.toArray qs:=hq1.mono fun O O z=>z.sub V4
 have hm4:tX h4 (gD L Q M dx) mi acc:=hm.mono fun O O z=>z.sub V4
 clear S4 S3 S2 S1 hr0 hr
 have S4:=L4.st
 refine aT (fV (s:=sh s h4 tk4) (b:=((b.2.2:Int) != 0)) (Et.int (Ev.nmI S4)) fun tk5=>?_)
 by_cases hz:b.2.2=0
 ·have:((b.2.2:Int) != 0)=false:=by simp [hz]
  rw [this,if_neg (by decide)]
  refine aw ⟨rfl,aw (hR _ _ ⟨rfl,h4,tk5,qv.toArray,nq1,mi,nm,rfl,k4,L4.forget (iY.mem ⟨rfl,rfl,rfl,rfl,rfl,trivial⟩),?_,?_⟩)⟩
  ·unfold C.q5;rw [if_pos hz];exact hq4
  ·unfold C.w4;rw [if_pos hz];exact hm4
 have:((b.2.2:Int) != 0)=true:=by simp [hz]
 rw [this,if_pos rfl]
 have hml:=hm4.length
 refine aT (fP (s:=sh s h4 tk5) (pre:=[(Q,ch qv.toArray nq1)]) (post:=[(dx,od)]) S4 (Ev.gg (Ev.nm S4)) (da hQM) (da (dM hMd)) (by rw [ew,←aJ];exact cW (.le aq (.k 16777216) (.le ar (.k 10000) (.eq aq ar .o))) τ hal hml) fun v hv h5 tk6 kv hp k5 S5=>⟨rfl,?_⟩)
 obtain ⟨rfl,rfl⟩:=hp
 have V5:Sub (bC hv (gD L Q M dx)) (bC h5 (gD L Q M dx)):=bP S5.keep
 have k5:ba (gD L Q M dx) s.heap h5:=k4.trans S5.kept
 have L5:Lp g₀ (gD L Q M dx) (gw L) h5 _ _:=L4.next S5 (hC _ _)
 have hq5:t6 h5 (gD L Q M dx) qv.toArray qs:=hq4.mono fun O O z=>z.sub V5
 have hm5:tX h5 (gD L Q M dx) (mi.push (.ref r)) (acc++[b]):=by
  unfold tX
  rw [bX]
  exact (hm4.mono fun O O z=>z.sub V5).append (.cons ⟨r,dx',a1,a2,a3,rfl,V5 _ _ hr4⟩ .nil)
 clear S5 S4 hr4
 have S5:=L5.st
 have bf:g.al≤b.1∧g.bl≤b.2.1∧b.1+b.2.2≤g.ah∧b.2.1+b.2.2≤g.bh:=by
  have f:=C.dC (gL xs ys) (C.kf hg (C.kg (r:=ie xs ys S) hg))
  rw [hb] at f
  exact ⟨f.al,f.bl,f.ah,f.bh⟩
 obtain ⟨bf1,bf2,bf3,bf4⟩:=bf
 refine aT (aL (Q:=fun f s'=>f=.next∧oN fun h6 tk6 qi6 nq6=>qp (s'=(sh s h6 tk6)) (ba (gD L Q M dx) s.heap h6) (Lp g₀ (gD L Q M dx) (gw L) h6 (gm x Q M xs.length ys.length t1 t2 [(EH,.int g.al u1),(EG,.int g.ah u2),(EL,.int g.bl u3),(EK,.int g.bh u4),(nI,.int b.1 a1),(nJ,.int b.2.1 a2),(nK,.int b.2.2 a3)]) [(Q,ch qi6 nq6),(M,ch (mi.push (.ref r)) (nm+1)),(dx,od)]) (Sub (bC h5 (gD L Q M dx)) (bC h6 (gD L Q M dx))) (t6 h6 (gD L Q M dx) qi6 (qs++(if g.al<b.1∧g.bl<b.2.1 then [C.jU g b] else [])))) (E:=fun O O=>False) ?_ (fun fl s' q=>?_) fun O O z=>z)
 ·clear hR
  refine wq fun R hR=>?_
  refine fV (s:=sh s h5 tk6) (b:=decide (g.al<b.1∧g.bl<b.2.1)) (Et.and2 (Et.ints (Ev.nmI S5) (Ev.nmI S5)) (Et.ints (Ev.nmI S5) (Ev.nmI S5)) ?_ ?_) fun tk7=>?_
  ·simp only [eI];exact decide_eq_decide.mpr cI
  ·simp only [eI];exact decide_eq_decide.mpr cI
  by_cases c1:g.al<b.1∧g.bl<b.2.1
  ·rw [decide_eq_true c1,if_pos rfl]
   refine aT (fP (s:=sh s h5 tk7) (pre:=[]) (post:=[(M,ch (mi.push (.ref r)) (nm+1)),(dx,od)]) S5 (Eg.quad (Ev.nmI S5) (Ev.nmI S5) (Ev.nmI S5) (Ev.nmI S5)) (by simp) (fv (dM hQM) (dM hQd)) (by rw [ew];simp;exact cW (.le aq (.k 16777216) (.le ar (.k 10000) (.eq aq ar .o))) τ hql hqvl) fun v hw h6 tk8 kw hp k6 S6=>⟨rfl,aw ?_⟩)
   obtain ⟨vs,T2,hi,rfl,hN⟩:=hp
   have hT2D:T2∉gD L Q M dx:=hN.notin (zV S5)
   have V6:Sub (bC h5 (gD L Q M dx)) (bC h6 (gD L Q M dx)):=bP S6.keep
   refine hR _ _ ⟨rfl,h6,tk8,_,_,rfl,k5.trans S6.kept,(L5.next S6 (hC _ _)).forget (iY.mem ⟨rfl,rfl,rfl,rfl,rfl,rfl,rfl,rfl,rfl,rfl,rfl,rfl,trivial⟩),V6,?_⟩
   rw [if_pos c1]
   unfold t6
   rw [bX]
   exact (hq5.mono fun O O z=>z.sub V6).append (.cons (VT.new (xs:=G0 (C.jU g b)) hi hN (k6.mono (da (.head _))) hT2D) .nil)
  ·rw [decide_eq_false c1,if_neg (by decide)]
   refine aw (hR _ _ ⟨rfl,h5,tk7,_,_,rfl,k5,L5.forget (iY.mem ⟨rfl,rfl,rfl,rfl,rfl,rfl,rfl,rfl,rfl,rfl,rfl,rfl,trivial⟩),fun O O z=>z,?_⟩)
   rw [if_neg c1,du]
   exact hq5
 obtain ⟨rfl,h6,tk7,qi6,nq6,rfl,k6,L6,V6,hq6⟩:=q
 refine ⟨rfl,?_⟩
 have S6:=L6.st
 have hm6:tX h6 (gD L Q M dx) (mi.push (.ref r)) (acc++[b]):=hm5.mono fun O O z=>z.sub V6
 have hq6l:=hq6.length
 have hq6b:qi6.size≤10001:=by
  rw [aJ,bL] at hq6l
  have:(if g.al<b.1∧g.bl<b.2.1 then [C.jU g b] else []).length≤1:=by split<;>simp
  exact c8 (.le aq (.k 10001) (.le ar (.k 10000) (.eq aq (.p ar az) (.le az (.k 1) .o)))) τ hql hq6l this
 have hfin:C.q5 qs g b=qs++(if g.al<b.1∧g.bl<b.2.1 then [C.jU g b] else [])++(if b.1+b.2.2<g.ah∧b.2.1+b.2.2<g.bh then [C.mJ g b] else []):=by unfold C.q5;rw [if_neg hz]
 have hfin2:C.w4 acc b=acc++[b]:=by unfold C.w4;rw [if_neg hz]
 rw [hfin,hfin2] at hR
 refine aT (fV (s:=sh s h6 tk7) (b:=decide (b.1+b.2.2<g.ah∧b.2.1+b.2.2<g.bh)) (Et.and2 (Et.ints (Ev.add (Ev.nmI S6) (Ev.nmI S6)) (Ev.nmI S6)) (Et.ints (Ev.add (Ev.nmI S6) (Ev.nmI S6)) (Ev.nmI S6)) ?_ ?_) fun tk8=>?_)
 ·simp only [eI];exact decide_eq_decide.mpr (@cI (b.1+b.2.2) _)
 ·simp only [eI];exact decide_eq_decide.mpr (@cI (b.2.1+b.2.2) _)
 by_cases c2:b.1+b.2.2<g.ah∧b.2.1+b.2.2<g.bh
 ·rw [decide_eq_true c2,if_pos rfl]
  refine aT (fP (s:=sh s h6 tk8) (pre:=[]) (post:=[(M,ch (mi.push (.ref r)) (nm+1)),(dx,od)]) S6 (Eg.quad (a:=((b.1+b.2.2:Nat):Int)) (c:=((b.2.1+b.2.2:Nat):Int)) (Ev.isI (Ev.add (Ev.nmI S6) (Ev.nmI S6)) (by omega)) (Ev.nmI S6) (Ev.isI (Ev.add (Ev.nmI S6) (Ev.nmI S6)) (by omega)) (Ev.nmI S6)) il (fv (dM hQM) (dM hQd)) (by rw [ew];exact oK (.le aq (.k 16777216) (.le aq (.k 10001) .o)) τ hq6b) fun v hw h7 tk9 kw hp k7 S7=>⟨rfl,aw ⟨rfl,aw ⟨rfl,aw ?_⟩⟩⟩)
  obtain ⟨vs,T2,hi,rfl,hN⟩:=hp
  have hT2D:T2∉gD L Q M dx:=hN.notin (zV S6)
  have V7:Sub (bC h6 (gD L Q M dx)) (bC h7 (gD L Q M dx)):=bP S7.keep
  refine hR _ _ ⟨rfl,h7,tk9,_,_,_,_,rfl,k6.trans S7.kept,(L6.next S7 (hC _ _)).forget (iY.mem ⟨rfl,rfl,rfl,rfl,rfl,trivial⟩),?_,hm6.mono fun O O z=>z.sub V7⟩
  rw [if_pos c2]
  unfold t6
  rw [bX]
  exact (hq6.mono fun O O z=>z.sub V7).append (.cons (VT.new (xs:=G0 (C.mJ g b)) hi hN (k7.mono (da (.head _))) hT2D) .nil)
 ·rw [decide_eq_false c2,if_neg (by decide)]
  refine aw ⟨rfl,aw ⟨rfl,aw (hR _ _ ⟨rfl,h6,tk8,_,_,_,_,rfl,k6,L6.forget (iY.mem ⟨rfl,rfl,rfl,rfl,rfl,trivial⟩),?_,hm6⟩)⟩⟩
  rw [if_neg c2,du]
  exact hq6
end
theorem CR {α:Type}:∀(l:List α),l≠[]→g8 fun l' a=>l=l'++[a]
 | [],h=>absurd rfl h
 | l,h=>⟨l.dropLast,l.getLast h,(List.dropLast_concat_getLast h).symm⟩
section
variable {w:aP} {A:aS} {g₀:ay} {L Q M x dx f sd d uj:aH} {od:cA} {ma:List (bU×ag)} {xs ys:List Int} {S:Int→Bool} {s:am} {qi mi:Array ag} {nq nm:Nat} {t1 t2:jR} {q0:List C.eS} {all:List C.cv}
theorem yn (hA:eV A 3) (N:MX w g₀ x dx f sd d uj xs ys S) (hO:DO od ma) (hM:AM ma f sd d uj) (hQM:Q≠M) (hQd:Q≠dx) (hMd:M≠dx)
  (Lh:Lp g₀ (gD L Q M dx) (gw L) s.heap (gm x Q M xs.length ys.length t1 t2 []) [(Q,ch qi nq),(M,ch mi nm),(dx,od)])
  (hq:t6 s.heap (gD L Q M dx) qi q0) (hm:tX s.heap (gD L Q M dx) mi []) (hs0:∀r∈q0,C.Sub xs.length ys.length r) (hw:C.iU q0≤10000) (hall:(q0.flatMap (C.MM (gL xs ys) (C.bst (ie xs ys S)))).Perm all) (hal:all.length≤10000) :
  aF (aB PQ w) A (fA (Dp.getD 5 (.Pass p0)) (gw L)) (fun fl s'=>fl=.next∧DM fun h' tk qi' nq' mi' nm' acc=>qp (s'=(sh s h' tk)) (ba (gD L Q M dx) s.heap h') (Lp g₀ (gD L Q M dx) (gw L) h' (gm x Q M xs.length ys.length t1 t2 []) [(Q,ch qi' nq'),(M,ch mi' nm'),(dx,od)]) (tX h' (gD L Q M dx) mi' acc) (acc.Perm all)) (fun O O=>False) s:=by
 have hb:∀g,C.Sub xs.length ys.length g→C.mB (ie xs ys S) g (C.bst (ie xs ys S) g):=fun g hg=>C.kg hg
 refine wq fun R1_ hR1=>?_
 refine lM (n₀:=C.iU q0) (fun n h=>xN fun qi' nq' mi' nm' qs acc=>DK (n=C.iU qs) (ba (gD L Q M dx) s.heap h) (Lp g₀ (gD L Q M dx) (gw L) h (gm x Q M xs.length ys.length t1 t2 []) [(Q,ch qi' nq'),(M,ch mi' nm'),(dx,od)]) (t6 h (gD L Q M dx) qi' qs) (tX h (gD L Q M dx) mi' acc) ((∀r∈qs,C.Sub xs.length ys.length r)) ((acc++qs.flatMap (C.MM (gL xs ys) (C.bst (ie xs ys S)))).Perm all) (C.iU qs≤10000)) ⟨qi,nq,mi,nm,q0,[],rfl,.refl _ _,Lh,hq,hm,hs0,hall,hw⟩ ?_
 rintro n h ⟨qi',nq',mi',nm',qs,acc,rfl,k,Lx,hq,hm,hsub,hp,hwt⟩
 have S:=Lx.st
 have hql:=hq.length
 have hwl:=C.sB qs
 rw [aJ] at hql
 refine ⟨!qi'.isEmpty,Et.list (Ev.nm S) ⟨_,S.get (.head _),rfl,_,rfl⟩ (by lia),fun he tk=>?_,fun he tk=>?_⟩
 ·have:qi'.size=0:=by simpa [Array.isEmpty] using he
  have hqs:qs=[]:=oT.mp (by exact ak (aj (aA (cB hql)) (aA this)) (oK (.le (.k 0) aq .o) τ))
  subst hqs
  exact hR1 .next _ ⟨rfl,h,tk,qi',nq',mi',nm',acc,rfl,k,Lx,hm,by simpa using hp⟩
 ·have hne:qs≠[]:=fun z=>by
   subst z
   have:qi'.size=0:=hql
   have:qi'.isEmpty=true:=by simp [Array.isEmpty,this]
   rw [this] at he;cases he
  obtain ⟨q',g,rfl⟩:=CR qs hne
  have hg:C.Sub xs.length ys.length g:=hsub g (by simp)
  have hpl:=hp.length_eq
  rw [bL] at hpl
  rw [bL,f9] at hwl
  refine aL (z4 (s:=sh s h tk) hA N hO hM hQM hQd hMd Lx hq hm hg (by exact cW (.le aq (.k 10000) (.le ar (.k 10000) (.le (.s 0 1) ar .o))) τ hwt hwl) (by exact c8 (.le aq (.k 10000) (.le ar (.k 10000) (.eq (.p aq az) ar .o))) τ hal hpl)) (fun fl s' q=>?_) fun O O z=>z
  obtain ⟨rfl,h',tk',qi2,nq2,mi2,nm2,rfl,k2,L2,hq2,hm2⟩:=q
  have f:=C.dC (gL xs ys) (C.kf hg (hb g hg))
  have hwt2:=C.vJ (q:=q') (g:=g) f.al f.ah
  refine ⟨h',tk',_,rfl,hwt2,qi2,nq2,mi2,nm2,_,_,rfl,k.trans k2,L2,hq2,hm2,C.yN (fun r hr=>hsub r (iZ _ hr)) hg (C.kf hg (hb g hg)),C.wS hb hg q' acc all hp,by exact aR (av hwt2 hwt)⟩
end
noncomputable def IX:List fC:=sJ (Dp.getD 9 (.Pass p0))
noncomputable abbrev jm (x Q M N:aH) (la lb:Nat) (t1 t2:jR) (c:C.cv) (v1 v2 v3:jR) (more:List (bU×ag)):List (bU×ag):=
 gm x Q M la lb t1 t2 ((I6,.int c.1 v1)::(I7,.int c.2.1 v2)::(I8,.int c.2.2 v3)::(um,.ref N)::more)
noncomputable abbrev jD (L N:aH):List aH:=N::FA (gw L)
noncomputable def ve (c y:C.cv):List C.cv:=if c.1+c.2.2=y.1∧c.2.1+c.2.2=y.2.1 then [] else if c.2.2=0 then [] else [c]
noncomputable def yt (c y:C.cv):C.cv:=if c.1+c.2.2=y.1∧c.2.1+c.2.2=y.2.1 then (c.1,c.2.1,c.2.2+y.2.2) else y
section
variable {w:aP} {A:aS} {g₀:ay} {L Q M N x:aH} {la lb:Nat} {s:am} {ni:Array ag} {nn:Nat} {t1 t2 v1 v2 v3 y1 y2 y3:jR} {c y:C.cv} {acc:List C.cv}
theorem yu (hA:eV A 0) (Lh:Lp g₀ (jD L N) (gw L) s.heap (jm x Q M N la lb t1 t2 c v1 v2 v3 [(IC,.int y.1 y1),(ID,.int y.2.1 y2),(IE,.int y.2.2 y3)]) [(N,ch ni nn)])
  (hb:e9 s.heap (jD L N) ni acc) (hal:acc.length≤10000) :
  aF (aB PQ w) A (eK IX (gw L)) (fun fl s'=>fl=.next∧DM fun h' tk ni' nn' w1 w2 w3=>lO (s'=(sh s h' tk)) (ba (jD L N) s.heap h') (Lp g₀ (jD L N) (gw L) h' (jm x Q M N la lb t1 t2 (yt c y) w1 w2 w3 []) [(N,ch ni' nn')]) (e9 h' (jD L N) ni' (acc++ve c y))) (fun O O=>False) s:=by
 have S:=Lh.st
 refine aT (fV (s:=s) (b:=decide (c.1+c.2.2=y.1∧c.2.1+c.2.2=y.2.1)) (Et.and2 (Et.ints (op:=.Eq) (Ev.add (Ev.nmI S) (Ev.nmI S)) (Ev.nmI S)) (Et.ints (op:=.Eq) (Ev.add (Ev.nmI S) (Ev.nmI S)) (Ev.nmI S)) ?_ ?_) fun tk=>?_)
 ·simp only [eI];rw [de,beq_iff_eq,decide_eq_true_iff];exact Io
 ·simp only [eI];rw [de,beq_iff_eq,decide_eq_true_iff];exact Io
 by_cases c1:c.1+c.2.2=y.1∧c.2.1+c.2.2=y.2.1
 ·rw [decide_eq_true c1,if_pos rfl]
  refine aT (wN (s:={ s with toks:=tk}) (a:=(c.2.2:Int)) S (Ev.nmI S) fun v h1 tk1 hv S1=>⟨rfl,aw ⟨rfl,aw ⟨rfl,?_⟩⟩⟩)
  obtain ⟨tc,rfl⟩:=hv
  have e1:(c.2.2:Int)+(y.2.2:Int)=((c.2.2+y.2.2:Nat):Int):=rfl
  rw [e1] at S1
  refine ⟨h1,tk1,ni,nn,v1,v2,tc,rfl,S1.kept,?_,?_⟩
  ·have:yt c y=(c.1,c.2.1,c.2.2+y.2.2):=by unfold yt;rw [if_pos c1]
   rw [this]
   exact (Lh.next S1 (da (.head _))).forget (iY.mem ⟨rfl,rfl,rfl,rfl,rfl,rfl,rfl,rfl,rfl,trivial⟩)
  ·have:ve c y=[]:=by unfold ve;rw [if_pos c1]
   rw [this,du]
   exact hb.mono fun O O z=>z.sub (bP S1.keep)
 ·rw [decide_eq_false c1,if_neg (by decide)]
  have ecur:yt c y=y:=by unfold yt;rw [if_neg c1]
  have eout:ve c y=if c.2.2=0 then [] else [c]:=by unfold ve;rw [if_neg c1]
  rw [ecur,eout]
  refine aT (aL (Q:=fun f s'=>f=.next∧oN fun h1 tk1 qZ nn1=>lO (s'=(sh s h1 tk1)) (ba (jD L N) s.heap h1) (Lp g₀ (jD L N) (gw L) h1 (jm x Q M N la lb t1 t2 c v1 v2 v3 [(IC,.int y.1 y1),(ID,.int y.2.1 y2),(IE,.int y.2.2 y3)]) [(N,ch qZ nn1)]) (e9 h1 (jD L N) qZ (acc++if c.2.2=0 then [] else [c]))) (E:=fun O O=>False) ?_ (fun fl s' q=>?_) fun O O z=>z)
  ·refine fV (s:={ s with toks:=tk}) (b:=((c.2.2:Int) != 0)) (Et.int (Ev.nmI S)) fun tk5=>?_
   by_cases hz:c.2.2=0
   ·have:((c.2.2:Int) != 0)=false:=by simp [hz]
    rw [this,if_neg (by decide)]
    refine aw ⟨rfl,s.heap,tk5,ni,nn,rfl,.refl _ _,Lh,?_⟩
    rw [if_pos hz,du];exact hb
   ·have:((c.2.2:Int) != 0)=true:=by simp [hz]
    rw [this,if_pos rfl]
    have hbl:=hb.length
    refine aT (fP (s:={ s with toks:=tk5}) (pre:=[]) (post:=[]) S (Eg.trip (Ev.nmI S) (Ev.nmI S) (Ev.nmI S)) (by simp) (by simp) (by rw [ew,←aJ];exact cW (.le aq (.k 16777216) (.le ar (.k 10000) (.eq aq ar .o))) τ hal hbl) fun v hv h6 tk8 kv hp k6 S6=>⟨rfl,aw ⟨rfl,?_⟩⟩)
    obtain ⟨vs,T2,hi,rfl,hN⟩:=hp
    have hT2D:T2∉jD L N:=hN.notin (fun c hc=>by
     rcases aC.mp hc with rfl|hc
     ·exact ⟨_,S.get (.head _)⟩
     ·exact S.lie _ hc)
    refine ⟨h6,tk8,_,_,rfl,S6.kept,Lh.next S6 (da (.head _)),?_⟩
    rw [if_neg hz]
    unfold e9
    rw [bX]
    exact (hb.mono fun O O z=>z.sub (bP S6.keep)).append (.cons (VT.new hi hN (k6.mono (da (.head _))) hT2D) .nil)
  obtain ⟨rfl,h1,tk1,qZ,nn1,rfl,k1,L1,hb1⟩:=q
  refine ⟨rfl,?_⟩
  have S1:=L1.st
  refine aT (pW (s:=sh s h1 tk1) hA.hd S1 (Ev.nmI S1) (Ev.nmI S1) (Ev.nmI S1) fun h2 tk2 ta tb tc S2=>⟨rfl,aw ⟨rfl,aw ⟨rfl,?_⟩⟩⟩)
  exact ⟨h2,tk2,qZ,nn1,ta,tb,tc,rfl,k1.trans S2.kept,(L1.next S2 (da (.head _))).forget (iY.mem ⟨rfl,rfl,rfl,rfl,rfl,rfl,rfl,rfl,rfl,trivial⟩),hb1.mono fun O O z=>z.sub (bP S2.keep)⟩
theorem z0 {mi:Array ag} {nm:Nat} {bs:List C.cv} {u1 u2 u3:jR} (hA:eV A 0) (X:Cx w g₀) (hMg:g₀.get? M=some (ch mi nm)) (hm:dL (fun v x=>MV g₀ v x) mi.toList bs) (hbl:bs.length≤9000)
  (Lh:Lp g₀ (jD L N) (gw L) s.heap (jm x Q M N la lb t1 t2 (0,0,0) u1 u2 u3 []) [(N,ch #[] nn)]) :
  aF (aB PQ w) A (fA (Dp.getD 9 (.Pass p0)) (gw L)) (fun fl s'=>fl=.next∧Hf fun h' tk ni' nn' w1 w2 w3 c acc=>uB (s'=(sh s h' tk)) (ba (jD L N) s.heap h') (Lp g₀ (jD L N) (gw L) h' (jm x Q M N la lb t1 t2 c w1 w2 w3 []) [(N,ch ni' nn')]) (e9 h' (jD L N) ni' acc) (acc.length≤9000) (acc++(if c.2.2=0 then [] else [c])=C.g0 (0,0,0) bs)) (fun O O=>False) s:=by
 have S0:=Lh.st
 have hml:=hm.length
 rw [aJ] at hml
 refine po (items:=mi) hA.hd (jD L N) (fun p h=>DM fun ni' nn' w1 w2 w3 c acc=>qp (ba (jD L N) s.heap h) (Lp g₀ (jD L N) (gw L) h (jm x Q M N la lb t1 t2 c w1 w2 w3 []) [(N,ch ni' nn')]) (e9 h (jD L N) ni' acc) (acc.length≤p) (acc++C.g0 c (bs.drop p)=C.g0 (0,0,0) bs))
  ((Ev.gg (Ev.nm S0)).mono fun v h' O q=>?_) ?_ ?_ ?_ ?_ ?_
 ·obtain ⟨rfl,rfl⟩:=q
  exact ⟨M,rfl,⟨_,Lh.here _ _ hMg,rfl,_,rfl⟩,(cZ (Lh.sub _ _ hMg)).2.1⟩
 ·intro b hb
  rcases aC.mp hb with rfl|hb
  ·exact ⟨_,S0.get (.head _)⟩
  ·exact S0.lie _ hb
 ·exact fun h' k=>⟨#[],nn,u1,u2,u3,(0,0,0),[],k.mono (by simp),Lh.grow k,.nil,bd _,rfl⟩
 ·rintro p h h' ⟨ni',nn',w1,w2,w3,c,acc,k,Lx,d1,d2,d3⟩ hk
  exact ⟨ni',nn',w1,w2,w3,c,acc,k.stab hk (fun b o q O=>⟨o,q⟩),Lx.stab hk,d1.mono fun O O z=>z.sub (iX hk),d2,d3⟩
 ·rintro p v h tk hp hpv ⟨ni',nn',w1,w2,w3,c,acc,k,Lx,d1,d2,d3⟩
  have hpb:p<bs.length:=by exact av hp (aA hml)
  obtain ⟨y,hy,r,dx,y1,y2,y3,rfl,hr⟩:=hm.get p v (by simpa using hpv)
  have hyp:bs[p]=y:=by
   rw [aW hpb] at hy;exact iE hy
  have hdrop:bs.drop p=y::bs.drop (p+1):=by rw [←hyp];exact eX hpb
  refine pp (s:=sh s h tk) hA.hd (X.sub Lx.here) Lx.st (Lx.here _ _ hr) fun h1 tk1 S1=>?_
  have L1:Lp g₀ (jD L N) (gw L) h1 _ _:=Lx.next S1 (da (.head _))
  refine aL (yu (s:=sh s h1 tk1) hA L1 (d1.mono fun O O z=>z.sub (bP S1.keep)) (by exact c8 (.le aq (.k 10000) (.le ar (.k 9000) (.le aq az (.lt az ar .o)))) τ hbl d2 hpb)) (fun fl s' q=>?_) fun O O z=>z
  obtain ⟨rfl,h2,tk2,A6,nn2,z1,z2,z3,rfl,k2,L2,hb2⟩:=q
  refine ⟨h2,tk2,rfl,S1.kept.trans k2,A6,nn2,z1,z2,z3,yt c y,acc++ve c y,k.trans (S1.kept.trans k2),L2,hb2,?_,?_⟩
  ·rw [bL]
   have:(ve c y).length≤1:=by unfold ve;split<;>(try split)<;>simp
   exact c8 (.le (.p aq ar) (.s 2 1) (.le aq az (.le ar (.k 1) .o))) τ d2 this
  ·rw [hdrop,C.sf] at d3
   rw [bK]
   exact d3
 ·rintro h tk ⟨ni',nn',w1,w2,w3,c,acc,k,Lx,d1,d2,d3⟩
  refine ⟨rfl,h,tk,ni',nn',w1,w2,w3,c,acc,rfl,k,Lx,d1,by exact c8 (.le aq (.k 9000) (.le ar (.k 9000) (.eq az ar (.le aq az .o)))) τ hbl hml d2,?_⟩
  rw [hml,List.drop_length] at d3
  exact d3
end
noncomputable def Cc (prog:aV) (w:aP) (A:aS) (h:ay) (D:List aH) (f:ag) (args:List ag) (P:ag→ay→Prop):Prop:=
 ∀(s:am) (R:Result→am→Prop),s.heap=h→(∀v h' tk,ba D h h'→P v h'→R (.ok (.ret v)) (sh s h' tk))→hW (aB prog w) A (.call f ⟨args,[]⟩) R s
section
variable {prog:aV} {w:aP} {A:aS} {h:ay} {D:List aH} {f:aH} {args:List ag} {P:ag→ay→Prop}
theorem Cc.enter {o:cA} {fd:dP} {body:List fC} {binds:List (bU×ag)}
  (hroom:A.depth<iH) (ho:h.get? f=some o) (hdata:o.data=.func fd) (hlim:h.NoLimit) (hcd:h.CodeRec fd.code fd.qualname)
  (hbody:fd.body=.stmts body) (hbind:∀s:am,s.heap=h→BindsTo s fd ⟨args,[]⟩ binds)
  (hcell:∀x∈fd.scope.names,x.2≠.cell) (hloc:∀x∈binds,fd.scope.names.lookup x.1=some .local) (hclo:fd.closure=[])
  (H:∀L s,h.get? L=none→ba [] h s.heap→St (bp h D) (di fd L f) s.heap binds.reverse []→
   aF (aB prog w) (A.deeper (di fd L f)) (eK body (di fd L f)) (Bd s (bp h D) P) (fun O O=>False) s)
  (hco:autoParam (fd.scope.isCoroutine=false) rfA) (hgen:autoParam (fd.scope.isGenerator=false) rfA) (hk:autoParam (fd.scope.kind=.function) rfA):Cc prog w A h D (.ref f) args P:=fun s R hs k=>by
 subst hs
 refine ri (binds:=binds) hroom ho hdata hlim hcd hbody (hbind s rfl) hcell hloc (fun h₀ hns hkp=>?_) hco hgen hk
 have hcells:(di fd s.heap.objs.size f).cells=[]:=hclo
 have S:St (bp s.heap D) (di fd s.heap.objs.size f) h₀ binds.reverse []:=by
  refine ⟨⟨_,hns,fun x v hx O=>hx⟩,?_,?_,?_,fun b o q=>hkp b o (fE D q),?_,?_,fun p hp=>by cases hp⟩
  ·refine hcells.symm▸?_;intro x a ha;cases ha
  ·rw [hcells];exact dg
  ·rw [hcells];intro p hp;cases hp
  ·unfold FA;rw [hcells]
   intro a ha
   obtain rfl:a=s.heap.objs.size:=aD.mp ha
   exact qz cP
  ·unfold FA;rw [hcells]
   intro a ha
   obtain rfl:a=s.heap.objs.size:=aD.mp ha
   obtain ⟨o,_,_,q_⟩:=hns;have ho:=q_.1;clear q_
   exact ⟨o,ho⟩
 refine aL (H s.heap.objs.size (sh s h₀ (s.toks+binds.length)) cP (fun b o e O=>hkp b o e) S) (fun fl s' hb=>?_) fun O O x=>x.elim
 obtain ⟨h',tk,rfl,hsub,hp⟩:=hb
 have:=k (q6 fl) h' tk (fun b o e n=>hsub b o (bq D e n)) hp
 cases fl<;>exact this
end
noncomputable def BS:dP:=pP (eA 3 5) mo .none (.str iz 293) (.str bY 194) (some 92) (.ref 88)
theorem Hp (P:bF):(KF P).lookup 89=some ⟨.type "function",none,.func BS,#[]⟩:=by kernel_rfl!
theorem Eb (P:bF):oa (KF P) BS.code BS.qualname=true:=by kernel_rfl!
theorem DX (a b:ag):js BS ⟨[a,b],[]⟩=cJ [(HR,a),(yF,b)]:=by rfl
section
variable {prog:aV} {w:aP} {A:aS} {E:ag→am→Prop} {s:am} {e:gy} {h:ay} {r dx:aH} {vs:List ag}
theorem yz {Q:ag→am→Prop} (C:Cx w s.heap) (hr:s.heap.get? r=some (jV dx vs)) (hl:vs.length≤1000) (k:∀tk tk',Q (.int vs.length tk) { s with toks:=tk'}):aF (aB prog w) A (f6 (.builtin "len") [.ref r]) Q E s:=by
 refine Calls.call_function_entry kind_len plain_len entry_len (args_len1 _) ?_
 skip
 refine ae (m:=oneArg "len" _) (ao ?_)
 refine ae ?_
 skip
 refine ae ((lH C hr GD).here ?_)
 skip
 refine bM ?_
 skip
 refine ae (ao (ae ?_))
 refine oY C hr PySem.F.slot_tuple_len.plain PySem.F.entry_tuple_len C1 AX (PySem.F.args_tuple_len_1 _) ?_
 show aF _ _ (cc.Tuple.tupleItemsOf (.ref r) >>= _) _ _ s
 skip
 refine ae (ae (fH hr rfl (ao ?_)))
 refine ae (wpAny_mkInt (ao ⟨_,rfl,ao ?_⟩))
 have hsz:vs.toArray.size=vs.length:=iN ..
 skip
 refine ae (bM (ao ?_))
 refine ae (wpAny_letGo ?_)
 show aF _ _ (if ((vs.length:Nat):Int)<0 then _ else _) _ _ _
 skip
 show aF _ _ (if ((vs.length:Nat):Int)≥2^63 then _ else _) _ _ _
 rw [if_neg (by lia)]
 exact ae (wpAny_mkInt (ao ⟨_,rfl,k _ _⟩))
theorem Ev.lenM {x:bU} {p px pos:dJ} (C:Cx w h) (H:Ev prog w A e h (.Name x px) (· = .ref r)) (hr:h.get? r=some (jV dx vs)) (hl:vs.length≤1000) (hk:autoParam (e.scope.kind=.function) rfA) (hx:autoParam (e.kindOf Co=some .globalImplicit) rfA)
  (hg:autoParam (e.globals=cu) rfA) (hbi:autoParam (e.builtins=ej) rfA) (he:autoParam (aE [.Name x px] e=(false,cO (.Name x px) e)::aE [] e) rfA):Ev prog w A e h (.Call (.Name Co p) [.Name x px] [] pos) (fr vs.length):=
 Ev.callB1 (Ev.bltn C (fun O=>by kernel_rfl!) qw (by decide +kernel) hk hx hg hbi) H (fun v s Q E hv hs k=>by
  subst hv;subst hs
  exact yz C hr hl fun tk tk'=>k _ _ ⟨tk,rfl⟩) he
end
section
variable {w:aP} {A:aS} {h:ay}
theorem EB {T:aH} {o:cA} {n:Nat} {va vb vc:ag} (hA:eV A 0) (X:Cx w h) (ho:h.get? T=some o) (hc:o.cls=.type "tuple") (hd:o.data=.seq #[va,vb,vc] n):Cc PQ w A h [] (.ref 89) [.ref 135,.ref T] (mO h [va,vb,vc]):=by
 obtain ⟨mg,mb,TR⟩:=X.T
 refine Cc.enter (by have:=hA.dp;exact cW (.lt aq ar (.lt (.s 0 0) ar .o)) τ this) (X.K _ _ (Hp _)) rfl TR.nolimit (f7 X.K (Eb _)) rfl (fun s hs=>.of_eq (DX _ _)) (by decide +kernel) (fv rfl rfl) rfl (fun L s hL hk S0=>?_)
 have X1:Cx w s.heap:=X.sub hk.all
 refine aT (md fun tk=>⟨rfl,?_⟩)
 refine aT (cT (s:={ s with toks:=tk}) (P:=mO s.heap [va,vb,vc]) (Eg.tupleNew (P:=fun v h'=>h'=s.heap∧v=.ref T) X1 (Ev.nm S0) (Ev.gg (Ev.nm S0)) (fun v h' hv=>?_) (by simp)) fun v h1 tk1 k1 hv=>?_)
 ·obtain ⟨rfl,rfl⟩:=hv
  exact ⟨T,o,n,rfl,hk.get ho,hc,hd⟩
 obtain ⟨r,dx,rfl,hr,hdx,hm⟩:=hv
 refine bE (s:=sh s h1 tk1) (S0.add k1 hm hr) fun h2 tk2 S2=>⟨rfl,?_⟩
 have X2:Cx w h2:=X.sub fun b o q=>S2.keep _ _ (bq [] q (by simp))
 refine aT (fV (s:=sh s h2 tk2) (b:=false) (Et.of (Et.ints (op:=.NotEq) (Ev.lenM X2 (Ev.nm S2) (S2.get (.head _)) (by simp)) Ev.int) (by rfl)) fun tk3=>?_)
 skip
 refine aw ⟨rfl,?_⟩
 refine nv (s:=sh s h2 tk3) (Ev.gg (Ev.nm S2)) fun v h' tk' k' hp=>?_
 obtain ⟨rfl,rfl⟩:=hp
 exact ⟨_,tk',rfl,fun b o q=>S2.keep _ _ q,r,dx,rfl,dh hk hr,dh hk hdx,S2.get (.head _)⟩
end
theorem zz:fD EQ=some (.type "map"):=by decide +kernel
theorem xU:fD xp=some (.type "list"):=by decide +kernel
theorem dL.of {α β:Type} {R:α→β→Prop} {l:List α}:∀{m:List β},l.length=m.length→(∀(i:Nat) (a:α),l[i]? = some a→∃b,m[i]? = some b∧R a b)→dL R l m:=by
 induction l with
 | nil=>intro m e _;cases m with
  | nil=>exact .nil
  | cons _ _=>cases e
 | cons a l ih=>intro m e h;cases m with
  | nil=>cases e
  | cons b m=>
   refine .cons ?_ (ih (Nat.succ.inj e) fun i=>h (i+1))
   obtain ⟨b',e',r⟩:=h 0 a rfl
   cases e';exact r
structure zu (h:ay) (q l:aH) (v:ag) (h':ay):Prop where
 ex:lT fun z T I=>xM (v=.ref z) (MP.oh h' z T (.ref q)) (MP.qP h' T (.ref I)) (h'.IsListIter I l 0) (z≠I) (T≠I) (h.get? I=none)
section
variable {w:aP} {A:aS} {e:gy} {h:ay} {l q:aH} {its:Array ag} {bs:List C.cv}
theorem Eg.makeAttr {p ap:dJ} (C:Cx w h) (N:Ev PQ w A e h (.Name wC p) (· = .ref 135)) :
  Eg PQ w A e h (.Attribute (.Name wC p) Dy ap) (fun v h'=>∃q,v=.ref q∧iK h h' q (methodObj (.ref 89) (.ref 135))):=fun s Q E hs k=>by
 subst hs
 refine Attribute_Name_ (N s _ _ rfl fun o tk ho=>?_)
 subst ho
 refine cls_bind (s:={ s with toks:=tk}) C.K (xx _) (HY _) (f0 (cm_get (s:={ s with toks:=tk+1}) C.K (CH _) (handed_on rfl ?_)))
 exact k _ _ (tk+1) (.push _ _ _) ⟨_,rfl,iK.push _ _⟩
theorem Eg.mapMake {p pos:dJ} {ea el:au} (C:Cx w h) (Ha:Eg PQ w A e h ea (fun v h'=>∃q,v=.ref q∧iK h h' q (methodObj (.ref 89) (.ref 135)))) (Hl:∀h',ba [] h h'→Ev PQ w A e h' el (· = .ref l)) (hl:h.IsList l its)
  (hk:autoParam (e.scope.kind=.function) rfA) (hx:autoParam (e.kindOf EQ=some .globalImplicit) rfA) (hg:autoParam (e.globals=cu) rfA) (hbi:autoParam (e.builtins=ej) rfA)
  (h1:autoParam (aE [ea,el] e=(false,cO ea e)::aE [el] e) rfA) (h2:autoParam (aE [el] e=(false,cO el e)::aE [] e) rfA) :
  Eg PQ w A e h (.Call (.Name EQ p) [ea,el] [] pos) (fun v h'=>∃q,h'.get? q=some (methodObj (.ref 89) (.ref 135))∧zu h q l v h'):=
 Eg.callT (Ev.bltn C (fun O=>by kernel_rfl!) zz (by decide +kernel) hk hx hg hbi) (Es.two Ha (fun u h1 k1 hu=>Ev.gg (Hl h1 k1)) h1 h2) (fun vs h3 k3 hv=>by
  obtain ⟨u,v,h1',rfl,k1,⟨q,rfl,hN⟩,k2,rfl,rfl⟩:=hv
  intro s Q E hs k
  subst hs
  refine MP.zB (hl.at fun o e=>k3.get e) fun h' m1 m2 m3 m4 m5=>?_
  have:=k _ h' s.toks (fun b o e O=>m5 b o e) ⟨q,m5 _ _ hN.yes,⟨_,_,_,rfl,m1,m2,m3,fun e=>pJ (jH (by decide)) e,fun e=>pJ (jH (by decide)) e,?_⟩⟩
  ·exact this
  ·exact dh k3 cP) h1 (by rw [h2];rfl)
noncomputable def vX (h:ay) (bs:List C.cv) (v:ag) (h':ay):Prop:=lT fun S its n=>lO (v=.ref S) (h.get? S=none) (h'.get? S=some (ch its n)) (dL (fun v x=>MV h' v x) its.toList bs)
theorem listMake {z:ag} {D:List aH} {h0:ay} {s:am} {Q:ag→am→Prop} {E:ag→am→Prop} (hA:eV A 1) (C:Cx w h0) (k0:ba [] h0 s.heap) (hq:s.heap.get? q=some (methodObj (.ref 89) (.ref 135))) (hM:zu h0 q l z s.heap) (hl:h0.IsList l its) (hb:e9 h0 D its bs) (hn:bs.length≤100000)
  (k:∀v h' tk,ba [] h0 h'→vX h0 bs v h'→Q v (sh s h' tk)):aF (aB PQ w) A (f6 (.type "list") [z]) Q E s:=by
 obtain ⟨z,T,I,rfl,m1,m2,m3,m4,m5,m6⟩:=hM.ex
 have hbl:=hb.length
 rw [aJ] at hbl
 have n0:∀b o,h0.get? b=some o→b∉[s.heap.objs.size,I]:=fun b o e q=>by
  simp only [aC,bT,or_false] at q
  rcases q with rfl|rfl
  ·have:=k0.get e;exact nn cP this
  ·exact nn m6 e
 have sb:∀h',ba [s.heap.objs.size,I] s.heap h'→ba [] h0 h':=fun h' kk b o e O=>kk b o (k0.get e) (n0 b o e)
 have hqI:q∉[s.heap.objs.size,I]:=fun z=>by
  simp only [aC,bT,or_false] at z
  rcases z with rfl|rfl
  ·exact nn cP hq
  ·obtain ⟨o,q_⟩:=m3;have ho:=q_.1;have hc:=q_.2.1;clear q_
   replace ho:=hq▸ho;cases ho
   exact absurd hc (by decide)
 have hlI:l≠I:=fun e=>by
  obtain ⟨o,ho,_⟩:=hl
  rw [e,m6] at ho;cases ho
 refine MP.xY (P:=fun i v h'=>xN fun b r dx t1 t2 t3=>lO (bs[i]? = some b) (v=.ref r) (r∉[s.heap.objs.size,I]) (h'.get? r=some (jV dx [.int (b.1:Int) t1,.int (b.2.1:Int) t2,.int (b.2.2:Int) t3]))) hA.hd m1 m2 m3 (hl.at fun o e=>k0.get e) m4 m5 hlI (by rw [ew];exact cW (.le aq (.k 16777216) (.le ar (.k 100000) (.eq aq ar .o))) τ hn hbl) ?_ ?_ ?_
 ·rintro i x h1 hx kk ⟨oS,hoS⟩ ⟨oI,hoI⟩
  obtain ⟨b,q_⟩:=hb.get i x (by simpa using hx);have hbx:=q_.1;have hv:=q_.2;clear q_
  obtain ⟨t,o,n,t1,t2,t3,rfl,ho,hc,hd⟩:=hv.three
  intro s1 Q1 E1 hs1 kq
  subst hs1
  have hk:=sb _ kk
  have hAA:eV A.in1.in1.in1 0:=⟨hA.hd,by have:=hA.dp;simpa using by exact cW (.lt aq ar (.lt (.s 0 1) ar .o)) τ this,by have:=hA.un;simp only [aS.in1_units];exact cW (.lt (.p (.p (.p (.p (.s 0 1) (.k 1)) (.k 1)) (.m 3 (.k 0))) (.k 20)) ar (.lt (.p (.p aq (.m 3 (.k 1))) (.k 20)) ar .o)) τ this⟩
  refine f0 (method_call (kk _ _ hq hqI) (EB hAA (C.sub hk.all) (hk.get (cZ ho).1) hc hd s1 _ rfl fun v h' tk kk' hv=>?_))
  obtain ⟨r,dx,rfl,hr,hdx,hm⟩:=hv
  refine kq _ h' tk kk' ⟨b,r,dx,t1,t2,t3,hbx,rfl,fun z=>?_,hm⟩
  simp only [aC,bT,or_false] at z
  rcases z with z|z
  ·rw [z,hoS] at hr;cases hr
  ·rw [z,hoI] at hr;cases hr
 ·rintro i v h1 h2 ⟨b,r,dx,t1,t2,t3,e1,e2,e3,e4⟩ kk
  exact ⟨b,r,dx,t1,t2,t3,e1,e2,e3,kk _ _ e4 e3⟩
 ·intro h' tk acc c kk hS hsz hP
  refine k _ h' tk (fun b o e O=>kk b o (k0.get e) (fun z=>n0 b o e (.tail _ z))) ⟨_,acc,c,rfl,dh k0 cP,hS,dL.of (by rw [aJ];exact ak (aj (aA hsz) (aA hbl)) (aj (aA (cB hbl)) (aA (cB hsz)))) fun i a ha=>?_⟩
  obtain ⟨b,r,dx,t1,t2,t3,e1,e2,e3,e4⟩:=hP i a (by simpa using ha)
  exact ⟨b,e1,r,dx,t1,t2,t3,e2,e4⟩
theorem Eg.listMake {p pos:dJ} {ex:au} {D:List aH} (hA:eV A 1) (C:Cx w h) (H:Eg PQ w A e h ex (fun v h'=>∃q,h'.get? q=some (methodObj (.ref 89) (.ref 135))∧zu h q l v h')) (hl:h.IsList l its) (hb:e9 h D its bs) (hn:bs.length≤100000)
  (hk:autoParam (e.scope.kind=.function) rfA) (hx:autoParam (e.kindOf xp=some .globalImplicit) rfA) (hg:autoParam (e.globals=cu) rfA) (hbi:autoParam (e.builtins=ej) rfA)
  (he:autoParam (aE [ex] e=(false,cO ex e)::aE [] e) rfA) :
  Eg PQ w A e h (.Call (.Name xp p) [ex] [] pos) (vX h bs):=fun s Q E hs k=>by
 have N:Ev PQ w A e h (.Name xp p) (· = .type "list"):=Ev.bltn C (fun O=>by kernel_rfl!) xU (by decide +kernel) hk hx hg hbi
 refine eL (N s _ _ hs fun v tk hv=>?_)
 subst hv
 refine PyProof.Rows.callWith_type1 (Es.one H he pos { s with toks:=tk} _ _ hs fun vs h1 tk1 k1 hvs=>?_) he rfl
 obtain ⟨v,rfl,q,hq,hM⟩:=hvs
 exact Mine.listMake (s:=sh s h1 tk1) hA C k1 hq hM hl hb hn fun v h' tk kk hm=>k v h' tk kk hm
end
namespace C
section
variable {e r:Nat→Nat→Bool} {b0:eS→cv}
theorem Ch.mem:∀{l:List cv} {p q:Nat×Nat},Ch p l q→∀x∈l,x.1+x.2.2≤q.1∧x.2.1+x.2.2≤q.2:=fun {l}=>by
 induction l with
 | nil=>exact fun O O h=>nomatch h
 | cons y l ih=>
  intro p q h x hx
  rcases aC.mp hx with rfl|hx
  ·exact h.2.2.2.le
  ·exact ih h.2.2.2 x hx
theorem zr {la lb:Nat} (hb:∀g,Sub la lb g→mB r g (b0 g)) {g:eS} (hg:Sub la lb g):∀x∈MM e b0 g,x.1+x.2.2≤g.ah∧x.2.1+x.2.2≤g.bh:=fun x hx=>
 (zt (e:=e) hb (g.ah-g.al+1) g hg).mem x hx
end
end C
noncomputable def Hh (g:ay) (dx:aH) (ma:List (bU×ag)) (bs:List C.cv) (v:ag) (h':ay):Prop:=oN fun R its n od'=>xM (v=.ref R) (g.get? R=none) (R≠dx) (h'.get? R=some (ch its n)) (h'.get? dx=some od') (DO od' (gC d0 (.ref R) ma)) (dL (fun v x=>MV h' v x) its.toList bs)
section
variable {w:aP} {A:aS} {g gv:ay} {L Q M x dx:aH} {od:cA} {ma:List (bU×ag)} {la lb:Nat} {s:am} {mi:Array ag} {nm:Nat} {t1 t2:jR} {bs:List C.cv}
theorem zZ (hA:eV A 1) (X:Cx w gv) (hv:∀b o,gv.get? b=some o→g.get? b=some o∧cz o=true) (hx:gv.get? x=some (dA 242 dx)) (hO:DO od ma) (hml:ma.length≤90) (hbl:bs.length≤8000)
  (S:St g (gw L) s.heap (gm x Q M la lb t1 t2 []) [(M,ch mi nm),(dx,od)]) (hm:dL (fun v x=>MV (bC s.heap (M::dx::FA (gw L))) v x) mi.toList bs) :
  aF (aB PQ w) A (eK (Dp.drop 7) (gw L)) (Bd s g (Hh g dx ma (C.g0 (0,0,0) bs++[(la,lb,0)]))) (fun O O=>False) s:=by
 have hMo:=S.own _ (.head _)
 have hdo:=S.own _ (.tail _ (.head _))
 have S0:=S.rebase (M::dx::FA (gw L)) (fun a ha=>.tail _ (.tail _ ha)) (fv (.head _) (.tail _ (.head _)))
 have hg0:∀b o,g.get? b=some o→b∉M::dx::FA (gw L):=fun b o q z=>by
  simp only [aC] at z
  rcases z with rfl|rfl|z
  ·exact nn hMo.2.2 q
  ·exact nn hdo.2.2 q
  ·exact nn (S.off b z) q
 have hg1:Sub g (bp s.heap (M::dx::FA (gw L))):=fun b o q=>bq _ (S.keep _ _ q) (hg0 b o q)
 refine wq fun R1_ hR1=>?_
 refine aT (wpAny_Assign_three (Ev.int (h:=s.heap) s _ _ rfl fun v tk hv0=>?_))
 obtain ⟨t0,rfl⟩:=hv0
 refine assign_Name (bE (s:={ s with toks:=tk}) S0 fun h1 tk1 S1=>?_)
 refine assign_Name (bE (s:=sh s h1 tk1) S1 fun h2 tk2 S2=>?_)
 refine assign_Name (bE (s:=sh s h2 tk2) S2 fun h3 tk3 S3=>⟨rfl,?_⟩)
 refine aT (cT (s:=sh s h3 tk3) (P:=fun v h'=>∃z,v=.ref z∧iK h3 h' z (ch #[] 0)) ((Eg.lst Es.nil (by rintro vs h' ⟨_,rfl⟩;exact aX _)).mono fun v h' O q=>?_) fun v h4 tk4 k4 hv4=>?_)
 ·obtain ⟨vs,h1',a,k1',⟨rfl,rfl⟩,rfl,hN⟩:=q
  exact ⟨a,rfl,hN⟩
 obtain ⟨N,rfl,hN⟩:=hv4
 refine bE (s:=sh s h4 tk4) (S3.add k4 hN.yes hN.no) fun h5 tk5 S5=>⟨rfl,?_⟩
 have hNo:=S5.own _ (.head _)
 have hMN:M≠N:=fun e=>by rw [←e] at hN;have:=S3.get (.head _);exact nn hN.no this
 have hdN:dx≠N:=qn (S3.get (.tail _ (.head _))) hN.no
 have hg5:∀b o,(bp s.heap (M::dx::FA (gw L))).get? b=some o→b∉jD L N:=fun b o q z=>by
  rcases aC.mp z with rfl|z
  ·exact nn hNo.2.2 q
  ·exact nn (S5.off b z) q
 have hd5:(bC h5 (jD L N)).get? dx=some od:=cH (S5.get (.tail _ (.tail _ (.head _)))) (fun z=>by
  rcases aC.mp z with z|z
  ·exact hdN z
  ·exact hdo.2.1 z) hO.plain
 have hM5:(bC h5 (jD L N)).get? M=some (ch mi nm):=cH (S5.get (.tail _ (.head _))) (fun z=>by
  rcases aC.mp z with z|z
  ·exact hMN z
  ·exact hMo.2.1 z) rfl
 have hV5:Sub gv (bC h5 (jD L N)):=fun b o q=>cH (S5.keep _ _ (hg1 _ _ (hv b o q).1)) (hg5 b o (hg1 _ _ (hv b o q).1)) (hv b o q).2
 have hm5:dL (fun v x=>MV (bC h5 (jD L N)) v x) mi.toList bs:=hm.mono fun O O z=>z.sub (cM fun b o q n O=>⟨S5.keep _ _ (bq _ q n),hg5 b o (bq _ q n)⟩)
 have L5:Lp (bC h5 (jD L N)) (jD L N) (gw L) h5 (jm x Q M N la lb t1 t2 (0,0,0) t0 t0 t0 []) [(N,ch #[] 0)]:=
  Lp.forget ⟨fun O O q=>q,(S5.less (c':=[(N,ch #[] 0)]) (da (.head _))).rebase (jD L N) (fun O q=>.tail _ q) (da (.head _))⟩ (iY.mem ⟨rfl,rfl,rfl,rfl,rfl,rfl,rfl,rfl,rfl,trivial⟩)
 refine aT (show aF _ _ (fA (Dp.getD 9 (.Pass p0)) (gw L)) _ _ _ from aL (z0 (s:=sh s h5 tk5) (hA.less (aX _)) (X.sub hV5) hM5 hm5 (by exact oK (.le aq (.k 9000) (.le aq (.k 8000) .o)) τ hbl) L5) (fun fl s' q=>?_) fun O O z=>z)
 obtain ⟨rfl,h6,tk6,ni6,nn6,w1,w2,w3,c,acc,rfl,k6,L6,hb6,hal,hacc⟩:=q
 refine ⟨rfl,?_⟩
 have S6:=L6.st
 have hn6:=hb6.length
 rw [aJ] at hn6
 refine aT (aL (Q:=fun f s'=>f=.next∧oN fun h1 tk1 qZ nn1=>lO (s'=(sh s h1 tk1)) (ba (jD L N) h5 h1) (Lp (bC h5 (jD L N)) (jD L N) (gw L) h1 (jm x Q M N la lb t1 t2 c w1 w2 w3 []) [(N,ch qZ nn1)]) (e9 h1 (jD L N) qZ (C.g0 (0,0,0) bs))) (E:=fun O O=>False) ?_ (fun fl s' q=>?_) fun O O z=>z)
 ·refine wq fun R2_ hR2=>?_
  refine fV (s:=sh s h6 tk6) (b:=((c.2.2:Int) != 0)) (Et.int (Ev.nmI S6)) fun tk7=>?_
  by_cases hz:c.2.2=0
  ·have:((c.2.2:Int) != 0)=false:=by simp [hz]
   rw [this,if_neg (by decide)]
   rw [if_pos hz,du] at hacc
   exact aw (hR2 .next _ ⟨rfl,h6,tk7,ni6,nn6,rfl,k6,L6,hacc▸hb6⟩)
  ·have:((c.2.2:Int) != 0)=true:=by simp [hz]
   rw [this,if_pos rfl]
   rw [if_neg hz] at hacc
   refine wq fun R3_ hR3=>?_
   refine aT (fP (s:=sh s h6 tk7) (pre:=[]) (post:=[]) S6 (Eg.trip (Ev.nmI S6) (Ev.nmI S6) (Ev.nmI S6)) (by simp) (by simp) (by rw [ew];exact cW (.le aq (.k 16777216) (.le ar (.k 9000) (.eq aq ar .o))) τ hal hn6) fun v hv h7 tk8 kv hp k7 S7=>⟨rfl,aw (hR3 .next _ (hR2 .next _ ⟨rfl,?_⟩))⟩)
   obtain ⟨vs,T,hi,rfl,hT⟩:=hp
   have hTD:T∉jD L N:=hT.notin (fun c hc=>by
    rcases aC.mp hc with rfl|hc
    ·exact ⟨_,S6.get (.head _)⟩
    ·exact S6.lie _ hc)
   refine ⟨h7,tk8,_,_,rfl,k6.trans S7.kept,L6.next S7 (da (.head _)),?_⟩
   unfold e9
   rw [←hacc,bX]
   exact (hb6.mono fun O O z=>z.sub (bP S7.keep)).append (.cons (VT.new hi hT (k7.mono (da (.head _))) hTD) .nil)
 obtain ⟨rfl,h7,tk7,ni7,nn7,rfl,k7,L7,hb7⟩:=q
 refine ⟨rfl,?_⟩
 clear S6 L6 hb6 hn6 k6 hacc
 have S7:=L7.st
 have hn7:=hb7.length
 have hml7:=C.qF bs (0,0,0)
 rw [aJ] at hn7
 refine aT (fP (s:=sh s h7 tk7) (pre:=[]) (post:=[]) S7 (Eg.trip (Ev.nmI S7) (Ev.nmI S7) Ev.int) (by simp) (by simp) (by rw [ew];exact c8 (.le aq (.k 16777216) (.le ar (.k 8000) (.eq aq az (.le az (.s 1 1) .o)))) τ hbl hn7 hml7) fun v hvv h8 tk8 kv hp k8 S8=>⟨rfl,?_⟩)
 obtain ⟨vs,T,hi,rfl,hT⟩:=hp
 have hTD:T∉jD L N:=hT.notin (fun c hc=>by
  rcases aC.mp hc with rfl|hc
  ·exact ⟨_,S7.get (.head _)⟩
  ·exact S7.lie _ hc)
 have L8:Lp (bC h5 (jD L N)) (jD L N) (gw L) h8 _ _:=L7.next S8 (da (.head _))
 have k08:ba (jD L N) h5 h8:=k7.trans S8.kept
 have hb8:e9 h8 (jD L N) (ni7.push (.ref T)) (C.g0 (0,0,0) bs++[(la,lb,0)]):=by
  unfold e9
  rw [bX]
  exact (hb7.mono fun O O z=>z.sub (bP S8.keep)).append (.cons (VT.new hi hT (k8.mono (da (.head _))) hTD) .nil)
 have hd8:h8.get? dx=some od:=L8.here _ _ hd5
 have hsub8:Sub gv h8:=hV5.trans L8.here
 have X8:Cx w h8:=X.sub hsub8
 have S8':=(L8.st.rebase (dx::jD L N) (fun a ha=>.tail _ (.tail _ ha)) (da (.tail _ (.head _)))).follow (a:=dx) (o:=od) hd8 hdo.2.1 (cQ _ (.head _))
 have hN8:h8.IsList N (ni7.push (.ref T)):=⟨_,S8.get (.head _),rfl,_,rfl⟩
 refine aT (ju (s:=sh s h8 tk8) (pre:=[]) (P:=vX h8 (C.g0 (0,0,0) bs++[(la,lb,0)])) X8 S8' (hsub8 _ _ hx) hO (by exact oK (.le aq (.k 100) (.le aq (.k 90) .o)) τ hml) il (da (dM hdN)) (Eg.listMake hA X8 (Eg.mapMake X8 (Eg.makeAttr X8 (Ev.glob X8 vn)) (fun h' k'=>Ev.nm (S8'.grow k')) hN8) hN8 hb8 (by rw [bL];simp only [f9];exact cW (.le (.s 0 1) (.k 100000) (.le ar (.k 8000) (.le aq (.s 1 1) .o))) τ hbl hml7)) fun v hv9 h9 od9 tk9 k9 hp kd9 hO9 S9=>⟨rfl,?_⟩)
 obtain ⟨R,its,n,rfl,hRn,hR,hms⟩:=hp
 have hRd:R≠dx:=(qn hd8 hRn).symm
 have hgR:g.get? R=none:=by
  cases q:g.get? R with
  | none=>rfl
  | some o=>
   have:=k08 _ _ (S5.keep _ _ (hg1 _ _ q)) (hg5 _ _ (hg1 _ _ q))
   exact nn hRn this
 have hgd:∀b o,g.get? b=some o→h9.get? b=some o:=fun b o q=>kd9 _ _ (k9.get (k08 _ _ (S5.keep _ _ (hg1 _ _ q)) (hg5 _ _ (hg1 _ _ q)))) (fun z=>by rw [aD.mp z,hdo.2.2] at q;cases q)
 have hms9:dL (fun v x=>MV h9 v x) its.toList (C.g0 (0,0,0) bs++[(la,lb,0)]):=hms.mono fun v x z=>by
  obtain ⟨r,d,a1,a2,a3,e,q⟩:=z
  refine ⟨r,d,a1,a2,a3,e,kd9 _ _ q fun z=>?_⟩
  obtain ⟨es,ep,ed,_⟩:=id hO
  rw [aD.mp z,k9.get hd8] at q
  cases q;cases ed
 refine nv (s:=sh s h9 tk9) (Ev.gg (Ev.attr (X.sub fun b o q=>hgd _ _ (hv b o q).1) (Ev.nm S9) (hgd _ _ (hv _ _ hx).1) (S9.get (.head _)) hO9 ((uJ _ _).trans (if_pos rfl)))) fun v h' tk' k' hp=>?_
 obtain ⟨rfl,rfl⟩:=hp
 exact hR1 (.ret _) _ ⟨_,tk',rfl,hgd,R,its,n,od9,rfl,hgR,hRd,kd9 _ _ hR (qZ hRd),S9.get (.head _),hO9,hms9⟩
end
noncomputable def rq (xs ys:List Int):C.eS:=⟨0,xs.length,0,ys.length⟩
theorem lL (xs ys:List Int):C.Sub xs.length ys.length (rq xs ys):=⟨aX _,bd _,aX _,bd _⟩
noncomputable def r7 (xs ys:List Int) (S:Int→Bool):List C.cv:=C.g0 (0,0,0) (C.MM (gL xs ys) (C.bst (ie xs ys S)) (rq xs ys))++[(xs.length,ys.length,0)]
noncomputable def Hi (h:ay) (dx:aH) (ma:List (bU×ag)) (bs:List C.cv) (v:ag) (h':ay):Prop:=oN fun R its n od'=>uB (v=.ref R) (h.get? R=none) (h'.get? R=some (ch its n)) (h'.get? dx=some od') (DO od' (gC d0 (.ref R) ma)) (dL (fun v x=>MV h' v x) its.toList bs)
section
variable {w:aP} {A:aS} {h:ay} {x dx f sd d uj:aH} {od:cA} {ma:List (bU×ag)} {xs ys:List Int} {S:Int→Bool}
theorem wM {h:ay} {D:List aH} {out vs:List ag} {acc:List C.cv} (hp:out.Perm vs) (hs:out.Pairwise fun x y=>zg (bC h D) x≤zg (bC h D) y) (hm:dL (fun v x=>MV (bC h D) v x) vs acc)
  (ha:acc.Perm (C.MM (gL xs ys) (C.bst (ie xs ys S)) (rq xs ys))) (hy:ys.length≤3000):dL (fun v x=>MV (bC h D) v x) out (C.MM (gL xs ys) (C.bst (ie xs ys S)) (rq xs ys)):=by
 have hb:∀g,C.Sub xs.length ys.length g→C.mB (ie xs ys S) g (C.bst (ie xs ys S) g):=fun g hg=>C.kg hg
 obtain ⟨m',hp',h2⟩:=hm.perm hp
 have hin:=C.zr (e:=gL xs ys) hb (lL xs ys)
 have hbd:∀z∈m',z.2.1+z.2.2≤ys.length:=fun z hz=>(hin z (ha.mem_iff.mp (hp'.mem_iff.mp hz))).2
 have hpw:m'.Pairwise fun x y=>x.1≤y.1∨ys.length<x.2.1+x.2.2∨ys.length<y.2.1+y.2.2:=h2.pairwise (fun a a' b b' hr hr' hle=>by
  obtain ⟨r,d,t1,t2,t3,rfl,ho⟩:=hr
  obtain ⟨r',d',t1',t2',t3',rfl,ho'⟩:=hr'
  rw [nr ho rfl,nr ho' rfl] at hle
  by_cases c1:ys.length<b.2.1+b.2.2
  ·exact .inr (.inl c1)
  by_cases c2:ys.length<b'.2.1+b'.2.2
  ·exact .inr (.inr c2)
  exact .inl (by lia)) hs
 have hpw':m'.Pairwise fun x y=>x.1≤y.1:=by
  clear h2 hp'
  induction hpw with
  | nil=>exact .nil
  | cons h1 _ ih=>
   refine .cons (fun z hz=>?_) (ih fun z hz=>hbd z (.tail _ hz))
   have a1:=hbd _ (.head _)
   have a2:=hbd z (.tail _ hz)
   rcases h1 z hz with q|q|q
   ·exact q
   ·exact (c8 (.ff (.le (.p aq ar) az (.lt az (.p aq ar) .o))) τ a1 q).elim
   ·exact (c8 (.ff (.le (.p aq ar) az (.lt az (.p aq ar) .o))) τ a2 q).elim
 rw [←C.CS hb (lL xs ys) (hp'.trans ha) hpw']
 exact h2
theorem Eu (hA:eV A 4) (N:MX w (bC h [dx]) x dx f sd d uj xs ys S) (hd:h.get? dx=some od) (hO:DO od ma) (hM:AM ma f sd d uj) :
  Cd PQ w A h [dx] (.ref 203) [.ref x] (Hi h dx ma (r7 xs ys S)):=by
 have X0:=N.X.sub (cD h [dx])
 obtain ⟨mg,mb,T⟩:=X0.T
 have hlx:=N.lx
 have hly:=N.ly
 refine Cd.enter (c:=[(dx,od)]) (by have:=hA.dp;exact cW (.lt aq ar (.lt (.s 0 4) ar .o)) τ this) (X0.K _ _ (Di _)) rfl T.nolimit (f7 X0.K (BF _)) rfl (fun s hs=>.of_eq (Bl _)) (by decide +kernel) (da rfl) rfl (da ⟨hd,by simp⟩) (fun L s hL hk S0=>?_)
 have hA1:=hA.deeper (di s8 L 203)
 have N1:∀h',Sub (bp h [dx]) h'→MX w (bC h' [dx]) x dx f sd d uj xs ys S:=fun h' q=>N.sub (bP q)
 have X1:∀h',Sub (bp h [dx]) h'→Cx w h':=fun h' q=>(N1 h' q).X.sub (cD _ _)
 have hx1:∀h',Sub (bp h [dx]) h'→h'.get? x=some (dA 242 dx):=fun h' q=>cD _ _ _ _ (N1 h' q).hx
 refine wq fun R1_ hR1=>?_
 refine aT (md fun tk=>⟨rfl,?_⟩)
 refine aT (fV (s:={ s with toks:=tk}) (b:=false) (Et.of (Et.isNot (Ev.attr (X1 _ S0.keep) (Ev.nm S0) (hx1 _ S0.keep) (S0.get (.head _)) hO hM.m)) rfl) fun tk0=>?_)
 skip
 refine aw ⟨rfl,?_⟩
 refine aT (vD (s:={ s with toks:=tk0}) hA1.hd S0 (Ev.lenL (X1 _ S0.keep) (Ev.attr (X1 _ S0.keep) (Ev.nm S0) (hx1 _ S0.keep) (S0.get (.head _)) hO hM.a) ((N1 _ S0.keep).hf.sub (cD _ _)) (by exact ck (m:=3000) (by assumption) (by with_unfolding_all rfl))) (Ev.lenL (X1 _ S0.keep) (Ev.attr (X1 _ S0.keep) (Ev.nm S0) (hx1 _ S0.keep) (S0.get (.head _)) hO hM.b) ((N1 _ S0.keep).hs.sub (cD _ _)) (by exact ck (m:=3000) (by assumption) (by with_unfolding_all rfl))) fun h1 tk1 t1 t2 S1=>⟨rfl,?_⟩)
 refine aT (cT (s:=sh s h1 tk1) (P:=fun v h'=>oN fun vs t Q h1a=>lO (cf vs (G0 (rq xs ys))) (v=.ref Q) (iK h1 h1a t (jX vs)) (iK h1a h' Q (ch #[.ref t] 0))) ((Eg.lst (Es.one (Eg.quad Ev.int (Ev.nmI S1) Ev.int (Ev.nmI S1))) (by rintro vs h' ⟨v,rfl,_⟩;show 1≤2^24;decide)).mono fun v h' O q=>?_) fun v h2 tk2 k2 hv=>?_)
 ·obtain ⟨vs,h1a,a,k1',⟨u,rfl,us,t,hi,rfl,hN⟩,rfl,hN'⟩:=q
  exact ⟨us,t,a,h1a,hi,rfl,hN,hN'⟩
 obtain ⟨vs,T0,Q,h1a,hi,rfl,hT,hQ⟩:=hv
 refine bE (s:=sh s h2 tk2) ((S1.add hT.kept hT.yes hT.no).add hQ.kept hQ.yes hQ.no) fun h3 tk3 S3=>⟨rfl,?_⟩
 refine aT (cT (s:=sh s h3 tk3) (P:=fun v h'=>∃z,v=.ref z∧iK h3 h' z (ch #[] 0)) ((Eg.lst Es.nil (by rintro vs h' ⟨_,rfl⟩;exact aX _)).mono fun v h' O q=>?_) fun v h4 tk4 k4 hv4=>?_)
 ·obtain ⟨vs,h1',a,k1',⟨rfl,rfl⟩,rfl,hN⟩:=q
  exact ⟨a,rfl,hN⟩
 obtain ⟨M,rfl,hMn⟩:=hv4
 refine bE (s:=sh s h4 tk4) (S3.add k4 hMn.yes hMn.no) fun h5 tk5 S5=>⟨rfl,?_⟩
 have hdd:∀{b:aH} {its:Array ag} {n:Nat} {c:ag},h5.get? b=some { cls:=c,data:=.seq its n}→b≠dx:=fun {b its n c} e q=>by
  obtain ⟨es,ep,ed,_⟩:=id hO
  rw [q,S5.get (.tail _ (.tail _ (.tail _ (.head _))))] at e
  cases e;cases ed
 have gM:=S5.get (.head _)
 have gQ:=S5.get (.tail _ (.head _))
 have gT:=S5.get (.tail _ (.tail _ (.head _)))
 have hQM:Q≠M:=fun e=>by rw [e,gM] at gQ;cases gQ
 have hTM:T0≠M:=fun e=>by rw [e,gM] at gT;exact absurd (congrArg cA.cls (iE gT)) (show ¬dk "list" = dk "tuple" by decide)
 have hTQ:T0≠Q:=fun e=>by rw [e,gQ] at gT;exact absurd (congrArg cA.cls (iE gT)) (show ¬dk "list" = dk "tuple" by decide)
 have hnD:∀b o,(bp h [dx]).get? b=some o→b∉gD L Q M dx:=fun b o q z=>by
  simp only [gD,aC] at z
  rcases z with rfl|rfl|rfl|z
  ·exact nn ((S5.own _ (.tail _ (.head _))).2.2) q
  ·exact nn ((S5.own _ (.head _)).2.2) q
  ·exact nn (cQ _ (.head _)) q
  ·exact nn (S5.off b z) q
 have hV:Sub (bC h [dx]) (bC h5 (gD L Q M dx)):=cM fun b o q n O=>⟨S5.keep _ _ (bq _ q (by simpa using n)),hnD b o (bq _ q (by simpa using n))⟩
 have L5:Lp (bC h5 (gD L Q M dx)) (gD L Q M dx) (gw L) h5 (gm x Q M xs.length ys.length t1 t2 []) [(Q,ch #[.ref T0] 0),(M,ch #[] 0),(dx,od)]:=
  Lp.forget ⟨fun O O q=>q,(S5.less (c':=[(Q,ch #[.ref T0] 0),(M,ch #[] 0),(dx,od)]) (lv (.tail _ (.head _)) (.head _) (.tail _ (.tail _ (.tail _ (.head _)))))).rebase (gD L Q M dx) (fun O q=>.tail _ (.tail _ (.tail _ q))) (lv (.head _) (.tail _ (.head _)) (.tail _ (.tail _ (.head _))))⟩ (iY.mem ⟨rfl,rfl,rfl,rfl,rfl,trivial⟩)
 have hTD:T0∉gD L Q M dx:=fun z=>by
  simp only [gD,aC] at z
  rcases z with z|z|z|z
  ·exact hTQ z
  ·exact hTM z
  ·exact hdd gT z
  ·exact (S5.own _ (.tail _ (.tail _ (.head _)))).2.1 z
 have hb:∀g,C.Sub xs.length ys.length g→C.mB (ie xs ys S) g (C.bst (ie xs ys S) g):=fun g hg=>C.kg hg
 have hml:(C.MM (gL xs ys) (C.bst (ie xs ys S)) (rq xs ys)).length≤3000:=aj (C.zq hb (lL xs ys)) (by show xs.length-0≤3000;exact aj (aO _ _) hlx)
 refine aT (show aF _ _ (fA (Dp.getD 5 (.Pass p0)) (gw L)) _ _ _ from aL (yn (s:=sh s h5 tk5) (q0:=[rq xs ys]) (all:=C.MM (gL xs ys) (C.bst (ie xs ys S)) (rq xs ys)) hA1 (N.sub hV) hO hM hQM (hdd gQ) (hdd gM) L5
  (.cons ⟨T0,rfl,IT.still ⟨vs,⟨_,gT,rfl,_,rfl⟩,hi⟩ hTD⟩ .nil) .nil (da (lL xs ys)) (by rw [C.sC];show 2*(xs.length-0)+1≤10000;exact cW (.le (.p (.m 2 aq) (.k 1)) (.k 10000) (.w 2 (.le ar (.k 3000) (.w 2 (.le aq ar .o))))) τ hlx (aO _ _)) (by simp) (by exact oK (.le aq (.k 10000) (.le aq (.k 3000) .o)) τ hml)) (fun fl s' q=>?_) fun O O z=>z)
 obtain ⟨rfl,h6,tk6,qi6,nq6,mi6,nm6,acc,rfl,k6,L6,hm6,hacc⟩:=q
 refine ⟨rfl,?_⟩
 have S6:=L6.st
 have hal:=hacc.length_eq
 have hm6l:=hm6.length
 have X6:∀h',ba [M] h6 h'→Cx w h':=fun h' kk=>(N.X.sub hV).sub (L6.sub.trans fun b o q=>kk _ _ (cZ q).1 (fun z=>(cZ q).2.1 (by rw [aD.mp z];exact .tail _ (.head _))))
 have hin:=C.zr (e:=gL xs ys) hb (lL xs ys)
 have gM6:h6.get? M=some (ch mi6.toList.toArray nm6):=S6.get (.tail _ (.head _))
 have hMD:∀b∈[M],b∈gD L Q M dx:=da (.tail _ (.head _))
 have hvs:Sub (bC h6 (gD L Q M dx)) (bC h6 [M]):=cM fun b o q n O=>⟨q,fun z=>n (hMD b z)⟩
 refine aT (ut (s:=sh s h6 tk6) (D:=[M]) (P:=fun u h'=>u=.none∧g8 fun out n'=>jn (h'.get? M=some (ch out n')) (out.toList.Perm mi6.toList) (out.toList.Pairwise (fun x y=>zg (bC h6 [M]) x≤zg (bC h6 [M]) y)))
  (Ed.methB0 (Ev.nm S6) gM6 rfl rfl oV PySem.F.slot_list_sort PySem.F.type_list_sort (zD (by have:=hA1.un;exact cW (.lt (.s 0 20) ar (.lt (.p (.p aq (.m 3 (.k 3))) (.k 20)) ar .o)) τ this) X6 gM6 (by lia) fun v hv=>?_)) (fun v h' q=>q.1) fun v h7 tk7 k7 hv=>⟨rfl,?_⟩)
 ·obtain ⟨b,hbm,r,dx',a1,a2,a3,rfl,hr⟩:=hm6.mem v hv
  have:=(hin b (hacc.mem_iff.mp hbm)).2
  have:b.2.1+b.2.2≤ys.length:=this
  exact ⟨r,dx',_,_,_,a1,a2,a3,rfl,hvs _ _ hr,by exact c0,by lia,by exact c0,by lia⟩
 obtain ⟨_,out,n7,gM7,hperm,hsort⟩:=hv
 have S7:=S6.change (pre:=[(Q,ch qi6 nq6)]) (post:=[(dx,od)]) k7 gM7 (da hQM) (da (dM (hdd gM)))
 have hrow:=wM (h:=h6) (D:=[M]) (xs:=xs) (ys:=ys) (S:=S) hperm hsort (hm6.mono fun O O z=>z.sub hvs) hacc hly
 have k57:∀b o,(bp h [dx]).get? b=some o→h7.get? b=some o:=fun b o q=>k7 _ _ (k6 _ _ (S5.keep _ _ q) (hnD b o q)) (fun z=>hnD b o q (hMD b z))
 have L7:Lp (bC h5 (gD L Q M dx)) (gD L Q M dx) (gw L) h7 _ _:=L6.next S7 (lv (.head _) (.tail _ (.head _)) (.tail _ (.tail _ (.head _))))
 have hrow7:dL (fun v x=>MV (bC h7 (M::dx::FA (gw L))) v x) out.toList (C.MM (gL xs ys) (C.bst (ie xs ys S)) (rq xs ys)):=hrow.mono fun v x z=>by
  obtain ⟨r,d',a1,a2,a3,e,q⟩:=z
  obtain ⟨q1,q2,q3⟩:=cZ q
  refine ⟨r,d',a1,a2,a3,e,cH (k7 _ _ q1 q2) (fun z=>?_) q3⟩
  simp only [aC] at z
  rcases z with z|z|z
  ·exact q2 (z▸.head _)
  ·obtain ⟨es,ep,ed,_⟩:=id hO
   rw [z,S6.get (.tail _ (.tail _ (.head _)))] at q1
   cases q1;cases ed
  ·exact S6.seqOff (show ((gw L).cells.map (·.1)).Nodup from i5) q1 rfl z
 refine aL (show aF _ _ (eK (Dp.drop 7) (gw L)) _ _ _ from zZ (s:=sh s h7 tk7) (g:=bp h7 (gD L Q M dx)) (gv:=bC h [dx]) (hA1.less (by exact ci _ _)) N.X (fun b o q=>⟨bq _ (k57 b o (bq _ (cZ q).1 (cZ q).2.1)) (hnD b o (bq _ (cZ q).1 (cZ q).2.1)),(cZ q).2.2⟩) N.hx hO hM.len (by exact oK (.le aq (.k 8000) (.le aq (.k 3000) .o)) τ hml) (L7.st.less (fv (.tail _ (.head _)) (.tail _ (.tail _ (.head _))))) hrow7) (fun fl s' q=>?_) fun O O z=>z
 obtain ⟨h8,tk8,rfl,hsub,R,its,n,od',hv,hR,hRd,gR,gd,hO',hms⟩:=q
 refine hR1 _ _ ⟨h8,tk8,rfl,fun b o q=>hsub _ _ (bq _ (k57 b o q) (hnD b o q)),R,its,n,od',hv,?_,gR,gd,hO',hms⟩
 cases q:h.get? R with
 | none=>rfl
 | some o=>
  have q':=bq [dx] q (qZ hRd)
  rw [bq _ (k57 _ _ q') (hnD _ _ q')] at hR;cases hR
end
noncomputable def qT:dP:=pP (eA 5 8) fL .none (kM (eA 5 8) 532) (.str bY 194) none (.ref 209)
theorem Dj (P:bF):(KF P).lookup 210=some ⟨.type "function",none,.func qT,#[]⟩:=by kernel_rfl!
theorem BG (P:bF):oa (KF P) qT.code qT.qualname=true:=by kernel_rfl!
theorem Bm (a:ag):js qT ⟨[a],[]⟩=cJ [(my,a)]:=by rfl
noncomputable abbrev oe (L:aH):gy:=di qT L 210
noncomputable def Jd:List fC:=sJ (eA 5 8)
noncomputable def GZ:List fC:=sJ (Jd.getD 4 (.Pass p0))
noncomputable def rp (i j a b:Nat):Option C.Dc:=if i<a∧j<b then some .rep else if i<a then some .del else if j<b then some .ins else none
noncomputable def CE:Option C.Dc→bU
 | some t=>AR t
 | none=>⟨⟨[]⟩⟩
theorem ui (i j a b:Nat):C.kh i j a b=match rp i j a b with|some t=>[(t,i,a,j,b)]|none=>[]:=by
 unfold C.kh rp
 by_cases h1:i<a∧j<b
 ·rw [if_pos h1,if_pos h1]
 ·rw [if_neg h1,if_neg h1]
  by_cases h2:i<a
  ·rw [if_pos h2,if_pos h2]
  ·rw [if_neg h2,if_neg h2]
   by_cases h3:j<b
   ·rw [if_pos h3,if_pos h3]
   ·rw [if_neg h3,if_neg h3]
theorem AD (o:Option C.Dc):(((CE o).length:Int) != 0)=o.isSome:=by
 cases o with
 | none=>rfl
 | some t=>cases t<;>rfl
noncomputable abbrev om (x An:aH) (i j:Nat) (ti tj:jR) (more:List (bU×ag)):List (bU×ag):=(my,.ref x)::(nI,.int i ti)::(nJ,.int j tj)::(Cn,.ref An)::more
noncomputable abbrev oX (L An:aH):List aH:=An::FA (oe L)
section
variable {prog:aV} {w:aP} {A:aS} {e:gy} {h:ay}
theorem Et.strLen {xn:bU} {p:dJ} {x:bU} {t:jR} (hx:x.length<1000) (H:Ev prog w A e h (.Name xn p) (· = .str x t)) (he:autoParam (∀whole,isTrue (.Name xn p) e whole=(do let v ←whole;fe p;gf [v] (truthy v))) rfA):Et prog w A e h (.Name xn p) ((x.length:Int) != 0):=fun s Q E hs q=>by
 refine isTrue_plain (H s _ _ hs fun u tk hu=>?_) (he _)
 subst hu
 exact PySem.P.truthy_str (Int.not_le.mpr (c7 (aR hx) rfl)) (q _)
theorem Eg.five {x0 x y z u:au} {k:Nat} {pos:dJ} {str:bU} {a b c d:Int} (H0:Ev prog w A e h x0 (fun v=>∃t,v=.str str t)) (Hx:Ev prog w A e h x (fr a)) (Hy:Ev prog w A e h y (fr b)) (Hz:Ev prog w A e h z (fr c)) (Hu:Ev prog w A e h u (fr d))
  (h0:autoParam (aE [x0,x,y,z,u] e=(false,cO x0 e)::aE [x,y,z,u] e) rfA) (h1:autoParam (aE [x,y,z,u] e=(false,cO x e)::aE [y,z,u] e) rfA) (h2:autoParam (aE [y,z,u] e=(false,cO y e)::aE [z,u] e) rfA) (h3:autoParam (aE [z,u] e=(false,cO z e)::aE [u] e) rfA) (h4:autoParam (aE [u] e=(false,cO u e)::aE [] e) rfA) :
  Eg prog w A e h (.Tuple [x0,x,y,z,u] k pos) (fun v h'=>xN fun t0 t1 t2 t3 t4 t=>v=.ref t∧iK h h' t (jX [.str str t0,.int a t1,.int b t2,.int c t3,.int d t4])):=
 (Eg.tup (Es.more H0 (Es.more Hx (Es.more Hy (Es.more Hz (Es.more Hu Es.nil h4) h3) h2) h1) h0) (by rintro vs h' ⟨_,v1,vs1,rfl,_,v2,vs2,rfl,_,v3,vs3,rfl,_,v4,vs4,rfl,_,v5,vs5,rfl,_,rfl⟩;show 5≤2^24;decide)).mono fun v h' O q=>by
  obtain ⟨vs,h1,t,k1,⟨rfl,u1,vs1,rfl,⟨t1,rfl⟩,u2,vs2,rfl,⟨t2,rfl⟩,u3,vs3,rfl,⟨t3,rfl⟩,u4,vs4,rfl,⟨t4,rfl⟩,u5,vs5,rfl,⟨t5,rfl⟩,rfl⟩,e1,hn⟩:=q
  exact ⟨t1,t2,t3,t4,t5,t,e1,hn⟩
end
theorem xP.new {h1 h' h'':ay} {D:List aH} {t:aH} {tg:C.Dc} {a b c d:Nat} {t0 t1 t2 t3 t4:jR} {ia ib ic id:Int} (ea:ia=a) (eb:ib=b) (ec:ic=c) (ed:id=d) (hN:iK h1 h' t (jX [.str (AR tg) t0,.int ia t1,.int ib t2,.int ic t3,.int id t4])) (hk:ba D h' h'') (hn:t∉D):xP (bC h'' D) (.ref t) (tg,a,b,c,d):=by
 subst ea eb ec ed
 exact ⟨t,t0,t1,t2,t3,t4,rfl,_,cH (hk _ _ hN.yes hn) hn rfl,rfl,_,rfl⟩
section
variable {w:aP} {A:aS} {g₀:ay} {L An x:aH} {s:am} {its:Array ag} {n:Nat} {i j:Nat} {ti tj a1 a2 a3:jR} {b:C.cv} {acc:List C.Op}
theorem CC {h:ay} {m:List (bU×ag)} {c:List (aH×cA)} {g:ay} {t0:jR} (S:St g (oe L) s.heap (om x An i j ti tj ((Gm,.int b.1 a1)::(Gn,.int b.2.1 a2)::(lJ,.int b.2.2 a3)::(Gs,.str (CE none) t0)::[])) c) :
  aF (aB PQ w) A (fA (GZ.getD 1 (.Pass p0)) (oe L)) (fun fl s'=>fl=.next∧lT fun h' tk t=>s'=(sh s h' tk)∧St g (oe L) h' (om x An i j ti tj ((Gm,.int b.1 a1)::(Gn,.int b.2.1 a2)::(lJ,.int b.2.2 a3)::(Gs,.str (CE (rp i j b.1 b.2.1)) t)::[])) c) (fun O O=>False) s:=by
 refine fV (s:=s) (b:=decide (i<b.1∧j<b.2.1)) (Et.and2 (Et.ints (Ev.nmI S) (Ev.nmI S)) (Et.ints (Ev.nmI S) (Ev.nmI S)) ?_ ?_) fun tk=>?_
 ·simp only [eI];exact decide_eq_decide.mpr ct
 ·simp only [eI];exact decide_eq_decide.mpr ct
 by_cases c1:i<b.1∧j<b.2.1
 ·rw [decide_eq_true c1,if_pos rfl]
  refine aT (fz (s:={ s with toks:=tk}) S Ev.str fun v h' tk' hv S'=>⟨rfl,aw ?_⟩)
  obtain ⟨t,rfl⟩:=hv
  exact ⟨rfl,h',tk',t,rfl,by rw [rp,if_pos c1];exact S'⟩
 rw [decide_eq_false c1,if_neg (by decide)]
 refine aT (fV (s:={ s with toks:=tk}) (b:=decide (i<b.1)) (Et.of (Et.ints (Ev.nmI S) (Ev.nmI S)) ?_) fun tk=>?_)
 ·simp only [eI];exact decide_eq_decide.mpr ct
 by_cases c2:i<b.1
 ·rw [decide_eq_true c2,if_pos rfl]
  refine aT (fz (s:={ s with toks:=tk}) S Ev.str fun v h' tk' hv S'=>⟨rfl,aw ⟨rfl,aw ?_⟩⟩)
  obtain ⟨t,rfl⟩:=hv
  exact ⟨rfl,h',tk',t,rfl,by rw [rp,if_neg c1,if_pos c2];exact S'⟩
 rw [decide_eq_false c2,if_neg (by decide)]
 refine aT (fV (s:={ s with toks:=tk}) (b:=decide (j<b.2.1)) (Et.of (Et.ints (Ev.nmI S) (Ev.nmI S)) ?_) fun tk=>?_)
 ·simp only [eI];exact decide_eq_decide.mpr ct
 by_cases c3:j<b.2.1
 ·rw [decide_eq_true c3,if_pos rfl]
  refine aT (fz (s:={ s with toks:=tk}) S Ev.str fun v h' tk' hv S'=>⟨rfl,aw ⟨rfl,aw ⟨rfl,aw ?_⟩⟩⟩)
  obtain ⟨t,rfl⟩:=hv
  exact ⟨rfl,h',tk',t,rfl,by rw [rp,if_neg c1,if_neg c2,if_pos c3];exact S'⟩
 rw [decide_eq_false c3,if_neg (by decide)]
 exact aw ⟨rfl,aw ⟨rfl,aw ⟨rfl,s.heap,tk,t0,rfl,by rw [rp,if_neg c1,if_neg c2,if_neg c3];exact S⟩⟩⟩
theorem Az (hA:eV A 0) (Lh:Lp g₀ (oX L An) (oe L) s.heap (om x An i j ti tj [(Gm,.int b.1 a1),(Gn,.int b.2.1 a2),(lJ,.int b.2.2 a3)]) [(An,ch its n)])
  (ho:lA s.heap (oX L An) its acc) (hal:acc.length≤100000) :
  aF (aB PQ w) A (eK GZ (oe L)) (fun fl s'=>fl=.next∧xN fun h' tk its' n' u1 u2=>lO (s'=(sh s h' tk)) (ba (oX L An) s.heap h') (Lp g₀ (oX L An) (oe L) h' (om x An (b.1+b.2.2) (b.2.1+b.2.2) u1 u2 []) [(An,ch its' n')]) (lA h' (oX L An) its' (acc++(C.kh i j b.1 b.2.1++C.qx b)))) (fun O O=>False) s:=by
 have S:=Lh.st
 have hin:∀{h':ay} {m:List (bU×ag)} {o:cA},St (bp s.heap (oX L An)) (oe L) h' m [(An,o)]→vS (oX L An) h':=fun {h' m o} S' c hc=>by
  rcases aC.mp hc with rfl|hc
  ·exact ⟨_,S'.get (.head _)⟩
  ·exact S'.lie _ hc
 refine aT (fz (s:=s) S Ev.str fun v h1 tk1 hv S1=>⟨rfl,?_⟩)
 obtain ⟨t0,rfl⟩:=hv
 refine aT (show aF _ _ (fA (GZ.getD 1 (.Pass p0)) (oe L)) _ _ _ from aL (CC (s:=sh s h1 tk1) (h:=h1) (m:=[]) S1) (fun fl s' q=>?_) fun O O z=>z)
 obtain ⟨rfl,h2,tk2,t2,rfl,S2⟩:=q
 refine ⟨rfl,?_⟩
 have hol:=ho.length
 rw [aJ] at hol
 have ho2:lA h2 (oX L An) its acc:=ho.mono fun O O z=>z.sub (bP S2.keep)
 have hO:(CE (rp i j b.1 b.2.1)).length<1000:=by
  cases rp i j b.1 b.2.1 with
  | none=>decide
  | some t=>cases t<;>decide
 refine aT (aL (Q:=fun f s'=>f=.next∧oN fun h3 tk3 its3 n3=>lO (s'=(sh s h3 tk3)) (ba (oX L An) s.heap h3) (Lp g₀ (oX L An) (oe L) h3 (om x An i j ti tj [(Gm,.int b.1 a1),(Gn,.int b.2.1 a2),(lJ,.int b.2.2 a3)]) [(An,ch its3 n3)]) (lA h3 (oX L An) its3 (acc++C.kh i j b.1 b.2.1))) (E:=fun O O=>False) ?_ (fun fl s' q=>?_) fun O O z=>z)
 ·refine fV (s:=sh s h2 tk2) (Et.of (Et.strLen hO (Ev.nm S2)) (AD _)) fun tk3=>?_
  rw [ui]
  cases hg:rp i j b.1 b.2.1 with
  | none=>
   rw [hg] at S2
   refine aw ⟨rfl,h2,tk3,its,n,rfl,S2.kept,(Lh.next S2 (da (.head _))).forget (iY.mem ⟨rfl,rfl,rfl,rfl,rfl,rfl,rfl,trivial⟩),?_⟩
   skip
   rw [du];exact ho2
  | some tg=>
   rw [hg] at S2
   rw [show (some tg).isSome=true from rfl,if_pos rfl]
   refine aT (fP (s:=sh s h2 tk3) (pre:=[]) (post:=[]) S2 (Eg.five ((Ev.nm S2).mono fun v hv=>⟨_,hv⟩) (Ev.nmI S2) (Ev.nmI S2) (Ev.nmI S2) (Ev.nmI S2)) (by simp) (by simp) (by rw [ew];exact cW (.le aq (.k 16777216) (.le ar (.k 100000) (.eq aq ar .o))) τ hal hol) fun v hv h6 tk8 kv hp k6 S6=>⟨rfl,aw ⟨rfl,?_⟩⟩)
   obtain ⟨u0,u1,u2,u3,u4,T,rfl,hN⟩:=hp
   have hTD:=hN.notin (hin S2)
   refine ⟨h6,tk8,_,_,rfl,S6.kept,(Lh.next S6 (da (.head _))).forget (iY.mem ⟨rfl,rfl,rfl,rfl,rfl,rfl,rfl,trivial⟩),?_⟩
   unfold lA
   rw [bX]
   have k26:ba (oX L An) h2 h6:=(kv.mono il).trans (k6.mono (da (.head _)))
   exact (ho2.mono fun O O z=>z.sub (cM fun b o q n O=>⟨k26 _ _ q n,n⟩)).append (.cons (xP.new rfl rfl rfl rfl hN (k6.mono (da (.head _))) hTD) .nil)
 obtain ⟨rfl,h3,tk3,its3,n3,rfl,k3,L3,ho3⟩:=q
 refine ⟨rfl,?_⟩
 have S3:=L3.st
 have hol3:=ho3.length
 rw [aJ,bL] at hol3
 have hgl:(C.kh i j b.1 b.2.1).length≤1:=by rw [ui];cases rp i j b.1 b.2.1<;>simp
 refine aT (vD (s:=sh s h3 tk3) hA.hd S3 (Ev.add (Ev.nmI S3) (Ev.nmI S3)) (Ev.add (Ev.nmI S3) (Ev.nmI S3)) fun h4 tk4 v1 v2 S4=>⟨rfl,?_⟩)
 have ho4:lA h4 (oX L An) its3 (acc++C.kh i j b.1 b.2.1):=ho3.mono fun O O z=>z.sub (bP S4.keep)
 have e1:(b.1:Int)+(b.2.2:Int)=((b.1+b.2.2:Nat):Int):=rfl
 have e2:(b.2.1:Int)+(b.2.2:Int)=((b.2.1+b.2.2:Nat):Int):=rfl
 rw [e1,e2] at S4
 have k4:=k3.trans S4.kept
 refine aT (fV (s:=sh s h4 tk4) (b:=((b.2.2:Int) != 0)) (Et.int (Ev.nmI S4)) fun tk5=>?_)
 by_cases hz:b.2.2=0
 ·have:((b.2.2:Int) != 0)=false:=by simp [hz]
  rw [this,if_neg (by decide)]
  refine aw ⟨rfl,aw ⟨rfl,h4,tk5,its3,n3,v1,v2,rfl,k4,(L3.next S4 (da (.head _))).forget (iY.mem ⟨rfl,rfl,rfl,rfl,trivial⟩),?_⟩⟩
  have:C.qx b=[]:=by unfold C.qx;rw [if_pos hz]
  rw [this,du]
  exact ho4
 ·have:((b.2.2:Int) != 0)=true:=by simp [hz]
  rw [this,if_pos rfl]
  refine aT (fP (s:=sh s h4 tk5) (pre:=[]) (post:=[]) S4 (Eg.five (str:=AR .eql) Ev.str (Ev.nmI S4) (Ev.nmI S4) (Ev.nmI S4) (Ev.nmI S4)) (by simp) (by simp) (by rw [ew];exact c8 (.le aq (.k 16777216) (.le ar (.k 100000) (.eq aq (.p ar az) (.le az (.k 1) .o)))) τ hal hol3 hgl) fun v hv h6 tk8 kv hp k6 S6=>⟨rfl,aw ⟨rfl,aw ⟨rfl,?_⟩⟩⟩)
  obtain ⟨u0,u1,u2,u3,u4,T,rfl,hN⟩:=hp
  have hTD:=hN.notin (D:=oX L An) (fun c hc=>by
   rcases aC.mp hc with rfl|hc
   ·exact ⟨_,S4.get (.head _)⟩
   ·exact S4.lie _ hc)
  refine ⟨h6,tk8,_,_,v1,v2,rfl,k3.trans S6.kept,(L3.next S6 (da (.head _))).forget (iY.mem ⟨rfl,rfl,rfl,rfl,trivial⟩),?_⟩
  have:C.qx b=[(.eql,b.1,b.1+b.2.2,b.2.1,b.2.1+b.2.2)]:=by unfold C.qx;rw [if_neg hz]
  rw [this,←bK]
  unfold lA
  rw [bX]
  exact (ho3.mono fun O O z=>z.sub (bP S6.keep)).append (.cons (xP.new rfl rfl rfl rfl hN (k6.mono (da (.head _))) hTD) .nil)
end
theorem CD (i j:Nat) (b:C.cv) (l:List C.cv):C.ty i j (b::l)=(C.kh i j b.1 b.2.1++C.qx b)++C.ty (b.1+b.2.2) (b.2.1+b.2.2) l:=by rw [bK];rfl
noncomputable def Hm (h:ay) (l:List C.Op) (v:ag) (h':ay):Prop:=lT fun R its n=>lO (v=.ref R) (h.get? R=none) (h'.get? R=some (ch its n)) (lA h' [R] its l)
structure Fs (g₀:ay) (L An x:aH) (h1:ay) (bs:List C.cv) (p:Nat) (h:ay) (its:Array ag) (n i j:Nat) (ti tj:jR) (acc:List C.Op):Prop where
 k:ba (oX L An) h1 h
 lp:Lp g₀ (oX L An) (oe L) h (om x An i j ti tj []) [(An,ch its n)]
 o:lA h (oX L An) its acc
 e:acc++C.ty i j (bs.drop p)=C.ty 0 0 bs
 l:acc.length≤2*p
section
variable {w:aP} {A:aS} {h:ay} {x dx f sd d J Pp:aH} {od:cA} {xs ys:List Int} {S:Int→Bool}
theorem xD {prog:aV} {s:am} {e:gy} {target iter:au} {body:List fC} {pos:dJ} {D:List aH} {P:ag→ay→Prop} {Q:dW→am→Prop} (H:Ed prog w A e s.heap D iter P)
  (K:∀v h1 tk,ba D s.heap h1→P v h1→aF (aB prog w) A (pyIter v) (fun it s₂=>hW (aB prog w) A (.forLoop target it body [] e) (fun r s'=>match r with|.ok f=>Q f s'|.error e'=>oZ (aB prog w) A e (fun O O=>False) e' s') s₂) (fun O O=>False) (sh s h1 tk))
  (hs:autoParam (∀x,er iter e x=cJ x) rfA):aF (aB prog w) A (fA (.For target iter body [] pos) e) Q (fun O O=>False) s:=
 rx (H s _ _ rfl fun v h1 tk k p=>K v h1 tk k p) hs
theorem CB {g₀ h1:ay} {L An M:aH} {s:am} {mi its:Array ag} {n k:Nat} {bs:List C.cv} {ti tj:jR} {p1 p2 p3 pt:dJ} (hA:eV A 0) (X:Cx w g₀) (hs:s.heap=h1) (hM:h1.IsList M mi) (hMD:M∉oX L An) (hm:dL (fun v x=>MV g₀ v x) mi.toList bs) (hbl:bs.length≤9000)
  (L0:Lp g₀ (oX L An) (oe L) h1 (om x An 0 0 ti tj []) [(An,ch its n)]) (ho:lA h1 (oX L An) its []) {Q:dW→am→Prop}
  (done:∀h tk its n i j ti tj,Fs g₀ L An x h1 bs bs.length h its n i j ti tj (C.ty 0 0 bs)→Q .next (sh s h tk)) :
  aF (aB PQ w) A (pyIter (.ref M)) (fun it s₂=>hW (aB PQ w) A (.forLoop (.Tuple [.Name Gm p1,.Name Gn p2,.Name lJ p3] k pt) it GZ [] (oe L)) (fun r s'=>match r with|.ok f=>Q f s'|.error e'=>oZ (aB PQ w) A (oe L) (fun O O=>False) e' s') s₂) (fun O O=>False) s:=by
 subst hs
 have hml:=hm.length
 rw [aJ] at hml
 have S0:=L0.st
 refine pQ hA.hd (oX L An) (fun b=>∃o,s.heap.get? b=some o) (fun b z=>z) (fun p h=>DM fun its n i j ti tj acc=>Fs g₀ L An x s.heap bs p h its n i j ti tj acc) hM hMD ?_ (fun h' k'=>⟨its,n,0,0,ti,tj,[],k'.mono (by simp),L0.grow k',ho.mono fun O O z=>z.sub (bP (S0.grow k').keep),rfl,bd _⟩) ?_ ?_ ?_
 ·intro b hb
  rcases aC.mp hb with rfl|hb
  ·exact ⟨_,S0.get (.head _)⟩
  ·exact S0.lie _ hb
 ·rintro p h h' ⟨its,n,i,j,ti,tj,acc,I⟩ hk
  exact ⟨its,n,i,j,ti,tj,acc,I.k.stab hk (fun b o q O=>⟨o,q⟩),I.lp.stab hk,I.o.mono fun O O z=>z.sub (iX hk),I.e,I.l⟩
 ·rintro p v h tk hp hpv ⟨its,n,i,j,ti,tj,acc,I⟩
  have hpb:p<bs.length:=by exact av hp (aA hml)
  obtain ⟨b,hb,r,dx,y1,y2,y3,rfl,hr⟩:=hm.get p v (by simpa using hpv)
  have hdrop:bs.drop p=b::bs.drop (p+1):=by
   rw [aW hpb] at hb
   rw [←iE hb];exact eX hpb
  refine pp (s:=sh s h tk) hA.hd (X.sub I.lp.here) I.lp.st (I.lp.here _ _ hr) fun h1 tk1 S1=>?_
  have hl:=I.l
  refine aL (Az (s:=sh s h1 tk1) hA (I.lp.next S1 (da (.head _))) (I.o.mono fun O O z=>z.sub (bP S1.keep)) (by exact c8 (.le aq (.k 100000) (.w 2 (.le ar (.k 9000) (.w 2 (.lt az ar (.le aq (.m 2 az) .o)))))) τ hbl hpb hl)) (fun fl s' q=>?_) fun O O z=>z
  obtain ⟨rfl,h2,tk2,its2,n2,u1,u2,rfl,k2,L2,o2⟩:=q
  have e:=I.e
  rw [hdrop,CD,←bK] at e
  refine ⟨h2,tk2,rfl,S1.kept.trans k2,its2,n2,_,_,u1,u2,_,I.k.trans (S1.kept.trans k2),L2,o2,e,?_⟩
  rw [bL,bL]
  have g1:(C.kh i j b.1 b.2.1).length≤1:=by rw [ui];cases rp i j b.1 b.2.1<;>simp
  have g2:(C.qx b).length≤1:=by unfold C.qx;split<;>simp
  exact cR (.le (.p aq (.p ar az)) (.m 2 (.s 3 1)) (.le aq (.m 2 aI) (.le ar (.k 1) (.le az (.k 1) .o)))) τ hl g1 g2
 ·rintro h tk ⟨its,n,i,j,ti,tj,acc,I⟩
  rw [hml] at I
  have e:=I.e
  rw [List.drop_length] at e
  have:acc=C.ty 0 0 bs:=by rw [←e];exact (du _).symm
  exact done h tk its n i j ti tj (this▸I)
theorem IQ (f sd d J Pp An:aH):AM (gC lI (.ref An) (Gk f sd d J Pp)) f sd d J:=⟨rfl,rfl,rfl,rfl,rfl,rfl,rfl,bI rfl⟩
theorem E3 (hA:eV A 5) (N:MX w (bC h [dx]) x dx f sd d J xs ys S) (hd:h.get? dx=some od) (hO:DO od (Gk f sd d J Pp)) :
  Cd PQ w A h [dx] (.ref 210) [.ref x] (Hm h (C.ty 0 0 (r7 xs ys S))):=by
 have X0:=N.X.sub (cD h [dx])
 obtain ⟨mg,mb,T⟩:=X0.T
 refine Cd.enter (c:=[(dx,od)]) (by have:=hA.dp;exact cW (.lt aq ar (.lt (.s 0 5) ar .o)) τ this) (X0.K _ _ (Dj _)) rfl T.nolimit (f7 X0.K (BG _)) rfl (fun s hs=>.of_eq (Bm _)) (by decide +kernel) (da rfl) rfl (da ⟨hd,by simp⟩) (fun L s hL hk S0=>?_)
 have hA1:=hA.deeper (di qT L 210)
 have N1:∀h',Sub (bp h [dx]) h'→MX w (bC h' [dx]) x dx f sd d J xs ys S:=fun h' q=>N.sub (bP q)
 have X1:∀h',Sub (bp h [dx]) h'→Cx w h':=fun h' q=>(N1 h' q).X.sub (cD _ _)
 have hx1:∀h',Sub (bp h [dx]) h'→h'.get? x=some (dA 242 dx):=fun h' q=>cD _ _ _ _ (N1 h' q).hx
 refine wq fun R1_ hR1=>?_
 refine aT (md fun tk=>⟨rfl,?_⟩)
 refine aT (fV (s:={ s with toks:=tk}) (b:=false) (Et.of (Et.isNot (Ev.attr (X1 _ S0.keep) (Ev.nm S0) (hx1 _ S0.keep) (S0.get (.head _)) hO)) rfl) fun tk0=>?_)
 skip
 refine aw ⟨rfl,?_⟩
 refine aT (mj (Ev.int (h:=s.heap) { s with toks:=tk0} _ _ rfl fun v tk hv0=>?_))
 obtain ⟨t0,rfl⟩:=hv0
 refine assign_Name (bE (s:={ s with toks:=tk}) S0 fun h1 tk1 S1=>?_)
 refine assign_Name (bE (s:=sh s h1 tk1) S1 fun h2 tk2 S2=>⟨rfl,?_⟩)
 refine aT (me (s:=sh s h2 tk2) (P:=fun v h'=>∃z,v=.ref z∧iK h2 h' z (ch #[] 0)) ((Eg.lst Es.nil (by rintro vs h' ⟨_,rfl⟩;exact aX _)).mono fun v h' O q=>?_) fun v h3 tk3 k3 hv=>?_)
 ·obtain ⟨vs,h1',a,k1',⟨rfl,rfl⟩,rfl,hN⟩:=q
  exact ⟨a,rfl,hN⟩
 obtain ⟨An,rfl,hN⟩:=hv
 have hAd:An≠dx:=(qn (S2.get (.head _)) hN.no).symm
 have S3:=S2.add k3 hN.yes hN.no
 refine ke (s:=sh s h3 tk3) (pre:=[(An,ch #[] 0)]) (post:=[]) (X1 _ S3.keep) S3 (hx1 _ S3.keep) hO (bI rfl) (da hAd) il fun h4 od4 tk4 k4 hO4 S4=>?_
 refine bE (s:=sh s h4 tk4) S4 (fun h5 tk5 S5=>⟨rfl,?_⟩)
 refine aT (xD (s:=sh s h5 tk5) (D:=[dx]) (Ed.meth0 (X1 _ S5.keep) (Ev.nm S5) (hx1 _ S5.keep) (S5.get (.tail _ (.head _))) hO4 ((X1 _ S5.keep).K _ _ (Di _)) rfl (Eu hA1 (N1 _ S5.keep) (S5.get (.tail _ (.head _))) hO4 (IQ _ _ _ _ _ _))) fun v h6 tk6 k6 hv=>?_)
 obtain ⟨M,mi,nm,od6,rfl,hM0,hM,hd6,hO6,hms⟩:=hv
 have hAo:=S5.own _ (.head _)
 have hdo:=S5.own _ (.tail _ (.head _))
 have hAF:∀b∈oX L An,∃o,h5.get? b=some o:=fun b hb=>by
  rcases aC.mp hb with rfl|hb
  ·exact ⟨_,hAo.1⟩
  ·exact S5.lie _ hb
 have hMD:M∉oX L An:=fun z=>by obtain ⟨o,ho⟩:=hAF _ z;exact nn hM0 ho
 have S6:=S5.change (pre:=[(An,ch #[] 0)]) (post:=[]) k6 hd6 (da hAd) il
 have hg:∀b o,(bp h [dx]).get? b=some o→b∉oX L An:=fun b o q z=>by
  rcases aC.mp z with rfl|z
  ·exact nn hAo.2.2 q
  ·exact nn (S5.off b z) q
 have hV:Sub (bC h [dx]) (bC h6 (oX L An)):=fun b o q=>cH (S6.keep _ _ (bq _ (cZ q).1 (cZ q).2.1)) (hg b o (bq _ (cZ q).1 (cZ q).2.1)) (cZ q).2.2
 have hm6:dL (fun v x=>MV (bC h6 (oX L An)) v x) mi.toList (r7 xs ys S):=hms.mono fun v x z=>by
  obtain ⟨r,d',a1,a2,a3,e,q⟩:=z
  refine ⟨r,d',a1,a2,a3,e,cH q (fun z=>?_) rfl⟩
  rcases aC.mp z with z|z
  ·rw [z,S6.get (.head _)] at q
   exact absurd (congrArg cA.cls (iE q)) (show ¬dk "list" = oo 135 by decide)
  ·exact S6.seqOff (show ((oe L).cells.map (·.1)).Nodup from i5) q rfl z
 have hb:∀g,C.Sub xs.length ys.length g→C.mB (ie xs ys S) g (C.bst (ie xs ys S) g):=fun g hg=>C.kg hg
 have hbl:(r7 xs ys S).length≤9000:=by
  have h1:=C.zq (e:=gL xs ys) hb (lL xs ys)
  have h2:=C.qF (C.MM (gL xs ys) (C.bst (ie xs ys S)) (rq xs ys)) (0,0,0)
  have h3:(rq xs ys).ah-(rq xs ys).al=xs.length:=rfl
  have:=N.lx
  unfold r7
  rw [bL,f9]
  exact cR (.le (.s 0 1) (.k 9000) (.le ar az (.le aq (.s 1 1) (.eq az aI (.le aI (.k 3000) .o))))) τ h1 h2 h3 this
 have L6:Lp (bC h6 (oX L An)) (oX L An) (oe L) h6 (om x An 0 0 t0 t0 []) [(An,ch #[] 0)]:=
  Lp.forget ⟨fun O O q=>q,(S6.less (c':=[(An,ch #[] 0)]) (da (.head _))).rebase (oX L An) (fun O q=>.tail _ q) (da (.head _))⟩ (iY.mem ⟨rfl,rfl,rfl,rfl,trivial⟩)
 refine CB (s:=sh s h6 tk6) (bs:=r7 xs ys S) (hA1.less (aX _)) (N.X.sub hV) rfl ⟨_,hM,rfl,_,rfl⟩ hMD hm6 hbl L6 .nil fun h7 tk7 its n i j ti tj I=>⟨rfl,?_⟩
 refine nv (s:=sh s h7 tk7) (Ev.gg (Ev.nm I.lp.st)) fun v h' tk' k' hp=>?_
 obtain ⟨rfl,rfl⟩:=hp
 refine hR1 (.ret _) _ ⟨_,tk',rfl,fun b o q=>I.k _ _ (S6.keep _ _ q) (hg b o q),An,its,n,rfl,?_,I.lp.st.get (.head _),I.o.mono fun O O z=>z.sub (cM fun b o q n O=>⟨q,fun z=>n (by rw [aD.mp z];exact .head _)⟩)⟩
 cases q:h.get? An with
 | none=>rfl
 | some o=>have:=bq [dx] q (qZ hAd);exact nn hAo.2.2 this
end
noncomputable def qU:dP:=pP (g6 10) zd .none .none (.str eo 583) none (.ref 269)
theorem Fx (P:bF):(KF P).lookup 270=some ⟨.type "function",none,.func qU,#[]⟩:=by kernel_rfl!
theorem BK (P:bF):oa (KF P) qU.code qU.qualname=true:=by kernel_rfl!
theorem Bq (a:ag):js qU ⟨[a],[]⟩=cJ [(kP,a)]:=by rfl
noncomputable abbrev dK (L:aH):gy:=jT qU L 270
noncomputable def Cb:List fC:=sJ (g6 10)
noncomputable def I4:List fC:=sJ (Cb.getD 2 (.Pass p0))
theorem Gw (L:aH):((dK L).cells.map (·.1)).Nodup:=by
 show (((rg (L+1) qU.scope.names []).map (·.1)):List bU).Nodup
 exact jC _ _ [] (by decide +kernel)
theorem t8:fD ul=some (.builtin "divmod"):=by decide +kernel
section
variable {prog:aV} {w:aP} {A:aS} {e:gy} {h:ay}
theorem Eg.divmod {p pos:dJ} {x y:au} {a b:Int} (C:Cx w h) (Hx:Ev prog w A e h x (fr a)) (Hy:Ev prog w A e h y (fr b)) (hb:b≠0) (hp:cc.divisionGoesByPylong a b=false) (hk:autoParam (e.scope.kind=.function) rfA) (hx:autoParam (e.kindOf ul=some .globalImplicit) rfA)
  (hg:autoParam (e.globals=cu) rfA) (hbi:autoParam (e.builtins=ej) rfA) (he:autoParam (aE [x,y] e=(false,cO x e)::aE [y] e) rfA) (he':autoParam (aE [y] e=(false,cO y e)::aE [] e) rfA) :
  Eg prog w A e h (.Call (.Name ul p) [x,y] [] pos) (fun v h'=>lT fun t t1 t2=>v=.ref t∧iK h h' t (jX [.int (a.fdiv b) t1,.int (a.fmod b) t2])):=
 Eg.callB (Ev.bltn C (fun O=>by kernel_rfl!) t8 (by decide +kernel) hk hx hg hbi) (Es.more Hx (Es.more Hy Es.nil he') he) (fun vs h1 O hv=>by
  obtain ⟨rfl,v,vs',rfl,⟨t,rfl⟩,u,vs'',rfl,⟨t',rfl⟩,rfl⟩:=hv
  exact fun s Q E hs k=>by
   subst hs
   exact divmod_int hb (k _ _ _ (.push _ _ _) ⟨_,_,_,rfl,iK.push _ _⟩) (.inl hp)) he (by rw [he'];rfl)
theorem xz (v:ag):∀(k:Nat) (acc:Array ag),List.foldl (fun x1 x2=>x1++x2) acc (i6 k #[v])=acc++(i6 k v).toArray
 | 0,acc=>by simp
 | k+1,acc=>by rw [List.replicate_succ,qf,xz v k];apply Array.toList_inj.mp;simp [List.replicate_succ]
theorem u9 (z:Int) (t:jR):∀k:Nat,cf (i6 k (.int z t)) (i6 k z)
 | 0=>.nil
 | k+1=>.cons z t (u9 z t k)
theorem Eg.mulOne {l r:au} {pos:dJ} {z n:Int} (Hl:Ev prog w A e h l (fr z)) (Hr:∀h1,ba [] h h1→Ev prog w A e h1 r (fr n)) (h0:0≤n) (h1:n≤1000) {lp:dJ} (hl:autoParam (aE [l] e=(false,cO l e)::aE [] e) rfA) :
  Eg prog w A e h (.BinOp (.List [l] lp) .Mult r pos) (fun v h'=>g8 fun a vs=>lO (v=.ref a) (h.get? a=none) (h'.get? a=some (ch vs.toArray 0)) (cf vs (i6 n.toNat z))):=fun s Q E hs k=>by
 refine wpAny_BinOp (Eg.lst (Es.one (Ev.gg Hl) hl) (by rintro vs h' ⟨v,rfl,_⟩;show 1≤2^24;decide) s _ _ hs fun x h1' tk k1 hx=>Hr h1' k1 _ _ _ rfl fun y tk2 hy=>?_)
 obtain ⟨vs,h2,a,k2,⟨v,rfl,rfl,t,rfl⟩,rfl,hN⟩:=hx
 obtain ⟨u,rfl⟩:=hy
 have hsz:(([gu z t].toArray).size*n.toNat)=n.toNat:=by simp
 refine wpAny_binaryOp_repeat_ref (s:=sh s h1' tk2) (T:= "list") (U:= "int") (by decide) ⟨_,hN.yes,rfl⟩ (fun s'=>typeIs_int s' n u) noFill_list_mul PySem.F.fills_int_mul PySem.F.slot_int_rmul repeat_list PySem.F.slot_int_index.lookup
  (rK PySem.F.slot_int_rmul (typeIs_int _ n u) PySem.F.entry_int_rmul (PySem.F.args_int_rmul_2 _ _) (int___rmul___int_list n u a [gu z t].toArray 0)
   ⟨hN.yes,rfl,⟨_,hN.yes,rfl⟩,rK PySem.F.slot_list_mul ⟨_,hN.yes,rfl⟩ PySem.F.entry_list_mul (PySem.F.args_list_mul_2 _ _)
    (AutoListH.list___mul___list_int_3 a [gu z t].toArray 0 n u (by simp [gG];lia) (by rw [hsz];lia) (by rw [hsz];simp [cc.List.listTooLong,fc];lia))
    ⟨hN.yes,?_⟩⟩)
 refine k _ _ tk2 (k1.trans (.push _ _ _)) ⟨_,i6 n.toNat (.int z t),rfl,dh k1 cP,?_,u9 z t _⟩
 rw [bG _ rfl]
 have:=xz (.int z t) n.toNat #[]
 simp only [Array.empty_append] at this
 rw [←this]
 rfl
end
noncomputable abbrev lm (sc F G:aH) (way:Int) (tw:jR) (more:List (bU×ag)):List (bU×ag):=(kP,.ref sc)::(HT,.int way tw)::(eU,.ref F)::(dB,.ref G)::more
noncomputable abbrev lD (L F G:aH):List aH:=F::G::FA (dK L)
structure LB (g₀:ay) (L sc F G:aH) (way:Int) (tw:jR) (h1:ay) (b:Nat) (h:ay) (fi gi:Array ag) (nf ng:Nat) (xs ys:List Int):Prop where
 k:ba (lD L F G) h1 h
 lp:Lp g₀ (lD L F G) (dK L) h (lm sc F G way tw []) [(F,ch fi nf),(G,ch gi ng)]
 f:cf fi.toList xs
 g:cf gi.toList ys
 fl:xs.length≤b
 gl:ys.length≤b
noncomputable def Ib (g₀:ay) (L sc F G:aH) (way:Int) (tw:jR) (s:am) (b:Nat) (fl:dW) (s':am):Prop:=fl=.next∧Ff fun h' tk fi gi nf ng xs ys=>s'=(sh s h' tk)∧LB g₀ L sc F G way tw s.heap b h' fi gi nf ng xs ys
section
variable {w:aP} {A:aS} {g₀:ay} {L sc F G:aH} {way z:Int} {tw tz:jR} {s:am} {fi gi:Array ag} {nf ng b:Nat} {xs ys:List Int}
theorem Ac (hA:eV A 0) (X:Cx w g₀) (hFG:F≠G) (Lh:Lp g₀ (lD L F G) (dK L) s.heap (lm sc F G way tw [(nX,.int z tz)]) [(F,ch fi nf),(G,ch gi ng)]) (hf:cf fi.toList xs) (hg:cf gi.toList ys) (hfl:xs.length≤b) (hgl:ys.length≤b) (hb:b≤1000) :
  aF (aB PQ w) A (eK I4 (dK L)) (Ib g₀ L sc F G way tw s (b+6)) (fun O O=>False) s:=by
 have hC:∀(u v:cA),∀p∈[(F,u),(G,v)],p.1∈lD L F G:=fun u v=>fv (.head _) (.tail _ (.head _))
 have S0:=Lh.st
 refine wq fun R1_ hR1=>?_
 refine aT (gN (s:=s) (Eg.divmod (X.sub Lh.here) (Ev.nmI S0) Ev.int (by decide) (gV (by decide +kernel))) fun v h1 tk1 k1 hv=>?_)
 obtain ⟨t,t1,t2,rfl,hN⟩:=hv
 refine gP (s:=sh s h1 tk1) hA.hd (S0.grow k1) ⟨_,hN.yes,rfl,_,rfl⟩ fun h2 tk2 S2=>⟨rfl,?_⟩
 have L2:=Lh.next S2 (hC _ _)
 generalize z.fdiv 3=r at S2 L2
 generalize z.fmod 3=kd at S2 L2
 refine aT (gN (s:=sh s h2 tk2) (Eg.divmod (X.sub L2.here) (Ev.nmI S2) Ev.int (by decide) (gV (by decide +kernel))) fun v h3 tk3 k3 hv=>?_)
 obtain ⟨t',t3,t4,rfl,hN'⟩:=hv
 refine gP (s:=sh s h3 tk3) hA.hd (S2.grow k3) ⟨_,hN'.yes,rfl,_,rfl⟩ fun h4 tk4 S4=>⟨rfl,?_⟩
 have hz0:0≤r.fmod 6:=Int.fmod_nonneg_of_pos _ (by decide)
 have hz1:r.fmod 6<6:=Int.fmod_lt_of_pos _ (by decide)
 generalize r.fmod 6=sz at S4 hz0 hz1
 generalize r.fdiv 6=r2 at S4
 refine aT (fz (s:=sh s h4 tk4) (P:=fun v=>∃i,fr i v) S4 (Ev.ifexp (c:=decide (0<way.fmod 4)) (Et.of (Et.ints (op:=.Gt) (Ev.fmod (Ev.nmI S4) Ev.int (by decide)) Ev.int) ?_) ?_) fun v h5 tk5 hv S5=>⟨rfl,?_⟩)
 ·simp only [eI]
 ·by_cases c:0<way.fmod 4
  ·rw [decide_eq_true c,if_pos rfl]
   exact (Ev.fmod (Ev.nmI S4) (Ev.mul (Ev.fmod (Ev.nmI S4) Ev.int (by decide)) Ev.int (IntMulOk.of_right (by decide))) (fun z=>absurd z (Int.ne_of_gt (Int.mul_pos c (by decide))))).mono fun v hv=>⟨_,hv⟩
  ·rw [decide_eq_false c,if_neg (by decide)]
   exact (Ev.nmI S4).mono fun v hv=>⟨_,hv⟩
 obtain ⟨i,ti,rfl⟩:=hv
 refine aT (cT (s:=sh s h5 tk5) (Eg.mulOne (n:=if i.fmod 4=0 then sz+1 else 1) (Ev.nmI S5) (fun h6 k6=>Ev.ifexp (c:=decide (i.fmod 4=0)) (Et.of (Et.ints (op:=.Eq) (Ev.fmod (Ev.nmI (S5.grow k6)) Ev.int (by decide)) Ev.int) ?_) ?_) (by split<;>first|exact Int.le_add_one hz0|decide) (by split<;>first|exact cx hz1 (by decide)|decide)) fun v h6 tk6 k6 hv=>?_)
 ·simp only [eI];rw [de,beq_iff_eq,decide_eq_true_iff]
 ·by_cases c:i.fmod 4=0
  ·rw [decide_eq_true c,if_pos rfl,if_pos c]
   exact Ev.add (Ev.nmI (S5.grow k6)) Ev.int
  ·rw [decide_eq_false c,if_neg (by decide),if_neg c]
   exact Ev.int
 obtain ⟨I,vs,rfl,hI0,hI,hvs⟩:=hv
 have hvl:vs.length≤6:=by
  rw [hvs.length,List.length_replicate]
  split<;>first|exact Int.toNat_le.mpr hz1|decide
 generalize i6 _ i=is at hvs
 refine bE (s:=sh s h6 tk6) (S5.add k6 hI hI0) fun h7 tk7 S7=>⟨rfl,?_⟩
 have hIF:I≠F:=fun e=>by replace hI0:=e▸hI0;have:=S5.get (.head _);exact nn hI0 this
 have hIG:I≠G:=fun e=>by rw [e] at hI0;have:=S5.get (.tail _ (.head _));exact nn hI0 this
 have hfz:=hf.length
 have hgz:=hg.length
 rw [aJ] at hfz hgz
 have hll:is.length≤6:=by rw [←hvs.length];exact hvl
 refine aT (aL (Q:=fun f s'=>f=.next∧zf fun h8 tk8 fi8 nf8 xs8=>lO (s'=(sh s h8 tk8)) (St (bp s.heap (lD L F G)) (dK L) h8 (lm sc F G way tw [(Gp,.int kd t2),(EO,.ref I)]) [(I,ch vs.toArray 0),(F,ch fi8 nf8),(G,ch gi ng)]) (cf fi8.toList xs8) (xs8.length≤b+6))
  (E:=fun O O=>False) ?_ (fun fl s' q=>?_) fun O O z=>z)
 ·refine wq fun R2_ hR2=>?_
  refine fV (s:=sh s h7 tk7) (b:=decide (kd≠2)) (Et.of (Et.ints (op:=.NotEq) (Ev.nmI S7) Ev.int) ?_) fun tk8=>?_
  ·simp only [eI];rw [de,bne_iff_ne,decide_eq_true_iff]
  by_cases c:kd≠2
  ·rw [decide_eq_true c,if_pos rfl]
   refine wq fun R3_ hR3=>?_
   refine aT (qL (s:=sh s h7 tk8) (pre:=[(I,ch vs.toArray 0)]) (post:=[(G,ch gi ng)]) (P:=fun v h'=>h'=h7∧v=.ref I) S7 (Ev.gg (Ev.nm S7)) (fun v h' q=>⟨I,_,_,q.2,q.1▸S7.get (.head _),by simp;exact cR (.le (.p aq ar) (.k 1048576) (.le az aI (.le aI (.k 1000) (.le ar (.k 6) (.eq aq az .o))))) τ hfl hb hvl hfz⟩) (da hIF) (da (dM hFG)) fun bb its2 n2 n' hv h8 tk9 k8 hp hb2 kF S8=>⟨rfl,aw (hR3 .next _ (hR2 .next _ ⟨rfl,?_⟩))⟩)
   obtain ⟨rfl,e⟩:=hp
   cases e
   have hits:its2=vs.toArray:=by
    have:=S7.get (.head _)
    rw [hb2] at this
    injection this with this;injection this with _ _ this _;injection this
   subst hits
   refine ⟨h8,tk9,_,_,xs++is,rfl,S8.names (iY.mem ⟨rfl,rfl,rfl,rfl,rfl,rfl,trivial⟩),?_,by rw [bL];exact c8 (.le (.p aq ar) (.s 2 6) (.le aq az (.le ar (.k 6) .o))) τ hfl hll⟩
   rw [b7]
   exact hf.append hvs
  ·rw [decide_eq_false c,if_neg (by decide)]
   exact aw (hR2 .next _ ⟨rfl,h7,tk8,fi,nf,xs,rfl,S7.names (iY.mem ⟨rfl,rfl,rfl,rfl,rfl,rfl,trivial⟩),hf,by exact cW (.le aq (.s 1 6) (.le aq ar .o)) τ hfl⟩)
 obtain ⟨rfl,h8,tk8,fi8,nf8,xs8,rfl,S8,hf8,hfl8⟩:=q
 refine ⟨rfl,?_⟩
 refine aT (fV (s:=sh s h8 tk8) (b:=decide (kd≠1)) (Et.of (Et.ints (op:=.NotEq) (Ev.nmI S8) Ev.int) ?_) fun tk9=>?_)
 ·simp only [eI];rw [de,bne_iff_ne,decide_eq_true_iff]
 by_cases c:kd≠1
 ·rw [decide_eq_true c,if_pos rfl]
  refine wq fun R4_ hR4=>?_
  refine aT (qL (s:=sh s h8 tk9) (pre:=[(I,ch vs.toArray 0),(F,ch fi8 nf8)]) (post:=[]) (P:=fun v h'=>h'=h8∧v=.ref I) S8 (Ev.gg (Ev.nm S8)) (fun v h' q=>⟨I,_,_,q.2,q.1▸S8.get (.head _),by simp;exact cR (.le (.p aq ar) (.k 1048576) (.le az aI (.le aI (.k 1000) (.le ar (.k 6) (.eq aq az .o))))) τ hgl hb hvl hgz⟩) (fv hIG hFG) (by simp) fun bb its2 n2 n' hv h9 tk10 k9 hp hb2 kG S9=>⟨rfl,aw (hR4 .next _ ⟨rfl,aw (hR1 .next _ ⟨rfl,?_⟩)⟩)⟩)
  obtain ⟨rfl,e⟩:=hp
  cases e
  have hits:its2=vs.toArray:=by
   have:=S8.get (.head _)
   rw [hb2] at this
   injection this with this;injection this with _ _ this _;injection this
  subst hits
  have S9':=(S9.names (m':=lm sc F G way tw []) (iY.mem ⟨rfl,rfl,rfl,rfl,trivial⟩)).less (c':=[(F,ch fi8 nf8),(G,ch (gi++vs.toArray) n')]) (fv (.tail _ (.head _)) (.tail _ (.tail _ (.head _))))
  refine ⟨h9,tk10,fi8,_,nf8,_,xs8,ys++is,rfl,S9'.kept,Lh.next S9' (hC _ _),hf8,?_,hfl8,by rw [bL];exact c8 (.le (.p aq ar) (.s 2 6) (.le aq az (.le ar (.k 6) .o))) τ hgl hll⟩
  rw [b7]
  exact hg.append hvs
 ·rw [decide_eq_false c,if_neg (by decide)]
  have S8':=(S8.names (m':=lm sc F G way tw []) (iY.mem ⟨rfl,rfl,rfl,rfl,trivial⟩)).less (c':=[(F,ch fi8 nf8),(G,ch gi ng)]) (fv (.tail _ (.head _)) (.tail _ (.tail _ (.head _))))
  exact aw ⟨rfl,aw (hR1 .next _ ⟨rfl,h8,tk9,fi8,gi,nf8,ng,xs8,ys,rfl,S8'.kept,Lh.next S8' (hC _ _),hf8,hg,hfl8,by exact cW (.le aq (.s 1 6) (.le aq ar .o)) τ hgl⟩)⟩
end
section
variable {prog:aV} {w:aP} {A:aS} {e:gy} {h:ay}
theorem Eg.ifexp {t a b:au} {pos:dJ} {c:Bool} {P:ag→ay→Prop} (Ht:Et prog w A e h t c) (H:Eg prog w A e h (if c then a else b) P):Eg prog w A e h (.IfExp t a b pos) P:=fun s Q E hs kk=>by
 refine wpAny_IfExp (Ht s _ _ hs fun tk=>?_)
 cases c with
 | true=>exact H { s with toks:=tk} _ _ hs kk
 | false=>exact H { s with toks:=tk} _ _ hs kk
noncomputable def DP (h:ay) (n:Nat) (v:ag) (h':ay):Prop:=lT fun r us ns=>lO (v=.ref r) (iK h h' r (ch us.toArray 0)) (cf us ns) (ns.length≤n)
theorem Eg.sliceA {value:au} {lower upper:Option au} {p pos:dJ} {f:aH} {xs:List Int} {lo hi:Option Int} {n:Nat} (H:Ev prog w A e h value (· = .ref f)) (hl:IL h f xs) (hsz:xs.length≤2^24)
  (Hl:∀(s:am) (Q:ag→am→Prop) (E:ag→am→Prop),s.heap=h→(∀v tk,IsPart v lo→Q v { s with toks:=tk})→aF (aB prog w) A (evalPart lower e) Q E s)
  (Hu:∀(s:am) (Q:ag→am→Prop) (E:ag→am→Prop),s.heap=h→(∀v tk,IsPart v hi→Q v { s with toks:=tk})→aF (aB prog w) A (evalPart upper e) Q E s)
  (hn:hi.elim xs.length (clipAt xs.length)-lo.elim 0 (clipAt xs.length)≤n) (ht:autoParam (∀o r,fb value o r=cJ ()) rfA):Eg prog w A e h (.Subscript value (.Slice lower upper none p) pos) (DP h n):=by
 obtain ⟨vs,hl,hi'⟩:=hl
 have hlen:=hi'.length
 refine (Eg.sliceL H hl (by simp;lia) Hl Hu ht).mono fun v h' O q=>?_
 obtain ⟨r,rfl,hN⟩:=q
 rw [slicePick_plain] at hN
 refine ⟨r,_,_,rfl,hN,qB _ (th _ hi'),?_⟩
 rw [dE]
 refine aj (aN _ _) ?_
 simpa [hlen] using hn
end
section
variable {w:aP} {A:aS} {g₀:ay} {L sc F G:aH} {way:Int} {tw:jR} {s:am} {nf ng:Nat} {script:List Int}
theorem B8 (hA:eV A 0) (X:Cx w g₀) (hFG:F≠G) (L0:Lp g₀ (lD L F G) (dK L) s.heap (lm sc F G way tw []) [(F,ch #[] nf),(G,ch #[] ng)]) (hsc:IL g₀ sc script) (hsl:script.length≤63) :
  aF (aB PQ w) A (fA (Cb.getD 2 (.Pass p0)) (dK L)) (Ib g₀ L sc F G way tw s 372) (fun O O=>False) s:=by
 have S0:=L0.st
 have hIL:=hsc.sub L0.here
 refine xE (P:=DP s.heap 62) hA.hd (Eg.ifexp (c:=decide (1<script.length)) (Et.of (Et.ints (op:=.Gt) (Ev.lenL (X.sub L0.here) (Ev.nm S0) hIL (by lia)) Ev.int) ?_) ?_) fun v h1 tk k1 hv=>?_
 ·simp only [eI];exact decide_eq_decide.mpr (by lia)
 ·by_cases c:1<script.length
  ·rw [decide_eq_true c,if_pos rfl]
   refine Eg.sliceA (Ev.nm S0) hIL (by lia) (gh Ev.int) (gh Ev.int) ?_
   skip
   refine aj (aA (congr (congrArg HSub.hSub (w7 63 script.length)) (w7 1 script.length))) ?_
   rw [df hsl,bz (aR c)]
   exact Nat.sub_le_sub_right hsl 1
  ·rw [decide_eq_false c,if_neg (by decide)]
   refine (Eg.lst (Es.more Ev.int (Es.more Ev.int Es.nil)) (by rintro vs h' ⟨rfl,v1,vs1,rfl,_,v2,vs2,rfl,_,rfl⟩;show 2≤2^24;decide)).mono fun v h' O q=>?_
   obtain ⟨vs,h1,a,k1,⟨rfl,u1,vs1,rfl,⟨t1,rfl⟩,u2,vs2,rfl,⟨t2,rfl⟩,rfl⟩,rfl,hN⟩:=q
   exact ⟨a,_,_,rfl,hN,.cons _ _ (.cons _ _ .nil),by decide⟩
 obtain ⟨r,us,ns,rfl,hN,hi,hn⟩:=hv
 have hul:=hi.length
 have hC:∀(u v:cA),∀p∈[(F,u),(G,v)],p.1∈lD L F G:=fun u v=>fv (.head _) (.tail _ (.head _))
 have hD:vS (lD L F G) s.heap:=fun b hb=>by
  rcases aC.mp hb with rfl|hb
  ·exact ⟨_,S0.get (.head _)⟩
  rcases aC.mp hb with rfl|hb
  ·exact ⟨_,S0.get (.tail _ (.head _))⟩
  ·exact S0.lie _ hb
 refine ⟨r,us.toArray,lD L F G,fun p h=>xN fun fi gi nf ng xs ys=>LB g₀ L sc F G way tw s.heap (6*p) h fi gi nf ng xs ys,rfl,⟨⟨_,hN.yes,rfl,_,rfl⟩,hN.notin hD,hD.sub fun b o q=>⟨o,k1.get q⟩,fun h' k'=>?_,?_,?_,?_⟩⟩
 ·have kk:=k1.trans k'
  exact ⟨#[],#[],nf,ng,[],[],kk.mono il,L0.grow kk,.nil,.nil,bd _,bd _⟩
 ·rintro i h h' ⟨fi,gi,nf,ng,xs,ys,I⟩ hk
  exact ⟨fi,gi,nf,ng,xs,ys,I.k.stab hk (fun b o q O=>⟨o,k1.get q⟩),I.lp.stab hk,I.f,I.g,I.fl,I.gl⟩
 ·rintro p v h tk hp hpv ⟨fi,gi,nf,ng,xs,ys,I⟩
  have hp':p<us.length:=hp
  obtain ⟨z,tz,rfl,_⟩:=hi.at p v (by simpa using hpv)
  refine assign_Name (bE (s:=sh s h tk) I.lp.st fun h1 tk1 S1=>?_)
  refine aL (Ac (s:=sh s h1 tk1) hA X hFG (I.lp.next S1 (hC _ _)) I.f I.g I.fl I.gl (by exact c8 (.le (.m 6 aq) (.k 1000) (.w 6 (.le ar (.k 62) (.w 6 (.eq az ar (.w 6 (.lt aq az .o))))))) τ hn hul hp')) (fun fl s' q=>?_) fun O O z=>z
  obtain ⟨rfl,h2,tk2,fi2,gi2,nf2,ng2,xs2,ys2,rfl,J⟩:=q
  exact ⟨h2,tk2,rfl,S1.kept.trans J.k,fi2,gi2,nf2,ng2,xs2,ys2,I.k.trans (S1.kept.trans J.k),J.lp,J.f,J.g,J.fl,J.gl⟩
 ·rintro h tk ⟨fi,gi,nf,ng,xs,ys,I⟩
  have:us.toArray.size=us.length:=by simp
  rw [this] at I
  exact ⟨rfl,h,tk,fi,gi,nf,ng,xs,ys,rfl,I.k,I.lp,I.f,I.g,aj I.fl (by exact cW (.le (.m 6 aq) (.k 372) (.w 6 (.le ar (.k 62) (.w 6 (.eq aq ar .o))))) τ hn hul),aj I.gl (by exact cW (.le (.m 6 aq) (.k 372) (.w 6 (.le ar (.k 62) (.w 6 (.eq aq ar .o))))) τ hn hul)⟩
end
section
variable {prog:aV} {w:aP} {A:aS} {s:am} {e:gy} {h h' g:ay} {m:List (bU×ag)} {c:List (aH×cA)} {E:ag→am→Prop}
theorem St.setK {ml:bU→Option ag} {x:bU} {v:ag} (S:St g e h m c) (hl:∀y u,iF m y=some u→e.kindOf y=some .local→ml y=some u) (hn:h'.Ns e.locals (fun y=>if y=x then some v else ml y)) (hs:∀b o,b≠e.locals→h.get? b=some o→h'.get? b=some o)
  (hx:e.cells.lookup x=none):St g e h' (gC x v m) c where
 ns:=⟨_,hn,fun y u hy hk=>by
  rw [uJ] at hy
  by_cases q:y=x
  ·rw [if_pos q] at hy ⊢;exact hy
  ·rw [if_neg q] at hy ⊢;exact hl y u hy hk⟩
 cl:=fun y a ha=>by
  obtain ⟨v',⟨o,p,r⟩,q⟩:=S.cl y a ha
  refine ⟨v',⟨o,hs _ _ (fun z=>S.away _ (em ha) z) p,r⟩,fun u hu=>?_⟩
  rw [uJ] at hu
  by_cases q':y=x
  ·rw [q',hx] at ha;cases ha
  ·rw [if_neg q'] at hu;exact q u hu
 apart:=S.apart
 away:=S.away
 keep:=fun b o q=>hs b o (fun z=>by rw [z,S.off _ FA.loc] at q;cases q) (S.keep b o q)
 off:=S.off
 lie:=fun a ha=>by
  by_cases q:a=e.locals
  ·obtain ⟨o,_,_,ho,_⟩:=hn;exact ⟨o,q▸ho⟩
  ·obtain ⟨o,ho⟩:=S.lie a ha;exact ⟨o,hs a o q ho⟩
 own:=fun p hp=>⟨hs p.1 _ (fun z=>(S.own p hp).2.1 (z▸FA.loc)) (S.own p hp).1,(S.own p hp).2⟩
noncomputable def oL (v:ag):Prop:=∃z,fr z v
theorem vp {α:Type} {l:List α} {m:List ag} (x:Paired (fun O y=>oL y) l m):∃ns,cf m ns∧ns.length=l.length:=by
 induction x with
 | nil=>exact ⟨[],.nil,rfl⟩
 | cons a _ b=>
  obtain ⟨z,t,e⟩:=a
  obtain ⟨ns,i,l⟩:=b
  exact ⟨z::ns,by rw [e];exact .cons z t i,congrArg Nat.succ l⟩
theorem yW {x y:bU} {px py pos spos:dJ} {iter elt:au} {scope:Scope} {cl:List (bU×aH)} {n:Nat} {m':List (bU×ag)} {Q:dW→am→Prop} (hh:A.handled=none) (S:St g e s.heap m c)
  (hi:Eg prog w A e s.heap iter (pM 0 n)) (hn:n≤2^20)
  (ht:∀C i t h',(∀b o,s.heap.get? b=some o→h'.get? b=some o)→St (bp h' (FA (eD scope cl C e))) (eD scope cl C e) h' ((x,.int ((i:Nat):Int) t)::m') []→Ev prog w A (eD scope cl C e) h' elt oL)
  (K:∀r h' tk vs ns k,s.heap.get? r=none→h'.get? r=some (ch vs k)→cf vs.toList ns→ns.length=n→St g e h' (gC y (.ref r) m) c→Q .next (sh s h' tk))
  (hsw:jc (.ListComp elt [⟨.Name x px,iter,[],0⟩] scope pos) (some (.Name y py)) spos.line e=cJ true)
  (hclos:closureFor scope e=cJ cl) (hcl:∀p∈cl,e.cells.lookup p.1=some p.2) (hnd:(cl.map (·.1)).Nodup) (hxc:cl.lookup x=none)
  (hm':∀p∈m',iF m p.1=some p.2) (hkl:∀C,∀p∈m',(eD scope cl C e).kindOf p.1≠some .local)
  (hcell:∀y∈scope.names,y.2≠.cell) (hkind:scope.kind=.function) (hnames:∀y∈scope.names,y.2=.local→scope.names.lookup y.1=some .local) (hx:scope.names.lookup x=some .local)
  (hy:e.kindOf y=some .local) (hyc:e.cells.lookup y=none) (hp:(e.scope.kind==.class || (e.scope.kind==.module && e.locals != e.globals))=false)
  (hs:autoParam (∀x,er iter e x=cJ x) rfA):aF (aB prog w) A (fA (.Assign [.Name y py] (.ListComp elt [⟨.Name x px,iter,[],0⟩] scope pos) spos) e) Q E s:=by
 refine wpAny_Assign_ListComp_free (fun O=>true) (fun O y=>oL y) hsw hclos hcell hkind hnames hx hy hp (hi s _ _ rfl fun v h1 tk k1 hv=>?_) hs
 obtain ⟨r,t,u,v',b,rfl,hr,ha,hb,ha',hb',hnb⟩:=hv
 refine wpAny_pyIter_range (s:=sh s h1 tk) hr (small_one ha ha' hb' hb) ?_
 have hsz:ra 0 b 1=(n:Int):=by rw [rangeSize_one,hnb];split<;>lia
 rw [hsz]
 generalize hH2:h1.push { cls:=.type "range_iterator",data:=.fields #[dy 0,dy (n:Int),dy 1]}=h2
 have k2:ba [] s.heap h2:=hH2▸k1.trans (.push _ _ _)
 have hI0:s.heap.get? h1.objs.size=none:=dh k1 cP
 have hfr:∀(s₃:am),(∀b o,b∉[h1.objs.size]→h2.get? b=some o→s₃.heap.get? b=some o)→∀b o,s.heap.get? b=some o→s₃.heap.get? b=some o:=fun s₃ hk b o q=>
  hk b o (fun z=>by rw [aD.mp z,hI0] at q;cases q) (k2.get q)
 have hCn:∀C:aH,h2.objs.size≤C→s.heap.get? C=none:=fun C hC=>by
  cases q:s.heap.get? C with
  | none=>rfl
  | some o=>exact absurd (cK (k2.get q)) (i7.mpr hC)
 obtain ⟨ml,hml,hmb⟩:=id S.ns
 have hmk:∀(C:aH) (i:Nat) (t:jR) (s₃:am) (m₃:bU→Option ag),s.heap.get? C=none→s₃.heap.Ns C m₃→m₃ x=some (.int (i:Int) t)→(∀b o,s.heap.get? b=some o→s₃.heap.get? b=some o)→
   St (bp s₃.heap (FA (eD scope cl C e))) (eD scope cl C e) s₃.heap ((x,.int (i:Int) t)::m') []:=fun C i t s₃ m₃ hC hn hm hk=>
  ue S (fun b O o q=>hk b o q) hC hn hcl hnd (fun p hp hl=>by
   cases hp with
   | head=>exact hm
   | tail _ hp=>exact absurd hl (hkl C p hp)) (fun p hp a ha=>by
   cases hp with
   | head=>exact nn hxc ha
   | tail _ hp=>exact hm' p hp)
 have hLI:e.locals≠h1.objs.size:=fun q=>by
  obtain ⟨o,ho⟩:=S.lie _ FA.loc
  rw [q,hI0] at ho;cases ho
 refine ⟨h1.objs.size,[h1.objs.size],[h1.objs.size],n,_,_,ml,rfl,ql.range hh h1.objs.size 0 1 n,aj hn (by decide),?_,?_,by simpa using hLI,hml.at' fun o q=>k2.get q,⟨?_,?_⟩,?_⟩
 ·show IsRangeIter _ _ _ _ _
  rw [←hH2,show (0:Int)+((0:Nat):Int)*1=0 by simp,show (n:Int)-((0:Nat):Int)=n by simp];exact bG _ rfl
 ·intro b hb
  obtain rfl:=aD.mp hb
  rw [←hH2]
  exact cK (bG _ rfl)
 ·rintro C i v s₃ m₃ E' hC hv hn3 hm3 hk3 htk
  skip
  exact ao ⟨rfl,s₃.heap,s₃.toks,rfl,fun O O q=>q⟩
 ·rintro C i v s₃ m₃ E' hC ⟨t,rfl⟩ hp hn3 hm3 hk3 htk
  rw [lU,Int.mul_one] at hm3
  refine ht C i t s₃.heap (hfr s₃ hk3) (hmk C i t s₃ m₃ (hCn C hC) hn3 hm3 (hfr s₃ hk3)) s₃ _ _ rfl fun v tk hv=>⟨hv,s₃.heap,tk,rfl,fun O O q=>q⟩
 ·intro D h' tk' ys vs hD hl hpl hlen hP hF hn' hk'
  obtain ⟨ns,hi,hnl⟩:=vp hF
  rw [List.filter_eq_self.mpr (fun O O=>rfl),hlen] at hnl
  obtain ⟨k,hpl⟩:=hpl
  exact K D h' tk' ys ns k (dh k2 hD) hpl hi hnl (S.setK hmb hn' (fun b o hb q=>hk' b o hb (fun z=>by rw [aD.mp z,hI0] at q;cases q) (k2.get q)) hyc)
end
theorem ud (elt target iter:au) (ifs:List au) (scope:Scope) (pos:dJ) (it acc:ag) (env:gy) :
  compTurn (.SetComp elt [⟨target,iter,ifs,0⟩] scope pos) 0 it acc env=(do
   fe iter.pos
   match ←pyNext it with
   | none=>cJ (.done .next)
   | some v=>
    sK target it v
    eT target env v
    let mut ok:=true
    for c in ifs do
     if ok then ok ←isTrue c env (cO c env)
    if ok then
     (do let v ←cO elt env;fe elt.pos;let _ ←sP (.builtin "set.add") [acc,v])
    again (.compLoop (.SetComp elt [⟨target,iter,ifs,0⟩] scope pos) 0 it acc env)):=by rfl
section
variable {prog:aV} {w:aP} {A:aS} {E:ag→am→Prop} {R:Result→am→Prop} {s:am}
theorem uc {elt target iter:au} {ifs:List au} {scope:Scope} {pos:dJ} {it acc:ag} {env:gy} (I:Nat→am→Prop)
  (turn:∀n s,I n s→aF (aB prog w) A (pyNext it) (fun r s₁=>match r with
   | none=>R (.ok .next) s₁
   | some v=>aF (aB prog w) A (eT target env v) (fun O s₂=>
     aF (aB prog w) A (forIn ifs true fun c r=>if r=true then do let ok ←isTrue c env (cO c env);cJ (ForInStep.yield ok) else cJ (ForInStep.yield r)) (fun ok s₃=>
      if ok=true then aF (aB prog w) A (cO elt env) (fun x s₄=>
       aF (aB prog w) A (sP (.builtin "set.add") [acc,x]) (fun O s₅=>∃m,m<n∧I m s₅) (fun O O=>False) s₄) (fun O O=>False) s₃
      else ∃m,m<n∧I m s₃) (fun O O=>False) s₂) (fun O O=>False) s₁) (fun O O=>False) s)
  (n:Nat) (h:I n s) (ht:autoParam (∀v,sK target it v=cJ ()) rfA) :
  hW (aB prog w) A (.compLoop (.SetComp elt [⟨target,iter,ifs,0⟩] scope pos) 0 it acc env) R s:=by
 refine codeAny_loop rfl I (fun n s hI=>?_) n h
 show aF _ A ((compTurn (.SetComp elt [⟨target,iter,ifs,0⟩] scope pos) 0 it acc env).onRaise (fun x=>do noteFrame x env;theTreesLotGoes x)) _ _ s
 refine wpAny_noted ?_
 rw [ud]
 refine ae (gp (ae (aL (turn n s hI) (fun r s₁ h₁=>?_) fun O O h'=>h'.elim)))
 cases r with
 | none=>exact ao h₁
 | some v=>
  refine ae (iR (ht v) ?_)
  refine ae (aL h₁ (fun O s₂ h₂=>ae (aL h₂ (fun ok s₃ h₃=>?_) fun O O h'=>h'.elim)) fun O O h'=>h'.elim)
  cases ok with
  | false=>exact ao ⟨rfl,h₃⟩
  | true=>
   exact ae (ae (aL h₃ (fun x s₄ h₄=>ae (gp (ae (aL h₄ (fun O s₅ h₅=>ao (ao ⟨rfl,h₅⟩)) fun O O h'=>h'.elim)))) fun O O h'=>h'.elim))
theorem sR {elt target iter ifs rest scope pos it acc env}
  (h0:hW (aB prog w) A (.compLoop (.SetComp elt (⟨target,iter,ifs,0⟩::rest) scope pos) 0 it acc env) R s)
  (h:aF (aB prog w) A (pyIter it) (fun it' s'=>hW (aB prog w) A (.compLoop (.SetComp elt (⟨target,iter,ifs,0⟩::rest) scope pos) 0 it' acc env) R s') (fun O O=>False) s) :
  hW (aB prog w) A (.compStart (.SetComp elt (⟨target,iter,ifs,0⟩::rest) scope pos) 0 it acc env) R s:=by
 refine mU ?_
 show aF _ A ((compStart (.SetComp elt (⟨target,iter,ifs,0⟩::rest) scope pos) 0 it acc env).onRaise (fun x=>do noteFrame x env;fe theWindowsPlace)) _ _ s
 refine wpAny_notedAt ?_
 skip
 skip
 refine ae (eP (wpAny_ite ?_))
 split
 ·first
   | exact ae (ao (ao (And.intro rfl h0)))
   | exact ao (And.intro rfl h0)
 ·first
   | exact ae (fg (ae (gp (ae (aL h (fun it' s' h'=>ao (And.intro rfl h')) fun O O x=>x.elim)))))
   | (refine ae (fg ?_);show aF _ _ (fe iter.pos >>= _) _ _ s;exact ae (gp (ae (aL h (fun it' s' h'=>ao (And.intro rfl h')) fun O O x=>x.elim))))
theorem Ed.ev {e:gy} {h:ay} {D:List aH} {ex:au} {P:ag→Prop} (H:Ed prog w A e h D ex (fun v h'=>h'=h∧P v)):Ev prog w A e h ex P:=fun s Q E hs k=>H s Q E hs fun v h' tk O q=>by
 obtain ⟨rfl,q⟩:=q
 have:=k v tk q
 rw [←hs];exact this
end
section
variable {w:aP} {A:aS} {e:gy} {h:ay} {a:aH} {vs:List ag} {xs:List Int} {n:Nat}
noncomputable def Iu (z:Int):ag→Bool
 | .int k _=>k==z
 | _=>false
theorem uN {z:Int} {vs:List ag} {xs:List Int} (x:cf vs xs):vs.countP (Iu z)=xs.count z:=by
 induction x with
 | nil=>rfl
 | cons k t _ r=>rw [List.countP_cons,List.count_cons,r];rfl
theorem Ev.count {xn:bU} {p ap pos:dJ} {ex:au} {z:Int} (N:Ev PQ w A e h (.Name xn p) (· = .ref a)) (ho:h.get? a=some (ch vs.toArray n)) (hi:cf vs xs) (Hx:Ev PQ w A e h ex (fr z))
  {pl:mw Bool} (he:autoParam (cO (.Call (.Attribute (.Name xn p) wB ap) [ex] [] pos) e=(do
   let ov ←cO (.Name xn p) e
   fe ap.atName
   let (f,first) ←gf [ov] (gx ov wB pl)
   g9 pos f first (gK pos (aE [ex] e)) [])) rfA) (hst:autoParam (aE [ex] e=(false,cO ex e)::aE [] e) rfA) :
  Ev PQ w A e h (.Call (.Attribute (.Name xn p) wB ap) [ex] [] pos) (fr (xs.count z)):=
 Ed.ev (D:=[]) (Ed.methB N ho rfl rfl oV PySem.F.slot_list_count PySem.F.type_list_count (Es.one (Ev.gg Hx) hst) (fun us h1 k1 hu=>by
  obtain ⟨v,rfl,rfl,t,rfl⟩:=hu
  intro s Q E hs k
  subst hs
  refine rK PySem.F.slot_list_count ⟨_,ho,rfl⟩ PySem.F.entry_list_count (PySem.F.args_list_count_2 _ _) (MeetsSeq.list_count a vs.toArray n (.int z t) (Iu z) fun y hy=>?_) ⟨ho,?_⟩
  ·obtain ⟨m,t',rfl⟩:=hi.all y (by simpa using hy)
   exact MeetsSeq.EqGives.int m z t' t
  ·exact k _ _ (s.toks+1) (.refl _ _) ⟨rfl,s.toks,by rw [uN hi]⟩) he hst rfl)
end
noncomputable def kS (xs:List Int) (p:Int→Bool) (i:Nat) (k:Int):Bool:=decide (k∈xs.take i) && p k
theorem si {xs:List Int} {p:Int→Bool} {i:Nat} {z:Int} (h:xs[i]? = some z) (k:Int):kS xs p (i+1) k=(kS xs p i k || (decide (k=z) && p z)):=by
 have hm:k∈xs.take (i+1)↔k∈xs.take i∨k=z:=by rw [gJ,h];simp
 unfold kS
 rw [decide_eq_decide.mpr hm,Bool.decide_or,Bool.and_or_distrib_right]
 by_cases e:k=z
 ·rw [e]
 ·simp [e]
section
variable {w:aP} {A:aS} {s:am} {e:gy} {h g:ay} {m:List (bU×ag)} {c:List (aH×cA)}
theorem yS {h:ay} {a:aH} (hS:SI.iS w h a []):h.SetOf (eu PQ w) a (fun O=>false) 0:=by
 obtain ⟨es,ep,t,ho,hA⟩:=hS
 have hz:es=#[]:=by have:=hA.size;simpa using this
 subst hz
 exact ⟨_,_,_,_,ho,⟨rfl,rfl,rfl⟩,rfl,fun e he=>by simp at he,fun k=>by simp,by decide,hA.fits,rfl⟩
theorem yX {x y:bU} {p1 px py pos spos:dJ} {iter test:au} {scope:Scope} {cl:List (bU×aH)} {m':List (bU×ag)} {Q:dW→am→Prop} {a:aH} {xs:List Int} {p:Int→Bool} (hh:A.handled=none) (S:St g e s.heap m c)
  (hi:Ev PQ w A e s.heap iter (· = .ref a)) (hl:IL s.heap a xs) (hn:xs.length≤3000)
  (ht:∀C z t h',(∀b o,s.heap.get? b=some o→h'.get? b=some o)→z∈xs→St (bp h' (FA (eD scope cl C e))) (eD scope cl C e) h' ((x,.int z t)::m') []→Et PQ w A (eD scope cl C e) h' test (p z))
  (K:∀r h' tk,s.heap.get? r=none→(∃n,h'.SetOf (eu PQ w) r (fun k=>decide (k∈xs) && p k) n)→St g e h' (gC y (.ref r) m) c→Q .next (sh s h' tk))
  (hsw:jc (.SetComp (.Name x p1) [⟨.Name x px,iter,[test],0⟩] scope pos) (some (.Name y py)) spos.line e=cJ true)
  (hclos:closureFor scope e=cJ cl) (hcl:∀p∈cl,e.cells.lookup p.1=some p.2) (hnd:(cl.map (·.1)).Nodup) (hxc:cl.lookup x=none)
  (hm':∀p∈m',iF m p.1=some p.2) (hkl:∀C,∀p∈m',(eD scope cl C e).kindOf p.1≠some .local) (hxl:∀C,m0 (eD scope cl C e) x=true) (hdbg:(x==("__debug__" : bU))=false)
  (hcell:∀y∈scope.names,y.2≠.cell) (hkind:scope.kind=.function) (hnames:∀y∈scope.names,y.2=.local→scope.names.lookup y.1=some .local) (hx:scope.names.lookup x=some .local)
  (hy:kI e y=true) (hs:autoParam (∀x,er iter e x=cJ x) rfA) :
  aF (aB PQ w) A (fA (.Assign [.Name y py] (.SetComp (.Name x p1) [⟨.Name x px,iter,[test],0⟩] scope pos) spos) e) Q (fun O O=>False) s:=by
 obtain ⟨vs,q_⟩:=hl;have hl:=q_.1;have hvs:=q_.2;clear q_
 have hvl:=hvs.length
 rw [exec_Assign_Name_used _ _ _ _ hsw]
 refine ae (gp (ae ?_))
 skip
 refine ae (aL (wpAny_comprehension_free (use:=some (eT (.Name y py) e)) (Q:=fun O s'=>Q .next s') (E:=fun O O=>False) rfl hs hclos hkind hnames (hi s _ _ rfl fun v tk0 hv=>?_)) (fun O s' hq=>ao (ao hq)) fun O O z=>z)
 subst hv
 refine lw (s:={ s with toks:=tk0}) hl ?_
 generalize hH1:s.heap.push { cls:=.type "list_iterator",data:=.fields #[.ref a,.int 0 0]}=h1
 have k1:ba [] s.heap h1:=hH1▸.push _ _ _
 have hI0:s.heap.get? s.heap.objs.size=none:=cP
 have hI1:h1.IsListIter s.heap.objs.size a 0:=by rw [←hH1];exact ⟨_,bG _ rfl,rfl,rfl⟩
 generalize s.heap.objs.size=I at hI0 hI1 ⊢
 have haI:a≠I:=EV hl hI0
 refine SI.Ct (s:=sh s h1 tk0) fun h2 D hD hD0=>?_
 have k2:ba [] s.heap h2:=k1.trans hD.kept
 refine wpAny_newFunctionEnv (s:=sh s h2 tk0) hcell (by intro y hy;simp at hy) (fun h3 hns3 hsb3=>?_) hkind
 have k3:ba [] h2 h3:=fun b o q O=>hsb3.extBut b o (ei (cK q)) (bo _ q)
 have hC2:h2.get? h2.objs.size=none:=cP
 skip
 generalize h2.objs.size=C at hns3 hC2 ⊢
 have kk3:ba [] s.heap h3:=k2.trans k3
 have hC0:s.heap.get? C=none:=dh k2 hC2
 have hD0':s.heap.get? D=none:=dh k1 hD.no
 have hDC:D≠C:=qn hD.yes hC2
 have hDI:D≠I:=(EV hI1 hD.no).symm
 have hCI:C≠I:=fun q=>by obtain ⟨o,ho,_⟩:=hI1;rw [q,hD.kept.get ho] at hC2;cases hC2
 have haC:a≠C:=EV hl hC0
 have haD:a≠D:=EV hl hD0'
 have W:=ql.list (prog:=PQ) (w:=w) (A:=A) hh I a haI vs.toArray
 have hfr:∀{b:aH} {o:cA},s.heap.get? b=some o→b≠I∧b≠D∧b≠C:=fun {b o} q=>⟨qn q hI0,qn q hD0',qn q hC0⟩
 have Ci:∀tk,hW (aB PQ w) A (.compLoop (.SetComp (.Name x p1) [⟨.Name x px,iter,[test],0⟩] scope pos) 0 (.ref I) (.ref D) (eD scope cl C e)) (compPost (aB PQ w) A (fun O O=>False) (some (eT (.Name y py) e)) (fun O s'=>Q .next s') (.ref D) C) (sh s h3 tk):=by
  intro tk
  refine uc (fun k s'=>zf fun h tk m₃ i n=>DK (s'=(sh s h tk)) (h.IsListIter I a i) (h.SetOf (eu PQ w) D (kS xs p i) n) (n≤i) (h.Ns C m₃) ((∀b o,s.heap.get? b=some o→h.get? b=some o)) (i≤vs.length) (k=vs.length+1-i)) ?_ (vs.length+1)
   ⟨h3,tk,_,0,0,rfl,hI1.at fun o q=>k3.get (hD.kept.get q),?_,bd _,hns3,fun b o q=>kk3.get q,aX _,rfl⟩
  ·rintro k s' ⟨h,tk,m₃,i,n,rfl,hIi,hSi,hni,hNi,hk,hile,rfl⟩
   by_cases hlt:i<vs.length
   ·refine W.item i (sh s h tk) _ _ hlt ⟨hIi,hl.at fun o q=>hk _ _ q⟩ fun v h4 tk4 hPv hst4 hk4=>?_
    obtain ⟨z,tz,rfl,hz⟩:=hvs.at i v (by simpa using hPv)
    have hz':z∈xs:=gH hz
    refine wpAny_assign_Name (wpAny_storeName_local (lookup_relabel_local hx) (hNi.at' fun o q=>hk4 _ o (qZ hCI) q) (fun h5 hn5 hs5=>?_) (by simp [eD,relabel,hkind]))
    have up:∀b o,b≠C→b≠I→h.get? b=some o→h5.get? b=some o:=fun b o b1 b2 q=>hs5.extBut b o b1 (hk4 b o (qZ b2) q)
    have k5:∀b o,s.heap.get? b=some o→h5.get? b=some o:=fun b o q=>up b o (hfr q).2.2 (hfr q).1 (hk b o q)
    have hSt:=ue (scope:=scope) (C:=C) (m':=(x,.int z tz)::m') S (fun b O o q=>k5 b o q) hC0 hn5 hcl hnd (fun q hq hl'=>by
     cases hq with
     | head=>simp
     | tail _ hq=>exact absurd hl' (hkl C q hq)) (fun q hq b hb=>by
     cases hq with
     | head=>exact nn hxc hb
     | tail _ hq=>exact hm' q hq)
    have hI5:h5.IsListIter I a (i+1):=hst4.1.at fun o q=>hs5.extBut I o (dM hCI) q
    have hS5:h5.SetOf (eu PQ w) D (kS xs p i) n:=by
     obtain ⟨o,r⟩:=hSi
     obtain ⟨es,ep,t,ho,r⟩:=r
     exact ⟨o,es,ep,t,up _ _ hDC hDI ho,r⟩
    rw [dS]
    refine ae ?_
    skip
    refine ae (ht C z tz h5 k5 hz' hSt _ _ _ rfl fun tk6=>ao ?_)
    dsimp only
    skip
    refine ao ?_
    cases hp:p z with
    | false=>
     skip
     refine ⟨vs.length+1-(i+1),by exact cR (.lt aq ar (.le (.s 2 1) (.p ar aI) (.eq (.p aq (.s 3 1)) (.s 2 1) .o))) τ bZ (aa (cW (.le (.s 0 1) (.s 1 1) (.le aq ar .o)) τ hile)),h5,tk6,_,i+1,n,rfl,hI5,?_,by exact cW (.le aq (.s 1 1) (.le aq ar .o)) τ hni,hn5,k5,hlt,rfl⟩
     rw [show kS xs p (i+1)=kS xs p i from funext fun k=>by rw [si hz,hp];simp]
     exact hS5
    | true=>
     skip
     refine Ev.nm (v:=.int z tz) hSt (by simp [iF]) (hxl C) hdbg _ _ _ rfl fun u tk7 hu=>?_
     subst hu
     refine call_set_add (knd:=eu PQ w) (k:=z) (mZ z tz) rfl hS5 (by unfold scanBound;exact cR (.lt (.s 0 1) (.k 4096) (.le ar (.k 3000) (.eq az ar (.le aq aI (.le aI az .o))))) τ hn hvl hni hile) fun h8 hsb8 hS8=>?_
     refine ⟨vs.length+1-(i+1),by exact cR (.lt aq ar (.le (.s 2 1) (.p ar aI) (.eq (.p aq (.s 3 1)) (.s 2 1) .o))) τ bZ (aa (cW (.le (.s 0 1) (.s 1 1) (.le aq ar .o)) τ hile)),h8,_,_,i+1,(if kS xs p i z then n else n+1),rfl,hI5.at fun o q=>hsb8.extBut I o (dM hDI) q,?_,?_,hn5.sameBut hsb8 (dM hDC),fun b o q=>hsb8.extBut b o (hfr q).2.1 (k5 b o q),hlt,rfl⟩
     ·rw [show kS xs p (i+1)=fun k=>kS xs p i k || decide (k=z) from funext fun k=>by rw [si hz,hp,Bool.and_true]]
      exact hS8
     ·split<;>(first|exact cW (.le aq (.s 1 1) (.le aq ar .o)) τ hni|exact cW (.le (.s 0 1) (.s 1 1) (.le aq ar .o)) τ hni)
   ·have hin:i=vs.length:=by exact ak hile (aZ hlt)
    subst hin
    refine W.done (sh s h tk) _ _ ⟨hIi,hl.at fun o q=>hk _ _ q⟩ fun h4 tk4 hk4=>?_
    have k4:∀b o,s.heap.get? b=some o→h4.get? b=some o:=fun b o q=>hk4 b o (by simpa using (hfr q).1) (hk b o q)
    have hS4:h4.SetOf (eu PQ w) D (fun k=>decide (k∈xs) && p k) n:=by
     obtain ⟨o,es,ep,t,ho,r⟩:=hSi
     have e1:kS xs p vs.length=fun k=>decide (k∈xs) && p k:=funext fun k=>by unfold kS;exact hvl▸dY▸rfl
     rw [e1] at r
     exact ⟨o,es,ep,t,hk4 _ _ (qZ hDI) ho,r⟩
    have hN4:h4.Ns C m₃:=hNi.at' fun o q=>hk4 C o (qZ hCI) q
    show aF _ A (eT (.Name y py) e (.ref D)) _ _ _
    obtain ⟨oC,esC,epC,q_⟩:=hN4;have hoC:=q_.1;have hrC:=q_.2;clear q_
    obtain ⟨oD,esD,epD,tD,q_⟩:=hS4;have hoD:=q_.1;have hrD:=q_.2;clear q_
    have S4:St g e h4 m c:=S.grow fun b o q O=>k4 b o q
    have hgC:∀{b:aH},s.heap.get? b=none→g.get? b=none∧b∉FA e:=fun {b} q=>⟨(by
     cases q':g.get? b with
     | none=>rfl
     | some o=>replace q:=(S.keep _ _ q')▸q;cases q),fun z=>(by obtain ⟨o,ho⟩:=S.lie _ z;replace q:=ho▸q;cases q)⟩
    have S4':=(S4.follow hoC (hgC hC0).2 (hgC hC0).1).follow hoD (hgC hD0').2 (hgC hD0').1
    refine assign_Name (bE (s:=sh s h4 tk4) S4' (fun h5 tk5 S5=>?_) hy)
    refine ⟨m₃,⟨oC,esC,epC,S5.get (.tail _ (.head _)),hrC⟩,fun h6 hs6=>?_⟩
    have S5':=(S5.less (c':=(D,oD)::c) (fun q hq=>by
     rcases aC.mp hq with rfl|hq
     ·exact .head _
     ·exact .tail _ (.tail _ hq)))
    refine K D h6 _ hD0' ⟨n,oD,esD,epD,tD,hs6.extBut D oD hDC (S5.get (.head _)),hrD⟩ ?_
    refine (S5'.less (c':=c) fun q hq=>.tail _ hq).move (D:=[C]) (fun b o q nb=>hs6.extBut b o (Jc nb) q) (fun b hb q=>(hgC hC0).2 (by rw [←aD.mp q];exact hb)) (fun b hb=>by rw [aD.mp hb];exact (hgC hC0).1) (fun q hq z=>?_)
    have:=(S.own q hq).1
    rw [aD.mp z,hC0] at this;cases this
  ·have:=yS hD0
   obtain ⟨o,es,ep,t,ho,r⟩:=this
   have e1:kS xs p 0=fun O=>false:=funext fun k=>by unfold kS;simp
   rw [e1]
   exact ⟨o,es,ep,t,k3.get ho,r⟩
 exact sR (Ci _) (W.self 0 _ _ _ ⟨hI1.at fun o q=>k3.get (hD.kept.get q),hl.at fun o q=>kk3.get q⟩ (Ci _))
end
theorem St.newOf {g h:ay} {e:gy} {m:List (bU×ag)} {c:List (aH×cA)} {b:aH} (S:St g e h m c) (q:h.get? b=none):g.get? b=none∧b∉FA e:=⟨(by
 cases q':g.get? b with
 | none=>rfl
 | some o=>rw [S.keep _ _ q'] at q;cases q),fun z=>(by obtain ⟨o,ho⟩:=S.lie _ z;rw [ho] at q;cases q)⟩
noncomputable def LI (xs:List Int) (v:ag) (h':ay):Prop:=lT fun a us k=>jn (v=.ref a) (h'.get? a=some (ch us k)) (cf us.toList xs)
noncomputable def Fp (h:ay) (xs:List Int) (v:ag) (h':ay):Prop:=g8 fun a us=>jn (v=.ref a) (iK h h' a (ch us 0)) (cf us.toList xs)
theorem Fp.li {h:ay} {xs:List Int} {v:ag} {h':ay} (x:Fp h xs v h'):LI xs v h':=by obtain ⟨a,us,e,hN,i⟩:=x;exact ⟨a,us,0,e,hN.yes,i⟩
section
variable {prog:aV} {w:aP} {A:aS} {s:am} {e:gy} {h:ay} {E:ag→am→Prop}
theorem yY {value:au} {k:Int} {u:jR} {a:aH} {items:Array ag} {x:ag} {sl:au} {Q:ag→am→Prop} (hl:s.heap.IsList a items) (h0:0≤k) (hb:k<2^63) (hx:items[k.toNat]? = some x) (q:Q x s)
  (hs:autoParam (subscripted sl false (.ref a) (.int k u)=operate [.ref a,.int k u] (getItem (.ref a) (.int k u))) rfE):aF (aB prog w) A (subscriptTail value sl (.ref a) (.int k u)) Q E s:=by
 unfold subscriptTail
 refine ae ?_
 skip
 refine ae (nC hl.typeIs slot_list_getitem.lookup ?_)
 have fin:aF (aB prog w) A (subscripted sl false (.ref a) (.int k u)) (fun r s₃=>aF (aB prog w) A (fb value (.ref a) r >>= fun O=>cJ r) Q E s₃) E s:=by
  rw [hs]
  exact wpAny_operating (aL (wpAny_getItem_list hl h0 hb hx q) (fun r s₃ h₃=>ae (wpAny_letTemporaryGo (ao h₃))) fun O O x=>x)
 first
  | exact ao (ae fin)
  | exact ae (ao (ae fin))
  | exact ae fin
theorem Eg.itemNew {value slice:au} {pos:dJ} {xs:List Int} {k:Int} (H:Eg prog w A e h value (LI xs)) (H2:∀h1,ba [] h h1→Ev prog w A e h1 slice (fr k)) (h0:0≤k) (h1:k<xs.length) (hb:xs.length≤2^30)
  (hs:autoParam (∀a u,subscripted slice false (.ref a) (.int k u)=operate [.ref a,.int k u] (getItem (.ref a) (.int k u))) rfE):Eg prog w A e h (.Subscript value slice pos) (fun v O=>fr (xs.getD k.toNat 0) v):=fun s Q E hs' kk=>by
 refine Subscript_ (H s _ _ hs' fun v h2 tk k2 hv=>H2 h2 k2 _ _ _ rfl fun u tk2 hu=>?_)
 obtain ⟨a,us,n,rfl,ha,hi⟩:=hv
 obtain ⟨u,rfl⟩:=hu
 have hl:=hi.length
 rw [aJ] at hl
 obtain ⟨x,hx⟩:∃x,us[k.toNat]? = some x:=⟨_,gr (by lia)⟩
 obtain ⟨z,t,rfl,hz⟩:=hi.at k.toNat x (by simpa using hx)
 refine yY (s:=sh s h2 tk2) ⟨_,ha,rfl,n,rfl⟩ h0 (by lia) hx (kk _ h2 tk2 k2 ⟨t,?_⟩) (hs a u)
 rw [cC,hz];rfl
theorem Eg.plus {l r:au} {pos:dJ} {b:Int} (H:Eg prog w A e h l (fun v O=>oL v)) (Hr:∀h1,ba [] h h1→Ev prog w A e h1 r (fr b)):Eg prog w A e h (.BinOp l .Add r pos) (fun v O=>oL v):=fun s Q E hs k=>by
 refine wpAny_BinOp (H s _ _ hs fun v h1 tk k1 hv=>Hr h1 k1 _ _ _ rfl fun u tk2 hu=>?_)
 obtain ⟨z,t,rfl⟩:=hv
 obtain ⟨t',rfl⟩:=hu
 exact P.add_int (k _ h1 _ k1 ⟨_,_,rfl⟩)
theorem Eg.minus {l r:au} {pos:dJ} {a b:Int} (H:Eg prog w A e h l (fun v O=>fr a v)) (Hr:∀h1,ba [] h h1→Ev prog w A e h1 r (fr b)):Eg prog w A e h (.BinOp l .Sub r pos) (fun v O=>fr (a-b) v):=fun s Q E hs k=>by
 refine wpAny_BinOp (H s _ _ hs fun v h1 tk k1 hv=>Hr h1 k1 _ _ _ rfl fun u tk2 hu=>?_)
 obtain ⟨t,rfl⟩:=hv
 obtain ⟨t',rfl⟩:=hu
 exact P.sub_int (k _ h1 _ k1 ⟨_,rfl⟩)
theorem Eg.range1G {p pos:dJ} {ex:au} {b:Int} (C:Cx w h) (H:Eg prog w A e h ex (fun v O=>fr b v)) (h1 : -(2^62)≤b) (h2:b<2^62) (hk:autoParam (e.scope.kind=.function) rfA) (hx:autoParam (e.kindOf ph=some .globalImplicit) rfA)
  (hg:autoParam (e.globals=cu) rfA) (hbi:autoParam (e.builtins=ej) rfA) (he:autoParam (aE [ex] e=(false,cO ex e)::aE [] e) rfA):Eg prog w A e h (.Call (.Name ph p) [ex] [] pos) (pM 0 b.toNat):=
 Eg.callT (Ev.bltn C (fun O=>by kernel_rfl!) mS (by decide +kernel) hk hx hg hbi) (Es.one H he) (fun vs h1 O hv=>by
  obtain ⟨v,rfl,t,rfl⟩:=hv
  exact fun s Q E hs k=>by
   subst hs
   exact call_range_1 (k _ _ _ (.push _ _ _) ⟨_,_,_,_,b,rfl,IsRange.new _ _ _ _ _ _ _,by decide,h2,by decide,by assumption,by simp⟩)) he rfl
theorem Eg.addI {l r:au} {pos:dJ} {xs ys:List Int} (Hl:Eg prog w A e h l (LI xs)) (Hr:∀h1,ba [] h h1→Eg prog w A e h1 r (LI ys)) (hsz:xs.length+ys.length≤10000):Eg prog w A e h (.BinOp l .Add r pos) (Fp h (xs++ys)):=fun s Q E hs k=>
 Eg.addL (h:=h) (P:=LI xs) (P':=fun x y h'=>LI xs x h'∧LI ys y h') (R:=Fp h (xs++ys)) Hl (fun x h1 k1 hx=>(Hr h1 k1).mono fun y h2 k2 hy=>by
  obtain ⟨a,us,n,rfl,ha,hi⟩:=hx
  exact ⟨⟨a,us,n,rfl,k2.get ha,hi⟩,hy⟩) (fun x y h2 k2 q=>by
  obtain ⟨⟨a,us,n,rfl,ha,hi⟩,b,us2,n2,rfl,hb,hi2⟩:=q
  have e1:=hi.length
  have e2:=hi2.length
  rw [aJ] at e1 e2
  exact ⟨a,us,n,b,us2,n2,rfl,rfl,ha,hb,by rw [ew];exact cR (.le (.p aq ar) (.k 16777216) (.le (.p az aI) (.k 10000) (.eq aq az (.eq ar aI .o)))) τ hsz e1 e2,fun h' c hN=>⟨c,_,rfl,⟨dh k2 hN.no,k2.trans hN.kept,hN.yes⟩,by rw [b7];exact hi.append hi2⟩⟩) s Q E hs k
theorem Eg.liNm {ex:au} {a:aH} {us:Array ag} {k:Nat} {xs:List Int} (N:Ev prog w A e h ex (· = .ref a)) (ha:h.get? a=some (ch us k)) (hi:cf us.toList xs):Eg prog w A e h ex (LI xs):=
 (Ev.gg N).mono fun v h' O q=>by
  obtain ⟨rfl,rfl⟩:=q
  exact ⟨a,us,k,rfl,ha,hi⟩
end
noncomputable def vw (ys:List Int) (k:Int):Bool:=decide (ys.count k≤ys.length / 100+1)
theorem GV {h:ay} {a:aH} {us:Array ag} {k:Nat} (q:h.get? a=some (ch us k)):h.IsList a us.toList.toArray:=by rw [Array.toArray_toList];exact ⟨_,q,rfl,_,rfl⟩
structure LM (w:aP) (g h:ay) (L F G2 W R:aH) (xs zs us:List Int):Prop where
 st:St g (dK L) h [(eU,.ref F),(dB,.ref G2),(HS,.ref W),(qY,.ref R)] []
 f:IL (bC h (FA (dK L))) F xs
 s:IL (bC h (FA (dK L))) G2 zs
 u:IL (bC h (FA (dK L))) W us
 r:IS w (bC h (FA (dK L))) R (fun k=>decide (k∈zs) && vw zs k)
 fl:xs.length≤372
 sl:200≤zs.length∧zs.length≤400
 wl:us.length≤199
section
variable {w:aP} {A:aS} {g₀:ay} {L sc F G:aH} {way:Int} {tw:jR} {s:am} {fi gi:Array ag} {nf ng:Nat} {xs ys:List Int}
theorem B9 (hA:eV A 0) (X:Cx w g₀) (Lh:Lp g₀ (lD L F G) (dK L) s.heap (lm sc F G way tw []) [(F,ch fi nf),(G,ch gi ng)]) (hf:cf fi.toList xs) (hg:cf gi.toList ys) (hfl:xs.length≤372) (hgl:ys.length≤372) {Q:dW→am→Prop}
  (K:∀h' tk G2 W R zs us,LM w (bp s.heap (lD L F G)) h' L F G2 W R xs zs us→aF (aB PQ w) A (eK (Cb.drop 9) (dK L)) Q (fun O O=>False) (sh s h' tk)) :
  aF (aB PQ w) A (eK (Cb.drop 3) (dK L)) Q (fun O O=>False) s:=by
 have hX:∀h',Sub (bp s.heap (lD L F G)) h'→Cx w h':=fun h' q=>X.sub (Lh.sub.trans ((bP q).trans (cD _ _)))
 have S0:=Lh.st
 generalize bp s.heap (lD L F G)=g at S0 hX K
 have hfz:=hf.length
 have hgz:=hg.length
 rw [aJ] at hfz hgz
 refine aT (cT (s:=s) (P:=fun v O=>oL v) (Eg.plus (b:=1) ((Eg.maxL (ns:=(xs++ys)++[0]) hA.hd (hX _ S0.keep) (Eg.addI (xs:=xs++ys) (ys:=[0]) (Eg.mono (Eg.addI (Eg.liNm (Ev.nm S0) (S0.get (.head _)) hf) (fun h1 k1=>Eg.liNm (Ev.nm (S0.grow k1)) ((S0.grow k1).get (.tail _ (.head _))) hg) (by exact cW (.le (.p aq ar) (.k 10000) (.le aq (.k 372) (.le ar (.k 372) .o))) τ hfl hgl)) fun v h' O q=>q.li) (fun h1 k1=>(Eg.lst (Es.one (Ev.gg Ev.int)) (by rintro vs h' ⟨v,rfl,_⟩;show 1≤2^24;decide)).mono fun v h' O q=>?_) (by rw [bL];simp only [f9];exact cW (.le (.p (.p aq ar) (.k 1)) (.k 10000) (.le aq (.k 372) (.le ar (.k 372) .o))) τ hfl hgl)) (fun v h' q=>?_) (by simp only [bL,f9];(exact eO _))).mono fun v h' O q=>?_) fun h1 k1=>Ev.int) fun v h1 tk1 k1 hv=>?_)
 ·obtain ⟨vs,h2,a,k2,⟨v,rfl,rfl,t,rfl⟩,rfl,hN⟩:=q
  exact ⟨a,_,0,rfl,hN.yes,.cons _ _ .nil⟩
 ·obtain ⟨a,us,rfl,hN,hi⟩:=q
  exact ⟨a,us.toList,rfl,GV hN.yes,hi⟩
 ·obtain ⟨M,t,rfl,_⟩:=q
  exact ⟨M,t,rfl⟩
 obtain ⟨M,tM,rfl⟩:=hv
 refine bE (s:=sh s h1 tk1) (S0.grow k1) fun h2 tk2 S2=>⟨rfl,?_⟩
 have hq0:0≤(way.fdiv 4).fmod 4:=Int.fmod_nonneg_of_pos _ (by decide)
 have hq1:(way.fdiv 4).fmod 4<4:=Int.fmod_lt_of_pos _ (by decide)
 have hNb:∀q:Int,0≤q→q<4→200≤([200,299,300,400]:List Int).getD q.toNat 0∧([200,299,300,400]:List Int).getD q.toNat 0≤400:=by
  intro q a b
  have:q=0∨q=1∨q=2∨q=3:=q4 a b
  rcases this with rfl|rfl|rfl|rfl<;>decide
 obtain ⟨n1,n2⟩:=hNb _ hq0 hq1
 generalize hNn:([200,299,300,400]:List Int).getD ((way.fdiv 4).fmod 4).toNat 0=N at n1 n2
 have hq1':(way.fdiv 4).fmod 4<(([200,299,300,400]:List Int).length:Int):=hq1
 have hGL:∀h',ba [] h2 h'→IL h' G ys:=fun h' k'=>⟨gi.toList,GV ((S2.grow k').get (.tail _ (.head _))),hg⟩
 refine aT (yW (s:=sh s h2 tk2) (n:=(N-(ys.length:Int)).toNat) (cl:=[(EM,L+2)]) (m':=[(EM,.int M tM)]) hA.hd S2
  (Eg.range1G (hX _ S2.keep) (Eg.minus (a:=N) (b:=ys.length) ((Eg.itemNew (xs:=[200,299,300,400]) (k:=(way.fdiv 4).fmod 4) ((Eg.lst (Es.more Ev.int (Es.more Ev.int (Es.more Ev.int (Es.more Ev.int Es.nil)))) ?_).mono fun v h' O q=>?_) (fun h3 k3=>Ev.fmod (Ev.fdiv (Ev.nmI (S2.grow k3)) Ev.int (by decide) (gV (by decide +kernel))) Ev.int (by decide)) hq0 hq1' (by decide)).mono fun v h' O q=>hNn▸q)
   (fun h3 k3=>Ev.lenL (hX _ (S2.grow k3).keep) (Ev.nm (S2.grow k3)) (hGL h3 k3) (ck hgl rfl))) (nb n1 n2 hgl).1 (nb n1 n2 hgl).2.1) (ck (nb n1 n2 hgl).2.2 rfl) (fun C i t h' hk' S'=>(Ev.add (Ev.nmI S') (Ev.nmI S')).mono fun v hv=>⟨_,hv⟩)
  (fun P h3 tk3 pi zp kp hP0 hP hpi hpl S3=>⟨rfl,?_⟩) rfl (iM rfl) (da rfl) (by show [EM].Nodup;decide +kernel) rfl (da rfl) (fun C'=>da (fun q=>by cases (show some e8=some .local from q))) (by decide +kernel) rfl (by decide +kernel) rfl rfl rfl rfl)
 ·rintro vs h' ⟨rfl,v1,vs1,rfl,_,v2,vs2,rfl,_,v3,vs3,rfl,_,v4,vs4,rfl,_,rfl⟩;show 4≤2^24;decide
 ·obtain ⟨vs,h3,a,k3,⟨rfl,v1,vs1,rfl,⟨t1,rfl⟩,v2,vs2,rfl,⟨t2,rfl⟩,v3,vs3,rfl,⟨t3,rfl⟩,v4,vs4,rfl,⟨t4,rfl⟩,rfl⟩,rfl,hN⟩:=q
  exact ⟨a,_,0,rfl,hN.yes,.cons _ _ (.cons _ _ (.cons _ _ (.cons _ _ .nil)))⟩
 have S3:=S3.follow hP (S2.newOf hP0).2 (S2.newOf hP0).1
 refine aT (fz (s:=sh s h3 tk3) (P:=fun v=>∃b,v=.bool b) S3 ((Ev.ints (op:=.Eq) (Ev.fmod (Ev.fdiv (Ev.nmI S3) Ev.int (by decide) (gV (by decide +kernel))) Ev.int (by decide)) Ev.int).mono fun v hv=>⟨_,hv⟩) fun v h4 tk4 hv S4=>⟨rfl,?_⟩)
 obtain ⟨ah,rfl⟩:=hv
 refine aT (cT (s:=sh s h4 tk4) (P:=fun v h'=>∃zs,zs.length=zp.length+ys.length∧Fp h4 zs v h') (Eg.ifexp (c:=ah) (Et.bool (Ev.nm S4)) ?_) fun v h5 tk5 k5 hv=>?_)
 ·cases ah with
  | true=>exact (Eg.addI (Eg.liNm (Ev.nm S4) (S4.get (.head _)) hpi) (fun h5 k5=>Eg.liNm (Ev.nm (S4.grow k5)) ((S4.grow k5).get (.tail _ (.tail _ (.head _)))) hg) (aj (jN (hpl▸(nb n1 n2 hgl).2.2) hgl) (by decide))).mono fun v h' O q=>⟨_,bL,q⟩
  | false=>exact (Eg.addI (Eg.liNm (Ev.nm S4) (S4.get (.tail _ (.tail _ (.head _)))) hg) (fun h5 k5=>Eg.liNm (Ev.nm (S4.grow k5)) ((S4.grow k5).get (.head _)) hpi) (aj (jN hgl (hpl▸(nb n1 n2 hgl).2.2)) (by decide))).mono fun v h' O q=>⟨_,by rw [bL,iu],q⟩
 obtain ⟨zs,hzl,G2,za,rfl,hGN,hzi⟩:=hv
 refine bE (s:=sh s h5 tk5) (S4.add k5 hGN.yes hGN.no) fun h6 tk6 S6=>⟨rfl,?_⟩
 have hzl2:200≤zs.length∧zs.length≤400:=zl n1 n2 hgl (hpl▸hzl)
 have hZL:∀h',h'.get? G2=some (ch za 0)→IL h' G2 zs:=fun h' k'=>⟨za.toList,GV k',hzi⟩
 refine aT (cT (s:=sh s h6 tk6) (P:=DP h6 199) (Eg.ifexp (c:=ah) (Et.bool (Ev.nm S6)) ?_) fun v h7 tk7 k7 hv=>?_)
 ·cases ah with
  | true=>
   refine Eg.sliceA (lo:=some (-199)) (hi:=none) (Ev.nm S6) (hZL _ (S6.get (.head _))) (ck hzl2.2 rfl) (gh (Ev.neg Ev.int)) j5 ?_
   skip
   refine aj (aA (congrArg (zs.length - ·) (Fz 199 zs.length (by decide)))) ?_
   exact Nat.sub_le_iff_le_add.mpr (by rw [iu];exact bZ)
  | false=>
   refine Eg.sliceA (lo:=none) (hi:=some 199) (Ev.nm S6) (hZL _ (S6.get (.head _))) (ck hzl2.2 rfl) j5 (gh Ev.int) ?_
   skip
   exact aj (aA (w7 199 zs.length)) (aN _ _)
 obtain ⟨W,wa,us,rfl,hWN,hwi,hwl⟩:=hv
 refine bE (s:=sh s h7 tk7) (S6.add k7 hWN.yes hWN.no) fun h8 tk8 S8=>⟨rfl,?_⟩
 refine aT (yX (s:=sh s h8 tk8) (a:=G2) (xs:=zs) (p:=vw zs) (cl:=[(dB,L+1)]) (m':=[(dB,.ref G2)]) hA.hd S8 (Ev.nm S8) (hZL _ (S8.get (.tail _ (.head _)))) (by exact oK (.le aq (.k 3000) (.le aq (.k 400) .o)) τ hzl2.2)
  (fun C z t h' hk' O S'=>Et.of (Et.ints (op:=.LtE) (Ev.count (vs:=za.toList) (n:=0) (Ev.nm S') (by rw [Array.toArray_toList];exact hk' _ _ (S8.get (.tail _ (.head _)))) hzi (Ev.nmI S')) (Ev.add (Ev.fdiv (Ev.lenL ((hX _ S8.keep).sub hk') (Ev.nm S') (hZL _ (hk' _ _ (S8.get (.tail _ (.head _))))) (ck hzl2.2 rfl)) Ev.int (by decide) (gV (by decide +kernel))) Ev.int)) ?_)
  (fun R h9 tk9 hR0 hR S9=>⟨rfl,?_⟩) rfl (iM rfl) (da rfl) (by show [dB].Nodup;decide +kernel) rfl (da rfl) (fun C'=>da (fun q=>by cases (show some e8=some .local from q))) (fun O=>rfl) (by decide +kernel) (by decide +kernel) rfl (by decide +kernel) rfl rfl)
 ·skip
  have:((zs.length:Int).fdiv 100)=((zs.length / 100:Nat):Int):=by rw [Int.fdiv_eq_ediv_of_nonneg _ (by decide)];rfl
  rw [this]
  exact decide_eq_decide.mpr (@dX _ (zs.length / 100+1))
 have hnF:R∉FA (dK L):=(S8.newOf hR0).2
 have hIL:∀{a:aH} {us:Array ag} {k:Nat} {ns:List Int},h9.get? a=some (ch us k)→a∉FA (dK L)→cf us.toList ns→IL (bC h9 (FA (dK L))) a ns:=fun {a us k ns} q n i=>⟨us.toList,GV (cH q n rfl),i⟩
 refine K h9 tk9 G2 W R zs us ⟨(S9.less (c':=[]) il).names (iY.mem ⟨rfl,rfl,rfl,rfl,trivial⟩),?_,?_,?_,IS.still hR hnF,hfl,hzl2,hwl⟩
 ·exact hIL (S9.get (.tail _ (.tail _ (.tail _ (.head _))))) (S9.own _ (.tail _ (.tail _ (.tail _ (.head _))))).2.1 hf
 ·exact hIL (S9.get (.tail _ (.head _))) (S9.own _ (.tail _ (.head _))).2.1 hzi
 ·exact hIL (S9.get (.head _)) (S9.own _ (.head _)).2.1 (by simpa using hwi)
end
noncomputable def Fv (r:Nat→Nat→Bool) (la lb:Nat) (h:ay) (v:ag) (h':ay):Prop:=oN fun R its n T=>uB (v=.ref R) (h'.get? R=some (ch its n)) (h.get? R=none) (mQ h' [R] its T) (C.re r la lb T) (T.Perm (C.runs r la lb))
noncomputable def C9 (e r:Nat→Nat→Bool) (la lb:Nat) (h:ay) (v:ag) (h':ay):Prop:=oN fun R its n T=>qp (v=.ref R) (h'.get? R=some (ch its n)) (h.get? R=none) (C.re r la lb T) (e9 h' [R] its ((0,0,C.jh e (fU (C.hd (C.G e ⟨0,la,0,lb⟩ T) (la,lb)).1 (C.hd (C.G e ⟨0,la,0,lb⟩ T) (la,lb)).2) 0 0)::C.G e ⟨0,la,0,lb⟩ T))
section
variable {w:aP} {A:aS} {g₀:ay} {L K f sd:aH} {xs ys:List Int} {its:Array ag} {n:Nat} {s:am} {G:List C.cv}
theorem z6 (hA:eV A 0) (X3:Cx w g₀) (hf3:IL g₀ f xs) (hs3:IL g₀ sd ys) (hx:xs.length≤2^20) (hy:ys.length≤2^20)
  (L4:Lp g₀ (fX L K) (l0 L) s.heap [(eU,.ref f),(dB,.ref sd),(m9,.ref K)] [(K,ch its n)])
  (hb4:e9 s.heap (fX L K) its ((0,0,0)::(G++[(xs.length,ys.length,0)]))) (hGl:G.length≤xs.length) (hin:C.A9 xs.length ys.length G) :
  aF (aB PQ w) A (eK ((sJ (g6 8)).drop 2) (l0 L)) (fun fl s'=>oN fun h' tk' R its'=>uB (fl=.ret (.ref R)) (s'=(sh s h' tk')) (ba (fX L K) s.heap h') (h'.get? R=some (ch its' 0)) (s.heap.get? R=none) (e9 h' [R] its' ((0,0,C.jh (gL xs ys) (fU (C.hd G (xs.length,ys.length)).1 (C.hd G (xs.length,ys.length)).2) 0 0)::G))) (fun O O=>False) s:=by
 have hlen:=hb4.length
 rw [aJ,cS,bL,f9] at hlen
 obtain ⟨y,hy1,hy2,hy3⟩:∃y:C.cv,jn (((0,0,0)::(G++[(xs.length,ys.length,0)]))[1]? = some y) ((y.1,y.2.1)=C.hd G (xs.length,ys.length)) ((y.1≤xs.length∧y.2.1≤ys.length)):=by
  cases G with
  | nil=>exact ⟨_,rfl,rfl,bd _,bd _⟩
  | cons y l=>
   have:=hin y (.head _)
   exact ⟨y,rfl,rfl,by exact c8 (.le aq ar (.le (.p aq az) ar .o)) τ this.1,by exact c8 (.le aq ar (.le (.p aq az) ar .o)) τ this.2⟩
 obtain ⟨v1,he1,hv1⟩:=hb4.get' 1 y hy1
 obtain ⟨a1,o1,n1,ta,tb,ts,rfl,ho1,hc1,hd1⟩:=hv1.three
 rw [cy] at he1
 have S4:=L4.st
 refine aT (cT (s:=s) (Eg.minT (a:=y.1) (b:=y.2.1) hA.hd (X3.sub L4.here) (Eg.twoA (x:=.int y.1 ta) (y:=.int y.2.1 tb) (z:=.int y.2.2 ts) (Ev.item (x:=.ref a1) (Ev.nm S4) Ev.int ⟨_,S4.get (.head _),rfl,_,rfl⟩ (by decide) (by decide) he1) ⟨o1,cD _ _ _ _ ho1,hc1,n1,hd1⟩) (fun v h' q=>?_)) fun v h5 tk5 k5 hv=>?_)
 ·obtain ⟨b,rfl,hN⟩:=q
  exact ⟨b,ta,tb,rfl,_,hN.yes,rfl,_,rfl⟩
 generalize hn1:fU y.1 y.2.1=n1
 have hv':fr (n1:Int) v:=by
  have:((n1:Nat):Int)=(if (y.2.1:Int)<y.1 then (y.2.1:Int) else y.1):=ED rfl rfl hn1
  rw [this];exact hv
 obtain ⟨tv,rfl⟩:=hv'
 refine bE (s:=sh s h5 tk5) (S4.grow k5) (fun h6 tk6 S6=>⟨rfl,?_⟩)
 have L6:=L4.next S6 L4.st.inC
 have hf6:=hf3.sub L6.here
 have hs6:=hs3.sub L6.here
 have hiff:∀t,t≤n1→((xs.take t==ys.take t)=true↔t≤C.jh (gL xs ys) n1 0 0):=fun t ht=>by
  have:=wE (xs:=xs) (ys:=ys) (p:=0) (q:=0) ht (by exact cR (.le (.p (.k 0) aq) ar (.le az ar (.qe aI aq (.le aI az .o)))) τ hy3.1 hn1 (aN _ _)) (by exact cR (.le (.p (.k 0) aq) ar (.le az ar (.qe aI aq (.le aI az .o)))) τ hy3.2 hn1 (br _ _))
  simpa using this
 have hm1:n1≤2^20:=aj (aA hn1.symm) (aj (aN _ _) (aj hy3.1 hx))
 refine aT (cT (s:=sh s h6 tk6) (Eg.maxL hA.hd (X3.sub L6.here) (Eg.lcRange (n:=n1+1) (cl:=[(dB,L+2),(eU,L+1)]) (m':=[(dB,.ref sd),(eU,.ref f)])
  (f:=fun t=>(xs.take t==ys.take t)) hA.hd S6
  (Eg.range1 (b:=((n1+1:Nat):Int)) (X3.sub L6.here) (Ev.isI (Ev.add (Ev.nmI S6) Ev.int) rfl) Bv (Hv hm1)) (DV hm1) (fun C' i t h' hk' S' hi=>?_) (iM rfl) (fv rfl rfl) (by show [dB,eU].Nodup;decide +kernel) rfl (fv rfl rfl)
  (fun C'=>fv (fun q=>by cases (show some e8=some .local from q)) (fun q=>by cases (show some e8=some .local from q))) (fun O=>rfl) (by decide +kernel) (by decide +kernel) rfl (by decide +kernel) rfl)
   (ns:=((bO (n1+1)).filter fun t=>(xs.take t==ys.take t)).map fun i:Nat=>(i:Int)) (fun v h' q=>?_) ?_) fun v h7 tk7 k7 hv=>?_)
 ·exact tW.eqL (by have:=hA.un;exact cW (.lt aq ar (.lt (.p (.p aq (.m 3 (.k 0))) (.k 20)) ar .o)) τ this) (Eg.uptoI (b:=i) (Ev.nm S') (hf6.sub hk') (ck hx rfl) (Ev.nmI S'))
   fun h8 k8=>Eg.uptoI (b:=i) (Ev.nm (S'.grow k8)) ((hs6.sub hk').sub k8.all) (ck hy rfl) (Ev.nmI (S'.grow k8))
 ·obtain ⟨r,vs,rfl,_,hp,hi⟩:=q
  exact ⟨r,vs,rfl,hp.isList,hi⟩
 ·exact C.wV hiff
 obtain ⟨M,tm,rfl,hM1,hM2⟩:=hv
 have hM:=C.wW (C.ls (gL xs ys) n1 0 0) hiff hM1 hM2
 subst hM
 clear hM1 hM2
 refine bE (s:=sh s h7 tk7) (S6.grow k7) (fun h8 tk8 S8=>⟨rfl,?_⟩)
 have L8:=L4.next S8 L4.st.inC
 have hb8:=hb4.mono fun O O q=>q.sub (bP S8.keep)
 refine nv (s:=sh s h8 tk8) (P:=fun v h'=>oN fun us t cits R'=>DK (cf us [(0:Int),0,(C.jh (gL xs ys) n1 0 0:Int)]) (h8.get? t=none) (h'.get? t=some (jX us)) (h8.get? R'=none) (v=.ref R') (cits=slicePick its (some 1) (some (-1)) none) (t≠R') (h'.get? R'=some (ch (#[.ref t]++cits) 0))) (Eg.addL
  (P:=fun v h'=>lT fun us t b=>qp (cf us [(0:Int),0,(C.jh (gL xs ys) n1 0 0:Int)]) (v=.ref b) (h8.get? t=none) (h'.get? t=some (jX us)) (h'.get? b=some (ch #[.ref t] 0)))
  (P':=fun x y h2=>oN fun us t b c=>xM (cf us [(0:Int),0,(C.jh (gL xs ys) n1 0 0:Int)]) (x=.ref b) (h8.get? t=none) (h2.get? t=some (jX us)) (h2.get? b=some (ch #[.ref t] 0)) (y=.ref c) (h2.get? c=some (ch (slicePick its (some 1) (some (-1)) none) 0))) ?_ ?_ ?_) fun v h9 tk9 k9 hp=>?_
 ·refine (Eg.lst (Es.one (Eg.trip (Ev.int) (Ev.int) (Ev.nmI S8))) (by rintro vs h' ⟨v,rfl,_⟩;show 1≤2^24;decide)).mono fun v h' O q=>?_
  obtain ⟨vs,h1',b,kb,⟨v1,rfl,us,t,hus,rfl,hNt⟩,rfl,hNb⟩:=q
  exact ⟨us,t,b,hus,rfl,hNt.no,hNb.kept.get hNt.yes,hNb.yes⟩
 ·rintro x h9 k9 ⟨us,t,b,hus,rfl,ht0,ht,hbb⟩
  refine (Eg.sliceL (lo:=some 1) (hi:=some (-1)) (Ev.nm (S8.grow k9)) ⟨_,k9.get (S8.get (.head _)),rfl,_,rfl⟩ (aj (aA hlen) (ck (cN (aj hGl hx) 2) rfl)) (gh Ev.int) (gh (Ev.neg Ev.int))).mono fun v h' kv q=>?_
  obtain ⟨c,rfl,hN⟩:=q
  exact ⟨us,t,b,c,hus,rfl,ht0,kv.get ht,kv.get hbb,rfl,hN.yes⟩
 ·rintro x y h9 k9 ⟨us,t,b,c,hus,rfl,ht0,ht,hbb,rfl,hc⟩
  refine ⟨b,_,_,c,_,_,rfl,rfl,hbb,hc,?_,fun h' R' hN=>?_⟩
  ·have:=slicePick_size_le its (some 1) (some (-1)) none
   exact aj (fG (aj this (aj (aA hlen) (cN (aj hGl hx) 2))) 1) (by decide)
  ·exact ⟨us,t,_,R',hus,ht0,hN.kept.get ht,dh k9 hN.no,rfl,rfl,(qn ht hN.no),hN.yes⟩
 ·obtain ⟨us,t,cits,R',hus,ht0,ht,hR0,rfl,rfl,htR,hR'⟩:=hp
  have hpick:slicePick its (some 1) (some (-1)) none=((its.toList.drop 1).take (its.size-2)).toArray:=by
   have h1:=clipAt_nat its.size 1
   have h2:=clipAt_neg its.size 1 (by exact ci _ _)
   rw [slicePick_plain]
   simp only [Option.elim]
   rw [show (1:Int)=((1:Nat):Int) from rfl,h1,h2,bz (by exact GH 1 (.le (.k 1) aq (.qe aq (.p (.s 1 1) (.k 1)) .o)) τ hlen)]
   congr 2
  rw [hpick] at hR'
  have hRs:s.heap.get? R'=none:=by
   cases q:s.heap.get? R' with
   | none=>rfl
   | some o=>
    have hn:R'∉fX L K:=fun z=>by
     cases z with
     | head=>rw [S8.get (.head _)] at hR0;cases hR0
     | tail _ z=>obtain ⟨o,ho⟩:=S8.lie _ z;rw [ho] at hR0;cases hR0
    rw [S8.kept _ _ q hn] at hR0;cases hR0
  refine ⟨h9,tk9,R',_,rfl,rfl,S8.kept.trans (k9.mono il),hR',hRs,?_⟩
  rw [←hy2,hn1]
  have hb9:=(hb8.drop 1).take G.length
  rw [show its.size-2=G.length by exact ak (c8 (.le aq ar (.eq az (.p (.s 1 1) (.k 1)) (.eq (.s 0 2) az .o))) τ hlen (aa (cW (.le (.k 2) aq (.qe aq (.p (.s 1 1) (.k 1)) .o)) τ hlen))) (c8 (.le aq ar (.qe az (.p (.s 0 1) (.k 1)) (.le az (.s 1 2) .o))) τ hlen bZ)] at hR' ⊢
  have hl2:(((0,0,0)::(G++[(xs.length,ys.length,0)])).drop 1).take G.length=G:=by simp
  rw [hl2] at hb9
  rw [e9,b7]
  refine dL.append (R:=fun v (x:C.cv)=>VT (bC h9 [R']) v [(x.1:Int),(x.2.1:Int),(x.2.2:Int)]) (l:=[.ref t]) (m:=[(0,0,C.jh (gL xs ys) n1 0 0)]) (.cons ⟨t,rfl,us,⟨_,cH ht (qZ htR) rfl,rfl,_,rfl⟩,hus⟩ .nil) (hb9.mono fun v x q=>q.sub (cM fun b o q' n' O=>⟨k9.get q',fun z=>?_⟩))
  obtain rfl:=aD.mp z
  rw [q'] at hR0;cases hR0
end
section
variable {w:aP} {A:aS} {h:ay} {f sd rr:aH} {xs ys:List Int} {S:Int→Bool}
theorem B6 (hA:eV A 2) (X:Cx w (bC h [])) (hf:IL (bC h []) f xs) (hs:IL (bC h []) sd ys) (hS:IS w (bC h []) rr S) (hx:xs.length≤2^20) (hy:ys.length≤2^20)
  (hn:(C.runs (ie xs ys S) xs.length ys.length).length≤2^20-2) :
  Cg PQ w A h (.ref 258) [.ref f,.ref sd,.ref rr] (C9 (gL xs ys) (ie xs ys S) xs.length ys.length h):=by
 have X0:=X.sub (cD h [])
 obtain ⟨mg,mb,T⟩:=X0.T
 refine Cd.cg (Cd.enterC (c:=[]) (m:=[(eU,.ref f),(dB,.ref sd),(qY,.ref rr)]) (by have:=hA.dp;exact cW (.lt aq ar (.lt (.s 0 2) ar .o)) τ this) (X0.K _ _ (Dl _)) rfl T.nolimit (f7 X0.K (BI _)) rfl (Bo _ _ _) rfl (by decide +kernel) ?_ ?_ ?_ il (fun L s hL hk S0=>?_))
 ·intro L
  exact lv (.inr ⟨rfl,rfl⟩) (.inr ⟨rfl,rfl⟩) (.inl rfl)
 ·intro L
  refine pN (P:=fun x v=>pO.scope.names.lookup x=some .local→bindL (jT pO L 258).kindOf [(eU,.ref f),(dB,.ref sd),(qY,.ref rr)] (fun O=>none) x=some v) (lv ?_ ?_ ?_)
  ·intro q;cases q
  ·intro q;cases q
  ·intro q;rfl
 ·intro L
  refine pN (P:=fun x v=>∀a,(rg (L+1) pO.scope.names []).lookup x=some a→bindC (jT pO L 258).kindOf [(eU,.ref f),(dB,.ref sd),(qY,.ref rr)] (fun O=>none) x=some v) (lv ?_ ?_ ?_)
  ·intro a q;rfl
  ·intro a q;rfl
  ·intro a q;cases q
 have hA1:=hA.deeper (l0 L)
 have hs0:Sub (bC h []) s.heap:=(cD h []).trans hk.all
 have hFnew:∀a∈FA (l0 L),h.get? a=none:=fun a ha=>S0.off a ha
 refine aT (cT (Eg.lst (Es.two (Eg.trip Ev.int Ev.int Ev.int) fun u h1 k1 hu=>Eg.trip (Ev.lenL (X.sub (hs0.trans k1.all)) (Ev.nm (S0.grow k1)) (hf.sub (hs0.trans k1.all)) (ck hx rfl)) (Ev.lenL (X.sub (hs0.trans k1.all)) (Ev.nm (S0.grow k1)) (hs.sub (hs0.trans k1.all)) (ck hy rfl)) Ev.int) ?_) fun v h1 tk k1 hv=>?_)
 ·rintro vs h' ⟨u,v,h1,rfl,_⟩;show 2≤2^24;decide
 obtain ⟨vs,hT,K,kT,⟨u,v,hT1,rfl,kT1,⟨us1,t1,hi1,rfl,hN1⟩,kT2,us2,t2,hi2,rfl,hN2⟩,rfl,hNK⟩:=hv
 have hsK:=dh kT hNK.no
 have hhK:=dh hk hsK
 have S1:=S0.add k1 hNK.yes hsK
 have hDn:∀b∈fX L K,h.get? b=none:=fun b hb=>by
  cases hb with
  | head=>exact hhK
  | tail _ hb=>exact hFnew b hb
 have hin0:vS (FA (l0 L)) s.heap:=fun b hb=>S0.lie b hb
 have ht1:t1∉fX L K:=fun q=>by
  cases q with
  | head=>have:=hNK.no;replace this:=(kT2.get hN1.yes)▸this;cases this
  | tail _ q=>exact hN1.notin hin0 q
 have ht2:t2∉fX L K:=fun q=>by
  cases q with
  | head=>have:=hNK.no;replace this:=hN2.yes▸this;cases this
  | tail _ q=>exact hN2.notin (hin0.sub fun b o q=>⟨o,kT1.get q⟩) q
 have L1:Lp (bC h []) (fX L K) (l0 L) h1 _ _:=Lp.start S1 (fX L K) (fun a ha=>.tail _ ha) (da (.head _)) (pu (hk.trans k1).all hDn)
 have hb1:e9 h1 (fX L K) #[.ref t1,.ref t2] [(0,0,0),(xs.length,ys.length,0)]:=
  .cons (VT.new hi1 hN1 ((kT2.trans hNK.kept).mono (by simp)) ht1) (.cons (VT.new hi2 hN2 (hNK.kept.mono (by simp)) ht2) .nil)
 refine bE (s:=sh s h1 tk) L1.st (fun h2 tk2 S2=>⟨rfl,?_⟩)
 have L2:=(L1.next S2 L1.st.inC).forget (m':=[(eU,.ref f),(dB,.ref sd),(qY,.ref rr),(m9,.ref K)]) (qD rfl rfl rfl rfl)
 have hb2:e9 h2 (fX L K) #[.ref t1,.ref t2] [(0,0,0),(xs.length,ys.length,0)]:=hb1.mono fun O O q=>q.sub (bP S2.keep)
 have k02:Sub h h2:=fun b o q=>S2.keep b o (bq _ (k1.get (hk.get q)) (fun z=>by exact nn (hDn b z) q))
 clear S2 S1 S0 L1 hb1
 have hv2:Sub (bC h []) (bC h2 []):=L2.sub.trans (cM fun b o q O O=>⟨q,by simp⟩)
 have hin2:vS (fX L K) h2:=fun b hb=>by
  cases hb with
  | head=>exact ⟨_,L2.st.get (.head _)⟩
  | tail _ hb=>exact L2.st.lie b hb
 have hcall:Eg PQ w (A.deeper (l0 L)) (l0 L) h2 (Fj ((sJ (g6 8)).getD 1 (.Pass p0))) (Fv (ie xs ys S) xs.length ys.length h2):=Eg.callF
  (Ev.glob (v:=.ref 253) (X.sub L2.here) (fun O=>by kernel_rfl!)) (L2.here _ _ (X.K _ _ (Dk _))) rfl (Es.more (Ev.nm L2.st) (Es.more (Ev.nm L2.st) (Es.more (Ev.nm L2.st) Es.nil))) (fun vs h3 k3 hvs=>by
   obtain ⟨rfl,v1,vs1,rfl,rfl,v2,vs2,rfl,rfl,v3,vs3,rfl,rfl,rfl⟩:=hvs
   exact CM hA1.hd (by have:=hA1.dp;exact cW (.lt aq ar (.lt (.s 0 1) ar .o)) τ this) (X.sub hv2) (hf.sub hv2) (hs.sub hv2) (hS.sub hv2) hx hy (ck hn rfl))
 refine aT (xE (s:=sh s h2 tk2) hA.hd hcall (fun v h3 tk3 k23 hv=>?_))
 obtain ⟨R,rits,rn,T,rfl,hR,hR2,hRT,hRuns,hperm⟩:=hv
 have hF3:=(L2.st.grow k23)
 have L3:=L2.grow k23
 have hb3:=hb2.mono fun O O q=>q.sub (bP (L2.st.grow k23).keep)
 have hin3:vS (fX L K) h3:=hin2.sub fun b o q=>⟨o,k23.get q⟩
 have hRD:R∉fX L K:=qJ hin2 hR2
 have hT3:dL (fun v x=>VT (bC h3 (fX L K)) v (code x)) rits.toList T:=hRT.mono fun v x q=>by
  obtain ⟨a,rfl,vs,⟨o,ho,hc,n,hd⟩,hi⟩:=q
  obtain ⟨ho1,ho2,ho3⟩:=cZ ho
  refine ⟨a,rfl,vs,⟨o,cH ho1 (fun z=>?_) ho3,hc,n,hd⟩,hi⟩
  cases z with
  | head=>
   have:=L3.st.get (.head _)
   replace this:=ho1▸this;cases this;exact absurd (show dk "list" = dk "tuple" from hc) (by decide)
  | tail _ z=>exact L3.st.seqOff (Gv L) ho1 hd z
 have X3:Cx w (bC h3 (fX L K)):=X.sub L3.sub
 have hf3:IL (bC h3 (fX L K)) f xs:=hf.sub L3.sub
 have hs3:IL (bC h3 (fX L K)) sd ys:=hs.sub L3.sub
 have hTlen:rits.size=T.length:=by have:=hT3.length;rwa [aJ] at this
 have hTle:T.length≤2^20-2:=by rw [hperm.length_eq];exact hn
 have L3':Lp (bC h3 (fX L K)) (fX L K) (l0 L) h3 [(eU,.ref f),(dB,.ref sd),(m9,.ref K)] [(K,ch #[.ref t1,.ref t2] 0)]:=⟨fun O O q=>q,(L3.forget (lv rfl rfl rfl)).st⟩
 refine ⟨R,rits,fX L K,fun t h'=>g8 fun its n=>jn (Lp (bC h3 (fX L K)) (fX L K) (l0 L) h' [(eU,.ref f),(dB,.ref sd),(m9,.ref K)] [(K,ch its n)]) (e9 h' (fX L K) its (C.row (gL xs ys) xs.length ys.length T t)) (ba (fX L K) h3 h'),rfl,⟨⟨_,hR,rfl,rn,rfl⟩,hRD,hin3,fun h' k'=>⟨_,_,L3'.grow k',?_,k'.mono il⟩,?_,?_,?_⟩⟩
 ·exact hb3.mono fun O O q=>q.sub (bP (L3'.st.grow k').keep)
 ·rintro t h4 h5 ⟨its,n,a,b,c⟩ hk
  exact ⟨its,n,a.stab hk,b.mono fun O O q=>q.sub (iX hk),c.stab hk fun b o q n=>⟨o,q⟩⟩
 ·rintro t v h4 tk4 ht hv ⟨its,n,L4,hb4,k34⟩
  obtain ⟨x,hx',hvx⟩:=hT3.get t v (by rw [cy];exact hv)
  obtain ⟨a,o,n',tl,ti,tj,rfl,ho,hc,hd⟩:=(hvx.sub L4.here).three
  have hxin:=hRuns.run x (gH hx')
  have hbl:=C.CJ (e:=gL xs ys) (la:=xs.length) (lb:=ys.length) (T:=T) t
  have hlen:=hb4.length
  rw [aJ] at hlen
  refine mf (s:=sh s h4 tk4) (u:=.int (-(x.2.2:Int)) tl) (v:=.int x.1 ti) (r:=.int x.2.1 tj) hA.hd L4.st ⟨o,ho,hc,n',hd⟩ (fun h5 tk5 S5=>?_)
  have L5:=(L4.next S5 L4.st.inC).forget (m':=[(eU,.ref f),(dB,.ref sd),(m9,.ref K),(Am,.int (-(x.2.2:Int)) tl),(nI,.int x.1 ti),(nJ,.int x.2.1 tj)]) (by
   intro p hp
   simp only [aC,bT,or_false] at hp
   rcases hp with rfl|rfl|rfl|rfl|rfl|rfl<;>rfl)
  have hb5:=hb4.mono fun O O q=>q.sub (bP S5.keep)
  refine aL (yv (s:=sh s h5 tk5) (hA1.less (by exact Nat.le_succ _)) X3 hf3 hs3 hx hy L5 hb5 (by exact (dI (2^20) 2).elim (fun ζ2=>sM (.le aq ar (.w 2 (.eq az aI (.w 2 (.le aI bx (.w 2 (.lt cV az (.le ee (.s 5 2) (.eq aq ee (.le bx ar (.eq bx (.k 0) .o))))))))))) τ hTlen hTle ht hbl hlen (aO _ _) (bR ζ2)) fun ζ2=>H9 1 (.le aq ar (.w 2 (.eq az aI (.w 2 (.le aI bx (.w 2 (.lt cV az (.w 2 (.le ee (.s 5 2) (.w 2 (.eq aq ee (.le bx ar (.eq (.s 4 2) ar .o))))))))))))) τ hTlen hTle ht hbl hlen (aO _ _) (aa ζ2)) (C.xB t)) (fun fl s' hq=>?_) fun O O z=>z
  obtain ⟨rfl,h',tk',its',n',rfl,kp,Lp',hb'⟩:=hq
  refine ⟨h',tk',rfl,S5.kept.trans kp,its',n',Lp',?_,(k34.trans S5.kept).trans kp⟩
  rw [C.AJ hx']
  exact hb'
 ·rintro h4 tk4 ⟨its,n,L4,hb4,k34⟩
  refine ⟨rfl,?_⟩
  rw [hTlen,C.xA fun x hx=>(hRuns.run x hx).1] at hb4
  have hG1:(C.G (gL xs ys) ⟨0,xs.length,0,ys.length⟩ T).length≤xs.length:=C.C7 fun x hx=>(hRuns.run x hx).1
  have hG2:C.A9 xs.length ys.length (C.G (gL xs ys) ⟨0,xs.length,0,ys.length⟩ T):=fun y hy=>by
   have:=C.xB (e:=gL xs ys) (la:=xs.length) (lb:=ys.length) (T:=T) T.length
   rw [C.xA fun x hx=>(hRuns.run x hx).1] at this
   exact this y (by simp [hy])
  refine aL (z6 (s:=sh s h4 tk4) (hA1.less (by exact Nat.le_succ _)) X3 hf3 hs3 hx hy L4 hb4 hG1 hG2) (fun fl s' hq=>?_) fun O O z=>z
  obtain ⟨h',tk',R',its',rfl,rfl,kp,hR',hRn,hb'⟩:=hq
  have kk:Sub h h':=fun b o q=>by
   have hbD:b∉fX L K:=fun z=>by exact nn (hDn b z) q
   exact kp b o (k34 b o (k23.get (k02 b o q)) hbD) hbD
  refine ⟨h',tk',rfl,kk,R',its',0,T,rfl,hR',?_,hRuns,hb'⟩
  cases q:h.get? R' with
  | none=>rfl
  | some o=>
   have hbD:R'∉fX L K:=fun z=>by exact nn (hDn R' z) q
   have:=k34 _ o (k23.get (k02 _ o q)) hbD
   have hRn:h4.get? R'=none:=hRn
   exact nn hRn this
end
theorem Cw (P:bF):nsIn (KF P) cu Al=some (some (.ref 258)):=by kernel_rfl!
theorem Aw (P:bF):nsIn (KF P) cu yG=some (some (.ref 265)):=by kernel_rfl!
theorem Cy (P:bF):nsIn (KF P) cu qH=some (some (.ref 242)):=by kernel_rfl!
theorem Ab {xs ys:List Int} {S:Int→Bool} {T:List C.cv} (hT:C.re (ie xs ys S) xs.length ys.length T) :
  C.uw false (0,0) (C.og ((0,0,C.jh (gL xs ys) (fU (C.hd (C.G (gL xs ys) ⟨0,xs.length,0,ys.length⟩ T) (xs.length,ys.length)).1 (C.hd (C.G (gL xs ys) ⟨0,xs.length,0,ys.length⟩ T) (xs.length,ys.length)).2) 0 0)::C.G (gL xs ys) ⟨0,xs.length,0,ys.length⟩ T)++[(xs.length,ys.length)])
   = C.ty 0 0 (r7 xs ys S):=
 C.AB (r:=ie xs ys S) (bst:=C.bst (ie xs ys S)) (fun i j h=>by unfold ie at h;exact (cF.mp h).1) hT (fun g hg=>C.kg hg) (n:=xs.length-0+1) (by exact cW (.lt aq (.s 1 1) (.le aq (.s 1 0) .o)) τ bZ)
section
variable {prog:aV} {w:aP} {A:aS} {s:am} {E:ag→am→Prop} {e:gy} {h:ay}
theorem FC {x y:ag} {o:C.Op} (hu:A.units<cLine) (hx:xP s.heap x o) (hy:xP s.heap y o):lW A s x y true:=by
 obtain ⟨a,t0,t1,t2,t3,t4,rfl,ha⟩:=hx
 obtain ⟨b,u0,u1,u2,u3,u4,rfl,hb⟩:=hy
 by_cases hab:a=b
 ·subst hab;exact lW.same _
 ·have:=SeqAt.RcAt.tuples (A:=A) (s:=s) (e:=fun O=>true) ha hb hu (fun j h1 h2=>by
   have i0:∀(n:Int) (t u:jR),lW A.in1 s (.int n t) (.int n u) true:=fun n t u=>by have:=lW.int_int (A:=A.in1) (s:=s) n t n u;rwa [beq_self_eq_true] at this
   have s0:∀(n:bU) (t u:jR),lW A.in1 s (.str n t) (.str n u) true:=fun n t u=>by have:=lW.str_str (A:=A.in1) (s:=s) n t n u;rwa [beq_self_eq_true] at this
   rcases j with _|_|_|_|_|j
   ·exact s0 _ _ _
   ·exact i0 _ _ _
   ·exact i0 _ _ _
   ·exact i0 _ _ _
   ·exact i0 _ _ _
   ·exact absurd h1 (i7.mpr (ci 5 j)))
  exact lW.of_refs hab (show SeqAt.RcAt A s (.ref a) (.ref b) true from this)
theorem EW {a b:aH} {us vs:Array ag} {l:List C.Op} {Q:ag→am→Prop} (hu:A.units+1<cLine) (ha:s.heap.IsList a us) (hb:s.heap.IsList b vs) (hus:dL (fun v x=>xP s.heap v x) us.toList l) (hvs:dL (fun v x=>xP s.heap v x) vs.toList l) (q:Q (.bool false) s) :
  aF (aB prog w) A (ja .NotEq (.ref a) (.ref b)) Q E s:=by
 have e1:=hus.length
 have e2:=hvs.length
 rw [aJ] at e1 e2
 have:=SeqAt.RcNeAt.lists (A:=A) (s:=s) (e:=fun O=>true) ha hb (by exact ak (aj (aA e1) (aA (cB e2))) (aj (aA e2) (aA (cB e1)))) (by exact cW (.lt aq ar (.lt (.s 0 1) ar .o)) τ hu) (fun j h1 h2=>by
  obtain ⟨o,ho,hx⟩:=hus.get j us[j] (by simp)
  obtain ⟨o',ho',hy⟩:=hvs.get j vs[j] (by simp)
  rw [ho] at ho';cases ho'
  exact FC (by show A.units+1<cLine;exact hu) hx hy)
 refine this prog w E Q ?_
 rw [show (bO us.size).all (fun O=>true)=true from oP.mpr fun O O=>rfl]
 exact q
theorem vR.callM {x:bU} {p pos:dJ} {C:aH} {ex:au} {rest:List au} {P:List ag→ay→Prop} {R:ag→ay→Prop} (N:Ev prog w A e h (.Name x p) (· = .ref C)) (X:Cx w h) (H:Es prog w A e h (ex::rest) P)
  (K:∀vs h1,ba [] h h1→P vs h1→ze prog w A h1 [] (.ref C) vs R) (hk:autoParam (∀P,keepIn (KF P) (.ref C)=true) rfB) (he:autoParam (aE (ex::rest) e=(false,cO ex e)::aE rest e) rfA) (hp:autoParam ((gK pos (aE rest e)).any (·.1)=false) rfA) :
  vR prog w A e h [] (.Call (.Name x p) (ex::rest) [] pos) R:=fun s Q E hs k=>eL (N s _ _ hs fun v tk hv=>by
 subst hv
 exact callWith_K (first:=[]) X.K (hk _) (H pos _ _ _ hs fun vs h1 tk1 k1 hvs=>⟨X.K.keeps k1.all,K vs h1 k1 hvs _ _ _ rfl fun v h2 tk2 dr k2 hr=>k v h2 tk2 dr (k1.trans k2) hr⟩) he hp)
theorem vR.methX {ev:au} {name:bU} {ap pos:dJ} {f:aH} {fo:cA} {fd:dP} {P R:ag→ay→Prop} (H:vR prog w A e h [] ev P)
  (K:∀v h1,ba [] h h1→P v h1→oN fun x dx od ma=>Fn (v=.ref x) (Cx w h1) (h1.get? x=some (dA 242 dx)) (h1.get? dx=some od) (DO od ma) (iF ma name=none) (h1.get? f=some fo) (fo.data=.func fd) (h.get? dx=none) (Cd prog w A h1 [dx] (.ref f) [.ref x] R))
  (hf:autoParam (∀P,hY (KF P) (.ref 242) name=some (some (.ref f))) rfB) (ht:autoParam (∀P,typeIn (KF P) (.ref f)=some (.type "function")) rfB)
  {pl:mw Bool} (he:autoParam (cO (.Call (.Attribute ev name ap) [] [] pos) e=(do
   let ov ←cO ev e
   fe ap.atName
   let (f,first) ←gf [ov] (gx ov name pl)
   g9 pos f first (gK pos (aE [] e)) [])) rfA) :
  vR prog w A e h [] (.Call (.Attribute ev name ap) [] [] pos) R:=fun s Q E hsh k=>by
 refine jo (H s _ _ hsh fun v h1 tk dr k1 hv=>?_) he
 obtain ⟨x,dx,od,ma,rfl,C,hx,hd,hD,hs,ho,hdat,hdn,K⟩:=K v h1 k1 hv
 refine mX (s:=oE s h1 tk dr) C hx hd hD hs (hf _) (ht _) ?_
 refine callWith_meth0 hdat ho ?_
 refine K (oE s h1 tk dr) _ _ rfl fun v h2 tk2 k2 hr=>k v h2 tk2 dr (fun b o q O=>k2 b o (k1.get q) (fun z=>?_)) hr
 rw [aD.mp z,hdn] at q;cases q
end
noncomputable def Ix:List fC:=sJ (Cb.getD 9 (.Pass p0))
section
variable {prog:aV} {w:aP} {A:aS} {s:am} {E:ag→am→Prop} {e:gy}
theorem CU {l r:au} {body orelse:List fC} {pos cpos:dJ} {P:ag→ay→Prop} {P':ag→ag→ay→Prop} {b:Bool} {Q:dW→am→Prop} (Hl:vR prog w A e s.heap [] l P) (Hr:∀x h1,ba [] s.heap h1→P x h1→Eg prog w A e h1 r (P' x))
  (hop:∀x y h2,P' x y h2→∀(s:am) (Q:ag→am→Prop) (E:ag→am→Prop),s.heap=h2→(∀tk,Q (.bool b) { s with toks:=tk})→aF (aB prog w) A (ja .NotEq x y) Q E s)
  (k:∀h' tk dr,ba [] s.heap h'→aF (aB prog w) A (eK (if b then body else orelse) e) Q E (oE s h' tk dr)) (hm:autoParam (i9 .NotEq r=false) rfE) :
  aF (aB prog w) A (fA (.If (.Compare l [.NotEq] [r] cpos) body orelse pos) e) Q E s:=by
 refine wpAny_If (wpAny_isTrue_Compare1 (Hl s _ _ rfl fun x h1 tk dr k1 hx=>Hr x h1 k1 hx (oE s h1 tk dr) _ _ rfl fun y h2 tk2 k2 hy=>hop x y h2 hy (oE s h2 tk2 dr) _ _ rfl fun tk3=>?_) hm)
 refine ig ?_
 have:=k h2 tk3 dr (k1.trans k2)
 cases b<;>exact this
end
noncomputable def DQ (l:List C.Op) (v:ag) (h':ay):Prop:=lT fun R its n=>jn (v=.ref R) (h'.get? R=some (ch its n)) (dL (fun v x=>xP h' v x) its.toList l)
theorem DQ.keep {l:List C.Op} {v:ag} {h h':ay} (x:DQ l v h) (k:ba [] h h'):DQ l v h':=by
 obtain ⟨R,its,n,e,ho,i⟩:=x
 exact ⟨R,its,n,e,k.get ho,i.mono fun O O z=>z.sub k.all⟩
noncomputable def Fo (g₀:ay) (L:aH) (s:am) (fl:dW) (s':am):Prop:=fl=.next∧lT fun h' tk dr=>jn (s'=(oE s h' tk dr)) (ba (FA (dK L)) s.heap h') (Lp g₀ (FA (dK L)) (dK L) h' [] [])
section
variable {w:aP} {A:aS} {g₀:ay} {L f sd rr:aH} {s:am} {xs ys:List Int} {S:Int→Bool}
theorem Aa (hA:eV A 5) (X:Cx w g₀) (Lh:Lp g₀ (FA (dK L)) (dK L) s.heap [(ET,.ref f),(nc,.ref sd),(wD,.ref rr)] []) (hf:IL g₀ f xs) (hs:IL g₀ sd ys) (hr:IS w g₀ rr S) (hS:∀k∈ys,S k=!nj ys k) (hx:xs.length≤900) (hy:ys.length≤3000)
  (hn:(C.runs (ie xs ys S) xs.length ys.length).length≤2^20-2):aF (aB PQ w) A (eK Ix (dK L)) (Fo g₀ L s) (fun O O=>False) s:=by
 have S0:=Lh.st
 have V:∀{h':ay} {m:List (bU×ag)},Lp g₀ (FA (dK L)) (dK L) h' m []→Sub g₀ (bC h' []):=fun {h' m} l=>l.sub.trans (cM fun b o q O O=>⟨q,by simp⟩)
 have V0:=V Lh
 refine aT (cT (s:=s) (P:=C9 (gL xs ys) (ie xs ys S) xs.length ys.length s.heap) (Eg.callF (Ev.glob (X.sub Lh.here) Cw) ((X.sub Lh.here).K _ _ (Dl _)) rfl (Es.more (Ev.nm S0) (Es.more (Ev.nm S0) (Es.more (Ev.nm S0) Es.nil))) fun vs h1 k1 hv=>?_) fun v h1 tk1 k1 hv=>?_)
 ·obtain ⟨rfl,_,_,rfl,rfl,_,_,rfl,rfl,_,_,rfl,rfl,rfl⟩:=hv
  exact B6 (hA.less (by exact ci _ _)) (X.sub V0) (hf.sub V0) (hs.sub V0) (hr.sub V0) (by lia) (by exact ck (m:=3000) (by assumption) (by with_unfolding_all rfl)) hn
 obtain ⟨K,its,n,T,rfl,hK,hK0,hT,hb⟩:=hv
 have L1:=Lh.grow k1
 have hKF:K∉FA (dK L):=(S0.newOf hK0).2
 generalize hl:(((0,0,C.jh (gL xs ys) (fU (C.hd (C.G (gL xs ys) ⟨0,xs.length,0,ys.length⟩ T) (xs.length,ys.length)).1 (C.hd (C.G (gL xs ys) ⟨0,xs.length,0,ys.length⟩ T) (xs.length,ys.length)).2) 0 0)::C.G (gL xs ys) ⟨0,xs.length,0,ys.length⟩ T):List C.cv)=l at hb
 have hmeet:=Ab hT
 rw [hl] at hmeet
 have hll:l.length≤1000:=by
  have:=C.C7 (e:=gL xs ys) (la:=xs.length) (lb:=ys.length) (S:=T) (fun x hx=>(hT.run x hx).1)
  rw [←hl,cS];exact cW (.le (.s 0 1) (.k 1000) (.le ar (.k 900) (.le aq ar .o))) τ hx this
 have hb1:dL (fun v (x:C.cv)=>VT (bC h1 (FA (dK L))) v [(x.1:Int),(x.2.1:Int),(x.2.2:Int)]) its.toList l:=hb.mono fun v x z=>by
  obtain ⟨a,e,vs,⟨o,ho,hc,m,hd⟩,i⟩:=z
  exact ⟨a,e,vs,⟨o,cH (cZ ho).1 (L1.st.seqOff (Gw L) (cZ ho).1 hd) (cZ ho).2.2,hc,m,hd⟩,i⟩
 have hK1:(bC h1 (FA (dK L))).get? K=some (ch its n):=cH hK hKF rfl
 refine bE (s:=sh s h1 tk1) L1.st fun h2 tk2 S2=>⟨rfl,?_⟩
 have L2:=L1.next S2 il
 have hK2:=bP S2.keep _ _ hK1
 have hb2:=hb1.mono fun v x z=>VT.sub z (bP S2.keep)
 have V2:=V L2
 have X2:Cx w h2:=X.sub L2.here
 have W2:Sub (bC h2 (FA (dK L))) (bC h2 []):=cM fun b o q O O=>⟨q,by simp⟩
 refine aT (CU (s:=sh s h2 tk2) (b:=false) (P:=DQ (C.ty 0 0 (r7 xs ys S))) (P':=fun x y h'=>DQ (C.ty 0 0 (r7 xs ys S)) x h'∧DQ (C.ty 0 0 (r7 xs ys S)) y h')
  (vR.methX (f:=210) (fd:=qT) (fo:=⟨.type "function",none,.func qT,#[]⟩) (P:=fun v h'=>g8 fun x dx=>uB (v=.ref x) (h2.get? x=none) (h2.get? dx=none) (x≠dx) (h'.get? x=some (dA 242 dx)) (lS w dx f sd ys S h')) (vR.callM (Ev.glob X2 Cy) X2 (Es.more Ev.none (Es.more (Ev.nm S2) (Es.more (Ev.nm S2) Es.nil))) fun vs h3 k3 hv=>?_) fun v h3 k3 hv=>?_) (fun x h3 k3 hx=>?_) (fun x y h4 q s' Q E hs' kq=>?_) fun h4 tk4 dr k4=>?_)
 ·obtain ⟨rfl,_,_,rfl,rfl,_,_,rfl,rfl,_,_,rfl,rfl,rfl⟩:=hv
  exact Cj hA (X.sub V2) (hs.sub V2) hy hS
 ·obtain ⟨x,dx,rfl,hx0,hd0,hxd,hx3,od,d,J,Pp,hd3,hO,hB,hJ,hsys⟩:=hv
  have V3:Sub g₀ (bC h3 [dx]):=V2.trans (cM fun b o q O O=>⟨k3.get q,fun z=>by rw [aD.mp z,hd0] at q;cases q⟩)
  refine ⟨x,dx,od,_,rfl,X2.sub k3.all,hx3,hd3,hO,rfl,(X2.sub k3.all).K _ _ (Dj _),rfl,hd0,?_⟩
  refine (E3 hA ⟨X.sub V3,cH hx3 (qZ hxd) rfl,hf.sub V3,hs.sub V3,hB,hsys,hJ,by exact oK (.le aq (.k 3000) (.le aq (.k 900) .o)) τ hx,hy⟩ hd3 hO).mono fun v h4 O q=>?_
  obtain ⟨R,its',n',rfl,_,hR,ho⟩:=q
  exact ⟨R,its',n',rfl,hR,ho.mono fun O O z=>z.sub (cD _ _)⟩
 ·have S3:=S2.grow k3
  have X3:=X2.sub k3.all
  have V3:Sub g₀ (bC h3 []):=V2.trans (cM fun b o q O O=>⟨k3.get q,by simp⟩)
  have W3:Sub (bC h2 (FA (dK L))) (bC h3 []):=W2.trans (cM fun b o q O O=>⟨k3.get q,by simp⟩)
  refine (Eg.callF (P:=fun vs h'=>h'=h3∧g8 fun t t'=>vs=[.ref K,.int xs.length t,.int ys.length t']) (R:=fun v h'=>DQ (C.ty 0 0 (r7 xs ys S)) v h') (Ev.glob X3 Aw) (X3.K _ _ (Dm _)) rfl ((Es.more (Ev.nm S3) (Es.more (Ev.lenL X3 (Ev.nm S3) (hf.sub (V3.trans (cD _ _))) (by lia)) (Es.more (Ev.lenL X3 (Ev.nm S3) (hs.sub (V3.trans (cD _ _))) (by exact ck (m:=3000) (by assumption) (by with_unfolding_all rfl))) Es.nil))).mono fun vs h' O q=>?_) fun vs h4 k4 hv=>?_).mono fun v h' k' q=>⟨hx.keep k',q⟩
  ·obtain ⟨rfl,_,_,rfl,rfl,_,_,rfl,⟨t,rfl⟩,_,_,rfl,⟨t',rfl⟩,rfl⟩:=q
   exact ⟨rfl,t,t',rfl⟩
  ·obtain ⟨rfl,t,t',rfl⟩:=hv
   refine Cd.mono (zF (hA.less (by exact ci _ _)) (X.sub V3) (W3 _ _ hK2) (hb2.mono fun v x z=>VT.sub z W3) hll) fun v h' O q=>?_
   obtain ⟨R,its',n',rfl,hR,_,ho⟩:=q
   rw [hmeet] at ho
   exact ⟨R,its',n',rfl,hR,ho.mono fun O O z=>z.sub (cD _ _)⟩
 ·obtain ⟨⟨R,i1,n1,rfl,hR,a1⟩,R2,i2,n2,rfl,hR2,a2⟩:=q
  subst hs'
  exact EW (by have:=hA.un;exact cW (.lt (.s 0 1) ar (.lt (.p (.p aq (.m 3 (.k 5))) (.k 20)) ar .o)) τ this) ⟨_,hR,rfl,_,rfl⟩ ⟨_,hR2,rfl,_,rfl⟩ a1 a2 (kq s'.toks)
 ·skip
  exact aw ⟨rfl,aw ⟨rfl,h4,tk4,dr,rfl,k1.mono (by simp) |>.trans (S2.kept.trans (k4.mono (by simp))),(L2.grow k4).forget il⟩⟩
end
theorem xi (ys:List Int) (k:Int):(C.qA ys ys.length k).length=ys.count k:=by
 have h:∀(n:Nat),n≤ys.length→(C.qA ys n k).length=(ys.take n).count k:=by
  intro n
  induction n with
  | zero=>intro _;simp [C.qA]
  | succ n ih=>
   intro hn
   have hlt:n<ys.length:=by exact hn
   rw [C.rY,bL,ih (by exact cW (.le aq ar (.le (.s 0 1) ar .o)) τ hn),gJ,aW hlt,List.count_append]
   congr 1
   rw [cC,aW hlt]
   simp only [Option.getD_some,Option.toList_some,List.count_singleton]
   split<;>rfl
 rw [h _ (bd _),dY]
theorem CI {xs ys:List Int} {S:Int→Bool} {c:Nat} (h:∀k,S k=true→ys.count k≤c) (i:Nat):((bO ys.length).filter (ie xs ys S i)).length≤c:=by
 cases hS:S (xs.getD i 0) with
 | false=>
  rw [fR.mpr (fun j O=>by unfold ie;rw [hS];simp)]
  exact aX _
 | true=>
  refine aj (aA ?_) (h _ hS)
  rw [←xi]
  unfold C.qA
  congr 1
  apply List.filter_congr
  intro j _
  unfold ie gL
  rw [hS,Bool.and_true,de]
  simp only [beq_iff_eq]
  exact eq_comm
theorem xC {xs ys:List Int} {S:Int→Bool} {a c:Nat} (hx:xs.length≤a) (h:∀k,S k=true→ys.count k≤c) (hn:a*(c*a)≤2^20-2):(C.runs (ie xs ys S) xs.length ys.length).length≤2^20-2:=
 aj (C.AL fun i O=>CI h i) (aj (Nat.mul_le_mul hx (gZ c hx)) hn)
theorem AH {zs:List Int} (h:200≤zs.length) (k:Int) (hk:k∈zs):(decide (k∈zs) && vw zs k)=!nj zs k:=by
 unfold vw nj
 rw [decide_eq_true hk,decide_eq_true h,xi,Bool.true_and,Bool.true_and]
 rw [de]
 simp only [decide_eq_true_eq,Bool.not_eq_true',decide_eq_false_iff_not]
 lia
theorem BU {us:List Int} (h:us.length≤199) (k:Int) (hk:k∈us):decide (k∈us)=!nj us k:=by
 unfold nj
 rw [decide_eq_true hk,decide_eq_false (by exact oK (.ne (.k 200) aq (.le aq (.k 199) .o)) τ h:¬200≤us.length)]
 rfl
noncomputable def C6 (s:am) (D:List aH) (h:ay) (dw:Nat→ay→Prop) (Q:dW→am→Prop) (i:Nat) (f:dW) (s₃:am):Prop:=match f with
 | .next|.cont=>lT fun h' tk dr=>jn (s₃=(oE s h' tk dr)) (ba D h h') (dw (i+1) h')
 | .brk=>Q .next s₃
 | .ret v=>Q (.ret v) s₃
section
variable {prog:aV} {w:aP} {A:aS} {s:am} {e:gy} {h:ay}
theorem wn {target:au} {body:List fC} {Q:dW→am→Prop} {items:Array ag} {a:aH} (hh:A.handled=none) (D:List aH) (dw:Nat→ay→Prop)
  (hl:s.heap.IsList a items) (haD:a∉D) (hD:∀b∈D,∃o,s.heap.get? b=some o) (h0:∀h',ba [] s.heap h'→dw 0 h')
  (stab:∀i h h',dw i h→(∀b o,h.get? b=some o→cz o=true∨b∈D∨(∃o,s.heap.get? b=some o)→h'.get? b=some o)→dw i h')
  (turn:∀i v h tk dr,i<items.size→items[i]? = some v→dw i h→aF (aB prog w) A (eT target e v) (fun O s₂=>aF (aB prog w) A (eK body e) (C6 s D h dw Q i) (fun O O=>False) s₂) (fun O O=>False) (oE s h tk dr))
  (done:∀h tk dr,dw items.size h→Q .next (oE s h tk dr)) :
  aF (aB prog w) A (pyIter (.ref a)) (fun it s₂=>hW (aB prog w) A (.forLoop target it body [] e) (fun r s'=>match r with|.ok f=>Q f s'|.error e'=>oZ (aB prog w) A e (fun O O=>False) e' s') s₂) (fun O O=>False) s:=by
 refine lw hl ?_
 have hI0:s.heap.get? s.heap.objs.size=none:=cP
 have hIi:(s.heap.push { cls:=.type "list_iterator",data:=.fields #[.ref a,.int 0 0]}).IsListIter s.heap.objs.size a 0:=⟨_,bG _ rfl,rfl,rfl⟩
 have k0:ba [] s.heap (s.heap.push { cls:=.type "list_iterator",data:=.fields #[.ref a,.int 0 0]}):=.push _ _ _
 generalize s.heap.push { cls:=.type "list_iterator",data:=.fields #[.ref a,.int 0 0]}=h1 at hIi k0 ⊢
 generalize s.heap.objs.size=I at hI0 hIi ⊢
 have hne:a≠I:=EV hl hI0
 have W:=ql.list (prog:=prog) (w:=w) hh I a hne items
 have hl1:h1.IsList a items:=hl.at fun o q=>k0.get q
 have hID:I∉D:=fun q=>by obtain ⟨o,ho⟩:=hD _ q;exact nn hI0 ho
 have st:∀i h h',(h.IsListIter I a i∧h.IsList a items)→dw i h→(∀b o,b∉[I]→h.get? b=some o→h'.get? b=some o)→dw i h':=fun i h h' hS hI hk=>stab i h h' hI fun b o q hb=>by
  refine hk b o (fun z=>?_) q
  obtain rfl:=aD.mp z
  rcases hb with hb|hb|⟨o',hb⟩
  ·obtain ⟨o',ho',hc,hd⟩:=hS.1
   rw [ho'] at q;cases q
   unfold cz at hb;rw [hd,hc] at hb;cases hb
  ·exact hID hb
  ·exact nn hI0 hb
 refine nT (fun k s'=>oN fun h tk dr i=>qp (s'=(oE s h tk dr)) ((h.IsListIter I a i∧h.IsList a items)) (dw i h) (i≤items.size) (k=items.size+1-i)) ?_ (items.size+1) ⟨h1,s.toks,s.drawn,0,rfl,⟨hIi,hl1⟩,h0 _ k0,aX _,rfl⟩
 rintro k s' ⟨h,tk,dr,i,rfl,hS,hI,hi,rfl⟩
 by_cases hlt:i<items.size
 ·refine W.item i _ _ _ hlt hS fun v h₁ tk₁ hP hS₁ hk₁=>?_
  have hI₁:=st i h h₁ hS hI hk₁
  refine pe (s:=oE s h₁ tk₁ dr) hS₁.1 ?_
  refine aL (turn i v h₁ tk₁ dr hlt hP hI₁) (fun O s₂ h₂=>aL h₂ (fun f s₃ h₃=>?_) fun O O x=>x.elim) fun O O x=>x.elim
  have go:(lT fun h' tk dr=>jn (s₃=(oE s h' tk dr)) (ba D h₁ h') (dw (i+1) h'))→∃m,m<items.size+1-i∧oN fun h tk dr i=>qp (s₃=(oE s h tk dr)) ((h.IsListIter I a i∧h.IsList a items)) (dw i h) (i≤items.size) (m=items.size+1-i):=by
   rintro ⟨h',tk',dr',rfl,hkp,hI'⟩
   exact ⟨items.size+1-(i+1),by exact cR (.lt aq ar (.le (.s 2 1) (.p ar aI) (.eq (.p aq (.s 3 1)) (.s 2 1) .o))) τ bZ (aa (cW (.le (.s 0 1) (.s 1 1) (.le aq ar .o)) τ hi)),h',tk',dr',i+1,rfl,⟨hS₁.1.at fun o q=>hkp _ _ q hID,hS₁.2.at fun o q=>hkp _ _ q haD⟩,hI',hlt,rfl⟩
  cases f with
  | next=>exact go h₃
  | cont=>exact go h₃
  | brk=>exact h₃
  | ret v=>exact h₃
 ·have hin:i=items.size:=by exact ak hi (aZ hlt)
  subst hin
  refine W.done _ _ _ hS fun h₁ tk₁ hk₁=>aw ?_
  exact done h₁ tk₁ dr (st _ h h₁ hS hI hk₁)
end
section
variable {w:aP} {A:aS} {e:gy} {h:ay}
theorem uh (ns:List Int) (k:Int):(firstMet (fun i=>ns.getD i 0) ns.length).any (· == k)=decide (k∈ns):=by
 rw [firstMet_any]
 have:(bO ns.length).map (fun i=>ns.getD i 0)=ns:=by
  apply List.ext_getElem?
  intro i
  by_cases hi:i<ns.length
  ·simp [hi]
  ·simp [hi]
 rw [this,de]
 simp
theorem Eg.setL {p pos:dJ} {ex:au} {a:aH} {ns:List Int} (hh:A.handled=none) (C:Cx w h) (H:Ev PQ w A e h ex (· = .ref a)) (hl:IL h a ns) (hn:ns.length≤3000) (hk:autoParam (e.scope.kind=.function) rfA) (hx:autoParam (e.kindOf Aq=some .globalImplicit) rfA)
  (hg:autoParam (e.globals=cu) rfA) (hbi:autoParam (e.builtins=ej) rfA) (he:autoParam (aE [ex] e=(false,cO ex e)::aE [] e) rfA) :
  Eg PQ w A e h (.Call (.Name Aq p) [ex] [] pos) (fun v h'=>∃r,jn (v=.ref r) (h.get? r=none) (IS w h' r (fun k=>decide (k∈ns)))):=
 Eg.callT (Ev.bltn C (fun O=>by kernel_rfl!) s5 (by decide +kernel) hk hx hg hbi) (Es.one (Ev.gg H) he) (fun vs h1 O hv=>by
  obtain ⟨v,rfl,rfl,rfl⟩:=hv
  intro s Q E hs k
  subst hs
  obtain ⟨us,hl,hi⟩:=hl
  have hul:=hi.length
  have hsz:us.toArray.size=ns.length:=by simp [hul]
  refine call_set_list hh hl (by simpa using hi) (by rw [hsz];unfold scanBound;exact oK (.lt (.s 0 1) (.k 4096) (.le aq (.k 3000) .o)) τ hn) fun h' tk hS hk'=>?_
  rw [hsz,show (fun k'=>(firstMet (fun i=>ns.getD i 0) ns.length).any (· == k'))=fun k'=>decide (k'∈ns) from funext (uh ns)] at hS
  exact k _ h' tk (fun b o q O=>hk' b o (cK q) q) ⟨_,rfl,cP,_,hS⟩) he rfl
end
noncomputable abbrev l3 (one other plain:aH):List (bU×ag):=[(ET,.ref one),(nc,.ref other),(wD,.ref plain)]
noncomputable def Fu (w:aP) (h:ay) (F G2 R W:aH) (us:List Int) (v:ag) (h':ay):Prop:=DM fun l t1 t2 F4 R2 fs k=>DK (v=.ref l) (h'.get? l=some (ch #[.ref t1,.ref t2] k)) (h'.get? t1=some (jX [.ref F,.ref G2,.ref R])) (h'.get? t2=some (jX [.ref F4,.ref W,.ref R2])) (IL h' F4 fs) (fs.length≤40) (IS w h' R2 (fun k=>decide (k∈us))) (∀b∈[l,t1,t2,F4,R2],h.get? b=none)
section
variable {w:aP} {A:aS} {e:gy} {h g gv:ay} {L F G2 W R:aH} {xs zs us:List Int} {s:am}
theorem two {α:Type} {x y v:α} {i:Nat} (h:#[x,y][i]? = some v):x=v∨y=v:=fv (P:=fun v=>x=v∨y=v) (.inl rfl) (.inr rfl) v (Array.mem_of_getElem? h).val
theorem wt (hA:eV A 5) (X:Cx w gv) (hg:∀b o,gv.get? b=some o→g.get? b=some o∧cz o=true) (M:LM w g s.heap L F G2 W R xs zs us) {Q:dW→am→Prop}
  (K:∀h' tk dr,Sub g h'→Q (.ret (.bool true)) (oE s h' tk dr)):aF (aB PQ w) A (eK (Cb.drop 9) (dK L)) Q (fun O O=>False) s:=by
 have S0:=M.st
 have hgF:∀b o,g.get? b=some o→b∉FA (dK L):=fun b o q z=>by exact nn (S0.off b z) q
 have hv:∀{a:aH} {ns:List Int},IL (bC s.heap (FA (dK L))) a ns→IL s.heap a ns:=fun x=>x.sub (cD _ _)
 have hX0:Cx w s.heap:=X.sub fun b o q=>S0.keep _ _ (hg b o q).1
 have hM2:=M.sl
 have hM3:=M.wl
 have hM4:=M.fl
 refine aT (xD (s:=s) (D:=[]) (P:=Fu w s.heap F G2 R W us) ?_ fun v h1 tk1 k1 hp=>?_)
 ·skip
  refine (Eg.lst (Es.two (P1:=fun v h'=>∃t,v=.ref t∧iK s.heap h' t (jX [.ref F,.ref G2,.ref R])) (P2:=fun u h1 v h'=>oN fun t F4 R2 fs=>uB (v=.ref t) (h'.get? t=some (jX [.ref F4,.ref W,.ref R2])) (IL h' F4 fs) (fs.length≤40) (IS w h' R2 (fun k=>decide (k∈us))) (∀b∈[t,F4,R2],h1.get? b=none))
   ((Eg.tup (Es.more (Ev.nm S0) (Es.more (Ev.nm S0) (Es.more (Ev.nm S0) Es.nil))) ?_).mono fun v h' O q=>?_) fun u h1 k1 hu=>?_) ?_).mono fun v h' O q=>?_
  ·rintro vs h' ⟨_,v1,vs1,rfl,_,v2,vs2,rfl,_,v3,vs3,rfl,_,rfl⟩;show 3≤2^24;decide
  ·obtain ⟨vs,h1,t,k1,⟨rfl,_,_,rfl,rfl,_,_,rfl,rfl,_,_,rfl,rfl,rfl⟩,e1,hn⟩:=q
   exact ⟨t,e1,hn⟩
  ·have S1:=S0.grow k1
   refine (Eg.tup (P:=fun vs h'=>lT fun F4 R2 fs=>qp (vs=[.ref F4,.ref W,.ref R2]) (IL h' F4 fs) (fs.length≤40) (IS w h' R2 (fun k=>decide (k∈us))) (∀b∈[F4,R2],h1.get? b=none)) (Es.cons (Eg.sliceA (n:=40) (lo:=none) (hi:=some 40) (Ev.nm S1) ((hv M.f).sub k1.all) (by lia) j5 (gh Ev.int) ?_) fun v h2 k2 hv2=>?_) ?_).mono fun v h' O q=>?_
   ·exact aj (aA (w7 40 xs.length)) (aN _ _)
   ·obtain ⟨F4,fa,fs,rfl,hN,hi,hl⟩:=hv2
    have S2:=S1.grow k2
    refine Es.cons (Ev.gg (Ev.nm S2)) fun v h3 k3 hv3=>?_
    obtain ⟨rfl,rfl⟩:=hv3
    refine (Es.one (Eg.setL hA.hd ((hX0.sub k1.all).sub k2.all) (Ev.nm S2) (((hv M.u).sub k1.all).sub k2.all) (by exact oK (.le aq (.k 3000) (.le aq (.k 199) .o)) τ hM3))).mono fun vs h4 k4 q=>?_
    obtain ⟨v,rfl,R2,rfl,hR0,hR⟩:=q
    exact ⟨F4,R2,fs,rfl,⟨fa,⟨_,k4.get hN.yes,rfl,_,rfl⟩,hi⟩,hl,hR,fv hN.no (dh k2 hR0)⟩
   ·rintro vs h' ⟨F4,R2,fs,rfl,_⟩;show 3≤2^24;decide
   ·obtain ⟨vs,h2,t,k2,⟨F4,R2,fs,rfl,hF,hl,hR,hno⟩,rfl,hN⟩:=q
    exact ⟨t,F4,R2,fs,rfl,hN.yes,hF.sub hN.kept.all,hl,hR.sub hN.kept.all,fun b hb=>by
     rcases aC.mp hb with rfl|hb
     ·exact dh k2 hN.no
     ·exact hno b hb⟩
  ·rintro vs h' ⟨u,v,h1,rfl,_⟩;show 2≤2^24;decide
  ·obtain ⟨vs,h3,l,k3,⟨u,v',h1,rfl,k1,⟨t1,rfl,hN1⟩,k2,t2,F4,R2,fs,rfl,ht2,hF,hl,hR,hno⟩,rfl,hN⟩:=q
   exact ⟨l,t1,t2,F4,R2,fs,_,rfl,hN.yes,hN.kept.get (k2.get hN1.yes),hN.kept.get ht2,hF.sub hN.kept.all,hl,hR.sub hN.kept.all,fun b hb=>by
    rcases aC.mp hb with rfl|hb
    ·exact dh k3 hN.no
    rcases aC.mp hb with rfl|hb
    ·exact hN1.no
    ·exact dh k1 (hno b hb)⟩
 obtain ⟨l,t1,t2,F4,R2,fs,n,rfl,hl,h1',h2',hF4,hfl,hR2,hno⟩:=hp
 have hnF:∀b∈[l,t1,t2,F4,R2],b∉FA (dK L):=fun b hb=>(S0.newOf (hno b hb)).2
 have S1:=S0.grow k1
 have V1:Sub (bC s.heap (FA (dK L))) (bC h1 (FA (dK L))):=cM fun b o q n O=>⟨k1.get q,n⟩
 have L1:Lp (bC h1 (FA (dK L))) (FA (dK L)) (dK L) h1 [] []:=Lp.forget ⟨fun O O q=>q,S1.rebase (FA (dK L)) (fun O q=>q) il⟩ il
 have hXv:Cx w (bC h1 (FA (dK L))):=X.sub fun b o q=>cH (k1.get (S0.keep _ _ (hg b o q).1)) (hgF b o (hg b o q).1) (hg b o q).2
 refine wn (s:=sh s h1 tk1) (items:=#[.ref t1,.ref t2]) hA.hd (FA (dK L)) (fun i h=>ba (FA (dK L)) h1 h∧Lp (bC h1 (FA (dK L))) (FA (dK L)) (dK L) h [] []) ⟨_,hl,rfl,n,rfl⟩ (hnF l (.head _)) (fun b hb=>S1.lie b hb) (fun h' k'=>⟨k'.mono il,L1.grow k'⟩) ?_ ?_ ?_
 ·rintro i h h' ⟨a,b⟩ hk
  exact ⟨a.stab hk (fun b o q O=>⟨o,q⟩),b.stab hk⟩
 ·rintro i v h tk dr hi hv' ⟨a,b⟩
  have step:∀{t f sd rr:aH} {xs ys:List Int} {S:Int→Bool},h1.get? t=some (jX [.ref f,.ref sd,.ref rr])→t∉FA (dK L)→IL (bC h1 (FA (dK L))) f xs→IL (bC h1 (FA (dK L))) sd ys→IS w (bC h1 (FA (dK L))) rr S→(∀k∈ys,S k=!nj ys k)→xs.length≤900→ys.length≤3000→
    (C.runs (ie xs ys S) xs.length ys.length).length≤2^20-2→
    aF (aB PQ w) A (eT (.Tuple [.Name ET ⟨522,8,522,11⟩,.Name nc ⟨522,13,522,18⟩,.Name wD ⟨522,20,522,25⟩] 0 ⟨522,8,522,25⟩) (dK L) (.ref t)) (fun O s₂=>aF (aB PQ w) A (eK Ix (dK L)) (C6 (sh s h1 tk1) (FA (dK L)) h (fun i h=>ba (FA (dK L)) h1 h∧Lp (bC h1 (FA (dK L))) (FA (dK L)) (dK L) h [] []) (fun f s'=>f=.next∧aF (aB PQ w) A (eK (Cb.drop 10) (dK L)) Q (fun O O=>False) s') i) (fun O O=>False) s₂) (fun O O=>False) (oE s h tk dr):=by
   intro t f sd rr xs ys S ht htF hf hs hr hS hx hy hn
   refine mf (s:=oE s h tk dr) (u:=.ref f) (v:=.ref sd) (r:=.ref rr) hA.hd b.st ⟨_,a _ _ ht htF,rfl,_,rfl⟩ fun h3 tk3 S3=>?_
   refine aL (Aa (s:=oE s h3 tk3 dr) hA hXv (b.next S3 il) hf hs hr hS hx hy hn) (fun fl s' q=>?_) fun O O z=>z
   obtain ⟨rfl,h4,tk4,dr4,rfl,k4,L4⟩:=q
   exact ⟨h4,tk4,dr4,rfl,S3.kept.trans k4,a.trans (S3.kept.trans k4),L4⟩
  rcases two (i:=i) hv' with rfl|rfl
  ·exact step h1' (hnF _ (.tail _ (.head _))) (M.f.sub V1) (M.s.sub V1) (M.r.sub V1) (fun k hk=>AH hM2.1 k hk) (by exact oK (.le aq (.k 900) (.le aq (.k 372) .o)) τ hM4) (by exact oK (.le aq (.k 3000) (.le aq (.k 400) .o)) τ hM2.2) (xC (a:=372) (c:=5) hM4 (fun k hk=>by
    have h2:=(cF.mp hk).2
    unfold vw at h2
    have h3:=of_decide_eq_true h2
    exact A5 99 (.le aq (.k 5) (.le ar (.k 400) (.w 100 (.le aq (.s 2 1) (.le (.m 100 az) ar .o))))) τ hM2.2 h3 (cr _ _)) (by decide))
  ·exact step h2' (hnF _ (.tail _ (.tail _ (.head _)))) (hF4.still (hnF _ (.tail _ (.tail _ (.tail _ (.head _)))))) (M.u.sub V1) (IS.still hR2 (hnF _ (.tail _ (.tail _ (.tail _ (.tail _ (.head _))))))) (fun k hk=>BU hM3 k hk) (by exact oK (.le aq (.k 900) (.le aq (.k 40) .o)) τ hfl) (by exact oK (.le aq (.k 3000) (.le aq (.k 199) .o)) τ hM3) (xC (a:=40) (c:=199) hfl (fun k hk=>aj List.count_le_length hM3) (by decide))
 ·rintro h tk dr ⟨a,b⟩
  refine ⟨rfl,gO (wpAny_Return_some (wpAny_Constant_bool (K h tk dr fun b o q=>a _ _ (k1.get (S0.keep _ _ q)) (hgF b o q))))⟩
end
section
variable {w:aP} {A:aS} {sc:aH} {script:List Int} {s:am} {E:ag→am→Prop}
theorem yw (hA:eV A 6) (X:Cx w s.heap) {Q:ag→am→Prop}
  (H:∀L h₁ tk,ba [] s.heap h₁→St s.heap (dK L) h₁ [(kP,.ref sc)] []→aF (aB PQ w) (A.deeper (dK L)) (eK Cb (dK L)) (fun fl s'=>Q (q6 fl) s') (fun O O=>False) (sh s h₁ tk)) :
  aF (aB PQ w) A (f6 (.ref 270) [.ref sc]) Q E s:=by
 obtain ⟨mg,mb,T⟩:=X.T
 refine f0 (codeAny_call_cells (binds:=[(kP,.ref sc)]) (by have:=hA.dp;exact cW (.lt aq ar (.lt (.s 0 6) ar .o)) τ this) (X.K _ _ (Fx _)) rfl T.nolimit (f7 X.K (BK _)) rfl (Bq _) rfl (da (.inl rfl)) (fun s₁ Y=>?_) rfl rfl rfl)
 obtain ⟨h₁,tk,rfl,_⟩:=Y.done
 have hnew:∀a,(a∈FA (dK s.heap.objs.size))→s.heap.get? a=none:=fun a ha=>by
  cases q:s.heap.get? a with
  | none=>rfl
  | some o=>
   have h1:=cK q
   cases ha with
   | head=>exact absurd h1 (dT _)
   | tail _ ha=>
    obtain ⟨p,hp,rfl⟩:=b9.mp ha
    exact absurd h1 (i7.mpr (aR (Y.above p.1 p.2 hp)))
 have S:St s.heap (dK s.heap.objs.size) h₁ [(kP,.ref sc)] []:=by
  refine ⟨⟨_,Y.toInCall.ns,pN (P:=fun x v=>(dK s.heap.objs.size).kindOf x=some .local→bindL (jT qU s.heap.objs.size 270).kindOf [(kP,.ref sc)] (fun O=>none) x=some v) (da fun O=>rfl)⟩,fun x a ha=>⟨_,Y.cell x a ha,fun v hv=>?_⟩,Y.apart,fun p hp q=>?_,fun b o q=>Y.toInCall.keep b o q,fun a ha=>hnew a ha,fun a ha=>?_,fun p hp=>by cases hp⟩
  ·have hx:x=kP:=by
    unfold iF at hv
    rw [fY] at hv
    cases q:x==kP with
    | true=>exact beq_iff_eq.mp q
    | false=>rw [q] at hv;cases hv
   subst hx
   exact absurd ha (by intro q;cases q)
  ·exact absurd q (pJ (Y.above p.1 p.2 hp))
  ·cases ha with
   | head=>obtain ⟨o,_,_,ho,_⟩:=Y.toInCall.ns;exact ⟨o,ho⟩
   | tail _ ha=>
    obtain ⟨p,hp,rfl⟩:=b9.mp ha
    obtain ⟨o,ho,_⟩:=Y.cell p.1 p.2 (l7 (jC _ _ [] (by simpa using (by decide +kernel:(qU.scope.names.map (·.1)).Nodup))) hp)
    exact ⟨o,ho⟩
 refine aL (H s.heap.objs.size h₁ tk (fun b o e O=>Y.toInCall.keep b o e) S) (fun fl s' hb=>?_) fun O O x=>x.elim
 cases fl<;>exact hb
theorem Ey (hA:eV A 6) (X:Cx w s.heap) (hsc:IL s.heap sc script) (hlen:script.length≤63) {Q:ag→am→Prop}
  (K:∀h' tk dr,ba [] s.heap h'→Q (.bool true) (oE s h' tk dr)):aF (aB PQ w) A (f6 (.ref 270) [.ref sc]) Q E s:=by
 refine yw hA X fun L h1 tk k1 S1=>?_
 have hA1:=hA.deeper (dK L)
 obtain ⟨vs,hl,hi⟩:=hsc
 have hvl:=hi.length
 have hl1:h1.IsList sc vs.toArray:=hl.at fun o q=>k1.get q
 refine aT (fz (s:=sh s h1 tk) (P:=oL) S1 (Ev.ifexp (c:=!vs.toArray.isEmpty) (Et.list (Ev.nm S1) hl1 (by simp;exact cW (.le aq (.k 1073741824) (.le ar (.k 63) (.eq aq ar .o))) τ hlen hvl)) ?_) fun v h2 tk2 hv S2=>⟨rfl,?_⟩)
 ·cases he:vs.toArray.isEmpty with
  | true=>exact Ev.int.mono fun v hv=>⟨_,hv⟩
  | false=>
   have:0<script.length:=by
    rw [←hvl]
    cases vs with
    | nil=>cases he
    | cons _ _=>simp
   exact (Ev.itemL (xs:=script) (k:=0) (Ev.nm S1) Ev.int ⟨vs,hl1,hi⟩ (by decide) (by lia) (by lia)).mono fun v hv=>⟨_,hv⟩
 obtain ⟨way,tw,rfl⟩:=hv
 refine aT (gN (s:=sh s h2 tk2) (P:=fun v h'=>lT fun F G t=>xM (v=.ref t) (h'.get? t=some (jX [.ref F,.ref G])) (h'.get? F=some (ch #[] 0)) (h'.get? G=some (ch #[] 0)) (h2.get? F=none) (h2.get? G=none) (F≠G))
  ((Eg.tup (Es.two (P1:=fun v h'=>∃F,v=.ref F∧iK h2 h' F (ch #[] 0)) (P2:=fun u h1 v h'=>∃G,v=.ref G∧iK h1 h' G (ch #[] 0)) ((Eg.lst Es.nil (by rintro vs h' ⟨_,rfl⟩;exact aX _)).mono fun v h' O q=>?_) fun u h3 k3 hu=>(Eg.lst Es.nil (by rintro vs h' ⟨_,rfl⟩;exact aX _)).mono fun v h' O q=>?_) ?_).mono fun v h' O q=>?_) fun v h3 tk3 k3 hv=>?_)
 ·obtain ⟨vs,h1',a,k1',⟨rfl,rfl⟩,rfl,hN⟩:=q
  exact ⟨a,rfl,hN⟩
 ·obtain ⟨vs,h1',a,k1',⟨rfl,rfl⟩,rfl,hN⟩:=q
  exact ⟨a,rfl,hN⟩
 ·rintro vs h' ⟨u,v,h1,rfl,_⟩;show 2≤2^24;decide
 ·obtain ⟨vs,h4,t,k4,⟨u,v',h5,rfl,k5,⟨F,rfl,hF⟩,k6,G,rfl,hG⟩,rfl,hN⟩:=q
  exact ⟨F,G,t,rfl,hN.yes,hN.kept.get (k6.get hF.yes),hN.kept.get hG.yes,hF.no,dh k5 hG.no,qn hF.yes hG.no⟩
 obtain ⟨F,G,t,rfl,ht,hF,hG,hF0,hG0,hFG⟩:=hv
 have S3:=((S2.grow k3).follow hG (S2.newOf hG0).2 (S2.newOf hG0).1).follow hF (S2.newOf hF0).2 (S2.newOf hF0).1
 refine gP (s:=sh s h3 tk3) hA1.hd S3 ⟨_,ht,rfl,_,rfl⟩ fun h4 tk4 S4=>⟨rfl,?_⟩
 have hgn:∀b o,s.heap.get? b=some o→b∉lD L F G:=fun b o q z=>by
  rcases aC.mp z with rfl|z
  ·exact nn ((S4.own _ (.head _)).2.2) q
  rcases aC.mp z with rfl|z
  ·exact nn ((S4.own _ (.tail _ (.head _))).2.2) q
  ·exact nn (S4.off b z) q
 have hV:Sub (bC s.heap []) (bC h4 (lD L F G)):=cM fun b o q O O=>⟨S4.keep _ _ q,hgn b o q⟩
 have hXv:Cx w (bC s.heap []):=Cx.still (D:=[]) (by exact X)
 have L4:Lp (bC s.heap []) (lD L F G) (dK L) h4 (lm sc F G way tw []) [(F,ch #[] 0),(G,ch #[] 0)]:=
  Lp.forget ⟨hV,S4.rebase (lD L F G) (fun O q=>.tail _ (.tail _ q)) (fv (.head _) (.tail _ (.head _)))⟩ (iY.mem ⟨rfl,rfl,rfl,rfl,trivial⟩)
 have hscv:IL (bC s.heap []) sc script:=IL.still ⟨vs,hl,hi⟩ (by simp)
 refine aT (show aF _ _ (fA (Cb.getD 2 (.Pass p0)) (dK L)) _ _ _ from aL (B8 (s:=sh s h4 tk4) (hA1.less (by exact ci _ _)) hXv hFG L4 hscv hlen) (fun fl s' q=>?_) fun O O z=>z)
 obtain ⟨rfl,h5,tk5,fi,gi,nf,ng,xs,ys,rfl,I⟩:=q
 refine ⟨rfl,?_⟩
 have hX5:Cx w (bC h5 (lD L F G)):=hXv.sub I.lp.sub
 have hk5:Sub s.heap h5:=fun b o q=>I.k _ _ (S4.keep _ _ q) (hgn b o q)
 skip
 refine B9 (s:=sh s h5 tk5) (g₀:=bC s.heap []) (hA1.less (by exact ci _ _)) hXv I.lp I.f I.g I.fl I.gl fun h6 tk6 G2 W R zs us M=>?_
 refine wt (s:=sh s h6 tk6) (gv:=bC h5 (lD L F G)) hA1 hX5 (fun b o q=>⟨bq _ (cZ q).1 (cZ q).2.1,(cZ q).2.2⟩) M fun h' tk dr hs=>?_
 exact K h' tk dr fun b o q O=>hs _ _ (bq _ (hk5 b o q) (hgn b o q))
end
noncomputable def H0 (w:aP):ay:=pB w.params
noncomputable def Sf (w:aP) (os:d6):am:=(s4 w os).abs
theorem AA (w:aP):Option.map (fun s=>(s.heap,s.gens,s.drawn,s.toks)) (fencedOpening oG PQ w 4588)=some (pB w.params,⟨[]⟩,boot_drawn,boot_toks):=
 boot_open (by kernel_rfl!) (by decide) (fun s=>by kernel_rfl!) w
theorem GF (w:aP):((pB w.params).isNs cu && (⟨[]⟩:Array GenState).size==0,(pB w.params).objs.size,(pB w.params).nsMap cu "__annotations__")=(true,11,Fh):=by kernel_rfl!
theorem Gg (w:aP) (os:d6):(staticsOk (j1 PQ.main.body) (pB w.params) (Sf w os).heap && namesBound PQ (Sf w os).heap && gensDone (Sf w os) && laidKept (pB w.params) (Sf w os).heap)=true:=by kernel_rfl!
theorem Gh (w:aP) (os:d6):HK.obs (Sf w os)=HK.val w:=by kernel_rfl!
theorem Gi (w:aP) (os:d6):PySem.W.Fast.tw4187177175401517315 qv l8 (j1 PQ.main.body) GP true (Sf w os)=openGood qv l8:=by kernel_rfl!
theorem Ce {p q:aV} {loose:List bU} {Xt:am→Bool} {α:Type} {Yf:am→α} {Ya:aP→α} {N M:Nat} {H₀:bF→ay} {gs₀:Array GenState} {d₀:Drawn} {k₀ m₀:Nat} {ann:Option ag} {Sf:aP→d6→am}
  (open_:∀w:aP,(fencedOpening oG p w N).map (fun s=>(s.heap,s.gens,s.drawn,s.toks))=some (H₀ w.params,gs₀,d₀,k₀))
  (size:∀w:aP,((H₀ w.params).isNs cu && gs₀.size==0,(H₀ w.params).objs.size,(H₀ w.params).nsMap cu "__annotations__")=(true,m₀,ann))
  (run:∀(w:aP) (os:d6),topRun oG p w m₀ ann M ⟨H₀ w.params,gs₀,d₀,k₀,os⟩ (topStub p)=some (Sf w os)) (le:nL M N=true)
  (l1:∀(w:aP) (os:d6),(staticsOk (j1 p.main.body) (H₀ w.params) (Sf w os).heap && namesBound p (Sf w os).heap && gensDone (Sf w os) && laidKept (H₀ w.params) (Sf w os).heap)=true)
  (l2:∀(w:aP) (os:d6),Yf (Sf w os)=Ya w)
  (l3:∀(w:aP) (os:d6),openSeen q loose (j1 p.main.body) Xt true (Sf w os)=openGood q loose):LeftO p q loose Xt Yf Ya N:=fun w=>by
 obtain ⟨⟨h,gs,d,k,os⟩,e,e'⟩:=Option.map_eq_some_iff.mp (open_ w)
 obtain ⟨rfl,rfl,rfl,rfl⟩:h=H₀ w.params∧gs=gs₀∧d=d₀∧k=k₀:=by simpa using e'
 obtain ⟨z1,z2,z3⟩:_∧_∧_:=by simpa only [dU] using size w
 have l1:=l1 w os
 have l2:=l2 w os
 have l3:=l3 w os
 have r:=topRun_mono (N-M) _ _ _ _ (run w os)
 rw [show M+(N-M)=N by have:=bI le;omega] at r
 have t:topFrom oG p w N ⟨H₀ w.params,gs,d,k,os⟩=some (Sf w os):=by
  unfold topFrom
  skip
  rw [z1,z2,z3,r]
  show (match staticsOk (j1 p.main.body) (H₀ w.params) (Sf w os).heap && namesBound p (Sf w os).heap && gensDone (Sf w os) && laidKept (H₀ w.params) (Sf w os).heap with|true=>_|false=>_)=_
  rw [l1]
 unfold openEnds
 rw [e]
 show (topFrom oG p w N _).map _=_
 rw [t]
 exact congrArg some (Prod.ext l3 l2)
theorem EA (w:aP) (os:d6):openSeen qv l8 (j1 PQ.main.body) GP true (Sf w os)=openGood qv l8:=by
 rw [PySem.W.Fast.te4187177175401517315];exact Gi w os
theorem Ge:LeftO PQ qv l8 GP HK.obs HK.val 4588:=Ce (Sf:=Sf) AA GF CL rfl Gg Gh EA
noncomputable def zh:OpenLaw:={ prog:=PQ,name:=(aM.ofString "law"),about:=[(aM.ofString "SequenceMatcher"),(aM.ofString "get_opcodes")],foot:=4,most:=some 63,bound:=none,writes:=false}
theorem E8:lC=zh:=by
 unfold lC zh
 rw [Ft]
noncomputable def sS:DefRec:=match g6 10 with
 | .FunctionDef name args body _ _ _ scope _ _ pos=>⟨name,args,body,scope,pos⟩
 | _=>⟨⟨#[]⟩,⟨[],[],none,[],[],none,[]⟩,[],⟨.function,[],false,false,[]⟩,⟨0,0,0,0⟩⟩
theorem FF:defOf qv zh.row.name=some (sS,[]):=by kernel_rfl!
theorem IZ:zh.row.prog.theDef zh.row.name=some (sS.params,sS.body,sS.scope):=by kernel_rfl!
theorem xh:kwWritten? sS.params.kwonlyargs sS.params.kw_defaults=some []:=by kernel_rfl!
theorem Je:(chainsOk qv && opensWell zh.row.prog && (frees zh.row.toRowW && zh.row.within.isEmpty))=true:=by kernel_rfl!
theorem Fy:zh.row.prog.bare:=⟨by kernel_rfl!,by kernel_rfl!,by kernel_rfl!,by kernel_rfl!,by kernel_rfl!,by decide +kernel⟩
theorem H7:Mine.zh.row.toRowW.promised:=⟨[.list []],by decide +kernel,by decide +kernel⟩
theorem Iv (hc:WalkO Mine.qv Mine.l8 (XL Mine.qv []) Mine.HK.says Mine.zh.row.toRowW Mine.sS [] fun f vs=>f6 f vs):lC.Holds:=by
 w_on
 rw [Mine.E8]
 o_law
 exact holds_open (q:=Mine.qv) (loose:=Mine.l8) (Xt:=Mine.GP) (XP:=XL Mine.qv []) (Yf:=Mine.HK.obs) (Ya:=Mine.HK.val) (YP:=Mine.HK.says) (N:=4588) (d:=Mine.sS) (kwd:=[]) Mine.Ge Mine.HK.of Mine.HK.keeps (fun s e=>xl_of s (cF.mp e).1) XL.keeps Mine.FF Mine.IZ Mine.xh (fun s e=>recFacts_of (cF.mp e).2) rfl (by assumption) Mine.Je Mine.Fy Mine.H7 hc
theorem EZ (P:bF):nsIn (KF P) cu Gq=some (some (.ref 270)):=by kernel_rfl!
theorem yf:sS.name=Gq:=by kernel_rfl!
theorem IJ:WalkO qv l8 (XL qv []) HK.says zh.row.toRowW sS [] fun f vs=>f6 f vs:=by
 intro w s₀ s₁ mg mb G Y fa o pm cd doc dV kV ho hd hcd hD hmg hg args vals as hpre hlay hrd hwl hlo
 have KX:=kIn_of Y
 have GT:=G.T
 have hfa:fa=270:=by
  have h1:=mg_of KX GT.g (EZ _)
  rw [yf,h1] at hmg
  cases hmg;rfl
 set_option tactic.hygienic true in wrow_args hpre hlay hrd hwl hlo
 rename_i script a1 a2 a3 a4 a5 a6 a7 sc vs a8 hL a9 a10 a11 hI a12 hc a13
 subst hfa
 refine Ey (A:=callerA) (s:=s₁) ⟨rfl,by decide,by decide⟩ ⟨KX,mg,mb,topRead_of GT⟩ ⟨vs,hL,hI⟩ (by omega) fun h' tk dr k=>?_
 exact ⟨.inl ⟨_,.bool true,[],rfl,fun O=>rfl,.bool true,by kernel_rfl!,fun O=>⟨i5,by simp⟩⟩,.of_keep k.all,rfl,.of_eq hg⟩
end Mine
theorem PySem.Challenge.cw_mt0009_01_holds : PySem.Challenge.rw_mt0009_01.Holds :=
 Mine.Iv Mine.IJ
