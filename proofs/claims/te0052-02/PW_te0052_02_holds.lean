import PyProof.Rows.All
import Wide.All
import OpenK.AllK
import Wide.FinOn
import Lean
import PySem.Challenge.RW_te0052_02
set_option genInjectivity false
set_option genSizeOf false
set_option bootstrap.genMatcherCode false
set_option compiler.extract_closed false
set_option Elab.async false
set_option autoImplicit false
set_option tactic.hygienic false
set_option backward.match.sparseCases false
set_option maxRecDepth 100000
set_option linter.all false
open Array renaming mk->yZ
open Bool renaming and_eq_true_iff->wD,false_eq_true->wz,false_ne_true->xm,or_eq_true_iff->yL,and_eq_true->yM,and_false->yP,false_or->yR,eq_iff_iff->zL,or_eq_false_iff->zp,not_true->zT
open Int renaming natCast_nonneg->xc,le_trans->xA,le_refl->xP,toNat_natCast->yi,ofNat_le->x9,add_le_add->yQ,lt_irrefl->yS,toNat_of_nonneg->y9,not_lt->yW,max_eq_right->z0,le_of_lt->zX
open List renaming length_append->v9,replicate->wB,mem_append_right->wH,append_assoc->wF,mem_append_left->wO,mem_cons->wM,length_replicate->wc,mem_append->wV,append_nil->wY,all_eq_true->wi,getElem?_eq_some_iff->w6,drop_eq_getElem_cons->w9,lookup_cons->wm,map_cons->wj,length_map->wo,getElem?_eq_getElem->xG,size_toArray->w3,map_append->w4,contains_cons->xD,mem_map->wu,mem_singleton->xH,drop_eq_nil_of_le->xa,length_eq_zero_iff->xy,isEmpty_iff->xR,length->w7,mem_map_of_mem->xl,nodup_cons->xU,length_cons->xd,all_append->xf,take_of_length_le->yH,all_cons->xW,length_drop->xn,getElem?_eq_none->yI,getElem?_eq_none_iff->yb,mem_of_getElem?->yJ,drop_append_of_le_length->yq,map_congr_left->yK,cons_append->x7,getD_eq_getElem?_getD->yr,getElem?_append_right->yt,getElem?_append_left->yu,forIn_cons->yO,take_append_of_le_length->zc,contains_iff_mem->yy,mem_filter->yl,zip_cons_cons->zD,mem_filterMap->zE,getLast?_cons_cons->zg,reverse_cons->zG,dropLast_eq_take->zm,eraseIdxIfInBounds_toArray->AAC,replicate_append_replicate->AAD,map_map->yp,find?_cons->zM,append_toArray->zq,filterMap_cons->zr,length_pos_iff->zv,drop_zero->zQ,any_cons->zS,exists_cons_of_ne_nil->AAO,getElem?_map->zx,map_id'->zU,pairwise_singleton->AAW,cons->za
open List.cons renaming injEq->zO
open Nat renaming le_of_ble_eq_true->wA,le_trans->wC,add_le_add->wG,zero_le->wN,le_refl->wW,eq_of_beq_eq_true->wy,ble->wX,ne_of_lt->wt,lt_succ_of_lt->xI,le_of_eq->w5,succ_le_succ->xJ,le_add_right->xK,beq->wh,mod_two_eq_zero_or_one->yF,zero_add->xB,ne_of_gt->xN,add_assoc->xX,le_antisymm->xp,lt_succ_self->yN,lt_or_ge->xt,sub_add_cancel->ye,lt_succ_of_le->yh,not_lt->xu,add_le_add_left->y0,min_eq_left->yk,lt_of_le_of_lt->zC,le_succ_of_le->zF,le_succ->yU,le_add_left->zJ,not_lt_zero->zP,add_right_comm->zw,add_right_cancel_iff->AAR,min_eq_right->AAA,add_sub_cancel_left->AAV
open Ne renaming symm->xZ
open Option renaming map_eq_some_iff->wK,isSome_iff_exists->yc,bind_eq_some_iff->yv,map_some->zN
open Option.some renaming inj->wb
open Prod.mk renaming inj->xh
open PyProof.Rows renaming wpAny_release'->x8,markedEach_of_false->zb,assignInOrder_cons->yf,callWith_type->zd,Subscript_->ze,stripBy_eq->zf,tail_any->zk,slot_str_getitem->AAE,assignInOrder_nil->zy
open PySem renaming Value->R5,Str->vz,wpAny_bind->v5,Shared->vy,wpAny_pure->v8,Around->v7,wpAny_holding->wJ,wpAny_mono->wL,wpAny_standAt->wa,DictEntry->wQ,Program->wR,Flow->wx,World->wU,wpAny_execs_nil->xV,intKind->xM,wpAny_Call_NameR->xo,reprText->xg,FuncData->w8,KeyKind->xr,Model->wq,typeIs_str->xj,wpAny_truthy_bool->yg,truthy->yA,wpAny_call->xv,wpAny_Assign_stores->zA,wpAny_assign_Name->zH,Scope->xC,ExceptHandler->ym,wpAt_of_wpAny->yn,wpAny_execs_cons->zI,OsState->xk,wpAny_allTrue_Or_cons->zj,codeAny_forLoop_any->zt,NameKind->yE,wpAny_loadPart->zR,ks_wpAt_mono->zW,wpAny_isInstance->z8,wpAny_Try_except->z9,wpAny_callSpecial?_slot->AAT,Builtin->ya
open PySem.Arg renaming arg->xQ
open PySem.Around renaming frames_deeper->yz
open PySem.Builtin renaming divisionGoesByPylong->AAF
open PySem.Builtin.List renaming listFitsIndex->AAN,listTooLong->AAS
open PySem.Builtin.Range renaming rangeSize->yG,rangeFitsLong->AAJ
open PySem.Builtin.Str renaming occurrences->yw
open PySem.Calls renaming callWith_builtin->yj,spliced_cons->yT
open PySem.EntryCells renaming newEntry->zu
open PySem.Expr renaming Name->xx
open PySem.F renaming plainAttrs_str->yd,plainAttrs_list->yx,slot_list_iadd->zh,slot_str_repr->zo,slot_list_getitem->AAP,slot_dict_delitem->AAQ
open PySem.Heap renaming lt_size->wk,get?_push_of_some->xb,dictOf_iff->xe,get?_push_size->zB,get?_update_other->zi,get?_update_self->zl,FlyingW->zZ,SameBut->AAB
open PySem.Heap.UpToSlots renaming of_keeps->AAU
open PySem.Obj renaming mapFields->yo,mapSeq->yX
open PySem.PyData renaming keyHash->xF
open PySem.Str renaming empty->we,length->zz
open PySem.Value renaming ref->xw,none->yC,str->yY
open PySem.W renaming boot_heap->wg,Looks->wZ,InstAt->xq,looks_mroIn->xi,SharedT->xY,boot_drawn->yB,callWith_of->yV,boot_toks->yD,nameX_L->zK,looks_findIn->zV,putN->zY
open PySem.W.Fast renaming te10156331382660048174->AAG,te11892475500146522536->AAH,te14364793385576792824->AAI,te6613529449190102663->AAK,te4187177175401517315->AAL,te5923862056798008813->AAM
open PySem PySem.W PyProof.Rows PySem.Calls
namespace Internal
theorem cNS{α:Type _}{a:α}{q:Prop}(h:none=some a):q:=nomatch h
theorem cSN{α:Type _}{a:α}{q:Prop}(h:some a=none):q:=nomatch h
theorem cTF{q:Prop}(h:true=false):q:=nomatch h
theorem cFT{q:Prop}(h:false=true):q:=nomatch h
theorem cNC{α:Type _}{a:α}{l:List α}{q:Prop}(h:[]=a::l):q:=nomatch h
theorem cCN{α:Type _}{a:α}{l:List α}{q:Prop}(h:a::l=[]):q:=nomatch h
theorem ZX{α:Type _}{a b:α}(h:some a=some b):a=b:=wb h
end Internal
namespace Internal
theorem cps{G:Prop}(h:∀P:Prop,(G->P)->P):G:=h G id
theorem AR{α β:Type _}{o:Option α}{k:α->Option β}{b:β}{G:Prop}(e:o.bind k=some b)(h:∀a,o=some a->k a=some b->G):G:=match o,e,h with
 |some a,e,h=> h a rfl e
 |none,e,_=> cNS e
theorem AS{a b:Bool}{G:Prop}(e:(a&&b)=true)(h:a=true->b=true->G):G:=match a,b,e,h with
 |true,true,_,h=> h rfl rfl
 |false,_,e,_=> cFT e
 |true,false,e,_=> cFT e
theorem C7{α:Type _}{c:Prop} [Decidable c]{a b r:α}{G:Prop}(e:(if c then a else b)=r)(h1:c->a=r->G)(h2:¬c->b=r->G):G:=
 if q:c then h1 q ((if_pos q).symm.trans e)else h2 q ((if_neg q).symm.trans e)
theorem Ac{a b:Bool}(e:(a&&b)=true):a=true:=AS e fun h _=> h
theorem AH{a b:Bool}(e:(a&&b)=true):b=true:=AS e fun _ h=> h
end Internal
namespace Internal
@[elab_as_elim] theorem rwR.{u} {α:Sort u} {a b:α} {P:α->Prop} (h:a=b) (p:P b):P a:=h.symm.rec p
@[elab_as_elim] theorem rwL.{u} {α:Sort u} {a b:α} {P:α->Prop} (h:a=b) (p:P a):P b:=h.rec p
theorem x1{α:Sort _}{P:α->Prop}{G:Prop}(h:∃a,P a)(k:∀a,P a->G):G:=h.elim k
theorem x2{α β:Sort _}{P:α->β->Prop}{G:Prop}(h:∃a b,P a b)(k:∀a b,P a b->G):G:=h.elim fun a h=> h.elim (k a)
theorem x3{α β γ:Sort _}{P:α->β->γ->Prop}{G:Prop}(h:∃a b c,P a b c)(k:∀a b c,P a b c->G):G:=h.elim fun a h=> x2 h (k a)
theorem x4{α β γ δ:Sort _}{P:α->β->γ->δ->Prop}{G:Prop}(h:∃a b c d,P a b c d)(k:∀a b c d,P a b c d->G):G:=h.elim fun a h=> x3 h (k a)
theorem x5{α β γ δ ε:Sort _}{P:α->β->γ->δ->ε->Prop}{G:Prop}(h:∃a b c d e,P a b c d e)(k:∀a b c d e,P a b c d e->G):G:=h.elim fun a h=> x4 h (k a)
theorem x6{α β γ δ ε ζ:Sort _}{P:α->β->γ->δ->ε->ζ->Prop}{G:Prop}(h:∃a b c d e f,P a b c d e f)(k:∀a b c d e f,P a b c d e f->G):G:=h.elim fun a h=> x5 h (k a)
theorem y2{A B G:Prop}(h:A/\B)(k:A->B->G):G:=k h.1 h.2
theorem y3{A B C G:Prop}(h:A/\B/\C)(k:A->B->C->G):G:=y2 h.2 (k h.1)
theorem y4{A B C D G:Prop}(h:A/\B/\C/\D)(k:A->B->C->D->G):G:=y3 h.2 (k h.1)
theorem y5{A B C D E G:Prop}(h:A/\B/\C/\D/\E)(k:A->B->C->D->E->G):G:=y4 h.2 (k h.1)
theorem y6{A B C D E F G:Prop}(h:A/\B/\C/\D/\E/\F)(k:A->B->C->D->E->F->G):G:=y5 h.2 (k h.1)
theorem y7{A B C D E F H G:Prop}(h:A/\B/\C/\D/\E/\F/\H)(k:A->B->C->D->E->F->H->G):G:=y6 h.2 (k h.1)
theorem y8{A B C D E F H I G:Prop}(h:A/\B/\C/\D/\E/\F/\H/\I)(k:A->B->C->D->E->F->H->I->G):G:=y7 h.2 (k h.1)
theorem C8{a k l:Nat}(h:a<=k:=by assumption)(e:wX k l=true:=by rfl):a<=l:=wC h (wA e)
theorem D9{a k l:Nat}(h:a<=k:=by assumption)(e:wX (k+1) l=true:=by rfl):a<l:=wC (xJ h) (wA e)
theorem u6{a i j:Nat}(e:wX i j=true:=by rfl):a+i<=a+j:=y0 (wA e) a
theorem K5{a b:Nat}(e:wX a b=true:=by rfl):a<=b:=wA e
theorem u7{a b:Nat}:a<=a+b:=xK ..
theorem u9{a b:Nat}:b<=a+b:=zJ ..
theorem vA{a b k:Nat}(h:a<=k:=by assumption):a<=k+b:=wC h (xK ..)
theorem vB{x m k l:Nat}(h:x+m<=k:=by assumption)(e:wX k l=true:=by rfl):m<=l:=wC (wC (zJ ..) h) (wA e)
theorem Na{x m k l:Nat}(h:x+m<=k:=by assumption)(e:wX k l=true:=by rfl):x<=l:=wC (wC (xK ..) h) (wA e)
theorem ZY{m:Nat}(h:0<m:=by assumption):m=m - 1+1:=(Nat.succ_pred_eq_of_pos h).symm
theorem Rk{m:Nat}(h:m≠0:=by assumption):(m:Int)≠0:=fun e=> h (Int.ofNat.inj e)
theorem JX{a b:Nat}(h:b<=a:=by assumption):¬a<b:=xu.mpr h
theorem Nb{a b:Int}(h:b<=a:=by assumption):¬a<b:=yW.mpr h
theorem ZZ{a b:Int}(h:¬a<b:=by assumption):b<=a:=yW.mp h
theorem vC{a b c:Nat}(h:a<=b:=by assumption)(g:b<=c:=by assumption):a<=c:=wC h g
theorem vD{x:Int}{at_ l:Nat}(h:x<=(at_:Int):=by assumption):x<=((at_+l:Nat):Int):=xA h (x9.mpr (xK ..))
theorem AI{H L l r:Nat}(h:H<=L)(v:l+L<=r+H:=by simp+arith only):l<=r:=Nat.le_of_add_le_add_right (wC (y0 h l) v)
theorem BV{H L l r:Nat}(h:H<=L)(v:l+1+L<=r+H:=by simp+arith only):l<r:=AI (l:=l+1) h v
theorem vE{n:Nat}:(-1:Int)<=(n:Int):=xA (by decide) (xc n)
theorem Nc{a n:Nat}(h:a+1<=n:=by assumption):n=n - 1+1:=(ye (wC (zJ 1 a) h)).symm
theorem Za{a n:Nat}(h:a+2<=n:=by assumption):n=n - 2+2:=(ye (wC (zJ 2 a) h)).symm
theorem vF{a b:Nat}(h:0<b):a≠a+b:=wt (Nat.lt_add_of_pos_right h)
theorem Nd(k:Nat):(2 * k+1) % 2=1:=Nat.mul_add_mod 2 k 1
theorem Nf(k:Nat):(2 * k+1) / 2=k:=by rw [Nat.mul_add_div (by decide)];rfl
theorem Zb(k:Nat):2 * k % 2=0:=Nat.mul_mod_right 2 k
theorem Zc(k:Nat):2 * k / 2=k:=Nat.mul_div_right k (by decide)
theorem EA{l r:Nat}(v:l<=r:=by simp+arith only):l<=r:=v
theorem Zd{l r:Nat}(v:l+1<=r:=by simp+arith only):l<r:=v
end Internal
section
open Lean
def Internal.tk(n:String)(a:List Syntax):Syntax:=mkNode (.mkStr `Lean.Parser.Tactic n) (mkAtom n::a).toArray
def Internal.IF(l:List Syntax):Syntax:=tk "first" [mkNullNode (l.map fun t=> mkNode `group #[mkAtom "|",t]).toArray]
def Internal.ap(f:Syntax)(l:List Syntax):Syntax:=mkNode `Lean.Parser.Term.app #[f,mkNullNode l.toArray]
def Internal.Dt(n:String):Syntax:=mkIdent n.toName
def Internal.JY:Syntax:=mkNode `Lean.Parser.Term.hole #[mkAtom "_"]
def Internal.Rl:Syntax:=mkNode `Lean.Parser.Term.syntheticHole #[mkAtom "?",JY]
def Internal.lam(l:List Syntax)(b:Syntax):Syntax:=mkNode `Lean.Parser.Term.fun #[mkAtom "fun",mkNode `Lean.Parser.Term.basicFun #[mkNullNode l.toArray,mkNullNode,mkAtom "=>",b]]
def Internal.K6(p:Syntax)(z:String):Syntax×Bool:=
 let q:=p[0][0][0]
 if p[1].isNone&&p[0][0].getNumArgs==1&&q.isOfKind `Lean.Parser.Tactic.rcasesPat.ignore then(JY,true)
 else if p[1].isNone&&p[0][0].getNumArgs==1&&q.isOfKind `Lean.Parser.Tactic.rcasesPat.one&&q[0].getId != `rfl then(q[0],true)
 else(Dt z,false)
def Internal.IG(p:Syntax)(e:Syntax):Syntax:=tk "obtain" [mkNullNode #[p],mkNullNode,mkNullNode #[mkAtom ":=",mkNullNode #[e]]]
def Internal.tup(l:List Syntax):Syntax:=match l with
 | [p]=> p[0]
 |l=> mkNode `Lean.Parser.Tactic.rcasesPatMed #[mkNullNode #[mkNode `Lean.Parser.Tactic.rcasesPat.tuple #[mkAtom "⟨",mkNullNode (l.foldr (fun p t=> p::mkAtom ","::t) []).toArray,mkAtom "⟩"]]]
def Internal.cut(b:String):Nat->List Syntax->List Syntax×List Syntax
 |_,[]=> ([],[])
 |n,[p]=> let(x,s):=K6 p (b++"z");([x],if s then []else [IG p[0] (Dt (b++"z"))])
 |0,l=> ([Dt (b++"r")],[IG (tup l) (Dt (b++"r"))])
 |n+1,p::l=> match K6 p (b++"z")with
  |(x,true)=> let(y,t):=cut b n l;(x::y,t)
  |(x,false)=> match l with
   | [q]=> let(y,s):=K6 q (b++"r");([x,y],IG p[0] x::if s then []else [IG q[0] y])
   |l=> ([x,Dt (b++"r")],[IG p[0] x,IG (tup l) (Dt (b++"r"))])
def Internal.Ze(e:Syntax)(ps:List Syntax)(k:Nat):Syntax:=
 let b:=if e.isIdent then e.getId.toString else "w"
 let(c,t):=cut b 7 (ps.drop k);let v:=(ps.take k).map fun p=> K6 p ""
 if v.all (·.2)then
  let f:=fun(e:Syntax)=> if c.length<2 then Rl else ap (Dt s!"Internal.y{c.length}") [e,lam c Rl]
  let g:=if c.length<2 then c.headD JY else Dt (b++"g")
  let u:=if k==0 then f e else ap (Dt s!"Internal.x{k}") [e,lam (v.map (·.1)++[g]) (f g)]
  let cl:=fun(i:Syntax)=> IF [tk "clear" [mkNullNode #[i]],tk "skip" []]
  mkNullNode (tk "refine" [u]::(if e.isIdent then [cl e]else [])++(if k !=0&&c.length>1 then [cl g]else [])++t).toArray
 else tk "fail" [mkNullNode]
def Internal.Zf(e:Syntax)(ps:List Syntax):Syntax:=IF (((List.range (min 7 ps.length)).reverse.map (Ze e ps))++[tk "fail" [mkNullNode]])
def Internal.Zg(s:Syntax):MacroM Syntax:=
 let p:=s[1][0][0][0];let ps:=p[1].getSepArgs.toList
 if s[2].isNone&&s[3][1].getNumArgs==1&&s[1][0][0].getNumArgs==1&&p.isOfKind `Lean.Parser.Tactic.rcasesPat.tuple&&ps.length>1 then pure (Zf s[3][1][0] ps)else Macro.throwUnsupported
def Internal.Zh(r:Syntax):Syntax:=tk "refine" [ap (Dt (if r[0].isNone then "Internal.rwR" else "Internal.rwL")) [ap r[1] [mkNode `Lean.Parser.Term.ellipsis #[mkAtom ".."]],mkNode `Lean.Parser.Term.syntheticHole #[mkAtom "?",mkNode `Lean.Parser.Term.hole #[mkAtom "_"]]]]
def Internal.Zi(s:Syntax):Syntax:=IF [mkNullNode (s[2][1].getSepArgs.map Zh),tk "fail" [mkNullNode]]
def Internal.inj(h:Syntax)(z:String):Syntax:=
 let l:=(z.splitOn " ").map Internal.Dt
 mkNullNode #[tk "injection" [h,mkNullNode #[mkAtom "with",mkNullNode l.toArray]],tk "subst" [mkNullNode l.toArray]]
def Internal.Zj(s:Syntax)(h:Syntax):Syntax:=
 IF ((if s[3].isNone then(("Internal.cNS Internal.cFT Internal.cTF Internal.cSN Internal.cNC Internal.cCN".splitOn " ").map fun n=> tk "exact" [ap (Dt n) [h]])++tk "subst" [mkNullNode #[h]]::["z1","z1 z2","z1 z2 z3"].map (inj h)else [])
  ++(("Bool Option List Nat Internal.AV Internal.AObj Internal.Out Internal.COut Internal.Flow PySem.Flow PySem.Value PySem.Expr PySem.Data Internal.CE Internal.CS Internal.CT Internal.CSrc Internal.COp Internal.BOp Internal.L4.Kd Internal.L4.Tk Internal.L4.Ce Internal.L4.Rs Internal.L4.Kw Internal.L4.Ln Internal.L4.Wd Internal.L4.Ref Internal.L4.WR Internal.L4.Mid".splitOn " ").map fun n=> tk "induction" [s[1],mkNullNode #[mkAtom "using",Dt (n++".casesOn")],mkNullNode,s[3]])++[tk "fail" [mkNullNode]])
def Internal.nc(s:Syntax):MacroM Syntax:=
 if s[0][4].isNone&&(s[1].isOfKind `Lean.Parser.Command.definition||s[1].isOfKind `Lean.Parser.Command.abbrev)then
  pure (s.setArg 0 (s[0].setArg 4 (mkNullNode #[mkNode `Lean.Parser.Command.noncomputable #[mkAtom "noncomputable"]])))
 else Macro.throwUnsupported
end
local macro_rules (kind:=Lean.Parser.Command.declaration) |s=> Internal.nc s
local macro_rules (kind:=Lean.Parser.Tactic.obtain) |s=> Internal.Zg s
local macro_rules (kind:=Lean.Parser.Tactic.rewriteSeq) |s=> if s[3].isNone then pure (Internal.Zi s)else Lean.Macro.throwUnsupported
local macro_rules (kind:=Lean.Parser.Tactic.cases) |s=> if s[1][0][0].isNone&& !s[1][0][1].isIdent then Lean.Macro.throwUnsupported else pure (Internal.Zj s s[1][0][1])
namespace Internal
section
open PySem
abbrev N:=Nat
abbrev N.self:N:=1936026726
abbrev N.K7:N:=6872327479327219551
abbrev N.append:N:=107135549927012
abbrev N.extend:N:=111568023285348
abbrev N.pop:N:=7368560
abbrev N.insert:N:=115923103347316
abbrev N.join:N:=1785686382
abbrev N.split:N:=495807392116
abbrev N.lstrip:N:=119243130694000
abbrev N.rstrip:N:=125840200460656
abbrev N.strip:N:=495874894192
inductive AV where
 |none |bool (b:Bool) |int (i:Int) |str (s:List Nat)
 |tup (xs:List AV) |Ah (xs:List AV)
 |obj (c:Nat) (fs:List (N×AV))
 |ref (i:Nat) |fn (a:Nat) |cls (a:Nat) |GZ
 deriving Inhabited
inductive AObj where
 |lst (xs:List AV)
 |Ap (es:List (AV×AV))
 |ins (c:Nat) (fs:List (N×AV))
 deriving Inhabited
structure Hp where
 lo:List AObj
 hi:List AObj
noncomputable instance:Inhabited Hp:=⟨⟨[],[]⟩⟩
def CD:List AObj->Nat->AObj
 | [],_=>.lst []
 |o::_,0=> o
 |_::r,n+1=> CD r n
def Cu:List AObj->Nat->AObj->List AObj
 | [],_,_=>[]
 |_::r,0,x=> x::r
 |o::r,n+1,x=> o::Cu r n x
def Hp.row(h:Hp):Nat->List AObj
 |0=> h.lo
 |_+1=> h.hi
def Hp.f(h:Hp)(i:Nat):AObj:=CD (h.row (i % 2)) (i / 2)
def Hp.lv(h:Hp)(i:Nat):Prop:=i / 2<(h.row (i % 2)).length
def Hp.JZ(h:Hp)(k:Nat)(o:AObj):Nat->Hp
 |0=> ⟨Cu h.lo k o,h.hi⟩
 |_+1=> ⟨h.lo,Cu h.hi k o⟩
def Hp.set(h:Hp)(i:Nat)(o:AObj):Hp:=h.JZ (i / 2) o (i % 2)
def Hp.nI(h:Hp):Nat:=2 * h.hi.length+1
def Hp.IH(h:Hp)(o:AObj):Hp:=⟨h.lo,h.hi++[o]⟩
def Hp.n(h:Hp):Nat:=match h.hi with
 | []=> 2 * h.lo.length
 |_::_=> h.nI
def Hp.add(h:Hp)(o:AObj):Hp:=match h.hi with
 | []=> ⟨h.lo++[o],[]⟩
 |_::_=> h.IH o
inductive BOp where |add |sub |mul |div |mod
 deriving DecidableEq,Inhabited
inductive COp where |eq |ne |lt |le |gt |ge |A9 |EB |Ja |Ng
 deriving DecidableEq,Inhabited
inductive BI where |len |sum |min |list |int
 deriving DecidableEq,Inhabited
inductive CE where
 |cst (v:AV)
 |var (x:N)
 |AD (e:CE) (a:N)
 |app (f:CE) (as:List CE)
 |E1 (f:CE) (as:List CE) (n:N) (k:CE)
 |AE (e:CE) (a:N) (as:List CE)
 |E3 (e:CE) (a:N) (as:List CE) (n:N) (k:CE)
 |sup (f c:Nat) (as:List CE)
 |bi (b:BI) (as:List CE)
 |CL (e:CE) (c:Nat)
 |isStr (e:CE)
 |bin (op:BOp) (l r:CE)
 |fmt (l r:CE)
 |neg (e:CE)
 |nt (e:CE)
 |A1 (es:List CE)
 |BY (es:List CE)
 |cmp (l:CE) (rs:List (COp×CE))
 |ite (t b o:CE)
 |tup (es:List CE)
 |lst (AAq:Bool) (es:List CE)
 |Ap (ks:List (AV×CE))
 |sub (e i:CE)
 |Bd (AAq:Bool) (e:CE) (lo hi:Option CE)
 |BZ
 deriving Inhabited
inductive CT where
 |name (x:N) |AD (e:CE) (a:N) |sub (e i:CE) |tup (xs:List N)
 deriving Inhabited
inductive CSrc where
 |it (e:CE) |keys (e:CE) |Fm (as:List CE) |enum (e:CE)
 deriving Inhabited
inductive CS where
 |expr (e:CE)
 |asg (t:CT) (e:CE)
 |aug (t:CT) (op:BOp) (e:CE)
 |ret (e:Option CE)
 |ifs (t:CE) (b o:List CS)
 |BW (t:CE) (b:List CS)
 |CV (t:CT) (src:CSrc) (b:List CS)
 |HO (c:Nat) (as:List CE)
 |Ga (b:List CS) (c:Nat) (x:N) (h:List CS)
 |HP (b:List CS)
 |del (e i:CE)
 |pass |brk |cont |BZ
 deriving Inhabited
structure Fn where
 ps:List N
 Ay:List (N×AV)
 body:List CS
inductive CA where |Ai(f:Nat) |val(v:AV)
inductive Init where
 |BH (fi:Nat) (fs:List (N×N))
 |run (f:Nat)
structure Cl where
 attrs:List (N×CA)
 fields:List N
 mro:List Nat
 exc:Bool
 init:Init
structure Prog where
 fns:Nat->Option Fn
 cls:Nat->Option Cl
 CL:List Nat
structure St where
 loc:List (N×AV)
 hp:Hp
inductive Out(α:Type)where
 |ok (a:α) (s:St) |exc (e:AV) (s:St) |bad
inductive COut where
 |ok (v:AV) (h:Hp) |exc (e:AV) (h:Hp) |bad
inductive Flow where |next |brk |cont |ret(v:AV)
 deriving Inhabited
def Out.bind{α β:Type}(m:Out α)(f:α->St->Out β):Out β:=match m with
 | .ok a s=> f a s
 | .exc e s=>.exc e s
 | .bad=>.bad
def COut.bind{β:Type}(m:COut)(l:List (N×AV))(f:AV->St->Out β):Out β:=match m with
 | .ok a h=> f a ⟨l,h⟩
 | .exc e h=>.exc e ⟨l,h⟩
 | .bad=>.bad
def AO{α β:Type}(m:Option α)(f:α->Out β):Out β:=match m with
 |some a=> f a
 |none=>.bad
def look{α:Type}(x:N):List (N×α)->Option α
 | []=> none
 |(y,v)::r=> if y=x then some v else look x r
theorem Fo{α:Type}{x y:N}{v:α}{r:List (N×α)}:look x ((y,v)::r)=if y=x then some v else look x r:=rfl
def put{α:Type}(x:N)(v:α):List (N×α)->List (N×α)
 | []=>[(x,v)]
 |(y,w)::r=> if y=x then(x,v)::r else(y,w)::put x v r
theorem Zk{α:Type}{x y:N}{v w:α}{r:List (N×α)}:put x v ((y,w)::r)=if y=x then(x,v)::r else(y,w)::put x v r:=rfl
def Du(len:Nat)(i:Int):Option Nat:=
 if 0<=i then(if i<len then some i.toNat else none)else(if 0<=i+len then some (i+len).toNat else none)
def DV(len:Nat)(i:Int):Nat:=(max 0 (min (if i<0 then i+len else i) len)).toNat
def C9{α:Type}(xs:List α)(lo hi:Option Int):List α:=
 let a:=(lo.map (DV xs.length)).getD 0;let b:=(hi.map (DV xs.length)).getD xs.length
 (xs.drop a).take (b - a)
def strLt:List Nat->List Nat->Bool
 |_,[]=> false
 | [],_::_=> true
 |a::r,b::t=> decide (a<b)||(a==b&&strLt r t)
def Ba(sep:List Nat):List (List Nat)->List Nat
 | []=>[]
 | [x]=> x
 |x::r=> x++sep++Ba sep r
def Nh(a:Nat):List (List Nat)->List (List Nat)
 | []=>[[a]]
 |w::ws=> (a::w)::ws
def CW(c:Nat):List Nat->List (List Nat)
 | []=>[[]]
 |a::r=> if a=c then []::CW c r else Nh a (CW c r)
theorem K8{c a:Nat}{r:List Nat}:CW c (a::r)=if a=c then []::CW c r else Nh a (CW c r):=rfl
def DA(c:List Nat):List Nat->List Nat
 | []=>[]
 |a::r=> if c.contains a then DA c r else a::r
theorem Zl{c:List Nat}{a:Nat}{r:List Nat}:DA c (a::r)=if c.contains a then DA c r else a::r:=rfl
def EC(c:List Nat)(s:List Nat):List Nat:=(DA c s.reverse).reverse
def lim:Nat:=1000000
def ck{α:Type}(n:Nat)(x:α):Option α:=if n<=lim then some x else none
def CM{α:Type}(xs:List α):Nat->List α
 |0=>[]
 |n+1=> xs++CM xs n
def alt{α:Type}(x y:Option α):Option α:=match x with
 |some v=> some v
 |none=> y
def Rm:AV->Option Bool
 | .bool b=> some b
 |_=> none
def A4:AV->Option Int
 | .int i=> some i
 |_=> none
def BJ:AV->Option (List Nat)
 | .str s=> some s
 |_=> none
def ED:AV->Option (List AV)
 | .tup s=> some s
 |_=> none
def II:AV->Option (List AV)
 | .Ah s=> some s
 |_=> none
def EV:AV->Option Nat
 | .ref i=> some i
 |_=> none
def CY:AObj->Option (List AV)
 | .lst xs=> some xs
 |_=> none
def IJ:AObj->Option (List (AV×AV))
 | .Ap xs=> some xs
 |_=> none
def Jb:AObj->Option (Nat×List (N×AV))
 | .ins c fs=> some (c,fs)
 |_=> none
def one{α:Type}:List α->Option α
 | [v]=> some v
 |_=> none
def Zm:AV->Option Bool
 | .none=> some true
 | .int _=> some false
 |_=> none
def Zn(x:Int):AV->Option Bool
 | .int y=> some (x==y)
 | .none=> some false
 |_=> none
mutual
noncomputable def Fp:AV->AV->Option Bool
 | .none,b=> Zm b
 | .bool a,b=> (Rm b).map fun b=> a==b
 | .int a,b=> Zn a b
 | .str a,b=> (BJ b).map fun b=> a==b
 | .tup a,b=> (ED b).bind fun b=> Fq a b
 | .Ah a,b=> (II b).bind fun b=> Fq a b
 | .obj _ _,_=> none
 | .ref _,_=> none
 | .fn _,_=> none
 | .cls _,_=> none
 | .GZ,_=> none
noncomputable def Fq:List AV->List AV->Option Bool
 | [],[]=> some true
 | [],_::_=> some false
 |_::_,[]=> some false
 |a::r,b::t=> (Fp a b).bind fun c=> if c=true then Fq r t else some false
end
def atom:AV->Bool
 | .none=> true
 | .bool _=> true
 | .int _=> true
 | .str _=> true
 |_=> false
def kids:AV->Option (List AV)
 | .tup xs=> some xs
 | .Ah xs=> some xs
 |_=> none
def CF:Nat->AV->Bool
 |0,a=> atom a
 |n+1,a=> atom a||(match kids a with
  |some xs=> xs.all (CF n)
  |none=> false)
def IK(h:Hp)(a:AV):Option AV:=match EV a with
 |some i=> (CY (h.f i)).map .Ah
 |none=> some a
def Jc:AObj->Option Bool
 | .lst xs=> some (!xs.isEmpty)
 | .Ap es=> some (!es.isEmpty)
 | .ins _ _=> none
def truthy(h:Hp):AV->Option Bool
 | .none=> some false
 | .bool b=> some b
 | .int i=> some (i !=0)
 | .str s=> some (!s.isEmpty)
 | .tup xs=> some (!xs.isEmpty)
 | .Ah xs=> some (!xs.isEmpty)
 | .ref i=> Jc (h.f i)
 |_=> none
def Dv(h:Hp):AV->Option (List AV)
 | .Ah xs=> some xs
 | .ref i=> CY (h.f i)
 |_=> none
def items(h:Hp)(a:AV):Option (List AV):=alt (ED a) (Dv h a)
def HQ:AV->AV->Bool
 | .int a,.int b=> a==b
 | .str a,.str b=> a==b
 |_,_=> false
def keyOk(a:AV):Bool:=(A4 a).isSome||(BJ a).isSome
def Zo(a b:AV):Bool:=((A4 a).isSome&&(A4 b).isSome)||((BJ a).isSome&&(BJ b).isSome)
def Cv(k:AV)(l:List (AV×AV)):Bool:=l.all fun p=> Zo k p.1
def DW(k:AV):List (AV×AV)->Option AV
 | []=> none
 |(k',v)::r=> if HQ k' k then some v else DW k r
theorem Zp{k k' v:AV}{r:List (AV×AV)}:DW k ((k',v)::r)=if HQ k' k then some v else DW k r:=rfl
def Gb(k v:AV):List (AV×AV)->List (AV×AV)
 | []=>[(k,v)]
 |(k',w)::r=> if HQ k' k then(k',v)::r else(k',w)::Gb k v r
theorem Ro{k v k' w:AV}{r:List (AV×AV)}:Gb k v ((k',w)::r)=if HQ k' k then(k',v)::r else(k',w)::Gb k v r:=rfl
def HR(k:AV):List (AV×AV)->List (AV×AV)
 | []=>[]
 |(k',w)::r=> if HQ k' k then r else(k',w)::HR k r
theorem Rp{k k' w:AV}{r:List (AV×AV)}:HR k ((k',w)::r)=if HQ k' k then r else(k',w)::HR k r:=rfl
def strs? :List AV->Option (List (List Nat))
 | []=> some []
 | .str s::r=> (strs? r).map (s::·)
 |_::_=> none
def Jd:List AV->Option (List Int)
 | []=> some []
 | .int s::r=> (Jd r).map (s::·)
 |_::_=> none
def Rq(h:Hp)(a b:AV):Option AV:=
 alt ((A4 a).bind fun x=> (A4 b).map fun y=>.int (x+y)) (alt ((BJ a).bind fun x=> (BJ b).bind fun y=> ck (x.length+y.length) (.str (x++y)))
  (alt ((ED a).bind fun x=> (ED b).bind fun y=> if x.length+y.length<=1000 then some (.tup (x++y))else none)
    ((Dv h a).bind fun xs=> (Dv h b).bind fun ys=> ck (xs.length+ys.length) (.Ah (xs++ys)))))
def Ni(h:Hp)(a:AV)(y:Int):Option AV:=if y.natAbs<=lim then
    alt ((A4 a).bind fun x=> if x.natAbs<=lim then some (.int (x * y))else none)
     (alt ((BJ a).bind fun x=> ck (x.length * y.toNat) (.str (CM x y.toNat)))
       ((Dv h a).bind fun xs=> if xs.length * y.toNat<=256 then some (.Ah (CM xs y.toNat))else none))
 else none
def binOp(h:Hp)(op:BOp)(a b:AV):Option AV:=match op with
 | .add=> Rq h a b
 | .sub=> (A4 a).bind fun x=> (A4 b).map fun y=>.int (x - y)
 | .mul=> (A4 b).bind fun y=> Ni h a y
 | .div=> (A4 a).bind fun x=> (A4 b).bind fun y=> if y=0∨y.natAbs>lim then none else some (.int (x.fdiv y))
 | .mod=> (A4 a).bind fun x=> (A4 b).bind fun y=> if y=0 then none else some (.int (x.fmod y))
def HS(f:Int->Int->Bool)(a b:AV):Option Bool:=(A4 a).bind fun x=> (A4 b).map fun y=> f x y
def Nj(f:List Nat->List Nat->Bool)(a b:AV):Option Bool:=(BJ a).bind fun x=> (BJ b).map fun y=> f x y
def K9(h:Hp)(a b:AV):Option Bool:=(IK h a).bind fun a=> (IK h b).bind fun b=> if(CF 8 a&&CF 8 b)=true then Fp a b else none
def Rr(y:List Nat):List Nat->Option Bool
 | []=> some true
 | [c]=> some (y.contains c)
 |_=> none
def Nk(a b:AV):Option Bool:=(BJ a).bind fun x=> (BJ b).bind fun y=> Rr y x
def Rt(h:Hp)(k b:AV):Option Bool:=(EV b).bind fun i=> (IJ (h.f i)).bind fun es=> if(keyOk k&&Cv k es)=true then some (DW k es).isSome else none
def Ru(a b:AV):Option Bool:=(BJ a).bind fun x=> (kids b).bind fun ys=> (strs? ys).map fun l=> l.contains x
def isNone:AV->Bool
 | .none=> true
 |_=> false
def Zq(b:Bool):AV->Option Bool
 | .bool a=> some (a==b)
 | .none=> some false
 |_=> none
def Nl(a:AV):AV->Option Bool
 | .none=> some (isNone a)
 | .bool b=> Zq b a
 |_=> none
def BK(h:Hp)(op:COp)(a b:AV):Option Bool:=match op with
 | .eq=> K9 h a b
 | .ne=> alt (HS (fun x y=> x !=y) a b) (Nj (fun x y=> x !=y) a b)
 | .lt=> HS (fun x y=> decide (x<y)) a b
 | .le=> alt (HS (fun x y=> decide (x<=y)) a b) (Nj (fun x y=> !strLt y x) a b)
 | .gt=> HS (fun x y=> decide (x>y)) a b
 | .ge=> HS (fun x y=> decide (x>=y)) a b
 | .A9=> alt (Nk a b) (alt (Rt h a b) (Ru a b))
 | .EB=> (Nk a b).map fun c=> !c
 | .Ja=> Nl a b
 | .Ng=> (Nl a b).map fun c=> !c
def IL(xs:List AV)(i:AV):Option AV:=(A4 i).bind fun k=> (Du xs.length k).bind fun j=> xs[j]?
def LA(k:AV):AObj->Option AV
 | .lst xs=> IL xs k
 | .Ap es=> if(keyOk k&&Cv k es)=true then DW k es else none
 | .ins _ _=> none
def Cr(h:Hp)(o i:AV):Option AV:=match o with
 | .str s=> (A4 i).bind fun k=> (Du s.length k).bind fun j=> s[j]?.map fun c=>.str [c]
 | .tup xs=> IL xs i
 | .Ah xs=> IL xs i
 | .ref r=> LA i (h.f r)
 |_=> none
def Nm:AV->Option (Option Int)
 | .none=> some none
 | .int i=> some (some i)
 |_=> none
def sliceOf(h:Hp)(l u:Option Int):AV->Option AV
 | .str s=> some (.str (C9 s l u))
 | .Ah xs=> some (.Ah (C9 xs l u))
 | .ref r=> (CY (h.f r)).map fun xs=>.Ah (C9 xs l u)
 |_=> none
def E4(h:Hp)(o lo hi:AV):Option AV:=(Nm lo).bind fun l=> (Nm hi).bind fun u=> sliceOf h l u o
def putD(h:Hp)(r:Nat)(i v:AV):Option Hp:=(IJ (h.f r)).bind fun es=> if(keyOk i&&Cv i es)=true then ck (es.length+1) (h.set r (.Ap (Gb i v es)))else none
def HT(h:Hp)(o i v:AV):Option Hp:=(EV o).bind fun r=> putD h r i v
def Je(h:Hp)(r:Nat):List (AV×AV)->Option Hp
 | []=> some h
 |(i,v)::es=> (putD h r i v).bind fun h=> Je h r es
def LB(h:Hp)(o i:AV):Option Hp:=(EV o).bind fun r=> (IJ (h.f r)).bind fun es=>
 if(keyOk i&&Cv i es&&(DW i es).isSome)=true then some (h.set r (.Ap (HR i es)))else none
def LC(P:Prog)(c:Nat)(fs:List (N×AV))(a:N):Option AV:=match P.cls c with
 |none=> none
 |some cl=> match look a fs with
  |some v=> if cl.fields.contains a then some v else none
  |none=> match look a cl.attrs with
   |some (.val v)=> some v
   |_=> none
def E5(P:Prog)(h:Hp)(o:AV)(a:N):Option AV:=match o with
 | .obj c fs=> LC P c fs a
 | .ref r=> (Jb (h.f r)).bind fun p=> LC P p.1 p.2 a
 |_=> none
def setAt(P:Prog)(h:Hp)(o:AV)(a:N)(v:AV):Option Hp:=(EV o).bind fun r=> (Jb (h.f r)).bind fun p=> (P.cls p.1).bind fun cl=>
 if(cl.fields.contains a&& !cl.exc&&decide (p.2.length<100))=true then some (h.set r (.ins p.1 (put a v p.2)))else none
def Nn(xs:List AV):List AV->Option (AV×List AV)
 | []=> xs.getLast?.map fun v=> (v,xs.dropLast)
 | [i]=> (A4 i).bind fun k=> if k=0 then xs.head?.map fun v=> (v,xs.tail)else none
 |_=> none
def Rw(xs:List AV):List AV->Option (AV×List AV)
 | [i,v]=> (A4 i).bind fun i=> if 0<=i/\i<=xs.length then ck (xs.length+1) (.none,xs.take i.toNat++v::xs.drop i.toNat)else none
 |_=> none
def Rx(xs as:List AV):Option (AV×List AV):=(one as).bind fun v=> ck (xs.length+1) (.none,xs++[v])
def Ry(h:Hp)(xs as:List AV):Option (AV×List AV):=(one as).bind fun v=> (Dv h v).bind fun ys=> ck (xs.length+ys.length) (.none,xs++ys)
def Jf(h:Hp)(xs:List AV)(m:N)(as:List AV):Option (AV×List AV):=
 if m=N.append then Rx xs as else if m=N.extend then Ry h xs as else if m=N.pop then Nn xs as else if m=N.insert then Rw xs as else none
def LD(h:Hp)(s:List Nat)(x:AV):Option AV:=((items h x).bind strs?).bind fun l=> if s.length<=16/\(l.map w7).sum+l.length<=60000 then some (.str (Ba s l))else none
def Rz(s:List Nat)(x:AV):Option AV:=(BJ x).bind fun c=> (one c).bind fun c=> ck (s.length+1) (.Ah ((CW c s).map .str))
def Np(g:List Nat->List Nat)(x:AV):Option AV:=(BJ x).map fun c=>.str (g c)
def R4(h:Hp)(s:List Nat)(m:N)(x:AV):Option AV:=
 if m=N.join then LD h s x else if m=N.split then Rz s x else if m=N.lstrip then Np (fun c=> DA c s) x else if m=N.rstrip then Np (fun c=> EC c s) x
 else if m=N.strip then Np (fun c=> EC c (DA c s)) x else none
def Bv(h:Hp)(o:AV)(m:N)(as:List AV):Option (AV×Hp):=match o with
 | .str s=> (one as).bind fun x=> (R4 h s m x).map fun v=> (v,h)
 | .ref r=> (CY (h.f r)).bind fun xs=> (Jf h xs m as).map fun p=> (p.1,h.set r (.lst p.2))
 |_=> none
def Nq:List Nat:=[102,111,117,110,100,32,99,104,97,114,97,99,116,101,114,32,37,114,32,116,104,97,116,32,99,97,110,110,111,116,32,115,116,97,114,116,32,97,110,121,32,116,111,107,101,110]
def Nr(a b:AV):Option AV:=(BJ a).bind fun f=> (BJ b).bind fun s=> (one s).bind fun c=>
 if f=Nq/\(c=37∨c=64∨c=96∨c=9)then some .GZ else none
def R6:List Int->Option Int
 | []=> none
 | [a]=> some a
 |a::r=> (R6 r).map fun b=> if b<a then b else a
def lenOf(h:Hp):AV->Option AV
 | .str s=> some (.int s.length)
 | .tup xs=> some (.int xs.length)
 | .Ah xs=> some (.int xs.length)
 | .ref r=> (CY (h.f r)).map fun xs=>.int xs.length
 |_=> none
def keysOf(h:Hp)(a:AV):Option (List AV):=(EV a).bind fun i=> (IJ (h.f i)).bind fun es=> if Cv (.int 0) es=true then some (es.map (·.1))else none
def E6(h:Hp)(b:BI)(as:List AV):Option AV:=(one as).bind fun a=> match b with
 | .len=> lenOf h a
 | .sum=> (II a).bind fun xs=> (Jd xs).map fun l=>.int l.sum
 | .min=> ((Dv h a).bind Jd).bind fun l=> (R6 l).map .int
 | .int=> (BJ a).bind fun s=> (one s).bind fun c=> if 48<=c/\c<=57 then some (.int ((c:Int) - 48))else none
 | .list=> (keysOf h a).map .Ah
def Fs(a b c:Int):Nat:=(if c>0 then(if a<b then(b - a - 1) / c+1 else 0)else(if a>b then(a - b - 1) / (-c)+1 else 0)).toNat
def Ft(a b c:Int):List Int:=(List.range (Fs a b c)).map fun(k:Nat)=> a+(k:Int) * c
def Cc(i:Int):Bool:=decide (i.natAbs<=lim)
def Zr:List Int->Option (List AV)
 | [b]=> if Cc b=true then some ((Ft 0 b 1).map .int)else none
 | [a,b]=> if(Cc a&&Cc b)=true then some ((Ft a b 1).map .int)else none
 | [a,b,c]=> if(Cc a&&Cc b&&Cc c&&c !=0)=true then some ((Ft a b c).map .int)else none
 |_=> none
def LF(vs:List AV):Option (List AV):=(Jd vs).bind Zr
def DY:List N->List AV->List (N×AV)->Option (List (N×AV))
 | [],[],_=> some []
 | [],_::_,_=> none
 |p::ps,v::vs,ds=> (DY ps vs ds).map ((p,v)::·)
 |p::ps,[],ds=> (look p ds).bind fun v=> (DY ps [] ds).map ((p,v)::·)
def IM(ps:List N)(as:List AV):List (N×AV)->Option (List AV)
 | []=> some as
 | [(n,v)]=> if ps[as.length]? =some n then some (as++[v])else none
 |_=> none
def Jg(P:Prog)(v:AV)(c:Nat):Option Bool:=match v with
 | .obj d _=> if P.CL.contains c=true then(P.cls d).bind fun cl=> if cl.exc=true then none else some (cl.mro.contains c)else none
 |_=> none
def Gd(P:Prog)(v:AV)(c:Nat):Bool:=match v with
 | .obj d _=> (P.cls d).any fun cl=> cl.exc&&cl.mro.contains c
 |_=> false
def EW(fn:Fn)(as:List AV)(ks:List (N×AV)):Option (List (N×AV)):=
 (IM fn.ps as ks).bind fun as=> if fn.ps.length<=as.length+fn.Ay.length then DY fn.ps as fn.Ay else none
def EE(binds:List (N×AV)):List (N×N)->Option (List (N×AV))
 | []=> some []
 |(f,p)::r=> (look p binds).bind fun v=> (EE binds r).map ((f,v)::·)
def IP(P:Prog)(cl:Cl)(self:AV)(as:List AV)(ks:List (N×AV)):Option (List (N×AV)):=match cl.init with
 | .BH fi fs=> (P.fns fi).bind fun fn=> (EW fn (self::as) ks).bind fun b=> EE b fs
 | .run _=> none
def excOf(P:Prog)(c:Nat)(self:AV)(as:List AV):Option (List (N×AV)):=(P.cls c).bind fun cl=> if cl.exc=true then IP P cl self as []else none
def DB(fs:List (N×N)):List CS:=fs.map fun p=>.asg (.AD (.var .self) p.1) (.var p.2)
def freshen(AAq:Bool)(v:AV)(s:St):Out AV:=match AAq with
 |true=> (match II v with
  |some xs=>.ok (.ref s.hp.n) ⟨s.loc,s.hp.add (.lst xs)⟩
  |none=>.ok v s)
 |false=>.ok v s
def Nt(c:Nat)(s:St):Option AV:=(look N.self s.loc).bind fun o=> (EV o).bind fun i=> (Jb (s.hp.f i)).bind fun p=> if p.1=c then some (.ref i)else none
section
variable(P:Prog)(cf:Nat->List AV->List (N×AV)->Hp->COut)
def endRun(n:Nat):COut->COut
 | .ok v h=> if isNone v=true then .ok (.ref n) h else .bad
 | .exc e h=>.exc e h
 | .bad=>.bad
def E7{α:Type}(o:Option α)(k:α->COut):COut:=match o with
 |some a=> k a
 |none=>.bad
def LG(cl:Cl)(c:Nat)(as:List AV)(ks:List (N×AV))(h:Hp):COut:=match cl.exc,cl.init with
 |true,_=>.bad
 |false,.BH _ _=> E7 (IP P cl (.ref h.n) as ks) fun r=>.ok (.obj c r) h
 |false,.run i=> endRun h.nI (cf i (.ref h.nI::as) ks (h.IH (.ins c [])))
def EF(f:AV)(as:List AV)(ks:List (N×AV))(h:Hp):COut:=match f with
 | .fn a=> cf a as ks h
 | .cls c=> E7 (P.cls c) fun cl=> LG P cf cl c as ks h
 |_=>.bad
def Ge(m:N):Bool:=[N.append,N.extend,N.pop,N.insert].contains m
def Nu(m:N):Bool:=[N.join,N.split,N.lstrip,N.rstrip,N.strip].contains m
def Jh(m:N)(c:Nat)(fs:List (N×AV)):Option (Option Nat):=match look m fs with
 |some _=> none
 |none=> match(P.cls c).bind (fun cl=> look m cl.attrs)with
  |some (.Ai f)=> some (some f)
  |_=> none
def LH(m:N):AObj->Option (Option Nat)
 | .ins c fs=> Jh P m c fs
 | .lst _=> if Ge m=true then some none else none
 | .Ap _=> none
def E8(h:Hp)(o:AV)(m:N):Option (Option Nat):=match o with
 | .ref r=> LH P m (h.f r)
 | .str _=> if Nu m=true then some none else none
 |_=> none
def Fu(k:Option Nat)(o:AV)(m:N)(as:List AV)(h:Hp):COut:=match k with
 |some f=> cf f (o::as) [] h
 |none=> E7 (Bv h o m as) fun p=>.ok p.1 p.2
def LI(h:Hp)(o:AV)(m:N):Option Nat:=(E8 P h o m).bind id
def A5(o:Out AV):Out Bool:=o.bind fun v s=> AO (truthy s.hp v) fun b=>.ok b s
mutual
noncomputable def Ad:CE->St->Out AV
 | .cst v,s=>.ok v s
 | .var x,s=> AO (look x s.loc) fun v=>.ok v s
 | .AD e a,s=> (Ad e s).bind fun o s=> AO (E5 P s.hp o a) fun v=>.ok v s
 | .app f as,s=> (Ad f s).bind fun fv s=> (Be as s).bind fun vs s=>
     (EF P cf fv vs [] s.hp).bind s.loc fun v s=>.ok v s
 | .E1 f as n k,s=> (Ad f s).bind fun fv s=> (Be as s).bind fun vs s=> (Ad k s).bind fun kv s=>
     (EF P cf fv vs [(n,kv)] s.hp).bind s.loc fun v s=>.ok v s
 | .AE e a as,s=> (Ad e s).bind fun o s=> AO (E8 P s.hp o a) fun k=> (Be as s).bind fun vs s=>
     (Fu cf k o a vs s.hp).bind s.loc fun v s=>.ok v s
 | .E3 e a as n x,s=> (Ad e s).bind fun o s=> AO (LI P s.hp o a) fun k=> (Be as s).bind fun vs s=> (Ad x s).bind fun kv s=>
     (cf k (o::vs) [(n,kv)] s.hp).bind s.loc fun v s=>.ok v s
 | .sup f c as,s=> AO (Nt c s) fun o=> (Be as s).bind fun vs s=> (cf f (o::vs) [] s.hp).bind s.loc fun v s=>.ok v s
 | .bi b as,s=> (Be as s).bind fun vs s=> AO (E6 s.hp b vs) fun v=>.ok v s
 | .CL e c,s=> (Ad e s).bind fun v s=> AO (Jg P v c) fun b=>.ok (.bool b) s
 | .isStr e,s=> (Ad e s).bind fun v s=> AO (BJ v) fun _=>.ok (.bool true) s
 | .bin op l r,s=> (Ad l s).bind fun a s=> (Ad r s).bind fun b s=> AO (binOp s.hp op a b) fun v=>.ok v s
 | .fmt l r,s=> (Ad l s).bind fun a s=> (Ad r s).bind fun b s=> AO (Nr a b) fun v=>.ok v s
 | .neg e,s=> (Ad e s).bind fun v s=> AO (A4 v) fun i=>.ok (.int (-i)) s
 | .nt e,s=> (Ad e s).bind fun v s=> AO (truthy s.hp v) fun b=>.ok (.bool (!b)) s
 | .A1 es,s=> LJ es s
 | .BY es,s=> LK es s
 | .cmp l rs,s=> (Ad l s).bind fun a s=> (Ji a rs s).bind fun b s=>.ok (.bool b) s
 | .ite t b o,s=> (An t s).bind fun c s=> if c=true then Ad b s else Ad o s
 | .tup es,s=> (Be es s).bind fun vs s=>.ok (.tup vs) s
 | .lst AAq es,s=> (Be es s).bind fun vs s=>
     if AAq=true then .ok (.ref s.hp.n) ⟨s.loc,s.hp.add (.lst vs)⟩else .ok (.Ah vs) s
 | .Ap ks,s=> (LL ks ⟨s.loc,s.hp.add (.Ap [])⟩).bind fun es t=> AO (Je t.hp s.hp.n es) fun h=>.ok (.ref s.hp.n) ⟨t.loc,h⟩
 | .sub e i,s=> (Ad e s).bind fun o s=> (Ad i s).bind fun k s=> AO (Cr s.hp o k) fun v=>.ok v s
 | .Bd AAq e lo hi,s=> (Ad e s).bind fun o s=> (LM lo s).bind fun l s=> (LM hi s).bind fun u s=>
     AO (E4 s.hp o l u) fun v=> freshen AAq v s
 | .BZ,_=>.bad
noncomputable def Be:List CE->St->Out (List AV)
 | [],s=>.ok [] s
 |e::r,s=> (Ad e s).bind fun v s=> (Be r s).bind fun vs s=>.ok (v::vs) s
noncomputable def LL:List (AV×CE)->St->Out (List (AV×AV))
 | [],s=>.ok [] s
 |(n,e)::r,s=> (Ad e s).bind fun v s=> (LL r s).bind fun vs s=>.ok ((n,v)::vs) s
noncomputable def LM:Option CE->St->Out AV
 |none,s=>.ok .none s
 |some e,s=> Ad e s
noncomputable def LJ:List CE->St->Out AV
 | [],_=>.bad
 | [e],s=> Ad e s
 |e::e'::r,s=> (Ad e s).bind fun v s=> AO (truthy s.hp v) fun b=> if b=true then LJ (e'::r) s else .ok v s
noncomputable def LK:List CE->St->Out AV
 | [],_=>.bad
 | [e],s=> Ad e s
 |e::e'::r,s=> (Ad e s).bind fun v s=> AO (truthy s.hp v) fun b=> if b=true then .ok v s else LK (e'::r) s
noncomputable def Ji(a:AV):List (COp×CE)->St->Out Bool
 | [],_=>.bad
 | [(op,e)],s=> (Ad e s).bind fun b s=> AO (BK s.hp op a b) fun c=>.ok c s
 |(op,e)::x::r,s=> (Ad e s).bind fun b s=> AO (BK s.hp op a b) fun c=> if c=true then Ji b (x::r) s else .ok false s
noncomputable def An:CE->St->Out Bool
 | .nt e,s=> (An e s).bind fun b s=>.ok (!b) s
 | .A1 es,s=> LN es s
 | .BY es,s=> LO es s
 | .ite t b o,s=> (An t s).bind fun c s=> if c=true then An b s else An o s
 | .cmp l rs,s=> (Ad l s).bind fun a s=> Ji a rs s
 | .cst v,s=> A5 (.ok v s)
 | .var x,s=> A5 (AO (look x s.loc) fun v=>.ok v s)
 | .AD e a,s=> A5 ((Ad e s).bind fun o s=> AO (E5 P s.hp o a) fun v=>.ok v s)
 | .AE e a as,s=> A5 ((Ad e s).bind fun o s=> AO (E8 P s.hp o a) fun k=> (Be as s).bind fun vs s=> (Fu cf k o a vs s.hp).bind s.loc fun v s=>.ok v s)
 | .app f as,s=> A5 ((Ad f s).bind fun fv s=> (Be as s).bind fun vs s=> (EF P cf fv vs [] s.hp).bind s.loc fun v s=>.ok v s)
 | .CL e c,s=> A5 ((Ad e s).bind fun v s=> AO (Jg P v c) fun b=>.ok (.bool b) s)
 | .isStr e,s=> A5 ((Ad e s).bind fun v s=> AO (BJ v) fun _=>.ok (.bool true) s)
 | .sub e i,s=> A5 ((Ad e s).bind fun o s=> (Ad i s).bind fun k s=> AO (Cr s.hp o k) fun v=>.ok v s)
 |_,_=>.bad
noncomputable def LN:List CE->St->Out Bool
 | [],s=>.ok true s
 |e::r,s=> (An e s).bind fun b s=> if b=true then LN r s else .ok false s
noncomputable def LO:List CE->St->Out Bool
 | [],s=>.ok false s
 |e::r,s=> (An e s).bind fun b s=> if b=true then .ok true s else LO r s
end
end
def Zs(h:Hp)(b:AV):AV->Option (AV×Hp)
 | .int x=> (A4 b).map fun y=> (.int (x+y),h)
 | .str x=> (BJ b).bind fun y=> (ck (x.length+y.length) (.str (x++y))).map fun v=> (v,h)
 | .ref r=> (CY (h.f r)).bind fun xs=> (Dv h b).bind fun ys=> ck (xs.length+ys.length) (.ref r,h.set r (.lst (xs++ys)))
 |_=> none
def DC(h:Hp)(op:BOp)(a b:AV):Option (AV×Hp):=match op with
 | .add=> Zs h b a
 | .sub=> (A4 a).bind fun x=> (A4 b).map fun y=> (.int (x - y),h)
 |_=> none
def putAll:List N->List AV->List (N×AV)->Option (List (N×AV))
 | [],[],l=> some l
 |x::xs,v::vs,l=> putAll xs vs (put x v l)
 |_,_,_=> none
def DZ(x:N):List (N×AV)->List (N×AV)
 | []=>[]
 |(y,v)::r=> if y=x then DZ x r else(y,v)::DZ x r
theorem Zt{x y:N}{v:AV}{r:List (N×AV)}:DZ x ((y,v)::r)=if y=x then DZ x r else(y,v)::DZ x r:=rfl
section
def Bb(test:St->Out Bool)(body:St->Out Flow):Nat->St->Out Flow
 |0,_=>.bad
 |n+1,s=> (test s).bind fun b s=> if b=true then
   (body s).bind fun f s=> match f with
     | .next=> Bb test body n s
     | .cont=> Bb test body n s
     | .brk=>.ok .next s
     | .ret v=>.ok (.ret v) s
  else .ok .next s
def Bf(asg:AV->St->Out Unit)(body:St->Out Flow):List AV->St->Out Flow
 | [],s=>.ok .next s
 |v::r,s=> (asg v s).bind fun _ s=> (body s).bind fun f s=> match f with
    | .next=> Bf asg body r s
    | .cont=> Bf asg body r s
    | .brk=>.ok .next s
    | .ret v=>.ok (.ret v) s
variable(P:Prog)(fu:Nat)(cf:Nat->List AV->List (N×AV)->Hp->COut)
def E9(t:CT)(v:AV)(s:St):Out Unit:=match t with
 | .name x=>.ok () ⟨put x v s.loc,s.hp⟩
 | .AD e a=> (Ad P cf e s).bind fun o s=> AO (setAt P s.hp o a v) fun h=>.ok () ⟨s.loc,h⟩
 | .sub e i=> (Ad P cf e s).bind fun o s=> (Ad P cf i s).bind fun k s=> AO (HT s.hp o k v) fun h=>.ok () ⟨s.loc,h⟩
 | .tup xs=> AO (ED v) fun vs=> AO (putAll xs vs s.loc) fun l=>.ok () ⟨l,s.hp⟩
def R7(t:CT)(op:BOp)(e:CE)(s:St):Out Flow:=match t with
 | .name x=> AO (look x s.loc) fun old=> (Ad P cf e s).bind fun v s=> AO (DC s.hp op old v) fun r=>.ok .next ⟨put x r.1 s.loc,r.2⟩
 | .AD o a=> (Ad P cf o s).bind fun ov s=> AO (E5 P s.hp ov a) fun old=> (Ad P cf e s).bind fun v s=>
     AO (DC s.hp op old v) fun r=> AO (setAt P r.2 ov a r.1) fun h=>.ok .next ⟨s.loc,h⟩
 | .sub o i=> (Ad P cf o s).bind fun ov s=> (Ad P cf i s).bind fun k s=> AO (Cr s.hp ov k) fun old=> (Ad P cf e s).bind fun v s=>
     AO (DC s.hp op old v) fun r=> AO (HT r.2 ov k r.1) fun h=>.ok .next ⟨s.loc,h⟩
 | .tup _=>.bad
def Nv:AV->Option (List AV)
 | .tup xs=> some xs
 | .Ah xs=> some xs
 | .str s=> some (s.map fun c=>.str [c])
 |_=> none
def EX(t:List Nat):List AV:=(t.zipIdx 0).map fun p=>.tup [.int p.2,.str [p.1]]
def IQ(src:CSrc)(s:St):Out (List AV):=match src with
 | .it e=> (Ad P cf e s).bind fun v s=> AO (Nv v) fun xs=>.ok xs s
 | .keys e=> (Ad P cf e s).bind fun v s=> AO (keysOf s.hp v) fun xs=>.ok xs s
 | .Fm as=> (Be P cf as s).bind fun vs s=> AO (LF vs) fun xs=>.ok xs s
 | .enum e=> (Ad P cf e s).bind fun v s=> AO (BJ v) fun t=>.ok (EX t) s
mutual
noncomputable def As:CS->St->Out Flow
 | .expr e,s=> (Ad P cf e s).bind fun _ s=>.ok .next s
 | .asg t e,s=> (Ad P cf e s).bind fun v s=> (E9 P cf t v s).bind fun _ s=>.ok .next s
 | .aug t op e,s=> R7 P cf t op e s
 | .ret none,s=>.ok (.ret .none) s
 | .ret (some e),s=> (Ad P cf e s).bind fun v s=>.ok (.ret v) s
 | .ifs t b o,s=> (An P cf t s).bind fun c s=> if c=true then AU b s else AU o s
 | .BW t b,s=> Bb (fun s=> An P cf t s) (fun s=> AU b s) fu s
 | .CV t src b,s=> (IQ P cf src s).bind fun xs s=> Bf (fun v s=> E9 P cf t v s) (fun s=> AU b s) xs s
 | .HO c as,s=> (Be P cf as s).bind fun vs s=> AO (excOf P c (.ref s.hp.n) vs) fun r=>.exc (.obj c r) s
 | .Ga b c x h,s=> match AU b s with
   | .ok f s=>.ok f s
   | .exc e s=> if Gd P e c=true then(AU h ⟨put x e s.loc,s.hp⟩).bind fun f s=>.ok f ⟨DZ x s.loc,s.hp⟩else .bad
   | .bad=>.bad
 | .HP b,s=> match AU b s with
   | .ok f s=>.ok f s
   |_=>.bad
 | .del e i,s=> (Ad P cf e s).bind fun o s=> (Ad P cf i s).bind fun k s=> AO (LB s.hp o k) fun h=>.ok .next ⟨s.loc,h⟩
 | .BZ,_=>.bad
 | .pass,s=>.ok .next s
 | .brk,s=>.ok .brk s
 | .cont,s=>.ok .cont s
noncomputable def AU:List CS->St->Out Flow
 | [],s=>.ok .next s
 |c::r,s=> (As c s).bind fun f s=> match f with
  | .next=> AU r s
  | .brk=>.ok .brk s
  | .cont=>.ok .cont s
  | .ret v=>.ok (.ret v) s
end
end
def Dw:Out Flow->COut
 | .ok (.ret v) s=>.ok v s.hp
 | .ok _ s=>.ok .none s.hp
 | .exc e s=>.exc e s.hp
 | .bad=>.bad
def AB(P:Prog)(fu:Nat):Nat->Nat->List AV->List (N×AV)->Hp->COut
 |0,_,_,_,_=>.bad
 |d+1,f,as,ks,h=> E7 (P.fns f) fun fn=> E7 (EW fn as ks) fun loc=> Dw (AU P fu (AB P fu d) fn.body ⟨loc,h⟩)
def Cj{α:Type}:List (Nat×α)->Nat->Option α
 | [],_=> none
 |p::r,a=> match wh p.1 a with
  |true=> some p.2
  |false=> Cj r a
def progOf(DD:List (Nat×Fn))(Al:List (Nat×Cl))(BP:List Nat):Prog:=⟨Cj DD,Cj Al,BP⟩
end
section
open PySem
def Gf:Nat->Nat->List Nat
 |0,_=>[]
 |f+1,n=> if n=0 then []else(n % 256)::Gf f (n / 256)
def Nw:List Nat->Nat
 | []=> 0
 |c::r=> c+256 * Nw r
theorem Zu{f n:Nat}:Gf (f+1) n=if n=0 then []else(n % 256)::Gf f (n / 256):=rfl
theorem Ny:∀(f n:Nat),n<=f->Nw (Gf f n)=n
 |0=>@fun n h=> by cases Nat.le_zero.mp h;rfl
 |f+1=>@fun n h=> by
  rw [Zu];by_cases z:n=0
  . rw [if_pos z,z];rfl
  . rw [if_neg z];show n % 256+256 * Nw (Gf f (n / 256))=n;rw [Ny f (n / 256) (by lia)];exact Nat.mod_add_div ..
def Jj(x:N):List Nat:=(Gf x x).reverse
def nm(x:N):vz:=⟨(Jj x).toArray⟩
theorem IT{x y:N}(h:nm x=nm y):x=y:=by
 have h1:Jj x=Jj y:=congrArg (fun s:vz=> s.cps.toList) h;have h2:Gf x x=Gf y y:=by have:=congrArg List.reverse h1;simpa [Jj]using this
 rw [<-Ny x x (wW _),<-Ny y y (wW _),h2]
theorem R8(x:AObj):∀(l:List AObj) (k:Nat),(Cu l k x).length=l.length
 | [],_=> rfl
 |_::_,0=> rfl
 |_::r,k+1=> congrArg (· +1) (R8 x r k)
theorem Nz(x:AObj):∀(l:List AObj) (k j:Nat),k<l.length->CD (Cu l k x) j=if j=k then x else CD l j
 |o::r,0,j,_=> by cases j<;>rfl
 |o::r,k+1,0,_=> rfl
 |o::r,k+1,j+1,h=> by
  show CD (Cu r k x) j=if j+1=k+1 then x else CD r j
  rw [Nz x r k j (Nat.lt_of_succ_lt_succ h)];simp only [AAR]
theorem FA(x:AObj):∀(l:List AObj) (j:Nat),CD (l++[x]) j=if j=l.length then x else CD l j
 | [],0=> rfl
 | [],j+1=> rfl
 |o::r,0=> rfl
 |o::r,j+1=> by
  show CD (r++[x]) j=if j+1=r.length+1 then x else CD r j
  rw [FA x r j];simp only [AAR]
theorem R9(a b:AObj):∀(l:List AObj) (k:Nat),Cu (Cu l k a) k b=Cu l k b
 | [],_=> rfl
 |_::_,0=> rfl
 |o::r,k+1=> congrArg (o::·) (R9 a b r k)
theorem SA:∀(l:List AObj) (k:Nat),Cu l k (CD l k)=l
 | [],_=> rfl
 |_::_,0=> rfl
 |o::r,k+1=> congrArg (o::·) (SA r k)
theorem Hp.Jk(h:Hp)(i:Nat)(x:AObj):(h.set i x).lv=h.lv:=by
 funext j
 unfold Hp.lv Hp.set;cases i % 2<;>cases j % 2<;>simp only [Hp.JZ,Hp.row,R8]
theorem SD{i j:Nat}(h:j % 2=i % 2):(j / 2=i / 2)=(j=i):=propext ⟨fun e=> by lia,fun e=> by rw [e]⟩
theorem Hp.LP{h:Hp}{i:Nat}(x:AObj)(l:h.lv i)(j:Nat):(h.set i x).f j=if j=i then x else h.f j:=by
 have pi:i % 2=0∨i % 2=1:=by exact yF _
 have pj:j % 2=0∨j % 2=1:=by exact yF _
 unfold Hp.lv at l;unfold Hp.f Hp.set;rcases pi with pi |pi<;>rcases pj with pj |pj<;>rw [pi]at l⊢<;>rw [pj]
 . show CD (Cu h.lo (i / 2) x) (j / 2)=_;rw [Nz x h.lo _ _ l];simp only [SD (pj.trans pi.symm)];rfl
 . rw [if_neg (fun e=> by rw [e]at pj;lia)];rfl
 . rw [if_neg (fun e=> by rw [e]at pj;lia)];rfl
 . show CD (Cu h.hi (i / 2) x) (j / 2)=_;rw [Nz x h.hi _ _ l];simp only [SD (pj.trans pi.symm)];rfl
theorem Hp.set_set(h:Hp)(i:Nat)(a b:AObj):(h.set i a).set i b=h.set i b:=by unfold Hp.set;cases i % 2<;>simp only [Hp.JZ,R9]
theorem Hp.Zv{h:Hp}{i:Nat}{o:AObj}(e:h.f i=o):h.set i o=h:=by subst e;unfold Hp.set Hp.f;cases i % 2<;>simp only [Hp.JZ,Hp.row,SA]
structure Hp.Dc(h h':Hp)(k:Nat)(x:AObj):Prop where
 nl:¬h.lv k
 lv:h'.lv=fun j=> h.lv j∨j=k
 f:∀j,h'.f j=if j=k then x else h.f j
theorem Hp.Dc.at{h h':Hp}{k:Nat}{x:AObj}(g:h.Dc h' k x):h'.f k=x:=(g.f k).trans (if_pos rfl)
theorem Hp.Dc.old{h h':Hp}{k j:Nat}{x:AObj}(g:h.Dc h' k x)(l:h.lv j):h'.f j=h.f j:=(g.f j).trans (if_neg fun(e:j=k)=> g.nl (e▸l))
theorem Hp.Dc.N0{h h':Hp}{k:Nat}{x:AObj}(g:h.Dc h' k x):h'.lv k:=by rw [g.lv];exact .inr rfl
theorem Zw(lo hi:List AObj)(x:AObj):Hp.Dc ⟨lo,hi⟩ ⟨lo++[x],hi⟩ (2 * lo.length) x:=by
 have e1:2 * lo.length % 2=0:=by exact Zb _
 have e2:2 * lo.length / 2=lo.length:=by exact Zc _
 refine⟨fun l=> ?_,?_,fun j=> ?_⟩
 . unfold Hp.lv at l;rw [e1,e2]at l;exact Nat.lt_irrefl _ l
 . funext j
   unfold Hp.lv;have pj:j % 2=0∨j % 2=1:=by exact yF _
   rcases pj with pj |pj<;>rw [pj]
   . show(j / 2<(lo++[x]).length)=(j / 2<lo.length∨_);rw [v9];exact propext ⟨fun e=> by have:j / 2<lo.length+1:=e;lia,fun e=> by show j / 2<lo.length+1;lia⟩
   . exact propext ⟨.inl,fun e=> e.elim id fun e=> by lia⟩
 . unfold Hp.f;have pj:j % 2=0∨j % 2=1:=by exact yF _
   rcases pj with pj |pj<;>rw [pj]
   . show CD (lo++[x]) (j / 2)=_;rw [FA];by_cases q:j / 2=lo.length
     . rw [if_pos q,if_pos (by lia)]
     . rw [if_neg q,if_neg (by lia)];rfl
   . rw [if_neg (by lia)];rfl
theorem SE(lo hi:List AObj)(x:AObj):Hp.Dc ⟨lo,hi⟩ ⟨lo,hi++[x]⟩ (2 * hi.length+1) x:=by
 have e1:(2 * hi.length+1) % 2=1:=by exact Nd _
 have e2:(2 * hi.length+1) / 2=hi.length:=by exact Nf _
 refine⟨fun l=> ?_,?_,fun j=> ?_⟩
 . unfold Hp.lv at l;rw [e1,e2]at l;exact Nat.lt_irrefl _ l
 . funext j
   unfold Hp.lv;have pj:j % 2=0∨j % 2=1:=by exact yF _
   rcases pj with pj |pj<;>rw [pj]
   . exact propext ⟨.inl,fun e=> e.elim id fun e=> by lia⟩
   . show(j / 2<(hi++[x]).length)=(j / 2<hi.length∨_);rw [v9];exact propext ⟨fun e=> by have:j / 2<hi.length+1:=e;lia,fun e=> by show j / 2<hi.length+1;lia⟩
 . unfold Hp.f;have pj:j % 2=0∨j % 2=1:=by exact yF _
   rcases pj with pj |pj<;>rw [pj]
   . rw [if_neg (by lia)];rfl
   . show CD (hi++[x]) (j / 2)=_;rw [FA];by_cases q:j / 2=hi.length
     . rw [if_pos q,if_pos (by lia)]
     . rw [if_neg q,if_neg (by lia)];rfl
theorem Hp.Zx(h:Hp)(x:AObj):h.Dc (h.IH x) h.nI x:=SE h.lo h.hi x
theorem Hp.LQ(h:Hp)(x:AObj):h.Dc (h.add x) h.n x:=by
 obtain⟨lo,hi⟩:=h;cases hi with
 |nil=> exact Zw lo [] x
 |cons o r=> exact SE lo (o::r) x
end
section
def AF(s:List Nat):vz:=⟨s.toArray⟩
def Gg:COp->CmpOp
 | .eq=>.Eq | .ne=>.NotEq | .lt=>.Lt | .le=>.LtE | .gt=>.Gt | .ge=>.GtE | .A9=>.In | .EB=>.NotIn | .Ja=>.Is | .Ng=>.IsNot
def Fv:BOp->Operator
 | .add=>.Add | .sub=>.Sub | .mul=>.Mult | .div=>.FloorDiv | .mod=>.Mod
def noStar:Expr->Bool
 | .Starred _ _=> false
 |_=> true
def HU:Expr->Bool
 | .Slice .. => false
 |_=> true
def EY:Expr->Bool
 | .ListComp .. => false
 | .SetComp .. => false
 | .DictComp .. => false
 |_=> true
def Dx:Expr->Bool
 | .Name .. => true
 | .Attribute .. => true
 | .Subscript .. => true
 |_=> false
def Jl:Expr->Bool
 | .Set .. => false
 |_=> true
def FC(ps:List (N×Pos)):List Expr:=ps.map fun p=>.Name (nm p.1) p.2
def N5(v:Expr):Bool:=match v with
 | .Tuple vs _ _=> vs.all (foldedForSure 8)
 |_=> true
def IU(ts:List Expr)(v:Expr):Bool:=match v with
 | .Tuple vs _ _=> wh vs.length 2&&vs.all noStar&& !(vs.all (foldedForSure 8))&& !(vs.all (constantsAlone 8))&&(match ts with
   | [.Name x p,.Name y q]=> q.line==p.line&& !(x==y)
   |_=> false)
 |_=> false
def allB:List Bool->Bool
 | []=> true
 |b::r=> b&&allB r
def excIn(K:Frag)(C:Addr):Bool:=match K.lookup C with
 |some ⟨_,_,.cls cd,sl⟩=> allB [(sl.toList[4]?).join==some (.builtin "Exception.__new__"),!cd.mro.isEmpty,!cd.hasDel,cd.mro.contains (.ref C),cd.mro.contains (.type "Exception"),!cd.mro.contains (.type "AttributeError"),!cd.mro.contains (.type "NameError"),
   specialIn K (.ref C) "__call__"==some (some (.builtin "type.__call__")),instIn K (.ref C) (.type "type")==some true]
 |_=> false
def IV:List R5->Bool
 | []=> false
 |a::r=> match a with
  | .ref _=> IV r
  |_=> (a::r)==[.type "Exception",.type "BaseException",.type "object"]
def HV(K:Frag)(C:Addr):Bool:=(clsIn K C).any fun cd=> IV cd.mro
def Cd:List Nat->List Nat->Bool
 | [],b=> b.isEmpty
 |a::r,b=> match b with
  | []=> false
  |c::t=> wh a c&&Cd r t
def isNm(x:vz)(n:N):Bool:=Cd x.cps.toList (Jj n)
def IW:List (vz×yE)->List Nat->Option yE
 | [],_=> none
 |p::r,l=> match Cd p.1.cps.toList l with
  |true=> some p.2
  |false=> IW r l
def LR:List Nat:=[95,95,100,101,98,117,103,95,95]
def N6(l:List Nat):Bool:=wX l.length lim&&l.all fun c=> Nat.blt c 1114112
def Gh{α:Type}(b:Bool)(o:Option α):Option α:=match b with
 |true=> o
 |false=> none
def N7:Option yE->Bool
 |some .local=> true
 |_=> false
def SG:Option yE->Bool
 |some .globalImplicit=> true
 |_=> false
def N8(o:Expr):Bool:=match o with | .Call (.Name _ _) [] [] _=> false |_=> true
def N9(o:Option (Option R5))(a:Nat):Bool:=match o with
 |some (some (.ref b))=> wh b a
 |_=> false
def SH:Option (Option R5)->Bool
 |some none=> true
 |_=> false
def OA:List Nat:=[108,101,110]
def OB:List Nat:=[105,110,116]
def OC:List Nat:=[108,105,115,116]
def OD:List Nat:=[115,116,114]
def Jm:List Nat:=[105,115,105,110,115,116,97,110,99,101]
def OE:List Nat:=[114,97,110,103,101]
def OF:List Nat:=[101,110,117,109,101,114,97,116,101]
def DE(sc:xC)(x:N):Bool:=N7 (IW sc.names (nm x).cps.toList)&& !(Cd (nm x).cps.toList LR)
section
variable(sc:xC)(gl:vz->Option (Option R5))
def LS(l:List Nat):Bool:=SG (IW sc.names l)&& !(Cd l LR)
def FD(y:vz)(b:Nat):Bool:=LS sc y.cps.toList&&N9 (gl y) b
def Fw(l:List Nat):Bool:=LS sc l&&SH (gl ⟨l.toArray⟩)
end
inductive PT where
 |nd (p:Pos) (k:Nat) (y:vz) (cs:List PT) (x:Expr)
def PT.p:PT->Pos
 | .nd p _ _ _ _=> p
def PT.k:PT->Nat
 | .nd _ k _ _ _=> k
def PT.y:PT->vz
 | .nd _ _ y _ _=> y
def PT.cs:PT->List PT
 | .nd _ _ _ cs _=> cs
def PT.x:PT->Expr
 | .nd _ _ _ _ x=> x
def LU:List PT->Nat->PT
 | [],_=>.nd ⟨0,0,0,0⟩ 0 we [] (.Name we ⟨0,0,0,0⟩)
 |t::_,0=> t
 |_::r,i+1=> LU r i
def PT.AL(t:PT)(i:Nat):PT:=LU t.cs i
def PT.IX:PT:=LU [] 0
def BM:Nat->Expr->PT
 |0,e=>.nd ⟨0,0,0,0⟩ 0 we [] e
 |n+1,e=> match e with
  | .Constant _ k p=>.nd p k we [] e
  | .Name y p=>.nd p 0 y [] e
  | .Attribute o y p=>.nd p 0 y [BM n o] e
  | .Call g as ks p=>.nd p 0 we (BM n g::(as.map (BM n)++ks.map fun k=>.nd k.pos 0 we [BM n k.value] e)) e
  | .UnaryOp _ a p=>.nd p 0 we [BM n a] e
  | .BinOp l _ r p=>.nd p 0 we [BM n l,BM n r] e
  | .BoolOp _ es p=>.nd p 0 we (es.map (BM n)) e
  | .Compare l _ es p=>.nd p 0 we (BM n l::es.map (BM n)) e
  | .IfExp t b o p=>.nd p 0 we [BM n t,BM n b,BM n o] e
  | .Tuple es k p=>.nd p k we (es.map (BM n)) e
  | .List es p=>.nd p 0 we (es.map (BM n)) e
  | .Dict xs ys p=>.nd p 0 we [.nd p 0 we (xs.map fun o=> (o.map (BM n)).getD .IX) e,.nd p 0 we (ys.map (BM n)) e] e
  | .Subscript c i p=>.nd p 0 we [BM n c,BM n i] e
  | .Slice lo hi _ p=>.nd p 0 we [(lo.map (BM n)).getD .IX,(hi.map (BM n)).getD .IX] e
  |_=>.nd ⟨0,0,0,0⟩ 0 we [] e
def Jn(v:AV)(t:PT):Expr:=match v with
 | .none=>.Constant .none t.k t.p
 | .bool b=>.Constant (.bool b) t.k t.p
 | .int i=>.Constant (.int i) t.k t.p
 | .str s=>.Constant (.str (AF s)) t.k t.p
 |_=>.Name t.y t.p
def OG(f:CE)(t:PT):vz:=match f with
 | .var x=> nm x
 |_=> t.y
def SI:BI->List Nat
 | .len=> OA
 | .int=> OB
 | .list=> OC
 |_=>[]
def LV:List (AV×CE)->PT->Nat->List (Option Expr)
 | [],_,_=>[]
 |p::r,t,i=> some (Jn p.1 (t.AL i))::LV r t (i+1)
abbrev HW(l:List Nat)(p:Pos):Expr:=.Name ⟨l.toArray⟩ p
mutual
noncomputable def Ag:CE->PT->Expr
 | .cst v,t=> Jn v t
 | .var x,t=>.Name (nm x) t.p
 | .AD e a,t=>.Attribute (Ag e (t.AL 0)) (nm a) t.p
 | .app f as,t=>.Call (.Name (OG f (t.AL 0)) (t.AL 0).p) (BN as t 1) [] t.p
 | .E1 f as n k,t=>.Call (.Name (OG f (t.AL 0)) (t.AL 0).p) (BN as t 1) [⟨some (nm n),Ag k ((t.AL (as.length+1)).AL 0),(t.AL (as.length+1)).p⟩] t.p
 | .AE e a as,t=>.Call (.Attribute (Ag e ((t.AL 0).AL 0)) (nm a) (t.AL 0).p) (BN as t 1) [] t.p
 | .E3 e a as n k,t=>.Call (.Attribute (Ag e ((t.AL 0).AL 0)) (nm a) (t.AL 0).p) (BN as t 1) [⟨some (nm n),Ag k ((t.AL (as.length+1)).AL 0),(t.AL (as.length+1)).p⟩] t.p
 | .sup _ _ _,t=>.Name t.y t.p
 | .bi b as,t=>.Call (HW (SI b) (t.AL 0).p) (BN as t 1) [] t.p
 | .CL e _,t=>.Call (HW Jm (t.AL 0).p) [Ag e (t.AL 1),.Name (t.AL 2).y (t.AL 2).p] [] t.p
 | .isStr e,t=>.Call (HW Jm (t.AL 0).p) [Ag e (t.AL 1),HW OD (t.AL 2).p] [] t.p
 | .bin op l r,t=>.BinOp (Ag l (t.AL 0)) (Fv op) (Ag r (t.AL 1)) t.p
 | .fmt l r,t=>.BinOp (Ag l (t.AL 0)) .Mod (Ag r (t.AL 1)) t.p
 | .neg e,t=>.UnaryOp .USub (Ag e (t.AL 0)) t.p
 | .nt e,t=>.UnaryOp .Not (Ag e (t.AL 0)) t.p
 | .A1 es,t=>.BoolOp .And (BN es t 0) t.p
 | .BY es,t=>.BoolOp .Or (BN es t 0) t.p
 | .cmp l rs,t=>.Compare (Ag l (t.AL 0)) (rs.map fun p=> Gg p.1) (LW rs t 1) t.p
 | .ite c b o,t=>.IfExp (Ag c (t.AL 0)) (Ag b (t.AL 1)) (Ag o (t.AL 2)) t.p
 | .tup es,t=>.Tuple (BN es t 0) t.k t.p
 | .lst _ es,t=>.List (BN es t 0) t.p
 | .Ap ks,t=>.Dict (LV ks (t.AL 0) 0) (OH ks (t.AL 1) 0) t.p
 | .sub e i,t=>.Subscript (Ag e (t.AL 0)) (Ag i (t.AL 1)) t.p
 | .Bd _ e lo hi,t=>.Subscript (Ag e (t.AL 0)) (.Slice (LX lo ((t.AL 1).AL 0)) (LX hi ((t.AL 1).AL 1)) none (t.AL 1).p) t.p
 | .BZ,t=> t.x
noncomputable def BN:List CE->PT->Nat->List Expr
 | [],_,_=>[]
 |c::r,t,i=> Ag c (t.AL i)::BN r t (i+1)
noncomputable def LW:List (COp×CE)->PT->Nat->List Expr
 | [],_,_=>[]
 |(_,c)::r,t,i=> Ag c (t.AL i)::LW r t (i+1)
noncomputable def OH:List (AV×CE)->PT->Nat->List Expr
 | [],_,_=>[]
 |(_,c)::r,t,i=> Ag c (t.AL i)::OH r t (i+1)
noncomputable def LX:Option CE->PT->Option Expr
 |none,_=> none
 |some c,t=> some (Ag c t)
end
section
variable(sc:xC)(gl:vz->Option (Option R5))
def Gi(v:AV):Bool:=match v with
 | .none=> true
 | .bool _=> true
 | .int _=> true
 | .str s=> N6 s
 |_=> false
def OI(v:AV)(t:PT):Bool:=match v with
 | .cls b=> FD sc gl t.y b
 | .fn b=> FD sc gl t.y b
 |v=> Gi v
def OJ(f:CE)(t:PT):Bool:=match f with
 | .var x=> DE sc x
 | .cst (.fn b)=> FD sc gl t.y b
 | .cst (.cls b)=> FD sc gl t.y b
 | .BZ=> true
 |_=> false
def SJ:BI->Bool
 | .len=> Fw sc gl OA
 | .int=> Fw sc gl OB
 | .list=> Fw sc gl OC
 |_=> false
mutual
noncomputable def Aq:CE->PT->Bool
 | .cst v,t=> OI sc gl v t
 | .var x,t=> DE sc x
 | .AD e a,t=> Aq e (t.AL 0)&&N8 (Ag e (t.AL 0))
 | .app f as,t=> Cw as t 1&&(OJ sc gl f (t.AL 0)&&(BN as t 1).all noStar)
 | .E1 f as n k,t=> Cw as t 1&&(Aq k ((t.AL (as.length+1)).AL 0)&&(OJ sc gl f (t.AL 0)&&(BN as t 1).all noStar))
 | .AE e a as,t=> Cw as t 1&&(Aq e ((t.AL 0).AL 0)&&(N8 (Ag e ((t.AL 0).AL 0))&&(((t.AL 0).p.endLine==t.p.line)&&((BN as t 1).all noStar&&wX (BN as t 1).length 27))))
 | .E3 e a as n k,t=> Aq k ((t.AL (as.length+1)).AL 0)&&(Cw as t 1&&(Aq e ((t.AL 0).AL 0)&&(N8 (Ag e ((t.AL 0).AL 0))&&(((t.AL 0).p.endLine==t.p.line)&&((BN as t 1).all noStar&&wX (BN as t 1).length 27)))))
 | .sup _ _ _,_=> false
 | .bi b as,t=> Cw as t 1&&(SJ sc gl b&&(BN as t 1).all noStar)
 | .CL e c,t=> Aq e (t.AL 1)&&(Fw sc gl Jm&&(noStar (Ag e (t.AL 1))&&FD sc gl (t.AL 2).y c))
 | .isStr e,t=> Aq e (t.AL 1)&&(Fw sc gl Jm&&(noStar (Ag e (t.AL 1))&&Fw sc gl OD))
 | .bin op l r,t=> Aq l (t.AL 0)&&Aq r (t.AL 1)
 | .fmt l r,t=> Aq l (t.AL 0)&&Aq r (t.AL 1)
 | .neg e,t=> Aq e (t.AL 0)
 | .nt e,t=> Aq e (t.AL 0)
 | .A1 es,t=> Cw es t 0
 | .BY es,t=> Cw es t 0
 | .cmp l rs,t=> Aq l (t.AL 0)&&(OL rs t 1&&((!rs.isEmpty)&& !(lastMarks (rs.map fun p=> Gg p.1) (LW rs t 1))))
 | .ite c b o,t=> Aq c (t.AL 0)&&(Aq b (t.AL 1)&&Aq o (t.AL 2))
 | .tup es,t=> Cw es t 0&&((BN es t 0).all noStar&&wX es.length 1000)
 | .lst _ es,t=> Cw es t 0&&((BN es t 0).all noStar&&wX es.length 1000)
 | .Ap ks,t=> OM ks (t.AL 1) 0&&(wX ks.length 15&&ks.all fun p=> Gi p.1)
 | .sub e i,t=> Aq e (t.AL 0)&&(Aq i (t.AL 1)&&HU (Ag i (t.AL 1)))
 | .Bd _ e lo hi,t=> Aq e (t.AL 0)&&(LY lo ((t.AL 1).AL 0)&&LY hi ((t.AL 1).AL 1))
 | .BZ,_=> true
noncomputable def Cw:List CE->PT->Nat->Bool
 | [],_,_=> true
 |c::r,t,i=> Aq c (t.AL i)&&Cw r t (i+1)
noncomputable def OL:List (COp×CE)->PT->Nat->Bool
 | [],_,_=> true
 |(_,c)::r,t,i=> Aq c (t.AL i)&&OL r t (i+1)
noncomputable def OM:List (AV×CE)->PT->Nat->Bool
 | [],_,_=> true
 |(_,c)::r,t,i=> Aq c (t.AL i)&&OM r t (i+1)
noncomputable def LY:Option CE->PT->Bool
 |none,_=> true
 |some c,t=> Aq c t
end
end
inductive PS where
 |nd (p:Pos) (es:List PT) (hs:List ym) (b o:List PS) (x:Stmt)
def PS.p:PS->Pos
 | .nd p _ _ _ _ _=> p
def PS.e(t:PS)(i:Nat):PT:=match t with
 | .nd _ es _ _ _ _=> LU es i
def PS.hs:PS->List ym
 | .nd _ _ hs _ _ _=> hs
def PS.b:PS->List PS
 | .nd _ _ _ b _ _=> b
def PS.o:PS->List PS
 | .nd _ _ _ _ o _=> o
def PS.x:PS->Stmt
 | .nd _ _ _ _ _ x=> x
def Ck:List PS->PS
 | []=>.nd ⟨0,0,0,0⟩ [] [] [] [] (.Pass ⟨0,0,0,0⟩)
 |t::_=> t
def ON(o:Option Expr):PT:=(o.map (BM 60)).getD .IX
def HX:Nat->Stmt->PS
 |0,s=>.nd ⟨0,0,0,0⟩ [] [] [] [] s
 |n+1,s=> match s with
  | .Expr e p=>.nd p [BM 60 e] [] [] [] s
  | .Assign ts v p=>.nd p [(ts.map (BM 60)).headD .IX,BM 60 v] [] [] [] s
  | .AugAssign t _ v p=>.nd p [BM 60 t,BM 60 v] [] [] [] s
  | .Return o p=>.nd p [ON o] [] [] [] s
  | .If c b o p=>.nd p [BM 60 c] [] (b.map (HX n)) (o.map (HX n)) s
  | .While c b _ p=>.nd p [BM 60 c] [] (b.map (HX n)) [] s
  | .For g e b _ p=>.nd p [BM 60 g,BM 60 e] [] (b.map (HX n)) [] s
  | .Raise e _ p=>.nd p [ON e] [] [] [] s
  | .Try b hs _ _ p=>.nd p (hs.flatMap fun h=> match h with | .ExceptHandler ty _ _ q=>[ON ty,.nd q 0 we [] (.Name we q)]) hs (b.map (HX n)) (hs.flatMap fun h=> match h with | .ExceptHandler _ _ su _=> su.map (HX n)) s
  | .Delete ts p=>.nd p [(ts.map (BM 60)).headD .IX] [] [] [] s
  | .Pass p=>.nd p [] [] [] [] s
  | .Break p=>.nd p [] [] [] [] s
  | .Continue p=>.nd p [] [] [] [] s
  |_=>.nd ⟨0,0,0,0⟩ [] [] [] [] s
def IY:List N->PT->Nat->List (N×Pos)
 | [],_,_=>[]
 |x::r,t,i=> (x,(t.AL i).p)::IY r t (i+1)
def toT(g:CT)(t:PT):Expr:=match g with
 | .name x=>.Name (nm x) t.p
 | .AD e a=>.Attribute (Ag e (t.AL 0)) (nm a) t.p
 | .sub e i=>.Subscript (Ag e (t.AL 0)) (Ag i (t.AL 1)) t.p
 | .tup xs=>.Tuple (FC (IY xs t 0)) t.k t.p
def SK(src:CSrc)(t:PT):Expr:=match src with
 | .it e=> Ag e t
 | .keys e=> Ag e t
 | .Fm as=>.Call (HW OE (t.AL 0).p) (BN as t 1) [] t.p
 | .enum e=>.Call (HW OF (t.AL 0).p) [Ag e (t.AL 1)] [] t.p
mutual
noncomputable def toS:CS->PS->Stmt
 | .expr e,t=>.Expr (Ag e (t.e 0)) t.p
 | .asg g e,t=>.Assign [toT g (t.e 0)] (Ag e (t.e 1)) t.p
 | .aug g op e,t=>.AugAssign (toT g (t.e 0)) (Fv op) (Ag e (t.e 1)) t.p
 | .ret o,t=>.Return (LX o (t.e 0)) t.p
 | .ifs c b o,t=>.If (Ag c (t.e 0)) (Ce b t.b) (Ce o t.o) t.p
 | .BW c b,t=>.While (Ag c (t.e 0)) (Ce b t.b) [] t.p
 | .CV g src b,t=>.For (toT g (t.e 0)) (SK src (t.e 1)) (Ce b t.b) [] t.p
 | .HO c as,t=>.Raise (some (.Call (.Name ((t.e 0).AL 0).y ((t.e 0).AL 0).p) (BN as (t.e 0) 1) [] (t.e 0).p)) none t.p
 | .Ga b c x h,t=>.Try (Ce b t.b) (.ExceptHandler (some (.Name (t.e 0).y (t.e 0).p)) (some (nm x)) (Ce h t.o) (t.e 1).p::t.hs.tail) [] [] t.p
 | .HP b,t=>.Try (Ce b t.b) t.hs [] [] t.p
 | .del e i,t=>.Delete [.Subscript (Ag e ((t.e 0).AL 0)) (Ag i ((t.e 0).AL 1)) (t.e 0).p] t.p
 | .pass,t=>.Pass t.p
 | .brk,t=>.Break t.p
 | .cont,t=>.Continue t.p
 | .BZ,t=> t.x
noncomputable def Ce:List CS->List PS->List Stmt
 | [],_=>[]
 |c::r,ts=> toS c (Ck ts)::Ce r ts.tail
end
def OO(c:CE):Option (CE×COp×CE):=match c with
 | .cmp l rs=> (match rs with
   | [p]=> some (l,p.1,p.2)
   |_=> none)
 |_=> none
def SN(c:CE):Option (CE×CE):=match c with
 | .BY es=> (match es with
   | [a,b]=> some (a,b)
   |_=> none)
 |_=> none
def SP(c:CE):Option N:=match c with
 | .var x=> some x
 |_=> none
def SQ(c:CE):Option AV:=match c with
 | .cst x=> some x
 |_=> none
def SR(c:CE):Option (List CE):=match c with
 | .tup x=> some x
 |_=> none
def OP(c:CS):Option (CT×CE):=match c with
 | .asg g e=> some (g,e)
 |_=> none
def OQ(c:CS):Option CE:=match c with
 | .ret o=> o
 |_=> none
def LZ(g:CT):Option N:=match g with
 | .name x=> some x
 |_=> none
def SS(g:CT):Option (List N):=match g with
 | .tup x=> some x
 |_=> none
def two{α:Type}(l:List α):Option (α×α):=match l with
 | [x,y]=> some (x,y)
 |_=> none
def EZ{α:Type}(o:Option α)(k:α->Bool):Bool:=match o with
 |some a=> k a
 |none=> false
def Zy:AV->Bool
 | .none=> true
 |_=> false
def pE:CE->Bool
 | .cst v=> Zy v
 | .var _=> true
 | .AD e _=> pE e
 | .sub e i=> pE e&&pE i
 |_=> false
def pC(c:CE):Bool:=EZ (OO c) fun q=> pE q.1&&pE q.2.2
def pT(c:CE):Bool:=EZ (SN c) fun q=> pC q.1&&pC q.2
def pA(c:CS):Bool:=EZ (OP c) fun q=> (LZ q.1).isSome&&pE q.2
def pS(c:CS):Bool:=match c with
 | .ifs c b o=> pT c&&(o.isEmpty&&b.all pA)
 |c=> pA c
def hC(c:CE):Bool:=EZ (OO c) fun q=> (SP q.1).isSome&&EZ (SQ q.2.2) Gi
mutual
noncomputable def hE:CE->Bool
 | .cst v=> Gi v
 | .var _=> true
 | .AD e _=> hE e
 | .tup es=> La es
 | .lst _ es=> La es
 | .ite c b o=> hC c&&(hE b&&hE o)
 |_=> false
noncomputable def La:List CE->Bool
 | []=> true
 |c::r=> hE c&&La r
end
section
variable(sc:xC)(gl:vz->Option (Option R5))
def OR(xs:List N)(e:CE)(t:PS):Bool:=EZ (two xs) fun q=> EZ (SR e) fun es=> IU (FC (IY [q.1,q.2] (t.e 0) 0)) (Ag (.tup es) (t.e 1))
def hA(g:CT)(e:CE)(t:PS):Bool:=match LZ g with
 |some x=> DE sc x
 |none=> EZ (SS g) fun xs=> xs.all (DE sc)&&OR xs e t
def hS(c:CS)(t:PS):Bool:=match OQ c with
 |some e=> hE e&&Aq sc gl e (t.e 0)
 |none=> EZ (OP c) fun q=> hE q.2&&(Aq sc gl q.2 (t.e 1)&&(EY (Ag q.2 (t.e 1))&&hA sc q.1 q.2 t))
def Lb:List CS->List PS->Bool
 | [],_=> true
 |c::r,ts=> hS sc gl c (Ck ts)&&Lb r ts.tail
def Jo(g:CT)(t:PT):Bool:=match g with
 | .name x=> DE sc x
 | .AD e a=> Aq sc gl e (t.AL 0)
 | .sub e i=> Aq sc gl e (t.AL 0)&&Aq sc gl i (t.AL 1)
 | .tup xs=> xs.all (DE sc)
def SU(g:CT)(e:CE)(t:PS):Bool:=match g with
 | .tup xs=> N5 (Ag e (t.e 1))||OR xs e t
 |g=> Dx (toT g (t.e 0))
def SV(g:CT)(t:PT):Bool:=match g with
 | .name x=> DE sc x
 | .AD e a=> Aq sc gl e (t.AL 0)
 | .sub e i=> Aq sc gl e (t.AL 0)&&(Aq sc gl i (t.AL 1)&&HU (Ag i (t.AL 1)))
 | .tup xs=> false
def SW(g:CT)(src:CSrc)(b:List CS)(t:PS):Bool:=match src with
 | .it e=> Jo sc gl g (t.e 0)&&(Aq sc gl e (t.e 1)&&(Jl (Ag e (t.e 1))&&Dx (toT g (t.e 0))))
 | .keys e=> (match g with | .name x=> DE sc x |_=> false)&&(Aq sc gl e (t.e 1)&&(Jl (Ag e (t.e 1))&&b.all pS))
 | .Fm as=> Jo sc gl g (t.e 0)&&(Cw sc gl as (t.e 1) 1&&(Fw sc gl OE&&(Dx (toT g (t.e 0))&&(BN as (t.e 1) 1).all noStar)))
 | .enum e=> (match g with | .tup xs=> xs.all (DE sc) |_=> false)&&(Aq sc gl e ((t.e 1).AL 1)&&(Fw sc gl OF&&noStar (Ag e ((t.e 1).AL 1))))
variable(exC:Nat->Bool)
mutual
noncomputable def Jp:CS->Nat->PS->Bool
 | .expr e,_,t=> Aq sc gl e (t.e 0)&&EY (Ag e (t.e 0))
 | .asg g e,_,t=> Jo sc gl g (t.e 0)&&(Aq sc gl e (t.e 1)&&(EY (Ag e (t.e 1))&&SU g e t))
 | .aug g op e,_,t=> Aq sc gl e (t.e 1)&&SV sc gl g (t.e 0)
 | .ret o,_,t=> LY sc gl o (t.e 0)
 | .ifs c b o,md,t=> Aq sc gl c (t.e 0)&&(DF b md t.b&&DF o md t.o)
 | .BW c b,md,t=> Aq sc gl c (t.e 0)&&DF b md t.b
 | .CV g src b,md,t=> DF b md t.b&&SW sc gl g src b t
 | .HO c as,md,t=> wh md 0&&(Cw sc gl as (t.e 0) 1&&(exC c&&(FD sc gl ((t.e 0).AL 0).y c&&((BN as (t.e 0) 1).all noStar&&(wX (BN as (t.e 0) 1).length 1000&&wX as.length 1000)))))
 | .Ga b c x h,md,t=> wh md 1&&(DF b 2 t.b&&(exC c&&(FD sc gl (t.e 0).y c&&(DE sc x&&((!h.isEmpty)&&Lb sc gl h t.o)))))
 | .HP b,md,t=> wh md 0&&(DF b md t.b&& !t.hs.isEmpty)
 | .del e i,_,t=> Aq sc gl e ((t.e 0).AL 0)&&Aq sc gl i ((t.e 0).AL 1)
 |_,_,_=> true
noncomputable def DF:List CS->Nat->List PS->Bool
 | [],_,_=> true
 |c::r,md,ts=> Jp c md (Ck ts)&&DF r md ts.tail
end
end
def Dy(K:Frag)(a:Nat):Option Data:=(K.lookup a).map (·.data)
structure Lc where
 Gj:Addr
 cc:Addr
 D:Addr
 ar:Arg
 vs:Array R5
 file:vz
 tf:Tok
 Jq:ClassData
def refOf:Option (Option R5)->Option Nat
 |some (some (.ref b))=> some b
 |_=> none
def SX:List Nat:=[95,95,99,108,97,115,115,95,95]
def Ld:Data->Option w8
 | .func fd=> some fd
 |_=> none
def Le:Data->Option (Array R5)
 | .fields vs=> some vs
 |_=> none
def Jr:R5->Option Nat
 | .ref a=> some a
 |_=> none
def SY:Data->Option R5
 | .cell v=> v
 |_=> none
def Lf:R5->Option (vz×Tok)
 | .str s t=> some (s,t)
 |_=> none
def Sa(l:List (vz×Addr)):Option Addr:=match l with
 | []=> none
 |p::r=> Gh (Cd p.1.cps.toList SX&&r.isEmpty) (some p.2)
section
variable(pr:wR)(K:Frag)(fd:w8)
def Zz:Option Lc:=
 (Jr fd.code).bind fun Gj=> (Sa fd.closure).bind fun cc=> ((fd.params.posonlyargs++fd.params.args).head?).bind fun ar=>
 ((Dy K Gj).bind Le).bind fun vs=> ((vs[2]?).bind Lf).bind fun ft=> (((Dy K cc).bind SY).bind Jr).bind fun D=> (clsIn K D).map fun Jq=> ⟨Gj,cc,D,ar,vs,ft.1,ft.2,Jq⟩
def Z0(q:Lc)(g:Nat):Bool:=allB [isNm q.ar.arg N.self,(pr.main.file:vz)==q.file,mroIn K q.D (.ref q.D)==some true,ks_superIn K q.D q.D (nm N.K7)==some (some (.ref g)),nsIn K mainGlobals "super"==some none,nsIn K cStatics "thirdparty.any"==some none,
 fd.scope.names.lookup ("super":vz)==some .globalImplicit,fd.scope.names.lookup ("__class__":vz)==some .free,fd.scope.names.lookup (nm N.self)==some .local,typeIn K (.ref g)==some (.type "function"),fnIn K g,!((pr.main.scope.names.lookup ("super":vz)).isSome)]
def Sb:Option (Nat×Nat):=(Zz K fd).bind fun q=> (refOf (ks_superIn K q.D q.D (nm N.K7))).bind fun g=> Gh (Z0 pr K fd q g) (some (g,q.D))
end
def Z1(args:List Expr)(t:PS):Stmt:=
 .Expr (.Call (.Attribute (.Call (.Name "super" ((((t.e 0).AL 0).AL 0).AL 0).p) [] [] (((t.e 0).AL 0).AL 0).p) (nm N.K7) ((t.e 0).AL 0).p) args [] (t.e 0).p) t.p
def Lg(c:CS):Option (Nat×Nat×List CE):=match c with
 | .expr e=> (match e with
   | .sup g c as=> some (g,c,as)
   |_=> none)
 |_=> none
def Ea(cs:List CS)(ts:List PS):List Stmt:=match cs with
 | []=>[]
 |c::r=> (match Lg c with
  |some q=> Z1 (BN q.2.2 ((Ck ts).e 0) 1) (Ck ts)::Ce r ts.tail
  |none=> Ce (c::r) ts)
def Sd(o:Option (Nat×Nat))(g c:Nat):Bool:=match o with
 |some p=> wh p.1 g&&wh p.2 c
 |none=> false
def Lh(pr:wR)(K:Frag)(gl:vz->Option (Option R5))(exC:Nat->Bool)(md:Nat)(fd:w8)(cs:List CS)(ts:List PS):Bool:=match cs with
 | []=> true
 |c::r=> (match Lg c with
  |some q=> Sd (Sb pr K fd) q.1 q.2.1&&(Cw fd.scope gl q.2.2 ((Ck ts).e 0) 1&&((((Ck ts).e 0).AL 0).p.endLine==((Ck ts).e 0).p.line&&((BN q.2.2 ((Ck ts).e 0) 1).all noStar&&(wX (BN q.2.2 ((Ck ts).e 0) 1).length 27&&DF fd.scope gl exC r md ts.tail))))
  |none=> DF fd.scope gl exC (c::r) md ts)
theorem Js{α:Type}:∀{l:List (Nat×α)} {a:Nat} {v:α},Cj l a=some v->(a,v)∈l
 |(b,w)::r,a,v,h=> by
  have h:(match wh b a with
   |true=> some w
   |false=> Cj r a)=some v:=h
  cases e:wh b a with
  |true=> rw [e]at h;cases h;rw [wy e];exact .head _
  |false=> rw [e]at h;exact .tail _ (Js h)
def IZ:R5->Option AV
 | .str x _=> Gh (N6 x.cps.toList) (some (.str x.cps.toList))
 | .int j _=> some (.int j)
 | .none=> some .none
 | .bool b=> some (.bool b)
 |_=> none
def Jt:List R5->Option (List AV)
 | []=> some []
 |u::r=> (IZ u).bind fun v=> (Jt r).map (v::·)
def OS:AV->AV->Bool
 | .str s,b=> match b with | .str t=> Cd s t |_=> false
 | .int i,b=> match b with | .int j=> decide (i=j) |_=> false
 | .none,b=> match b with | .none=> true |_=> false
 | .bool x,b=> match b with | .bool y=> x==y |_=> false
 |_,_=> false
def isTup(o:Obj):Option (List R5):=match o with
 |⟨c,d,dat,sl⟩=> match dat with
  | .seq vs _=> Gh (c==.type "tuple"&&d.isNone&&sl.isEmpty) (some vs.toList)
  |_=> none
def OT(o:Option AV)(v:AV):Bool:=match o with
 |some v'=> OS v' v
 |none=> false
def codeB(K:Frag)(cd:R5)(q:vz):Bool:=EZ (((Jr cd).bind fun c=> (Dy K c).bind Le).bind fun vs=> (vs.toList[1]?).bind Lf) fun n=> Cd n.1.cps.toList q.cps.toList
section
variable(pr:wR)(K:Frag)(gl:vz->Option (Option R5))(exC:Nat->Bool)(md:Nat)
def OU(c:Nat)(x:N)(v:AV):Bool:=match findIn K (.ref c) (nm x)with
 |some (some u)=> OT (IZ u) v&&((specialIn K u "__get__"==some none)&& !(copiedNames.contains (nm x)))
 |_=> false
def Se(c:Nat)(x:N)(g:Nat):Bool:=N9 (findIn K (.ref c) (nm x)) g&&(isFn K (.ref g)&&keepIn K (.ref g))
def Sf(c:Nat)(cl:Cl)(p:N×CA):Bool:= !(cl.fields.contains p.1)&&(match p.2 with
 | .val v=> OU K c p.1 v
 | .Ai g=> Se K c p.1 g)
def Li(c:Nat)(a:N):Bool:=(match findIn K (.ref c) (nm a)with |some attr=> noGet K attr |none=> false)&&(takerIn K c (nm a)==some none)
def Ju(c i:Nat):Bool:=(findIn K (.ref c) "__init__"==some (some (.ref i)))&&(typeIn K (.ref i)==some (.type "function"))
def Ia(p:Nat×Cl):Bool:=match p.2.init with
 | .BH i _=> Ju K p.1 i
 | .run i=> Ju K p.1 i
def Sg(p:Nat×Cl):List Bool:=[excIn K p.1,keepIn K (.ref p.1),typeIn K (.ref p.1)==some (.type "type"),hasDictIn K p.1,findIn K (.ref p.1) "__getattribute__"==some (some (.builtin "BaseException.__getattribute__")),findIn K (.ref p.1) "__getattr__"==some none,
 mroIn K p.1 (.type "BaseException")==some true,p.2.attrs.isEmpty,p.2.fields.all (Li K p.1),findIn K (.ref p.1) "__setattr__"==some (some (.builtin "object.__setattr__")),HV K p.1,p.2.mro.all (fun b=> mroIn K p.1 (.ref b)==some true),Ia K p,(clsIn K p.1).isSome]
def Sh(p:Nat×Cl):List Bool:=[plainGet K p.1 we,hasDictIn K p.1,p.2.fields.all (Li K p.1),p.2.attrs.all (Sf K p.1 p.2),
 findIn K (.ref p.1) "__setattr__"==some (some (.builtin "object.__setattr__")),plainOver K p.1,keepIn K (.ref p.1),makesIn K p.1,
 findIn K (.ref p.1) "__class__"==some (some (.builtin "object.__class__")),mroIn K p.1 (.type "object")==some true,Ia K p]
def Ib(p:Nat×Cl):Bool:=match p.2.exc with
 |true=> allB (Sg K p)
 |false=> allB (Sh K p)
def Lj(p:Nat×Cl)(c:Nat):Bool:=match p.2.mro.contains c with
 |true=> isIn K (.ref p.1) c
 |false=> kin_not K p.1 c
def Z2:List N->Bool
 | []=> false
 |x::_=> wh x N.self
def Lk(c:CS):Option (N×N×N):=match c with
 | .asg g e=> (match g with
   | .AD o x=> (match o with
     | .var s=> (match e with
       | .var q=> some (s,x,q)
       |_=> none)
     |_=> none)
   |_=> none)
 |_=> none
def Si(o:Option (N×N×N))(p:N×N):Bool:=match o with
 |some t=> wh t.1 N.self&&(wh t.2.1 p.1&&wh t.2.2 p.2)
 |none=> false
def OV:List (N×N)->List CS->Bool
 | [],b=> b.isEmpty
 |p::fs,b=> match b with
  | []=> false
  |c::r=> Si (Lk c) p&&OV fs r
def Jv(P:Prog)(p:Nat×Cl):Bool:=match p.2.init with
 | .BH fi fs=> (match P.fns fi with
   |some fn=> allB [fs.all (fun q=> p.2.fields.contains q.1),decide (fs.map (·.1)).Nodup,wX fs.length 99,fs.all (fun q=> !(wh q.2 N.self)),Z2 fn.ps,OV fs fn.body,!(p.2.exc&&fs.isEmpty)]
   |none=> false)
 | .run _=> !p.2.exc
def Sj(ps:List N)(dV:R5):Option (List (N×AV)):=match dV with
 | .none=> some []
 | .ref T=> (K.lookup T).bind fun o=> (isTup o).bind fun us=> (Jt us).bind fun vs=> Gh (wX vs.length ps.length) (some ((ps.drop (ps.length - vs.length)).zip vs))
 |_=> none
def OW:List Arg->List N->Bool
 | [],b=> b.isEmpty
 |a::r,b=> match b with
  | []=> false
  |n::t=> isNm a.arg n&&OW r t
def OX:List (N×AV)->List (N×AV)->Bool
 | [],b=> b.isEmpty
 |p::r,b=> match b with
  | []=> false
  |q::t=> wh p.1 q.1&&(OS p.2 q.2&&OX r t)
def Sk(o:Option (List (N×AV)))(b:List (N×AV)):Bool:=match o with
 |some d=> OX d b
 |none=> false
def DD(fd:w8)(fn:Fn)(ts:List PS):List Bool:=[wh fd.globals mainGlobals,wh fd.builtins builtinsNs,fd.params.posonlyargs.isEmpty,OW fd.params.args fn.ps,fd.params.vararg.isNone,fd.params.kwonlyargs.isEmpty,fd.params.kwarg.isNone,
 codeB K fd.code fd.qualname,decide fn.ps.Nodup,fn.ps.all (fun n=> N7 (IW fd.scope.names (nm n).cps.toList)),!fd.scope.isCoroutine,!fd.scope.isGenerator,fd.scope.kind==.function,fd.scope.names.all (fun x=> x.2 != .cell),
 Sk (Sj K fn.ps fd.defaults) fn.Ay,Lh pr K gl exC md fd fn.body ts]
def HY(a:Nat)(fn:Fn)(ts:List PS):Bool:=keepIn K (.ref a)&&(match(Dy K a).bind Ld with
 |some fd=> allB (DD pr K gl exC md fd fn ts)
 |none=> false)
def Jw(a:Nat):Option (List Stmt):=match(Dy K a).bind Ld with
 |some fd=> (match fd.body with
  | .stmts b=> some b
  |_=> none)
 |none=> none
def Sl(Al:List (Nat×Cl))(BP:List Nat):Bool:=allB [Al.all (Ib K),Al.all (fun p=> p.2.exc||BP.all (Lj K p)),specialIn K (.builtin "object.__class__") "__get__"==some (some (.builtin "getset_descriptor.__get__")),takesIn K (.builtin "object.__class__")==some true]
end
def Fy(Al:List (Nat×Cl))(b:Nat):Bool:=(Cj Al b).any (·.exc)
def Ic:List wQ->List Nat->Option R5
 | [],_=> none
 |e::r,l=> match e.key with
  | .str x _=> if Cd x.cps.toList l=true then some e.val else Ic r l
  |_=> Ic r l
def Fz(es:List wQ)(y:vz):Option (Option R5):=match Ic es y.cps.toList with
 |some v=> some (some v)
 |none=> if es.any (·.refKey)then none else some none
def F0(K:Frag):List wQ:=match K.lookup mainGlobals with
 |some ⟨_,_,.dict es _,_⟩=> es.toList
 |_=>[]
end
end Internal
namespace Internal
namespace L4
def Z3:List CS:=
 [.asg (.AD (.var 1936026726) 1851878757) (.var 1851878757),
 .asg (.AD (.var 1936026726) 452823639416) (.var 452823639416),
 .asg (.AD (.var 1936026726) 1818848869) (.var 1818848869),
 .asg (.AD (.var 1936026726) 109330212154734) (.var 109330212154734),
 .asg (.AD (.var 1936026726) 108256368682354) (.var 108256368682354),
 .asg (.AD (.var 1936026726) 31647696006964594) (.var 31647696006964594)]
def Z4:Fn:=⟨[1936026726,1851878757,452823639416,1818848869,109330212154734,108256368682354,31647696006964594],[],Z3⟩
def Z5:List CS:=
 [.ret (some (.BY [(.cmp (.var 25448) [(.A9,(.cst (.str [9,10,13,133])))]),(.cmp (.cst (.str [32])) [(.le,(.var 25448)),(.le,(.cst (.str [126])))]),(.cmp (.cst (.str [160])) [(.le,(.var 25448)),(.le,(.cst (.str [55295])))]),(.cmp (.cst (.str [57344])) [(.le,(.var 25448)),(.le,(.cst (.str [65533])))]),(.cmp (.cst (.str [65536])) [(.le,(.var 25448)),(.le,(.cst (.str [1114111])))])]))]
def Z6:Fn:=⟨[25448],[],Z5⟩
def Z7:List CS:=
 [.asg (.AD (.var 1936026726) 1851878757) (.cst .none),
 .asg (.AD (.var 1936026726) 126943972647277) (.cst .none),
 .asg (.AD (.var 1936026726) 2341702975124311297391685803468146) (.cst (.int 0)),
 .asg (.AD (.var 1936026726) 6647654) (.cst (.bool true)),
 .asg (.AD (.var 1936026726) 108256368682354) (.cst (.str [])),
 .asg (.AD (.var 1936026726) 31647696006964594) (.cst (.int 0)),
 .asg (.AD (.var 1936026726) 540147714924359050487154) (.cst .none),
 .asg (.AD (.var 1936026726) 540147714926489304523877) (.cst .none),
 .asg (.AD (.var 1936026726) 7308888575346044519) (.cst .none),
 .asg (.AD (.var 1936026726) 452823639416) (.cst (.int 0)),
 .asg (.AD (.var 1936026726) 1818848869) (.cst (.int 0)),
 .asg (.AD (.var 1936026726) 109330212154734) (.cst (.int 0)),
 .ifs (.isStr (.var 126943972647277)) [.asg (.AD (.var 1936026726) 1851878757) (.cst (.str [60,117,110,105,99,111,100,101,32,115,116,114,105,110,103,62])),
   .expr (.AE (.var 1936026726) 516154792406963383754084634884992101 [(.var 126943972647277)]),
   .asg (.AD (.var 1936026726) 108256368682354) (.bin .add (.var 126943972647277) (.cst (.str [0])))] []]
def Z8:Fn:=⟨[1936026726,126943972647277],[],Z7⟩
def Z9:List CS:=
 [.HP [.ret (some (.sub (.AD (.var 1936026726) 108256368682354) (.bin .add (.AD (.var 1936026726) 31647696006964594) (.var 452823639416))))]]
def aA:Fn:=⟨[1936026726,452823639416],[(452823639416,(.int 0))],Z9⟩
def aB:List CS:=
 [.ifs (.cmp (.bin .add (.AD (.var 1936026726) 31647696006964594) (.var 119182899770472)) [(.ge,(.bi .len [(.AD (.var 1936026726) 108256368682354)]))]) [.expr (.AE (.var 1936026726) 129125580895333 [(.var 119182899770472)])] [],
 .ret (some (.Bd false (.AD (.var 1936026726) 108256368682354) (some (.AD (.var 1936026726) 31647696006964594)) (some (.bin .add (.AD (.var 1936026726) 31647696006964594) (.var 119182899770472)))))]
def aC:Fn:=⟨[1936026726,119182899770472],[(119182899770472,(.int 1))],aB⟩
def Sm:List CS:=
 [.ifs (.cmp (.bin .add (.bin .add (.AD (.var 1936026726) 31647696006964594) (.var 119182899770472)) (.cst (.int 1))) [(.ge,(.bi .len [(.AD (.var 1936026726) 108256368682354)]))]) [.expr (.AE (.var 1936026726) 129125580895333 [(.bin .add (.var 119182899770472) (.cst (.int 1)))])] [],
 .BW (.var 119182899770472) [.asg (.name 25448) (.sub (.AD (.var 1936026726) 108256368682354) (.AD (.var 1936026726) 31647696006964594)),
   .aug (.AD (.var 1936026726) 31647696006964594) .add (.cst (.int 1)),
   .aug (.AD (.var 1936026726) 452823639416) .add (.cst (.int 1)),
   .ifs (.BY [(.cmp (.var 25448) [(.A9,(.cst (.str [10,133,8232,8233])))]),(.A1 [(.cmp (.var 25448) [(.eq,(.cst (.str [13])))]),(.cmp (.sub (.AD (.var 1936026726) 108256368682354) (.AD (.var 1936026726) 31647696006964594)) [(.ne,(.cst (.str [10])))])])]) [.aug (.AD (.var 1936026726) 1818848869) .add (.cst (.int 1)),
     .asg (.AD (.var 1936026726) 109330212154734) (.cst (.int 0))] [.ifs (.cmp (.var 25448) [(.ne,(.cst (.str [65279])))]) [.aug (.AD (.var 1936026726) 109330212154734) .add (.cst (.int 1))] []],
   .aug (.name 119182899770472) .sub (.cst (.int 1))]]
def aD:Fn:=⟨[1936026726,119182899770472],[(119182899770472,(.int 1))],Sm⟩
def aE:List CS:=
 [.ifs (.cmp (.AD (.var 1936026726) 126943972647277) [(.Ja,(.cst .none))]) [.ret (some (.app (.cst (.cls 53)) [(.AD (.var 1936026726) 1851878757),(.AD (.var 1936026726) 452823639416),(.AD (.var 1936026726) 1818848869),(.AD (.var 1936026726) 109330212154734),(.AD (.var 1936026726) 108256368682354),(.AD (.var 1936026726) 31647696006964594)]))] [.ret (some (.app (.cst (.cls 53)) [(.AD (.var 1936026726) 1851878757),(.AD (.var 1936026726) 452823639416),(.AD (.var 1936026726) 1818848869),(.AD (.var 1936026726) 109330212154734),(.cst .none),(.cst .none)]))]]
def aF:Fn:=⟨[1936026726],[],aE⟩
def Sn:List CS:=
 [.CV (.tup [495873782388,1833749081912537015666]) (.enum (.var 1684108385)) [.ifs (.nt (.app (.cst (.fn 130)) [(.var 1833749081912537015666)])) [.asg (.name 8101821151424638830) (.bin .add (.bin .add (.AD (.var 1936026726) 452823639416) (.bin .sub (.bi .len [(.AD (.var 1936026726) 108256368682354)]) (.AD (.var 1936026726) 31647696006964594))) (.var 495873782388)),
    .BZ] []]]
def aG:Fn:=⟨[1936026726,1684108385],[],Sn⟩
def aH:List CS:=
 [.ifs (.cmp (.AD (.var 1936026726) 540147714924359050487154) [(.Ja,(.cst .none))]) [.ret none] []]
def aI:Fn:=⟨[1936026726,119182899770472],[],aH⟩
def aJ:List CS:=
 [.asg (.AD (.var 1936026726) 545218989645281737405035) (.var 545218989645281737405035),
 .asg (.AD (.var 1936026726) 7308889606288667243) (.var 7308889606288667243)]
def aK:Fn:=⟨[1936026726,545218989645281737405035,7308889606288667243],[],aJ⟩
def aL:List CS:=
 [.asg (.AD (.var 1936026726) 545218989645281737405035) (.var 545218989645281737405035),
 .asg (.AD (.var 1936026726) 7308889606288667243) (.var 7308889606288667243),
 .asg (.AD (.var 1936026726) 7308888575346044519) (.var 7308888575346044519)]
def aM:Fn:=⟨[1936026726,545218989645281737405035,7308889606288667243,7308888575346044519],[(545218989645281737405035,.none),(7308889606288667243,.none),(7308888575346044519,.none)],aL⟩
def aN:List CS:=
 [.asg (.AD (.var 1936026726) 508440638821) (.var 508440638821),
 .asg (.AD (.var 1936026726) 482854660462) (.var 482854660462),
 .asg (.AD (.var 1936026726) 545218989645281737405035) (.var 545218989645281737405035),
 .asg (.AD (.var 1936026726) 7308889606288667243) (.var 7308889606288667243),
 .asg (.AD (.var 1936026726) 495875353701) (.var 495875353701)]
def aO:Fn:=⟨[1936026726,508440638821,482854660462,545218989645281737405035,7308889606288667243,495875353701],[(495875353701,.none)],aN⟩
def aP:List CS:=
 [.asg (.AD (.var 1936026726) 36034959069541267224754546034) (.var 36034959069541267224754546034),
 .asg (.AD (.var 1936026726) 8243119442065778020) (.var 8243119442065778020),
 .asg (.AD (.var 1936026726) 452823639416) (.var 452823639416),
 .asg (.AD (.var 1936026726) 1818848869) (.var 1818848869),
 .asg (.AD (.var 1936026726) 109330212154734) (.var 109330212154734),
 .asg (.AD (.var 1936026726) 1835102827) (.var 1835102827)]
def aQ:Fn:=⟨[1936026726,36034959069541267224754546034,8243119442065778020,452823639416,1818848869,109330212154734,1835102827],[],aP⟩
def aR:List CS:=
 [.expr (.sup 144 1048 [(.var 126943972647277)]),
 .asg (.AD (.var 1936026726) 1685024357) (.cst (.bool false)),
 .asg (.AD (.var 1936026726) 483681661606044045305196) (.cst (.int 0)),
 .asg (.AD (.var 1936026726) 128021892001395) (.lst true []),
 .expr (.AE (.var 1936026726) 8919976390700392993725003937459785502388852 []),
 .asg (.AD (.var 1936026726) 36034959069546880227118638446) (.cst (.int 0)),
 .asg (.AD (.var 1936026726) 115922851688052) (.neg (.cst (.int 1))),
 .asg (.AD (.var 1936026726) 29676250032141427) (.lst true []),
 .asg (.AD (.var 1936026726) 129498082983365943657840870465989207417) (.cst (.bool true)),
 .asg (.AD (.var 1936026726) 641892406234741257400485027431320278878166284659) (.Ap [])]
def aS:Fn:=⟨[1936026726,126943972647277],[],aR⟩
def So:List CS:=
 [.BW (.AE (.var 1936026726) 146741557994772358995325818971779067507 []) [.expr (.AE (.var 1936026726) 34843657776173402854571545973394225065587 [])],
 .ifs (.AD (.var 1936026726) 128021892001395) [.aug (.AD (.var 1936026726) 36034959069546880227118638446) .add (.cst (.int 1)),
   .ret (some (.AE (.AD (.var 1936026726) 128021892001395) 7368560 [(.cst (.int 0))]))] []]
def aT:Fn:=⟨[1936026726],[],So⟩
def aU:List CS:=
 [.ifs (.AD (.var 1936026726) 1685024357) [.ret (some (.cst (.bool false)))] [],
 .ifs (.nt (.AD (.var 1936026726) 128021892001395)) [.ret (some (.cst (.bool true)))] [],
 .expr (.AE (.var 1936026726) 185528407706441132242969054637315584717608875189555691342100851 []),
 .ifs (.cmp (.AE (.var 1936026726) 2706911097435030565291582775057801442222980002752630580601 []) [(.eq,(.AD (.var 1936026726) 36034959069546880227118638446))]) [.ret (some (.cst (.bool true)))] []]
def aV:Fn:=⟨[1936026726],[],aU⟩
def aW:List CS:=
 [.expr (.AE (.var 1936026726) 10051730344681900695319271836629125802190190 []),
 .expr (.AE (.var 1936026726) 185528407706441132242969054637315584717608875189555691342100851 []),
 .expr (.AE (.var 1936026726) 9303882725306664761746388250228 [(.AD (.var 1936026726) 109330212154734)]),
 .asg (.name 25448) (.AE (.var 1936026726) 1885693291 []),
 .ifs (.cmp (.var 25448) [(.eq,(.cst (.str [0])))]) [.ret (some (.AE (.var 1936026726) 136108038188177383327102721213679890020 []))] [],
 .ifs (.A1 [(.cmp (.var 25448) [(.eq,(.cst (.str [37])))]),(.AE (.var 1936026726) 516154792406963161747160710519551589 [])]) [.ret (some (.AE (.var 1936026726) 531672024172567626127700373388490341 []))] [],
 .ifs (.A1 [(.cmp (.var 25448) [(.eq,(.cst (.str [45])))]),(.AE (.var 1936026726) 567518195983763431480234338668327964402033717876 [])]) [.ret (some (.AE (.var 1936026726) 584579572740940650599854114886685077763199693428 []))] [],
 .ifs (.A1 [(.cmp (.var 25448) [(.eq,(.cst (.str [46])))]),(.AE (.var 1936026726) 8659640441646780875858067911809203557461604 [])]) [.ret (some (.AE (.var 1936026726) 8919976390700388345334688032328568690536036 []))] [],
 .ifs (.cmp (.var 25448) [(.eq,(.cst (.str [91])))]) [.ret (some (.AE (.var 1936026726) 642752037588990297042693582403282957740999089849000154722932 []))] [],
 .ifs (.cmp (.var 25448) [(.eq,(.cst (.str [123])))]) [.ret (some (.AE (.var 1936026726) 2510750146831993347823021805786215906087042355592683418228 []))] [],
 .ifs (.cmp (.var 25448) [(.eq,(.cst (.str [93])))]) [.ret (some (.AE (.var 1936026726) 9807617761062474014933678930714156459671006620009459300 []))] [],
 .ifs (.cmp (.var 25448) [(.eq,(.cst (.str [125])))]) [.ret (some (.AE (.var 1936026726) 38311006879150289120834683315829710481064489067572836 []))] [],
 .ifs (.cmp (.var 25448) [(.eq,(.cst (.str [44])))]) [.ret (some (.AE (.var 1936026726) 136108038188177321788553382852952355449 []))] [],
 .ifs (.A1 [(.cmp (.var 25448) [(.eq,(.cst (.str [45])))]),(.AE (.var 1936026726) 33826720475182735364521902425243471082105 [])]) [.ret (some (.AE (.var 1936026726) 34843657776173389542164949771022241133177 []))] [],
 .ifs (.A1 [(.cmp (.var 25448) [(.eq,(.cst (.str [63])))]),(.AE (.var 1936026726) 1833750191362651415929 [])]) [.ret (some (.AE (.var 1936026726) 1888878472913432044921 []))] [],
 .ifs (.A1 [(.cmp (.var 25448) [(.eq,(.cst (.str [58])))]),(.AE (.var 1936026726) 120176652541142770371032421 [])]) [.ret (some (.AE (.var 1936026726) 123789539600854729672652133 []))] [],
 .ifs (.cmp (.var 25448) [(.eq,(.cst (.str [42])))]) [.ret (some (.AE (.var 1936026726) 123789539600854639662686579 []))] [],
 .ifs (.cmp (.var 25448) [(.eq,(.cst (.str [38])))]) [.ret (some (.AE (.var 1936026726) 31690122137818787762137493362 []))] [],
 .ifs (.cmp (.var 25448) [(.eq,(.cst (.str [33])))]) [.ret (some (.AE (.var 1936026726) 1888878472913432633703 []))] [],
 .ifs (.A1 [(.cmp (.var 25448) [(.eq,(.cst (.str [124])))]),(.nt (.AD (.var 1936026726) 483681661606044045305196))]) [.ret (some (.AE (.var 1936026726) 8112671267281612757907348283756 []))] [],
 .ifs (.A1 [(.cmp (.var 25448) [(.eq,(.cst (.str [62])))]),(.nt (.AD (.var 1936026726) 483681661606044045305196))]) [.ret (some (.AE (.var 1936026726) 31690122137818793264141329764 []))] [],
 .ifs (.cmp (.var 25448) [(.eq,(.cst (.str [39])))]) [.ret (some (.AE (.var 1936026726) 31690122137818807532056439909 []))] [],
 .ifs (.cmp (.var 25448) [(.eq,(.cst (.str [34])))]) [.ret (some (.AE (.var 1936026726) 31690122137818791065268939877 []))] [],
 .ifs (.AE (.var 1936026726) 120176652541142744785054062 []) [.ret (some (.AE (.var 1936026726) 123789539600854704086673774 []))] [],
 .BZ]
def aX:Fn:=⟨[1936026726],[],aW⟩
def aY:List CS:=
 [.asg (.name 145433281338468786655910644494196958578) (.cst .none),
 .CV (.name 465558725996) (.keys (.AD (.var 1936026726) 641892406234741257400485027431320278878166284659)) [.asg (.name 7038329) (.sub (.AD (.var 1936026726) 641892406234741257400485027431320278878166284659) (.var 465558725996)),
   .ifs (.BY [(.cmp (.var 145433281338468786655910644494196958578) [(.Ja,(.cst .none))]),(.cmp (.AD (.var 7038329) 36034959069541267224754546034) [(.lt,(.var 145433281338468786655910644494196958578))])]) [.asg (.name 145433281338468786655910644494196958578) (.AD (.var 7038329) 36034959069541267224754546034)] []],
 .ret (some (.var 145433281338468786655910644494196958578))]
def aZ:Fn:=⟨[1936026726],[],aY⟩
def aa:List CS:=
 [.CV (.name 465558725996) (.it (.bi .list [(.AD (.var 1936026726) 641892406234741257400485027431320278878166284659)])) [.asg (.name 7038329) (.sub (.AD (.var 1936026726) 641892406234741257400485027431320278878166284659) (.var 465558725996)),
   .ifs (.BY [(.cmp (.AD (.var 7038329) 1818848869) [(.ne,(.AD (.var 1936026726) 1818848869))]),(.cmp (.bin .sub (.AD (.var 1936026726) 452823639416) (.AD (.var 7038329) 452823639416)) [(.gt,(.cst (.int 1024)))])]) [.ifs (.AD (.var 7038329) 8243119442065778020) [.BZ] [],
     .del (.AD (.var 1936026726) 641892406234741257400485027431320278878166284659) (.var 465558725996)] []]]
def ab:Fn:=⟨[1936026726],[],aa⟩
def ae:List CS:=
 [.asg (.name 8243119442065778020) (.A1 [(.nt (.AD (.var 1936026726) 483681661606044045305196)),(.cmp (.AD (.var 1936026726) 115922851688052) [(.eq,(.AD (.var 1936026726) 109330212154734))])]),
 .ifs (.AD (.var 1936026726) 129498082983365943657840870465989207417) [.expr (.AE (.var 1936026726) 183827607669007229023581801743932684454154522881659323317708153 []),
   .asg (.name 36034959069541267224754546034) (.bin .add (.AD (.var 1936026726) 36034959069546880227118638446) (.bi .len [(.AD (.var 1936026726) 128021892001395)])),
   .asg (.name 7038329) (.app (.cst (.cls 530)) [(.var 36034959069541267224754546034),(.var 8243119442065778020),(.AD (.var 1936026726) 452823639416),(.AD (.var 1936026726) 1818848869),(.AD (.var 1936026726) 109330212154734),(.AE (.var 1936026726) 7450489111760171627 [])]),
   .asg (.sub (.AD (.var 1936026726) 641892406234741257400485027431320278878166284659) (.AD (.var 1936026726) 483681661606044045305196)) (.var 7038329)] []]
def af:Fn:=⟨[1936026726],[],ae⟩
def ag:List CS:=
 [.ifs (.cmp (.AD (.var 1936026726) 483681661606044045305196) [(.A9,(.AD (.var 1936026726) 641892406234741257400485027431320278878166284659))]) [.asg (.name 7038329) (.sub (.AD (.var 1936026726) 641892406234741257400485027431320278878166284659) (.AD (.var 1936026726) 483681661606044045305196)),
   .ifs (.AD (.var 7038329) 8243119442065778020) [.BZ] [],
   .del (.AD (.var 1936026726) 641892406234741257400485027431320278878166284659) (.AD (.var 1936026726) 483681661606044045305196)] []]
def ah:Fn:=⟨[1936026726],[],ag⟩
def Sp:List CS:=
 [.ifs (.AD (.var 1936026726) 483681661606044045305196) [.ret none] [],
 .BW (.cmp (.AD (.var 1936026726) 115922851688052) [(.gt,(.var 109330212154734))]) [.asg (.name 1835102827) (.AE (.var 1936026726) 7450489111760171627 []),
   .asg (.AD (.var 1936026726) 115922851688052) (.AE (.AD (.var 1936026726) 29676250032141427) 7368560 []),
   .expr (.AE (.AD (.var 1936026726) 128021892001395) 107135549927012 [(.app (.cst (.cls 326)) [(.var 1835102827),(.var 1835102827)])])]]
def ai:Fn:=⟨[1936026726,109330212154734],[],Sp⟩
def aj:List CS:=
 [.ifs (.cmp (.AD (.var 1936026726) 115922851688052) [(.lt,(.var 109330212154734))]) [.expr (.AE (.AD (.var 1936026726) 29676250032141427) 107135549927012 [(.AD (.var 1936026726) 115922851688052)]),
   .asg (.AD (.var 1936026726) 115922851688052) (.var 109330212154734),
   .ret (some (.cst (.bool true)))] [],
 .ret (some (.cst (.bool false)))]
def ak:Fn:=⟨[1936026726,109330212154734],[],aj⟩
def ao:List CS:=
 [.asg (.name 1835102827) (.AE (.var 1936026726) 7450489111760171627 []),
 .expr (.AE (.AD (.var 1936026726) 128021892001395) 107135549927012 [(.E1 (.cst (.cls 278)) [(.var 1835102827),(.var 1835102827)] 7308888575346044519 (.AD (.var 1936026726) 7308888575346044519))])]
def aq:Fn:=⟨[1936026726],[],ao⟩
def au:List CS:=
 [.expr (.AE (.var 1936026726) 9303882725306664761746388250228 [(.neg (.cst (.int 1)))]),
 .expr (.AE (.var 1936026726) 183827607669007229023581801743932684454154522881659323317708153 []),
 .asg (.AD (.var 1936026726) 129498082983365943657840870465989207417) (.cst (.bool false)),
 .asg (.AD (.var 1936026726) 641892406234741257400485027431320278878166284659) (.Ap []),
 .asg (.name 1835102827) (.AE (.var 1936026726) 7450489111760171627 []),
 .expr (.AE (.AD (.var 1936026726) 128021892001395) 107135549927012 [(.app (.cst (.cls 290)) [(.var 1835102827),(.var 1835102827)])]),
 .asg (.AD (.var 1936026726) 1685024357) (.cst (.bool true))]
def av:Fn:=⟨[1936026726],[],au⟩
def aw:List CS:=
 [.expr (.AE (.var 1936026726) 2510750146831993174603336205809339154659260563747109105522 [(.cst (.cls 246))])]
def ax:Fn:=⟨[1936026726],[],aw⟩
def ay:List CS:=
 [.expr (.AE (.var 1936026726) 2510750146831993174603336205809339154659260563747109105522 [(.cst (.cls 258))])]
def az:Fn:=⟨[1936026726],[],ay⟩
def a6:List CS:=
 [.expr (.AE (.var 1936026726) 9303882725306664761746388250228 [(.neg (.cst (.int 1)))]),
 .expr (.AE (.var 1936026726) 183827607669007229023581801743932684454154522881659323317708153 []),
 .asg (.AD (.var 1936026726) 129498082983365943657840870465989207417) (.cst (.bool false)),
 .asg (.name 545218989645281737405035) (.AE (.var 1936026726) 7450489111760171627 []),
 .expr (.AE (.var 1936026726) 28832985044316772 [(.cst (.int 3))]),
 .asg (.name 7308889606288667243) (.AE (.var 1936026726) 7450489111760171627 []),
 .expr (.AE (.AD (.var 1936026726) 128021892001395) 107135549927012 [(.app (.var 398734111866002524435315) [(.var 545218989645281737405035),(.var 7308889606288667243)])])]
def a7:Fn:=⟨[1936026726,398734111866002524435315],[],a6⟩
def a8:List CS:=
 [.ifs (.nt (.AD (.var 1936026726) 483681661606044045305196)) [.ifs (.nt (.AD (.var 1936026726) 129498082983365943657840870465989207417)) [.BZ] [],
   .ifs (.AE (.var 1936026726) 459921455861175972884084 [(.AD (.var 1936026726) 109330212154734)]) [.asg (.name 1835102827) (.AE (.var 1936026726) 7450489111760171627 []),
     .expr (.AE (.AD (.var 1936026726) 128021892001395) 107135549927012 [(.app (.cst (.cls 302)) [(.var 1835102827),(.var 1835102827)])])] []] [.pass],
 .asg (.AD (.var 1936026726) 129498082983365943657840870465989207417) (.cst (.bool true)),
 .expr (.AE (.var 1936026726) 183827607669007229023581801743932684454154522881659323317708153 []),
 .asg (.name 545218989645281737405035) (.AE (.var 1936026726) 7450489111760171627 []),
 .expr (.AE (.var 1936026726) 28832985044316772 []),
 .asg (.name 7308889606288667243) (.AE (.var 1936026726) 7450489111760171627 []),
 .expr (.AE (.AD (.var 1936026726) 128021892001395) 107135549927012 [(.app (.cst (.cls 410)) [(.var 545218989645281737405035),(.var 7308889606288667243)])])]
def a9:Fn:=⟨[1936026726],[],a8⟩
def bA:List CS:=
 [.ifs (.nt (.AD (.var 1936026726) 483681661606044045305196)) [.ifs (.nt (.AD (.var 1936026726) 129498082983365943657840870465989207417)) [.BZ] [],
   .ifs (.AE (.var 1936026726) 459921455861175972884084 [(.AD (.var 1936026726) 109330212154734)]) [.asg (.name 1835102827) (.AE (.var 1936026726) 7450489111760171627 []),
     .expr (.AE (.AD (.var 1936026726) 128021892001395) 107135549927012 [(.app (.cst (.cls 314)) [(.var 1835102827),(.var 1835102827)])])] []] [],
 .asg (.AD (.var 1936026726) 129498082983365943657840870465989207417) (.nt (.AD (.var 1936026726) 483681661606044045305196)),
 .expr (.AE (.var 1936026726) 183827607669007229023581801743932684454154522881659323317708153 []),
 .asg (.name 545218989645281737405035) (.AE (.var 1936026726) 7450489111760171627 []),
 .expr (.AE (.var 1936026726) 28832985044316772 []),
 .asg (.name 7308889606288667243) (.AE (.var 1936026726) 7450489111760171627 []),
 .expr (.AE (.AD (.var 1936026726) 128021892001395) 107135549927012 [(.app (.cst (.cls 386)) [(.var 545218989645281737405035),(.var 7308889606288667243)])])]
def bB:Fn:=⟨[1936026726],[],bA⟩
def bC:List CS:=
 [.ifs (.cmp (.AD (.var 1936026726) 483681661606044045305196) [(.A9,(.AD (.var 1936026726) 641892406234741257400485027431320278878166284659))]) [.asg (.name 7038329) (.sub (.AD (.var 1936026726) 641892406234741257400485027431320278878166284659) (.AD (.var 1936026726) 483681661606044045305196)),
   .del (.AD (.var 1936026726) 641892406234741257400485027431320278878166284659) (.AD (.var 1936026726) 483681661606044045305196),
   .expr (.AE (.AD (.var 1936026726) 128021892001395) 115923103347316 [(.bin .sub (.AD (.var 7038329) 36034959069541267224754546034) (.AD (.var 1936026726) 36034959069546880227118638446)),(.app (.cst (.cls 386)) [(.AD (.var 7038329) 1835102827),(.AD (.var 7038329) 1835102827)])]),
   .ifs (.nt (.AD (.var 1936026726) 483681661606044045305196)) [.ifs (.AE (.var 1936026726) 459921455861175972884084 [(.AD (.var 7038329) 109330212154734)]) [.expr (.AE (.AD (.var 1936026726) 128021892001395) 115923103347316 [(.bin .sub (.AD (.var 7038329) 36034959069541267224754546034) (.AD (.var 1936026726) 36034959069546880227118638446)),(.app (.cst (.cls 314)) [(.AD (.var 7038329) 1835102827),(.AD (.var 7038329) 1835102827)])])] []] [],
   .asg (.AD (.var 1936026726) 129498082983365943657840870465989207417) (.cst (.bool false))] [.ifs (.nt (.AD (.var 1936026726) 483681661606044045305196)) [.ifs (.nt (.AD (.var 1936026726) 129498082983365943657840870465989207417)) [.BZ] []] [],
   .ifs (.nt (.AD (.var 1936026726) 483681661606044045305196)) [.ifs (.AE (.var 1936026726) 459921455861175972884084 [(.AD (.var 1936026726) 109330212154734)]) [.asg (.name 1835102827) (.AE (.var 1936026726) 7450489111760171627 []),
     .expr (.AE (.AD (.var 1936026726) 128021892001395) 107135549927012 [(.app (.cst (.cls 314)) [(.var 1835102827),(.var 1835102827)])])] []] [],
   .asg (.AD (.var 1936026726) 129498082983365943657840870465989207417) (.nt (.AD (.var 1936026726) 483681661606044045305196)),
   .expr (.AE (.var 1936026726) 183827607669007229023581801743932684454154522881659323317708153 [])],
 .asg (.name 545218989645281737405035) (.AE (.var 1936026726) 7450489111760171627 []),
 .expr (.AE (.var 1936026726) 28832985044316772 []),
 .asg (.name 7308889606288667243) (.AE (.var 1936026726) 7450489111760171627 []),
 .expr (.AE (.AD (.var 1936026726) 128021892001395) 107135549927012 [(.app (.cst (.cls 398)) [(.var 545218989645281737405035),(.var 7308889606288667243)])])]
def bD:Fn:=⟨[1936026726],[],bC⟩
def bE:List CS:=
 [.expr (.E3 (.var 1936026726) 34843657776173394377869666025701401977202 [] 495875353701 (.cst (.str [39])))]
def bF:Fn:=⟨[1936026726],[],bE⟩
def bG:List CS:=
 [.expr (.AE (.var 1936026726) 2829126846607722328359823057131131758135423089070322705785 []),
 .asg (.AD (.var 1936026726) 129498082983365943657840870465989207417) (.cst (.bool false)),
 .expr (.AE (.AD (.var 1936026726) 128021892001395) 107135549927012 [(.AE (.var 1936026726) 153377233042614602538669525734133621106 [(.var 495875353701)])])]
def bH:Fn:=⟨[1936026726,495875353701],[],bG⟩
def bI:List CS:=
 [.expr (.AE (.var 1936026726) 2829126846607722328359823057131131758135423089070322705785 []),
 .asg (.AD (.var 1936026726) 129498082983365943657840870465989207417) (.cst (.bool false)),
 .expr (.AE (.AD (.var 1936026726) 128021892001395) 107135549927012 [(.AE (.var 1936026726) 544905393847112021666158 [])])]
def bJ:Fn:=⟨[1936026726],[],bI⟩
def bK:List CS:=
 [.ifs (.cmp (.AD (.var 1936026726) 109330212154734) [(.eq,(.cst (.int 0)))]) [.ifs (.A1 [(.cmp (.AE (.var 1936026726) 123636629793144 [(.cst (.int 3))]) [(.eq,(.cst (.str [45,45,45])))]),(.cmp (.AE (.var 1936026726) 1885693291 [(.cst (.int 3))]) [(.A9,(.cst (.str [0,32,9,13,10,133,8232,8233])))])]) [.ret (some (.cst (.bool true)))] []] []]
def bL:Fn:=⟨[1936026726],[],bK⟩
def bM:List CS:=
 [.ifs (.cmp (.AD (.var 1936026726) 109330212154734) [(.eq,(.cst (.int 0)))]) [.ifs (.A1 [(.cmp (.AE (.var 1936026726) 123636629793144 [(.cst (.int 3))]) [(.eq,(.cst (.str [46,46,46])))]),(.cmp (.AE (.var 1936026726) 1885693291 [(.cst (.int 3))]) [(.A9,(.cst (.str [0,32,9,13,10,133,8232,8233])))])]) [.ret (some (.cst (.bool true)))] []] []]
def bN:Fn:=⟨[1936026726],[],bM⟩
def bO:List CS:=
 [.ret (some (.cmp (.AE (.var 1936026726) 1885693291 [(.cst (.int 1))]) [(.A9,(.cst (.str [0,32,9,13,10,133,8232,8233])))]))]
def bP:Fn:=⟨[1936026726],[],bO⟩
def bQ:List CS:=
 [.ifs (.AD (.var 1936026726) 483681661606044045305196) [.ret (some (.cst (.bool true)))] [.ret (some (.cmp (.AE (.var 1936026726) 1885693291 [(.cst (.int 1))]) [(.A9,(.cst (.str [0,32,9,13,10,133,8232,8233])))]))]]
def bR:Fn:=⟨[1936026726],[],bQ⟩
def bS:List CS:=
 [.ifs (.AD (.var 1936026726) 483681661606044045305196) [.ret (some (.cst (.bool true)))] [.ret (some (.cmp (.AE (.var 1936026726) 1885693291 [(.cst (.int 1))]) [(.A9,(.cst (.str [0,32,9,13,10,133,8232,8233])))]))]]
def bT:Fn:=⟨[1936026726],[],bS⟩
def bU:List CS:=
 [.asg (.name 25448) (.AE (.var 1936026726) 1885693291 []),
 .ret (some (.BY [(.cmp (.var 25448) [(.EB,(.cst (.str [0,32,9,13,10,133,8232,8233,45,63,58,44,91,93,123,125,35,38,42,33,124,62,39,34,37,64,96])))]),(.A1 [(.cmp (.AE (.var 1936026726) 1885693291 [(.cst (.int 1))]) [(.EB,(.cst (.str [0,32,9,13,10,133,8232,8233])))]),(.BY [(.cmp (.var 25448) [(.eq,(.cst (.str [45])))]),(.A1 [(.nt (.AD (.var 1936026726) 483681661606044045305196)),(.cmp (.var 25448) [(.A9,(.cst (.str [63,58])))])])])])]))]
def bV:Fn:=⟨[1936026726],[],bU⟩
def Sq:List CS:=
 [.ifs (.A1 [(.cmp (.AD (.var 1936026726) 452823639416) [(.eq,(.cst (.int 0)))]),(.cmp (.AE (.var 1936026726) 1885693291 []) [(.eq,(.cst (.str [65279])))])]) [.expr (.AE (.var 1936026726) 28832985044316772 [])] [],
 .asg (.name 439956631140) (.cst (.bool false)),
 .BW (.nt (.var 439956631140)) [.BW (.cmp (.AE (.var 1936026726) 1885693291 []) [(.eq,(.cst (.str [32])))]) [.expr (.AE (.var 1936026726) 28832985044316772 [])],
   .ifs (.cmp (.AE (.var 1936026726) 1885693291 []) [(.eq,(.cst (.str [35])))]) [.BW (.cmp (.AE (.var 1936026726) 1885693291 []) [(.EB,(.cst (.str [0,13,10,133,8232,8233])))]) [.expr (.AE (.var 1936026726) 28832985044316772 [])]] [],
   .ifs (.AE (.var 1936026726) 599129816572741569948218615260340587 []) [.ifs (.nt (.AD (.var 1936026726) 483681661606044045305196)) [.asg (.AD (.var 1936026726) 129498082983365943657840870465989207417) (.cst (.bool true))] []] [.asg (.name 439956631140) (.cst (.bool true))]]]
def bW:Fn:=⟨[1936026726],[],Sq⟩
def bY:List CS:=
 [.ifs (.cmp (.var 495875353701) [(.eq,(.cst (.str [34])))]) [.asg (.name 110429873532005) (.cst (.bool true))] [.asg (.name 110429873532005) (.cst (.bool false))],
 .asg (.name 109300297919347) (.lst true []),
 .asg (.name 545218989645281737405035) (.AE (.var 1936026726) 7450489111760171627 []),
 .asg (.name 487301543013) (.AE (.var 1936026726) 1885693291 []),
 .expr (.AE (.var 1936026726) 28832985044316772 []),
 .expr (.AE (.var 109300297919347) 111568023285348 [(.AE (.var 1936026726) 47467954474564311664414611570754874207935278067716646366108411251 [(.var 110429873532005),(.var 545218989645281737405035)])]),
 .BW (.cmp (.AE (.var 1936026726) 1885693291 []) [(.ne,(.var 487301543013))]) [.expr (.AE (.var 109300297919347) 111568023285348 [(.AE (.var 1936026726) 11051994393245389606900189903274847708627419010051564915 [(.var 110429873532005),(.var 545218989645281737405035)])]),
   .expr (.AE (.var 109300297919347) 111568023285348 [(.AE (.var 1936026726) 47467954474564311664414611570754874207935278067716646366108411251 [(.var 110429873532005),(.var 545218989645281737405035)])])],
 .expr (.AE (.var 1936026726) 28832985044316772 []),
 .asg (.name 7308889606288667243) (.AE (.var 1936026726) 7450489111760171627 []),
 .ret (some (.app (.cst (.cls 499)) [(.AE (.cst (.str [])) 1785686382 [(.var 109300297919347)]),(.cst (.bool false)),(.var 545218989645281737405035),(.var 7308889606288667243),(.var 495875353701)]))]
def bZ:Fn:=⟨[1936026726,495875353701],[],bY⟩
def ba:List CS:=
 [.asg (.name 109300297919347) (.lst true []),
 .BW (.cst (.bool true)) [.asg (.name 119182899770472) (.cst (.int 0)),
   .BW (.cmp (.AE (.var 1936026726) 1885693291 [(.var 119182899770472)]) [(.EB,(.cst (.str [39,34,92,0,32,9,13,10,133,8232,8233])))]) [.aug (.name 119182899770472) .add (.cst (.int 1))],
   .ifs (.var 119182899770472) [.expr (.AE (.var 109300297919347) 107135549927012 [(.AE (.var 1936026726) 123636629793144 [(.var 119182899770472)])]),
     .expr (.AE (.var 1936026726) 28832985044316772 [(.var 119182899770472)])] [],
   .asg (.name 25448) (.AE (.var 1936026726) 1885693291 []),
   .ifs (.A1 [(.nt (.var 110429873532005)),(.cmp (.var 25448) [(.eq,(.cst (.str [39])))]),(.cmp (.AE (.var 1936026726) 1885693291 [(.cst (.int 1))]) [(.eq,(.cst (.str [39])))])]) [.expr (.AE (.var 109300297919347) 107135549927012 [(.cst (.str [39]))]),
     .expr (.AE (.var 1936026726) 28832985044316772 [(.cst (.int 2))])] [.ifs (.BY [(.A1 [(.var 110429873532005),(.cmp (.var 25448) [(.eq,(.cst (.str [39])))])]),(.A1 [(.nt (.var 110429873532005)),(.cmp (.var 25448) [(.A9,(.cst (.str [34,92])))])])]) [.expr (.AE (.var 109300297919347) 107135549927012 [(.var 25448)]),
       .expr (.AE (.var 1936026726) 28832985044316772 [])] [.ifs (.A1 [(.var 110429873532005),(.cmp (.var 25448) [(.eq,(.cst (.str [92])))])]) [.expr (.AE (.var 1936026726) 28832985044316772 []),
         .asg (.name 25448) (.AE (.var 1936026726) 1885693291 []),
         .ifs (.cmp (.var 25448) [(.A9,(.AD (.var 1936026726) 1546004624166143313216661042848930311026136147))]) [.expr (.AE (.var 109300297919347) 107135549927012 [(.sub (.AD (.var 1936026726) 1546004624166143313216661042848930311026136147) (.var 25448))]),
           .expr (.AE (.var 1936026726) 28832985044316772 [])] [.ifs (.cmp (.var 25448) [(.A9,(.AD (.var 1936026726) 21455124124077675059985270099))]) [.asg (.name 119182899770472) (.sub (.AD (.var 1936026726) 21455124124077675059985270099) (.var 25448)),
             .expr (.AE (.var 1936026726) 28832985044316772 []),
             .CV (.name 107) (.Fm [(.var 119182899770472)]) [.ifs (.cmp (.AE (.var 1936026726) 1885693291 [(.var 107)]) [(.EB,(.cst (.str [48,49,50,51,52,53,54,55,56,57,65,66,67,68,69,70,97,98,99,100,101,102])))]) [.BZ] []],
             .asg (.name 1668244581) (.bi .int [(.AE (.var 1936026726) 123636629793144 [(.var 119182899770472)]),(.cst (.int 16))]),
             .expr (.AE (.var 109300297919347) 107135549927012 [(.app .BZ [(.var 1668244581)])]),
             .expr (.AE (.var 1936026726) 28832985044316772 [(.var 119182899770472)])] [.ifs (.cmp (.var 25448) [(.A9,(.cst (.str [13,10,133,8232,8233])))]) [.expr (.AE (.var 1936026726) 599129816572741569948218615260340587 []),
               .expr (.AE (.var 109300297919347) 111568023285348 [(.AE (.var 1936026726) 11051994393245389606900189903274847708627400327010806643 [(.var 110429873532005),(.var 545218989645281737405035)])])] [.BZ]]]] [.ret (some (.var 109300297919347))]]]]]
def bg:Fn:=⟨[1936026726,110429873532005,545218989645281737405035],[],ba⟩
def Sr:List CS:=
 [.asg (.name 109300297919347) (.lst true []),
 .asg (.name 545218989645281737405035) (.AE (.var 1936026726) 7450489111760171627 []),
 .asg (.name 7308889606288667243) (.var 545218989645281737405035),
 .asg (.name 115922851688052) (.bin .add (.AD (.var 1936026726) 115922851688052) (.cst (.int 1))),
 .asg (.name 126926507435379) (.lst true []),
 .BW (.cst (.bool true)) [.asg (.name 119182899770472) (.cst (.int 0)),
   .ifs (.cmp (.AE (.var 1936026726) 1885693291 []) [(.eq,(.cst (.str [35])))]) [.brk] [],
   .BW (.cst (.bool true)) [.asg (.name 25448) (.AE (.var 1936026726) 1885693291 [(.var 119182899770472)]),
     .ifs (.BY [(.cmp (.var 25448) [(.A9,(.cst (.str [0,32,9,13,10,133,8232,8233])))]),(.A1 [(.cmp (.var 25448) [(.eq,(.cst (.str [58])))]),(.cmp (.AE (.var 1936026726) 1885693291 [(.bin .add (.var 119182899770472) (.cst (.int 1)))]) [(.A9,(.bin .add (.cst (.str [0,32,9,13,10,133,8232,8233])) (.ite (.AD (.var 1936026726) 483681661606044045305196) (.cst (.str [44,91,93,123,125])) (.cst (.str [])))))])]),(.A1 [(.AD (.var 1936026726) 483681661606044045305196),(.cmp (.var 25448) [(.A9,(.cst (.str [44,63,91,93,123,125])))])])]) [.brk] [],
     .aug (.name 119182899770472) .add (.cst (.int 1))],
   .ifs (.cmp (.var 119182899770472) [(.eq,(.cst (.int 0)))]) [.brk] [],
   .asg (.AD (.var 1936026726) 129498082983365943657840870465989207417) (.cst (.bool false)),
   .expr (.AE (.var 109300297919347) 111568023285348 [(.var 126926507435379)]),
   .expr (.AE (.var 109300297919347) 107135549927012 [(.AE (.var 1936026726) 123636629793144 [(.var 119182899770472)])]),
   .expr (.AE (.var 1936026726) 28832985044316772 [(.var 119182899770472)]),
   .asg (.name 7308889606288667243) (.AE (.var 1936026726) 7450489111760171627 []),
   .asg (.name 126926507435379) (.AE (.var 1936026726) 39264571658912433033627302113485948937587 [(.var 115922851688052),(.var 545218989645281737405035)]),
   .ifs (.BY [(.nt (.var 126926507435379)),(.cmp (.AE (.var 1936026726) 1885693291 []) [(.eq,(.cst (.str [35])))]),(.A1 [(.nt (.AD (.var 1936026726) 483681661606044045305196)),(.cmp (.AD (.var 1936026726) 109330212154734) [(.lt,(.var 115922851688052))])])]) [.brk] []],
 .ret (some (.app (.cst (.cls 499)) [(.AE (.cst (.str [])) 1785686382 [(.var 109300297919347)]),(.cst (.bool true)),(.var 545218989645281737405035),(.var 7308889606288667243)]))]
def bh:Fn:=⟨[1936026726],[],Sr⟩
def Ss:List CS:=
 [.asg (.name 109300297919347) (.lst true []),
 .asg (.name 119182899770472) (.cst (.int 0)),
 .BW (.cmp (.AE (.var 1936026726) 1885693291 [(.var 119182899770472)]) [(.A9,(.cst (.str [32])))]) [.aug (.name 119182899770472) .add (.cst (.int 1))],
 .asg (.name 144355243943723861950031219) (.AE (.var 1936026726) 123636629793144 [(.var 119182899770472)]),
 .expr (.AE (.var 1936026726) 28832985044316772 [(.var 119182899770472)]),
 .asg (.name 25448) (.AE (.var 1936026726) 1885693291 []),
 .ifs (.cmp (.var 25448) [(.A9,(.cst (.str [13,10,133,8232,8233])))]) [.asg (.name 511960443146854436528491) (.AE (.var 1936026726) 599129816572741569948218615260340587 []),
   .asg (.AD (.var 1936026726) 129498082983365943657840870465989207417) (.cst (.bool true)),
   .asg (.name 123636629793144) (.AE (.var 1936026726) 123636629793144 [(.cst (.int 3))]),
   .ifs (.A1 [(.BY [(.cmp (.var 123636629793144) [(.eq,(.cst (.str [45,45,45])))]),(.cmp (.var 123636629793144) [(.eq,(.cst (.str [46,46,46])))])]),(.cmp (.AE (.var 1936026726) 1885693291 [(.cst (.int 3))]) [(.A9,(.cst (.str [0,32,9,13,10,133,8232,8233])))])]) [.ret none] [],
   .asg (.name 108243466677107) (.lst true []),
   .BW (.cmp (.AE (.var 1936026726) 1885693291 []) [(.A9,(.cst (.str [32,13,10,133,8232,8233])))]) [.ifs (.cmp (.AE (.var 1936026726) 1885693291 []) [(.eq,(.cst (.str [32])))]) [.expr (.AE (.var 1936026726) 28832985044316772 [])] [.expr (.AE (.var 108243466677107) 107135549927012 [(.AE (.var 1936026726) 599129816572741569948218615260340587 [])]),
     .asg (.name 123636629793144) (.AE (.var 1936026726) 123636629793144 [(.cst (.int 3))]),
     .ifs (.A1 [(.BY [(.cmp (.var 123636629793144) [(.eq,(.cst (.str [45,45,45])))]),(.cmp (.var 123636629793144) [(.eq,(.cst (.str [46,46,46])))])]),(.cmp (.AE (.var 1936026726) 1885693291 [(.cst (.int 3))]) [(.A9,(.cst (.str [0,32,9,13,10,133,8232,8233])))])]) [.ret none] []]],
   .ifs (.cmp (.var 511960443146854436528491) [(.ne,(.cst (.str [10])))]) [.expr (.AE (.var 109300297919347) 107135549927012 [(.var 511960443146854436528491)])] [.ifs (.nt (.var 108243466677107)) [.expr (.AE (.var 109300297919347) 107135549927012 [(.cst (.str [32]))])] []],
   .expr (.AE (.var 109300297919347) 111568023285348 [(.var 108243466677107)])] [.ifs (.var 144355243943723861950031219) [.expr (.AE (.var 109300297919347) 107135549927012 [(.var 144355243943723861950031219)])] []],
 .ret (some (.var 109300297919347))]
def bj:Fn:=⟨[1936026726,115922851688052,545218989645281737405035],[],Ss⟩
def bp:List CS:=
 [.asg (.name 25448) (.AE (.var 1936026726) 1885693291 []),
 .ifs (.cmp (.var 25448) [(.A9,(.cst (.str [13,10,133])))]) [.ifs (.cmp (.AE (.var 1936026726) 123636629793144 [(.cst (.int 2))]) [(.eq,(.cst (.str [13,10])))]) [.expr (.AE (.var 1936026726) 28832985044316772 [(.cst (.int 2))])] [.expr (.AE (.var 1936026726) 28832985044316772 [])],
   .ret (some (.cst (.str [10])))] [.ifs (.cmp (.var 25448) [(.A9,(.cst (.str [8232,8233])))]) [.expr (.AE (.var 1936026726) 28832985044316772 []),
     .ret (some (.var 25448))] []],
 .ret (some (.cst (.str [])))]
def bq:Fn:=⟨[1936026726],[],bp⟩
def bt:List CS:=
 [.ret (some (.lst false [(.cst (.str [119])),(.cst (.str [39,117,39])),(.cst (.str [45,122])),(.cst (.str [63,110])),(.cst (.str [58,109])),(.cst (.str [97,32,98])),(.cst (.str [120,58,121])),(.cst (.str [112,35,113]))]))]
def bu:Fn:=⟨[],[],bt⟩
def bw:List CS:=
 [.ret (some (.ite (.sub (.var 7365998) (.cst (.str [116,97,112,101]))) (.bin .mod (.AE (.sub (.var 7365998) (.cst (.str [116,97,112,101]))) 7368560 [(.cst (.int 0))]) (.var 1835101817)) (.cst (.int 0))))]
def bx:Fn:=⟨[7365998,1835101817],[],bw⟩
def bz:List CS:=
 [.asg (.tup [7499639,24948]) (.tup [(.sub (.var 7365998) (.cst (.str [114,111,119]))),(.sub (.var 7365998) (.cst (.str [97,116])))]),
 .aug (.sub (.var 7365998) (.cst (.str [100,117,101]))) .add (.bin .add (.bin .mul (.lst false [(.tup [(.cst (.str [60,98,108,111,99,107,32,101,110,100,62])),(.cst .none),(.var 7499639),(.var 24948),(.var 7499639),(.var 24948)])]) (.sub (.var 7365998) (.cst (.str [101,110,100,115])))) (.lst false [(.tup [(.var 1802071652),(.var 508440638821),(.var 7499639),(.var 24948),(.var 7499639),(.bin .add (.var 24948) (.bi .len [(.var 495689625203)]))])])),
 .asg (.sub (.var 7365998) (.cst (.str [101,110,100,115]))) (.cst (.int 0)),
 .aug (.sub (.var 7365998) (.cst (.str [116,101,120,116]))) .add (.var 495689625203),
 .aug (.sub (.var 7365998) (.cst (.str [97,116]))) .add (.bi .len [(.var 495689625203)])]
def cA:Fn:=⟨[7365998,1802071652,495689625203,508440638821],[],bz⟩
def cB:List CS:=
 [.asg (.name 6775152) (.app (.cst (.fn 1064)) [(.var 7365998),(.cst (.int 4))]),
 .asg (.name 6647396) (.sub (.var 7365998) (.cst (.str [101,110,100]))),
 .aug (.sub (.var 7365998) (.cst (.str [116,101,120,116]))) .add (.bin .add (.bin .add (.bin .add (.ite (.cmp (.var 6775152) [(.eq,(.cst (.int 1)))]) (.cst (.str [32,35])) (.cst (.str []))) (.var 6647396)) (.ite (.cmp (.var 6775152) [(.eq,(.cst (.int 2)))]) (.bin .add (.cst (.str [32,32])) (.var 6647396)) (.ite (.cmp (.var 6775152) [(.eq,(.cst (.int 3)))]) (.bin .add (.cst (.str [35,58])) (.var 6647396)) (.cst (.str []))))) (.bin .mul (.cst (.str [32])) (.var 109330212154734))),
 .aug (.sub (.var 7365998) (.cst (.str [114,111,119]))) .add (.ite (.cmp (.var 6775152) [(.gt,(.cst (.int 1)))]) (.cst (.int 2)) (.cst (.int 1))),
 .asg (.sub (.var 7365998) (.cst (.str [97,116]))) (.var 109330212154734)]
def cC:Fn:=⟨[7365998,109330212154734],[],cB⟩
def cD:List CS:=
 [.aug (.sub (.var 7365998) (.cst (.str [116,101,120,116]))) .add (.bin .mul (.cst (.str [32])) (.var 1835101817)),
 .aug (.sub (.var 7365998) (.cst (.str [97,116]))) .add (.var 1835101817)]
def cE:Fn:=⟨[7365998,1835101817],[],cD⟩
def cF:List CS:=
 [.asg (.name 2003792484) (.sub (.app (.cst (.fn 1057)) []) (.app (.cst (.fn 1064)) [(.var 7365998),(.cst (.int 8))])),
 .expr (.app (.cst (.fn 1071)) [(.var 7365998),(.cst (.str [60,115,99,97,108,97,114,62])),(.var 2003792484),(.tup [(.AE (.var 2003792484) 495874894192 [(.cst (.str [39]))]),(.ite (.cmp (.sub (.var 2003792484) (.cst (.int 0))) [(.eq,(.cst (.str [39])))]) (.cst (.str [39])) (.cst .none))])])]
def cG:Fn:=⟨[7365998],[],cF⟩
def Su:List CS:=
 [.asg (.name 110) (.app (.cst (.fn 1064)) [(.var 7365998),(.cst (.int 24))]),
 .asg (.tup [1802071652,6844279]) (.tup [(.bin .mod (.var 110) (.cst (.int 4))),(.bin .div (.var 110) (.cst (.int 4)))]),
 .ifs (.cmp (.var 1802071652) [(.eq,(.cst (.int 3)))]) [.ret none] [],
 .ifs (.BY [(.cmp (.var 431198598248) [(.eq,(.cst (.int 0)))]),(.cmp (.sub (.var 7365998) (.cst (.str [108,101,102,116]))) [(.lt,(.cst (.int 1)))])]) [.asg (.name 1802071652) (.cst (.int 0))] [],
 .asg (.name 1650553445) (.A1 [(.var 1718378868),(.cmp (.var 1802071652) [(.eq,(.cst (.int 1)))]),(.cmp (.bin .mod (.var 6844279) (.cst (.int 3))) [(.eq,(.cst (.int 1)))])]),
 .ifs (.A1 [(.cmp (.bin .mod (.var 6844279) (.cst (.int 3))) [(.eq,(.cst (.int 0)))]),(.BY [(.var 1852137842),(.cmp (.var 1802071652) [(.eq,(.cst (.int 0)))])])]) [.expr (.app (.cst (.fn 1085)) [(.var 7365998),(.bin .add (.cst (.int 1)) (.bin .div (.var 6844279) (.cst (.int 3))))])] [.ifs (.var 1650553445) [.expr (.app (.cst (.fn 1078)) [(.var 7365998),(.var 109330212154734)])] [.expr (.app (.cst (.fn 1078)) [(.var 7365998),(.bin .add (.bin .add (.var 109330212154734) (.cst (.int 1))) (.bin .div (.var 6844279) (.cst (.int 3))))])]],
 .ifs (.cmp (.var 1802071652) [(.eq,(.cst (.int 0)))]) [.expr (.app (.cst (.fn 1092)) [(.var 7365998)])] [.expr (.app (.cst (.fn 1106)) [(.var 7365998),(.var 1802071652),(.bin .sub (.var 431198598248) (.cst (.int 1))),(.var 1650553445)])]]
def cH:Fn:=⟨[7365998,431198598248,109330212154734,1852137842,1718378868],[],Su⟩
def Sv:List CS:=
 [.asg (.name 109330212154734) (.sub (.var 7365998) (.cst (.str [97,116]))),
 .ifs (.nt (.var 1650553445)) [.expr (.app (.cst (.fn 1071)) [(.var 7365998),(.ite (.cmp (.var 1802071652) [(.eq,(.cst (.int 1)))]) (.cst (.str [60,98,108,111,99,107,32,115,101,113,117,101,110,99,101,32,115,116,97,114,116,62])) (.cst (.str [60,98,108,111,99,107,32,109,97,112,112,105,110,103,32,115,116,97,114,116,62]))),(.cst (.str [])),(.cst .none)])] [],
 .CV (.name 105) (.Fm [(.bin .add (.cst (.int 1)) (.app (.cst (.fn 1064)) [(.var 7365998),(.cst (.int 3))]))]) [.ifs (.cmp (.var 105) [(.gt,(.cst (.int 0)))]) [.ifs (.cmp (.sub (.var 7365998) (.cst (.str [108,101,102,116]))) [(.lt,(.cst (.int 1)))]) [.brk] [],
   .expr (.app (.cst (.fn 1078)) [(.var 7365998),(.var 109330212154734)])] [],
   .aug (.sub (.var 7365998) (.cst (.str [108,101,102,116]))) .sub (.cst (.int 1)),
   .ifs (.cmp (.var 1802071652) [(.eq,(.cst (.int 1)))]) [.expr (.app (.cst (.fn 1071)) [(.var 7365998),(.cst (.str [45])),(.cst (.str [45])),(.cst .none)]),
     .expr (.app (.cst (.fn 1099)) [(.var 7365998),(.var 431198598248),(.var 109330212154734),(.cst (.bool true)),(.cst (.bool false))]),
     .cont] [],
   .asg (.name 120265231983986) (.app (.cst (.fn 1064)) [(.var 7365998),(.cst (.int 4))]),
   .ifs (.cmp (.var 120265231983986) [(.lt,(.cst (.int 2)))]) [.expr (.app (.cst (.fn 1071)) [(.var 7365998),(.cst (.str [63])),(.cst (.str [])),(.cst .none)]),
     .expr (.app (.cst (.fn 1092)) [(.var 7365998)]),
     .expr (.app (.cst (.fn 1071)) [(.var 7365998),(.cst (.str [58])),(.cst (.str [58])),(.cst .none)]),
     .expr (.app (.cst (.fn 1099)) [(.var 7365998),(.var 431198598248),(.var 109330212154734),(.cst (.bool false)),(.cst (.bool true))]),
     .cont] [],
   .expr (.app (.cst (.fn 1071)) [(.var 7365998),(.cst (.str [63])),(.cst (.str [63])),(.cst .none)]),
   .expr (.app (.cst (.fn 1099)) [(.var 7365998),(.var 431198598248),(.var 109330212154734),(.cst (.bool true)),(.cst (.bool true))]),
   .ifs (.cmp (.var 120265231983986) [(.eq,(.cst (.int 2)))]) [.expr (.app (.cst (.fn 1078)) [(.var 7365998),(.var 109330212154734)]),
     .expr (.app (.cst (.fn 1071)) [(.var 7365998),(.cst (.str [58])),(.cst (.str [58])),(.cst .none)]),
     .expr (.app (.cst (.fn 1099)) [(.var 7365998),(.var 431198598248),(.var 109330212154734),(.cst (.bool true)),(.cst (.bool true))])] []],
 .ifs (.nt (.var 1650553445)) [.aug (.sub (.var 7365998) (.cst (.str [101,110,100,115]))) .add (.cst (.int 1))] []]
def cI:Fn:=⟨[7365998,1802071652,431198598248,1650553445],[],Sv⟩
def Dz:List CS:=
 [.asg (.name 7365998) (.Ap [((.str [116,97,112,101]),(.Bd true (.var 126870958469236) none (some (.cst (.int 36))))),((.str [116,101,120,116]),(.cst (.str []))),((.str [114,111,119]),(.cst (.int 0))),((.str [97,116]),(.cst (.int 0))),((.str [100,117,101]),(.lst true [])),((.str [101,110,100,115]),(.cst (.int 0))),((.str [108,101,102,116]),(.cst (.int 5))),((.str [101,110,100]),(.cst (.str [10])))]),
 .expr (.app (.cst (.fn 1071)) [(.var 7365998),(.cst (.str [60,115,116,114,101,97,109,32,115,116,97,114,116,62])),(.cst (.str [])),(.cst .none)]),
 .asg (.sub (.var 7365998) (.cst (.str [101,110,100]))) (.sub (.lst false [(.cst (.str [10])),(.cst (.str [13,10])),(.cst (.str [8232]))]) (.app (.cst (.fn 1064)) [(.var 7365998),(.cst (.int 3))])),
 .asg (.name 1751474532) (.app (.cst (.fn 1064)) [(.var 7365998),(.cst (.int 3))]),
 .asg (.name 109330212154734) (.app (.cst (.fn 1064)) [(.var 7365998),(.cst (.int 3))]),
 .ifs (.cmp (.var 1751474532) [(.eq,(.cst (.int 1)))]) [.expr (.app (.cst (.fn 1071)) [(.var 7365998),(.cst (.str [60,100,111,99,117,109,101,110,116,32,115,116,97,114,116,62])),(.cst (.str [45,45,45])),(.cst .none)])] [],
 .ifs (.cmp (.var 1751474532) [(.gt,(.cst (.int 0)))]) [.expr (.app (.cst (.fn 1078)) [(.var 7365998),(.var 109330212154734)])] [.expr (.app (.cst (.fn 1085)) [(.var 7365998),(.var 109330212154734)])],
 .expr (.app (.cst (.fn 1106)) [(.var 7365998),(.bin .add (.cst (.int 1)) (.app (.cst (.fn 1064)) [(.var 7365998),(.cst (.int 2))])),(.cst (.int 2)),(.cst (.bool false))]),
 .asg (.name 1952541036) (.app (.cst (.fn 1064)) [(.var 7365998),(.cst (.int 4))]),
 .ifs (.cmp (.var 1952541036) [(.eq,(.cst (.int 1)))]) [.expr (.app (.cst (.fn 1085)) [(.var 7365998),(.cst (.int 2))])] [.ifs (.cmp (.var 1952541036) [(.gt,(.cst (.int 1)))]) [.expr (.app (.cst (.fn 1078)) [(.var 7365998),(.cst (.int 0))]),
   .ifs (.cmp (.var 1952541036) [(.eq,(.cst (.int 3)))]) [.expr (.app (.cst (.fn 1071)) [(.var 7365998),(.cst (.str [60,100,111,99,117,109,101,110,116,32,101,110,100,62])),(.cst (.str [46,46,46])),(.cst .none)])] []] []],
 .expr (.app (.cst (.fn 1071)) [(.var 7365998),(.cst (.str [60,115,116,114,101,97,109,32,101,110,100,62])),(.cst (.str [])),(.cst .none)]),
 .asg (.name 32478892437431666) (.app (.cst (.cls 1048)) [(.sub (.var 7365998) (.cst (.str [116,101,120,116])))]),
 .asg (.name 6778740) (.lst true []),
 .asg (.name 500085515630) (.AE (.var 32478892437431666) 1907325212640903128430 []),
 .BW (.cmp (.var 500085515630) [(.Ng,(.cst .none))]) [.asg (.name 508440638821) (.ite (.CL (.var 500085515630) 499) (.tup [(.AD (.var 500085515630) 508440638821),(.AD (.var 500085515630) 495875353701)]) (.cst .none)),
   .expr (.AE (.var 6778740) 107135549927012 [(.tup [(.AD (.var 500085515630) 26980),(.var 508440638821),(.AD (.AD (.var 500085515630) 545218989645281737405035) 1818848869),(.AD (.AD (.var 500085515630) 545218989645281737405035) 109330212154734),(.AD (.AD (.var 500085515630) 7308889606288667243) 1818848869),(.AD (.AD (.var 500085515630) 7308889606288667243) 109330212154734)])]),
   .asg (.name 500085515630) (.AE (.var 32478892437431666) 1907325212640903128430 [])],
 .ret (some (.cmp (.var 6778740) [(.eq,(.sub (.var 7365998) (.cst (.str [100,117,101]))))]))]
def FE:Fn:=⟨[126870958469236],[],Dz⟩
abbrev Gk:Nat:=1113
def cJ:Cl:=⟨[(6872327479327219551,.Ai 35)],[1851878757,452823639416,1818848869,109330212154734,108256368682354,31647696006964594],[53],false,.BH 35 [(1851878757,1851878757),(452823639416,452823639416),(1818848869,1818848869),(109330212154734,109330212154734),(108256368682354,108256368682354),(31647696006964594,31647696006964594)]⟩
def cK:Cl:=⟨[(6872327479327219551,.Ai 210),(26980,.val (.str [60,100,111,99,117,109,101,110,116,32,115,116,97,114,116,62]))],[545218989645281737405035,7308889606288667243],[246,213],false,.BH 210 [(545218989645281737405035,545218989645281737405035),(7308889606288667243,7308889606288667243)]⟩
def cL:Cl:=⟨[(6872327479327219551,.Ai 210),(26980,.val (.str [60,100,111,99,117,109,101,110,116,32,101,110,100,62]))],[545218989645281737405035,7308889606288667243],[258,213],false,.BH 210 [(545218989645281737405035,545218989645281737405035),(7308889606288667243,7308889606288667243)]⟩
def cM:Cl:=⟨[(6872327479327219551,.Ai 275),(26980,.val (.str [60,115,116,114,101,97,109,32,115,116,97,114,116,62]))],[545218989645281737405035,7308889606288667243,7308888575346044519],[278,213],false,.BH 275 [(545218989645281737405035,545218989645281737405035),(7308889606288667243,7308889606288667243),(7308888575346044519,7308888575346044519)]⟩
def cN:Cl:=⟨[(6872327479327219551,.Ai 210),(26980,.val (.str [60,115,116,114,101,97,109,32,101,110,100,62]))],[545218989645281737405035,7308889606288667243],[290,213],false,.BH 210 [(545218989645281737405035,545218989645281737405035),(7308889606288667243,7308889606288667243)]⟩
def cO:Cl:=⟨[(6872327479327219551,.Ai 210),(26980,.val (.str [60,98,108,111,99,107,32,115,101,113,117,101,110,99,101,32,115,116,97,114,116,62]))],[545218989645281737405035,7308889606288667243],[302,213],false,.BH 210 [(545218989645281737405035,545218989645281737405035),(7308889606288667243,7308889606288667243)]⟩
def cP:Cl:=⟨[(6872327479327219551,.Ai 210),(26980,.val (.str [60,98,108,111,99,107,32,109,97,112,112,105,110,103,32,115,116,97,114,116,62]))],[545218989645281737405035,7308889606288667243],[314,213],false,.BH 210 [(545218989645281737405035,545218989645281737405035),(7308889606288667243,7308889606288667243)]⟩
def cQ:Cl:=⟨[(6872327479327219551,.Ai 210),(26980,.val (.str [60,98,108,111,99,107,32,101,110,100,62]))],[545218989645281737405035,7308889606288667243],[326,213],false,.BH 210 [(545218989645281737405035,545218989645281737405035),(7308889606288667243,7308889606288667243)]⟩
def cR:Cl:=⟨[(6872327479327219551,.Ai 210),(26980,.val (.str [63]))],[545218989645281737405035,7308889606288667243],[386,213],false,.BH 210 [(545218989645281737405035,545218989645281737405035),(7308889606288667243,7308889606288667243)]⟩
def cS:Cl:=⟨[(6872327479327219551,.Ai 210),(26980,.val (.str [58]))],[545218989645281737405035,7308889606288667243],[398,213],false,.BH 210 [(545218989645281737405035,545218989645281737405035),(7308889606288667243,7308889606288667243)]⟩
def cT:Cl:=⟨[(6872327479327219551,.Ai 210),(26980,.val (.str [45]))],[545218989645281737405035,7308889606288667243],[410,213],false,.BH 210 [(545218989645281737405035,545218989645281737405035),(7308889606288667243,7308889606288667243)]⟩
def cU:Cl:=⟨[(6872327479327219551,.Ai 496),(26980,.val (.str [60,115,99,97,108,97,114,62]))],[545218989645281737405035,7308889606288667243,508440638821,482854660462,495875353701],[499,213],false,.BH 496 [(508440638821,508440638821),(482854660462,482854660462),(545218989645281737405035,545218989645281737405035),(7308889606288667243,7308889606288667243),(495875353701,495875353701)]⟩
def cV:Cl:=⟨[(6872327479327219551,.Ai 527)],[36034959069541267224754546034,8243119442065778020,452823639416,1818848869,109330212154734,1835102827],[530],false,.BH 527 [(36034959069541267224754546034,36034959069541267224754546034),(8243119442065778020,8243119442065778020),(452823639416,452823639416),(1818848869,1818848869),(109330212154734,109330212154734),(1835102827,1835102827)]⟩
def cW:Cl:=⟨[(6872327479327219551,.Ai 550),(1885693291,.Ai 152),(123636629793144,.Ai 160),(28832985044316772,.Ai 168),(7450489111760171627,.Ai 175),(516154792406963383754084634884992101,.Ai 182),(129125580895333,.Ai 189),(1907325212640903128430,.Ai 573),(146741557994772358995325818971779067507,.Ai 580),(34843657776173402854571545973394225065587,.Ai 587),(2706911097435030565291582775057801442222980002752630580601,.Ai 594),(185528407706441132242969054637315584717608875189555691342100851,.Ai 601),(2829126846607722328359823057131131758135423089070322705785,.Ai 608),(183827607669007229023581801743932684454154522881659323317708153,.Ai 615),(9303882725306664761746388250228,.Ai 622),(459921455861175972884084,.Ai 629),(8919976390700392993725003937459785502388852,.Ai 636),(136108038188177383327102721213679890020,.Ai 643),(584579572740940650599854114886685077763199693428,.Ai 657),(8919976390700388345334688032328568690536036,.Ai 664),(2510750146831993174603336205809339154659260563747109105522,.Ai 671),(34843657776173389542164949771022241133177,.Ai 727),(1888878472913432044921,.Ai 734),(123789539600854729672652133,.Ai 741),(31690122137818807532056439909,.Ai 790),(34843657776173394377869666025701401977202,.Ai 804),(123789539600854704086673774,.Ai 811),(567518195983763431480234338668327964402033717876,.Ai 825),(8659640441646780875858067911809203557461604,.Ai 832),(33826720475182735364521902425243471082105,.Ai 839),(1833750191362651415929,.Ai 846),(120176652541142770371032421,.Ai 853),(120176652541142744785054062,.Ai 860),(10051730344681900695319271836629125802190190,.Ai 867),(153377233042614602538669525734133621106,.Ai 979),(47467954474564311664414611570754874207935278067716646366108411251,.Ai 989),(544905393847112021666158,.Ai 1010),(39264571658912433033627302113485948937587,.Ai 1017),(599129816572741569948218615260340587,.Ai 1045)],[1851878757,126943972647277,2341702975124311297391685803468146,6647654,108256368682354,31647696006964594,540147714924359050487154,540147714926489304523877,7308888575346044519,452823639416,1818848869,109330212154734,1685024357,483681661606044045305196,128021892001395,36034959069546880227118638446,115922851688052,29676250032141427,129498082983365943657840870465989207417,641892406234741257400485027431320278878166284659],[1048,192],false,.run 550⟩
abbrev vG:Nat:=35
abbrev cY:Nat:=130
abbrev vH:Nat:=144
abbrev Cs:Nat:=152
abbrev D0:Nat:=160
abbrev D5:Nat:=168
abbrev vI:Nat:=175
abbrev cZ:Nat:=182
abbrev vJ:Nat:=189
abbrev vK:Nat:=210
abbrev vL:Nat:=275
abbrev vM:Nat:=496
abbrev vN:Nat:=527
abbrev cb:Nat:=550
abbrev Sw:Nat:=573
abbrev HZ:Nat:=580
abbrev Cm:Nat:=587
abbrev vO:Nat:=594
abbrev Ie:Nat:=601
abbrev Ig:Nat:=608
abbrev OY:Nat:=615
abbrev OZ:Nat:=622
abbrev Sx:Nat:=629
abbrev vP:Nat:=636
abbrev Sy:Nat:=643
abbrev Sz:Nat:=657
abbrev S0:Nat:=664
abbrev vQ:Nat:=671
abbrev S3:Nat:=727
abbrev S4:Nat:=734
abbrev Oa:Nat:=741
abbrev S5:Nat:=790
abbrev vR:Nat:=804
abbrev F5:Nat:=811
abbrev Ha:Nat:=825
abbrev Ll:Nat:=832
abbrev vS:Nat:=839
abbrev vT:Nat:=846
abbrev vU:Nat:=853
abbrev vV:Nat:=860
abbrev S6:Nat:=867
abbrev cj:Nat:=979
abbrev cm:Nat:=989
abbrev Jx:Nat:=1010
abbrev Ih:Nat:=1017
abbrev Hb:Nat:=1045
abbrev vW:Nat:=1057
abbrev Ob:Nat:=1064
abbrev cq:Nat:=1071
abbrev cu:Nat:=1078
abbrev cw:Nat:=1085
abbrev cy:Nat:=1092
abbrev FF:Nat:=1099
abbrev Lm:Nat:=1106
abbrev vX:Nat:=53
abbrev Jy:Nat:=246
abbrev Jz:Nat:=258
abbrev cz:Nat:=278
abbrev S7:Nat:=290
abbrev Ii:Nat:=302
abbrev DG:Nat:=314
abbrev c5:Nat:=326
abbrev Dd:Nat:=386
abbrev Hc:Nat:=398
abbrev Lp:Nat:=410
abbrev vY:Nat:=499
abbrev vZ:Nat:=530
abbrev vb:Nat:=1048
def DD:List (Nat×Fn):=[(35,Z4),(130,Z6),(144,Z8),(152,aA),(160,aC),(168,aD),(175,aF),(182,aG),(189,aI),(210,aK),(275,aM),(496,aO),(527,aQ),(550,aS),(573,aT),(580,aV),(587,aX),(594,aZ),(601,ab),(608,af),(615,ah),(622,ai),(629,ak),(636,aq),(643,av),(657,ax),(664,az),(671,a7),(727,a9),(734,bB),(741,bD),(790,bF),(804,bH),(811,bJ),(825,bL),(832,bN),(839,bP),(846,bR),(853,bT),(860,bV),(867,bW),(979,bZ),(989,bg),(1010,bh),(1017,bj),(1045,bq),(1057,bu),(1064,bx),(1071,cA),(1078,cC),(1085,cE),(1092,cG),(1099,cH),(1106,cI)]
def Al:List (Nat×Cl):=[(53,cJ),(246,cK),(258,cL),(278,cM),(290,cN),(302,cO),(314,cP),(326,cQ),(386,cR),(398,cS),(410,cT),(499,cU),(530,cV),(1048,cW)]
def BP:List Nat:=[499]
def B9:Nat:=1113
def Lq:List Nat:=[3,2,1048,1047,530,529,499,498,410,409,398,397,386,385,326,325,314,313,302,301,290,289,278,277,258,257,246,245,213,212,192,191,53,52,35,130,144,152,160,168,175,182,189,210,275,496,527,550,573,580,587,594,601,608,615,622,629,636,643,657,664,671,727,734,741,790,804,811,825,832,839,846,853,860,867,979,989,1010,1017,1045,1057,1064,1071,1078,1085,1092,1099,1106,1113,34,129,143,151,159,167,174,181,188,209,274,495,526,549,572,579,586,593,600,607,614,621,628,635,642,656,663,670,726,733,740,789,803,810,824,831,838,845,852,859,866,978,988,1009,1016,1044,1056,1063,1070,1077,1084,1091,1098,1105,1112,145,153,161,268,489,538]
end L4
end Internal
section
set_option maxHeartbeats 0
namespace Internal
abbrev pw:wR:=PySem.Challenge.pw_te0052_02
def J0(ok:Thread->Bool)(stp:xY->Thread->Option (xY×Thread)):Nat->xY->Thread->Option xY
 |0,_,_=> none
 |n+1,s,t=> match through t with
  |true=> some s
  |false=> match ok t with
   |false=> none
   |true=> match stp s t with
    |some (s',t')=> J0 ok stp n s' t'
    |none=> none
theorem Oc{tb:String->Option ya}{p:wR}{w:wU}{n₀:Nat}{ann:Option R5}:∀{n:Nat} {s s':xY} {t:Thread},
 J0 (stepOk n₀ ann) (stepT (denote tb) p w) n s t=some s'->topRun tb p w n₀ ann n s.abs t=some s'.abs
 |0,_,_,_,h=> by cases h
 |n+1,s,s',t,h=> by
  unfold J0 at h;unfold topRun;cases ht:through t with
  |true=> rw [ht]at h;cases h;rfl
  |false=>
   rw [ht]at h;cases hk:stepOk n₀ ann t with
   |false=> rw [hk]at h;cases h
   |true=>
    rw [hk]at h;cases hs:stepT (denote tb) p w s t with
    |none=> rw [hs]at h;cases h
    |some r=> obtain⟨s₂,t₂⟩:=r;rw [hs]at h;rw [stepT_spec hs];exact Oc h
def S8:Nat->BT->List Obj->BT
 |_,T,[]=> T
 |n,T,o::r=> S8 (n+1) (T.ins n o) r
def Ls(P:Params):BT:=S8 0 .nil (wg P).objs.toList
theorem S9(P:Params):absHeap (Ls P) 11 (wg P).life=wg P:=by rfl
def Lu(P:Params)(os:xk):xY:=⟨Ls P,11,(wg P).life,#[],yB,yD,os⟩
end Internal
namespace Internal
def vw:wR:=view pw [44]
def Ij:List Str:=pw.boundNames.filter fun n=> !(n==Str.ofString "law")
end Internal
namespace Internal
theorem TA(P:Params):((wg P).isNs mainGlobals&&(#[]:Array GenState).size==0)=true/\(wg P).objs.size=11/\(wg P).nsMap mainGlobals "__annotations__"=some (.ref 6):=by refine⟨?_,?_,?_⟩<;>kernel_rfl
theorem vc{p q:wR}{loose:List Str}{Xt:vy->Bool}{α:Type}{Yf:vy->α}{Ya:wU->α}{N:Nat}(e:opening p=plainProg p.main.scope.names)(hN:wX 600 N=true)(f:∀s,fenceModules? p s=some s)
 (run:∀(w:wU) (os:xk),(J0 (stepOk 11 (some (.ref 6))) (stepT (denote treeTable) p w) N (Lu w.params os) (topStub p)).map (fun s=>
   (staticsOk (importedModules p.main.body) (wg w.params) s.abs.heap&&namesBound p s.abs.heap&&gensDone s.abs&&laidKept (wg w.params) s.abs.heap,
     openSeen q loose (importedModules p.main.body) Xt true s.abs,Yf s.abs))=some (true,openGood q loose,Ya w)):LeftO p q loose Xt Yf Ya N:=fun w=> by
 obtain⟨⟨h,gs,d,k,os⟩,e1,e2⟩:=wK.mp (boot_open e hN f w);obtain⟨rfl,rfl,rfl,rfl⟩:h=wg w.params/\gs=yZ []/\d=yB/\k=yD:=by simpa using e2
 obtain⟨s1,r1,r2⟩:=wK.mp (run w os);obtain⟨l1,l2,l3⟩:_/\_/\_:=by simpa only [Prod.mk.injEq]using r2
 have r:=Oc r1;have eb:(Lu w.params os).abs=⟨wg w.params,yZ [],yB,yD,os⟩:=by show(⟨absHeap (Ls w.params) 11 (wg w.params).life,_,_,_,_⟩:vy)=_;rw [S9];rfl
 rw [eb]at r;obtain⟨z1,z2,z3⟩:=TA w.params;have t:topFrom treeTable p w N ⟨wg w.params,yZ [],yB,yD,os⟩=some s1.abs:=by unfold topFrom;dsimp only;rw [z1,z2,z3,r];show(match staticsOk (importedModules p.main.body) (wg w.params) s1.abs.heap&&namesBound p s1.abs.heap&&gensDone s1.abs&&laidKept (wg w.params) s1.abs.heap with |true=> _ |false=> _)=_;rw [l1]
 unfold openEnds;rw [e1];show(topFrom treeTable p w N _).map _=_;rw [t];exact congrArg some (Prod.ext l2 l3)
end Internal
end
section
set_option maxHeartbeats 0
namespace Internal
theorem c6:PySem.Challenge.rw_te0052_02.wellSaid=true:=by
 unfold OpenLaw.wellSaid OpenRow.wellSaid OpenRow.partSaid
 repeat' with_reducible refine look_both ?_ ?_
 all_goals first
  |(rw [Fast.te12908688711261696721];decide+kernel)
  |(rw [Fast.te8326940854005059898];decide+kernel)
  |(rw [Fast.te17119622794617984870];decide+kernel)
  |(rw [Fast.te8179353310426384613];decide+kernel)
  |(rw [Fast.te9558739934217749035];decide+kernel)
  |(rw [Fast.te16286561074155671207];decide+kernel)
  |(rw [Fast.te10501279942588096481];decide+kernel)
  |(rw [Fast.named_eq];decide+kernel)
  |decide+kernel
end Internal
end
section
set_option maxHeartbeats 0
namespace Internal
def Lv(L:List Nat)(T:BT):Frag:=L.map fun a=> (a,((T.get a).bind alive).getD ⟨.none,none,.plain,#[]⟩)
def Od(L:List Nat)(T:BT)(n:Nat):Bool:=L.all (fun a=> Nat.blt a n&&(match T.get a with |some o=> (alive o).isSome |none=> false))
def TB(o:Option (Option R5))(a:Nat):Bool:=match o with
 |some (some (.ref b))=> wh b a
 |_=> false
def Oe(L:List Nat)(Al:List (Nat×Cl))(BP:List Nat)(B9:Nat)(AAv:Fn)(fl:List (Nat×Fn))(A8:Nat->List PS)(K:Frag):Bool:=
 allB [(K.lookup mainGlobals).any (fun o=> match o.data with | .dict _ _=> true |_=> false),Sl K Al BP,TB (Fz (F0 K) ("law":vz)) B9,HY pw K (Fz (F0 K)) (Fy Al) 1 B9 AAv (A8 B9),fl.all fun p=> HY pw K (Fz (F0 K)) (Fy Al) 0 p.1 p.2 (A8 p.1)]
def Lx(K:Frag)(fl:List (Nat×Fn)):List (Option (List Stmt)):=fl.map fun p=> Jw K p.1
def F6(fl:List (Nat×Fn))(A8:Nat->List PS):List (Option (List Stmt)):=fl.map fun p=> some (Ea p.2.body (A8 p.1))
theorem c7{L:List Nat}{T:BT}{n:Nat}{life:Life}(h:Od L T n=true):(Lv L T).In (absHeap T n life):=by
 intro a o e;unfold Lv at e
 induction L with
 |nil=> cases e
 |cons b r ih=>
  obtain⟨h1,h2⟩:=wD.mp (show((Nat.blt b n&&(match T.get b with |some o=> (alive o).isSome |none=> false))&&Od r T n)=true from h);rw [wj,wm]at e;by_cases hab:(a==b)=true
  . rw [hab]at e;cases e;rw [eq_of_beq hab];obtain⟨g1,g2⟩:=wD.mp h1;have g1:b<n:=wA g1;cases ht:T.get b with
    |none=> rw [ht]at g2;cases g2
    |some o=> rw [ht]at g2;rw [abs_get g1 ht];obtain⟨o',ho⟩:=yc.mp (show(alive o).isSome=true from g2);rw [ho];show some o'=some (((some o).bind alive).getD _);show some o'=some ((alive o).getD _);rw [ho];rfl
  . rw [Bool.not_eq_true]at hab;rw [hab]at e;exact ih h2 e
def YS(L:List Nat)(Al:List (Nat×Cl))(BP:List Nat)(B9:Nat)(AAv:Fn)(fl:List (Nat×Fn))(A8:Nat->List PS)(h:Heap):Prop:=
 ∃K:Frag,K.In h/\Oe L Al BP B9 AAv fl A8 K=true/\Lx K ((B9,AAv)::fl)=F6 ((B9,AAv)::fl) A8
abbrev J3(L:List Nat)(Al:List (Nat×Cl))(BP:List Nat)(B9:Nat)(AAv:Fn)(fl:List (Nat×Fn))(A8:Nat->List PS)(s:xY):Bool×Bool×List (Option (List Stmt)):=
 (Od L s.tree s.n,Oe L Al BP B9 AAv fl A8 (Lv L s.tree),Lx (Lv L s.tree) ((B9,AAv)::fl))
theorem c8{L:List Nat}{Al:List (Nat×Cl)}{BP:List Nat}{B9:Nat}{AAv:Fn}{fl:List (Nat×Fn)}{A8:Nat->List PS}{s:xY}(h:J3 L Al BP B9 AAv fl A8 s=(true,true,F6 ((B9,AAv)::fl) A8)):YS L Al BP B9 AAv fl A8 s.abs.heap:=by obtain⟨h1,h2⟩:=xh h;obtain⟨h2,h3⟩:=xh h2;exact⟨_,c7 h1,h2,h3⟩
abbrev Gm(w:wU)(b:Bool)(N:Nat)(q:wR)(loose:List Str)(Xt:vy->Bool)(see:xY->Bool×Bool×List (Option (List Stmt)))(R:List (Option (List Stmt)))(os:xk):Prop:=
 (J0 (stepOk 11 (some (.ref 6))) (stepT (denote treeTable) pw (w.withFollow "special-get-raises" b)) N (Lu w.params os) (topStub pw)).map (fun s=>
   (staticsOk (importedModules pw.main.body) (wg w.params) s.abs.heap&&namesBound pw s.abs.heap&&gensDone s.abs&&laidKept (wg w.params) s.abs.heap,
     openSeen q loose (importedModules pw.main.body) Xt true s.abs,see s))=some (true,openGood q loose,true,true,R)
theorem c9{q:wR}{loose:List Str}{Xt:vy->Bool}{N:Nat}{L:List Nat}{Al:List (Nat×Cl)}{BP:List Nat}{B9:Nat}{AAv:Fn}{fl:List (Nat×Fn)}{A8:Nat->List PS}
 (e:opening pw=plainProg pw.main.scope.names) (hN:wX 600 N=true) (f:∀s,fenceModules? pw s=some s)
 (ADV:∀(w:wU) (os:xk),Gm w false N q loose Xt (J3 L Al BP B9 AAv fl A8) (F6 ((B9,AAv)::fl) A8) os) (ADW:∀(w:wU) (os:xk),Gm w true N q loose Xt (J3 L Al BP B9 AAv fl A8) (F6 ((B9,AAv)::fl) A8) os):
 LeftO pw q loose Xt (fun s=> YS L Al BP B9 AAv fl A8 s.heap) (fun _=> True) N:=fun w=> by
 obtain(⟨⟨h,gs,d,k,os⟩,e1,e2⟩):=wK.mp (boot_open e hN f w);obtain(⟨rfl,rfl,rfl,rfl⟩):h=wg w.params/\gs=yZ []/\d=yB/\k=yD:=by simpa using e2
 have run:∃b,w.withFollow "special-get-raises" b=w/\Gm w b N q loose Xt (J3 L Al BP B9 AAv fl A8) (F6 ((B9,AAv)::fl) A8) os:=by
  refine⟨w.params.followText "special-get-raises",World.withFollow_self w _,?_⟩;cases w.params.followText "special-get-raises"
  . exact ADV w os
  . exact ADW w os
 obtain(⟨b,hb,run⟩):=run;unfold Gm at run;rw [hb]at run;obtain(⟨s1,r1,r2⟩):=wK.mp run;obtain(⟨l1,r2⟩):=xh r2;obtain(⟨l2,l3⟩):=xh r2;have r:=Oc r1;have eb:(Lu w.params os).abs=⟨wg w.params,yZ [],yB,yD,os⟩:=by show(⟨absHeap (Ls w.params) 11 (wg w.params).life,_,_,_,_⟩:vy)=_;rw [S9];rfl
 rw [eb]at r;obtain(⟨z1,z2,z3⟩):=TA w.params;have t:topFrom treeTable pw w N ⟨wg w.params,yZ [],yB,yD,os⟩=some s1.abs:=by unfold topFrom;dsimp only;rw [z1,z2,z3,r];show(match staticsOk (importedModules pw.main.body) (wg w.params) s1.abs.heap&&namesBound pw s1.abs.heap&&gensDone s1.abs&&laidKept (wg w.params) s1.abs.heap with |true=> _ |false=> _)=_;rw [l1]
 unfold openEnds;rw [e1];show(topFrom treeTable pw w N _).map _=_;rw [t];exact congrArg some (Prod.ext l2 (eq_true (c8 l3)))
end Internal
end
section
set_option maxHeartbeats 0
namespace Internal
def TC(s:Stmt):List (List Stmt):=match s with
 | .FunctionDef _ _ b .. =>[b]
 |_=>[]
def dA(s:Stmt):List (List Stmt):=match s with
 | .ClassDef _ _ _ b .. => b.flatMap TC
 |s=> TC s
def dB:List (Nat×Nat):=[(35,1),(130,8),(144,9),(152,10),(160,11),(168,12),(175,13),(182,14),(189,15),(210,16),(275,18),(496,22),(527,23),(550,24),(573,27),(580,28),(587,29),(594,30),(601,31),(608,32),(615,33),(622,34),(629,35),(636,36),(643,37),(657,39),(664,40),(671,41),(727,49),(734,50),(741,51),(790,58),(804,60),(811,61),(825,63),(832,64),(839,65),(846,66),(853,67),(860,68),(867,69),(979,85),(989,86),(1010,89),(1017,90),(1045,94),(1057,95),(1064,96),(1071,97),(1078,98),(1085,99),(1092,100),(1099,101),(1106,102),(1113,103)]
def A8(a:Nat):List PS:=(((pw.main.body.flatMap dA)[(Cj dB a).getD 0]?).getD []).map (HX 60)
abbrev Ly:vy->Bool:=fun s=> xlAt vw [] s&&recOk [] s
abbrev TF:xY->Bool×Bool×List (Option (List Stmt)):=J3 L4.Lq L4.Al L4.BP L4.Gk L4.FE L4.DD A8
theorem dC(w:wU)(os:xk):Gm w false 10300 vw Ij Ly TF (F6 ((L4.Gk,L4.FE)::L4.DD) A8) os:=by
 unfold Gm;rw [AAK,AAG,AAH,AAI,AAL,AAM]
 kernel_rfl
theorem dD(w:wU)(os:xk):Gm w true 10300 vw Ij Ly TF (F6 ((L4.Gk,L4.FE)::L4.DD) A8) os:=by
 unfold Gm;rw [AAK,AAG,AAH,AAI,AAL,AAM]
 kernel_rfl
theorem dE:LeftO pw vw Ij Ly (fun s=> YS L4.Lq L4.Al L4.BP L4.Gk L4.FE L4.DD A8 s.heap) (fun _=> True) 10300:=
 c9 (by kernel_rfl) rfl (fun _=> rfl) dC dD
end Internal
end
namespace Internal
abbrev Led:=List (Addr×Obj)
structure Wd where
 r:Nat->Addr
 lv:Nat->Prop
 fz:Led
structure Wd.le(W V:Wd):Prop where
 lv:∀i,W.lv i->V.lv i
 r:∀i,W.lv i->V.r i=W.r i
 fz:∀p∈W.fz,p∈V.fz
theorem Wd.le_rfl(W:Wd):W.le W:=⟨fun _ h=> h,fun _ _=> rfl,fun _ h=> h⟩
theorem Wd.le.trans{U V W:Wd}(a:U.le V)(b:V.le W):U.le W:=
 ⟨fun i h=> b.lv i (a.lv i h),fun i h=> (b.r i (a.lv i h)).trans (a.r i h),fun p h=> b.fz p (a.fz p h)⟩
abbrev F7(vs:List R5)(n:Nat):Obj:={cls:=.type "tuple",data:=.seq vs.toArray n}
def Kn(B:Heap)(W:Wd)(a:Addr)(o:Obj):Prop:=(a,o)∈W.fz∨B.get? a=some o
theorem Kn.mono{B:Heap}{W V:Wd}{a:Addr}{o:Obj}(x:Kn B W a o)(h:W.le V):Kn B V a o:=x.imp (h.fz _) id
def A3(s:List Nat):Prop:=s.length<=lim/\∀c∈s,c<1114112
inductive TupAt(B:Heap)(W:Wd)(R:List R5->Prop):R5->Prop
 |mk {v:R5} (a:Addr) (vs:List R5) (k:Nat) (e:v= .ref a) (q:Kn B W a (F7 vs k)) (m:R vs):TupAt B W R v
inductive TG(B:Heap)(W:Wd)(R:List R5->Prop):R5->Prop
 |mk {v:R5} (a:Addr) (vs:List R5) (k:Nat) (e:v= .ref a) (q:Kn B W a (listOf vs.toArray k)) (m:R vs):TG B W R v
inductive TH(B:Heap)(W:Wd)(c:Addr)(R:List wQ->Prop):R5->Prop
 |mk {v:R5} (x:Addr) (ox:Obj) (dx:Addr) (es:List wQ) (k:Nat) (e:v= .ref x) (q:Kn B W x ox) (c1:ox.cls= .ref c) (c2:ox.dict=some dx) (c3:notCls ox=true) (q2:Kn B W dx (dictOf es k)) (m:R es):TH B W c R v
mutual
def AG(B:Heap)(W:Wd):AV->R5->Prop
 | .none,v=> v= .none
 | .bool b,v=> v= .bool b
 | .int i,v=> ∃t,v= .int i t
 | .str s,v=> (∃t,v= .str (AF s) t)/\A3 s
 | .tup xs,v=> TupAt B W (AQ B W xs) v/\xs.length<=lim
 | .Ah xs,v=> TG B W (AQ B W xs) v/\xs.length<=lim
 | .obj c fs,v=> TH B W c (Au B W fs) v
 | .ref i,v=> v= .ref (W.r i)/\W.lv i
 | .fn a,v=> v= .ref a
 | .cls a,v=> v= .ref a
 | .GZ,v=> ∃s t,v= .str s t
def AQ(B:Heap)(W:Wd):List AV->List R5->Prop
 | [],[]=> True
 |x::xs,v::vs=> AG B W x v/\AQ B W xs vs
 | [],_::_=> False
 |_::_,[]=> False
def Au(B:Heap)(W:Wd):List (N×AV)->List wQ->Prop
 | [],[]=> True
 |p::xs,e::es=> ((∃t,e.key= .str (nm p.1) t)/\AG B W p.2 e.val)/\Au B W xs es
 | [],_::_=> False
 |_::_,[]=> False
end
def DH(o:Obj):Prop:=o.cls= .type "tuple"∨o.cls= .type "list"∨o.cls= .type "dict"∨∃c,o.cls= .ref c
mutual
def D6(n:Nat->Prop):AV->Prop
 | .ref i=> n i
 | .tup xs=> Hd n xs
 | .Ah xs=> Hd n xs
 | .obj _ fs=> F8 n fs
 |_=> True
def Hd(n:Nat->Prop):List AV->Prop
 | []=> True
 |x::xs=> D6 n x/\Hd n xs
def F8(n:Nat->Prop):List (N×AV)->Prop
 | []=> True
 |x::xs=> D6 n x.2/\F8 n xs
end
mutual
theorem AG.lt'{B:Heap}{W:Wd}:∀{x:AV} {v:R5},AG B W x v->D6 W.lv x
 | .none,_,_=> trivial
 | .bool _,_,_=> trivial
 | .int _,_,_=> trivial
 | .str _,_,_=> trivial
 | .tup _,_,h=> let⟨⟨_,_,_,_,_,m⟩,_⟩:=h;AQ.lt' m
 | .Ah _,_,h=> let⟨⟨_,_,_,_,_,m⟩,_⟩:=h;AQ.lt' m
 | .obj _ _,_,h=> let⟨_,_,_,_,_,_,_,_,_,_,_,m⟩:=h;Au.lt' m
 | .ref _,_,h=> h.2
 | .fn _,_,_=> trivial
 | .cls _,_,_=> trivial
 | .GZ,_,_=> trivial
theorem AQ.lt'{B:Heap}{W:Wd}:∀{x:List AV} {v:List R5},AQ B W x v->Hd W.lv x
 | [],_,_=> trivial
 |_::_,_::_,r=> ⟨AG.lt' r.1,AQ.lt' r.2⟩
 |_::_,[],r=> r.elim
theorem Au.lt'{B:Heap}{W:Wd}:∀{x:List (N×AV)} {v:List wQ},Au B W x v->F8 W.lv x
 | [],_,_=> trivial
 |_::_,_::_,r=> ⟨AG.lt' r.1.2,Au.lt' r.2⟩
 |_::_,[],r=> r.elim
end
structure Wd.To(B:Heap)(W V:Wd)(n:Nat->Prop):Prop where
 kn:∀a o,DH o->Kn B W a o->Kn B V a o
 r:∀i,n i->V.r i=W.r i/\V.lv i
mutual
theorem AG.gen{B:Heap}{W V:Wd}{n:Nat->Prop}(T:Wd.To B W V n):∀{x:AV} {v:R5},AG B W x v->D6 n x->AG B V x v
 | .none,_,r,_=> r
 | .bool _,_,r,_=> r
 | .int _,_,r,_=> r
 | .str _,_,r,_=> r
 | .tup _,_,h,b=> let⟨⟨a,vs,k,e,q,m⟩,l⟩:=h;⟨⟨a,vs,k,e,T.kn _ _ (.inl rfl) q,AQ.gen T m b⟩,l⟩
 | .Ah _,_,h,b=> let⟨⟨a,vs,k,e,q,m⟩,l⟩:=h;⟨⟨a,vs,k,e,T.kn _ _ (.inr (.inl rfl)) q,AQ.gen T m b⟩,l⟩
 | .obj c _,_,h,b=> let⟨x,ox,dx,es,k,e,q,c1,c2,c3,q2,m⟩:=h;⟨x,ox,dx,es,k,e,T.kn _ _ (.inr (.inr (.inr ⟨c,c1⟩))) q,c1,c2,c3,T.kn _ _ (.inr (.inr (.inl rfl))) q2,Au.gen T m b⟩
 | .ref i,_,h,b=> ⟨(T.r i b).1▸h.1,(T.r i b).2⟩
 | .fn _,_,r,_=> r
 | .cls _,_,r,_=> r
 | .GZ,_,r,_=> r
theorem AQ.gen{B:Heap}{W V:Wd}{n:Nat->Prop}(T:Wd.To B W V n):∀{x:List AV} {v:List R5},AQ B W x v->Hd n x->AQ B V x v
 | [],v,r,_=> by
   cases v with
   |nil=> trivial
   |cons _ _=> exact r.elim
 |_::_,v,r,b=> by
  cases v with
  |nil=> exact r.elim
  |cons _ _=> exact⟨AG.gen T r.1 b.1,AQ.gen T r.2 b.2⟩
theorem Au.gen{B:Heap}{W V:Wd}{n:Nat->Prop}(T:Wd.To B W V n):∀{x:List (N×AV)} {v:List wQ},Au B W x v->F8 n x->Au B V x v
 | [],v,r,_=> by
   cases v with
   |nil=> trivial
   |cons _ _=> exact r.elim
 |_::_,v,r,b=> by
  cases v with
  |nil=> exact r.elim
  |cons _ _=> exact⟨⟨r.1.1,AG.gen T r.1.2 b.1⟩,Au.gen T r.2 b.2⟩
end
theorem Wd.le.to{B:Heap}{W V:Wd}(h:W.le V):Wd.To B W V W.lv:=⟨fun _ _ _ k=> k.mono h,fun i l=> ⟨h.r i l,h.lv i l⟩⟩
theorem AG.mono{B:Heap}{W V:Wd}(h:W.le V){x:AV}{v:R5}(r:AG B W x v):AG B V x v:=r.gen h.to r.lt'
theorem AQ.mono{B:Heap}{W V:Wd}(h:W.le V){x:List AV}{v:List R5}(r:AQ B W x v):AQ B V x v:=r.gen h.to r.lt'
theorem Au.mono{B:Heap}{W V:Wd}(h:W.le V){x:List (N×AV)}{v:List wQ}(r:Au B W x v):Au B V x v:=r.gen h.to r.lt'
theorem AQ.length{B:Heap}{W:Wd}:∀{x:List AV} {v:List R5},AQ B W x v->x.length=v.length
 | [],v,r=> by
   cases v with
   |nil=> rfl
   |cons _ _=> exact r.elim
 |_::_,v,r=> by
  cases v with
  |nil=> exact r.elim
  |cons _ _=> exact congrArg (· +1) (AQ.length r.2)
theorem AQ.append{B:Heap}{W:Wd}:∀{x y:List AV} {v u:List R5},AQ B W x v->AQ B W y u->AQ B W (x++y) (v++u)
 | [],_,v,_,r,h=> by
   cases v with
   |nil=> exact h
   |cons _ _=> exact r.elim
 |_::_,_,v,_,r,h=> by
  cases v with
  |nil=> exact r.elim
  |cons _ _=> exact⟨r.1,AQ.append r.2 h⟩
theorem AQ.get{B:Heap}{W:Wd}:∀{x:List AV} {v:List R5} {i:Nat} {a:AV},AQ B W x v->x[i]? =some a->∃b,v[i]? =some b/\AG B W a b
 | [],_,_,_,_,e=> nomatch e
 |_::_,v,i,_,r,e=> by
  cases v with
  |nil=> exact r.elim
  |cons b _=>
   cases i with
   |zero=> exact⟨b,rfl,wb e▸r.1⟩
   |succ i=> exact AQ.get (i:=i) r.2 e
theorem AQ.take{B:Heap}{W:Wd}:∀{x:List AV} {v:List R5} (k:Nat),AQ B W x v->AQ B W (x.take k) (v.take k)
 | [],v,k,r=> by
   cases v with
   |nil=> rw [List.take_nil,List.take_nil];trivial
   |cons _ _=> exact r.elim
 |_::_,v,k,r=> by
  cases v with
  |nil=> exact r.elim
  |cons _ _=>
   cases k with
   |zero=> trivial
   |succ k=> exact⟨r.1,AQ.take k r.2⟩
theorem AQ.drop{B:Heap}{W:Wd}:∀{x:List AV} {v:List R5} (k:Nat),AQ B W x v->AQ B W (x.drop k) (v.drop k)
 | [],v,k,r=> by
   cases v with
   |nil=> rw [List.drop_nil,List.drop_nil];trivial
   |cons _ _=> exact r.elim
 |_::_,v,k,r=> by
  cases v with
  |nil=> exact r.elim
  |cons _ _=>
   cases k with
   |zero=> exact r
   |succ k=> exact AQ.drop k r.2
theorem TJ{e:wQ}{n:N}{t:Tok}(h:e.key= .str (nm n) t):e.key.isStr (nm n)=true:=by rw [h];exact beq_self_eq_true (nm n)
theorem Of{e:wQ}{n a:N}{t:Tok}(h:e.key= .str (nm n) t)(hn:¬n=a):e.key.isStr (nm a)=false:=by rw [h];exact beq_eq_false_iff_ne.mpr fun q=> hn (IT q)
theorem TK{e:wQ}{n:vz}{t:Tok}(h:e.key= .str n t):e.refKey=false:=by rw [DictEntry.refKey,h]
theorem dF{n:vz}{e:wQ}{es:List wQ}(h:e.key.isStr n=true):getL n (e::es)=some (some e.val):=by have q:(e::es).find? (·.key.isStr n)=some e:=List.find?_cons_of_pos h;unfold getL;rw [q]
theorem TL{n:vz}{e:wQ}{es:List wQ}(h:e.key.isStr n=false)(hr:e.refKey=false):getL n (e::es)=getL n es:=by have q:(e::es).find? (·.key.isStr n)=es.find? (·.key.isStr n):=List.find?_cons_of_neg (by rw [h];exact nofun);unfold getL;rw [q,zS,hr,yR]
theorem Au.look{B:Heap}{W:Wd}{a:N}:∀{fs:List (N×AV)} {es:List wQ} {x:AV},Au B W fs es->Internal.look a fs=some x->∃v,getL (nm a) es=some (some v)/\AG B W x v
 | [],_,_,_,e=> cNS e
 |(n,y)::fs,e'::es,x,r,e=> by
  obtain⟨⟨⟨t,hk⟩,hv⟩,r2⟩:=r;refine C7 (show(if n=a then some y else Internal.look a fs)=some x from e) (fun hn e=> ?_) (fun hn e=> ?_)
  . exact⟨e'.val,dF (hn▸TJ hk),wb e▸hv⟩
  . obtain⟨v,h1,h2⟩:=Au.look r2 e;exact⟨v,(TL (Of hk hn) (TK hk)).trans h1,h2⟩
 |_::_,[],_,r,_=> r.elim
theorem Au.miss{B:Heap}{W:Wd}{a:N}:∀{fs:List (N×AV)} {es:List wQ},Au B W fs es->Internal.look a fs=none->getL (nm a) es=some none
 | [],[],_,_=> rfl
 |(n,y)::fs,e'::es,r,e=> by obtain⟨⟨⟨t,hk⟩,hv⟩,r2⟩:=r;exact C7 (show(if n=a then some y else Internal.look a fs)=none from e) (fun hn e=> cSN e) (fun hn e=> (TL (Of hk hn) (TK hk)).trans (Au.miss r2 e))
 | [],_::_,r,_=> r.elim
 |(_,_)::_,[],r,_=> r.elim
theorem Au.put{B:Heap}{W:Wd}{a:N}{x:AV}{v:R5}(hx:AG B W x v)(hsh:Int)(t:Tok):∀{fs:List (N×AV)} {es:List wQ},Au B W fs es->
 Au B W (Internal.put a x fs) (putL (nm a) hsh (.str (nm a) t) v es)
 | [],[],_=> ⟨⟨⟨t,rfl⟩,hx⟩,trivial⟩
 |(n,y)::fs,e'::es,r=> by
  obtain⟨⟨⟨t',hk⟩,hv⟩,r2⟩:=r;rw [Zk];unfold putL;by_cases hn:n=a
  . rw [if_pos hn,if_pos (hn▸TJ hk)];exact⟨⟨⟨t',hn▸hk⟩,hx⟩,r2⟩
  . rw [if_neg hn,if_neg (by rw [Of hk hn];exact nofun)];exact⟨⟨⟨t',hk⟩,hv⟩,Au.put hx hsh t r2⟩
 | [],_::_,r=> r.elim
 |(_,_)::_,[],r=> r.elim
theorem Au.len{B:Heap}{W:Wd}:∀{fs:List (N×AV)} {es:List wQ},Au B W fs es->fs.length=es.length
 | [],[],_=> rfl
 |(_,_)::_,_::_,r=> by simp [Au.len r.2]
 | [],_::_,r=> r.elim
 |(_,_)::_,[],r=> r.elim
def Ct(B:Heap)(W:Wd)(l:List (N×AV))(m:vz->Option R5):Prop:=∀x a,look x l=some a->∃v,m (nm x)=some v/\AG B W a v
theorem Ct.mono{B:Heap}{W V:Wd}{l:List (N×AV)}{m:vz->Option R5}(r:Ct B W l m)(h:W.le V):Ct B V l m:=fun x a e=> let⟨v,h1,h2⟩:=r x a e;⟨v,h1,h2.mono h⟩
theorem Ik{α:Type}(x y:N)(v:α):∀l:List (N×α),look x (put y v l)=if x=y then some v else look x l
 | []=> by
   show(if y=x then some v else none)=_;by_cases h:y=x
   . subst h;simp
   . rw [if_neg h,if_neg (xZ h)];rfl
 |(z,w)::r=> by
  unfold put;by_cases h:z=y
  . subst h;rw [if_pos rfl];show(if z=x then some v else look x r)=if x=z then some v else(if z=x then some w else look x r)
    by_cases q:z=x
    . subst q;simp
    . rw [if_neg q,if_neg (xZ q),if_neg q]
  . rw [if_neg h];show(if z=x then some w else look x (put y v r))=if x=y then some v else(if z=x then some w else look x r)
    rw [Ik x y v r];by_cases q:z=x
    . subst q;rw [if_pos rfl,if_pos rfl,if_neg h]
    . rw [if_neg q,if_neg q]
theorem Ct.put{B:Heap}{W:Wd}{l:List (N×AV)}{m:vz->Option R5}{x:N}{a:AV}{v:R5}(r:Ct B W l m)(h:AG B W a v):
 Ct B W (put x a l) (fun y=> if y=nm x then some v else m y):=fun y b e=> by
 rw [Ik]at e;by_cases q:y=x
 . subst q;rw [if_pos rfl]at e;cases e;exact⟨v,if_pos rfl,h⟩
 . rw [if_neg q]at e;obtain⟨u,h1,h2⟩:=r y b e;exact⟨u,by show(if nm y=nm x then some v else m (nm y))=some u;rw [if_neg fun z=> q (IT z)];exact h1,h2⟩
section
section
variable(prog:wR)(w:wU)(B:Heap)
def Lz(a:AV):Option vz:=(BJ a).map AF
def BF{K:Type}(of:AV->Option K)(W:Wd):List (AV×AV)->List (K×R5)->Prop
 | [],[]=> True
 |p::r,q::t=> of p.1=some q.1/\AG B W p.2 q.2/\BF of W r t
 | [],_::_=> False
 |_::_,[]=> False
def Eb(W:Wd)(es:List (AV×AV))(o:Obj):Prop:=
 (∃kvs,o.IsDictOf (xM prog w) kvs/\BF B A4 W es kvs)∨(∃kvs,o.IsDictOf (PySem.strKind prog w) kvs/\BF B Lz W es kvs)
def Il(n:Nat->Prop):List (AV×AV)->Prop
 | []=> True
 |x::xs=> D6 n x.2/\Il n xs
variable{B}in
theorem BF.lt'{K:Type}{of:AV->Option K}{W:Wd}:∀{x:List (AV×AV)} {v:List (K×R5)},BF B of W x v->Il W.lv x
 | [],_,_=> trivial
 |_::_,_::_,r=> ⟨r.2.1.lt',BF.lt' r.2.2⟩
 |_::_,[],r=> r.elim
variable{B}in
theorem BF.gen{K:Type}{of:AV->Option K}{W V:Wd}{n:Nat->Prop}(T:Wd.To B W V n):∀{x:List (AV×AV)} {v:List (K×R5)},BF B of W x v->Il n x->BF B of V x v
 | [],[],_,_=> trivial
 |_::_,_::_,r,b=> ⟨r.1,r.2.1.gen T b.1,BF.gen T r.2.2 b.2⟩
 | [],_::_,r,_=> r.elim
 |_::_,[],r,_=> r.elim
variable{prog w B}in
theorem Eb.lt'{W:Wd}{es:List (AV×AV)}{o:Obj}(r:Eb prog w B W es o):Il W.lv es:=r.elim (fun⟨_,_,b⟩=> b.lt') (fun⟨_,_,b⟩=> b.lt')
variable{prog w B}in
theorem Eb.gen{W V:Wd}{n:Nat->Prop}(T:Wd.To B W V n){es:List (AV×AV)}{o:Obj}(r:Eb prog w B W es o)(h:Il n es):Eb prog w B V es o:=
 r.imp (fun⟨k,a,b⟩=> ⟨k,a,b.gen T h⟩) (fun⟨k,a,b⟩=> ⟨k,a,b.gen T h⟩)
def oLt(n:Nat->Prop):AObj->Prop
 | .lst xs=> Hd n xs
 | .Ap es=> Il n es
 | .ins _ fs=> F8 n fs
inductive TM(W:Wd)(M:Led)(ow:Addr->Nat)(i:Nat)(xs:List AV):Prop
 |mk (vs:List R5) (k:Nat) (h1:(W.r i,listOf vs.toArray k)∈M) (h2:ow (W.r i)=i) (h3:AQ B W xs vs) (h4:xs.length<=lim)
inductive TN(W:Wd)(M:Led)(ow:Addr->Nat)(i:Nat)(es:List (AV×AV)):Prop
 |mk (o:Obj) (h1:(W.r i,o)∈M) (h2:ow (W.r i)=i) (h3:(W.r i==sysModules)=false) (h4:Eb prog w B W es o) (h5:es.length<=lim)
inductive dG(W:Wd)(M:Led)(ow:Addr->Nat)(i:Nat)(c:Nat)(fs:List (N×AV)):Prop
 |mk (dx:Addr) (es:List wQ) (k:Nat) (h1:(W.r i,instObj c dx)∈M) (h2:ow (W.r i)=i) (h3:(dx,dictOf es k)∈M) (h4:ow dx=i) (h5:Au B W fs es)
def DI(W:Wd)(M:Led)(ow:Addr->Nat)(i:Nat):AObj->Prop
 | .lst xs=> TM B W M ow i xs
 | .Ap es=> TN prog w B W M ow i es
 | .ins c fs=> dG B W M ow i c fs
structure Cy(W:Wd)(M:Led)(ow:Addr->Nat)(hp:Hp):Prop where
 n:W.lv=hp.lv
 nd:(M.map (·.1)).Nodup
 dj:∀p∈W.fz,∀q∈M,p.1≠q.1
 cell:∀i,hp.lv i->DI prog w B W M ow i (hp.f i)
end
def Bk(d:Addr)(o':Obj)(M:Led):Led:=M.map fun p=> if p.1=d then(d,o')else p
theorem dH(d:Addr)(o':Obj)(M:Led):(Bk d o' M).map (·.1)=M.map (·.1):=by
 unfold Bk;rw [yp];refine yK fun p _=> ?_;show(if p.1=d then(d,o')else p).1=p.1;split
 . rename_i h;exact h.symm
 . rfl
theorem TP{d:Addr}{o':Obj}{M:Led}{a:Addr}{o:Obj}(h:(a,o)∈M)(ne:a≠d):(a,o)∈Bk d o' M:=
 wu.mpr ⟨(a,o),h,if_neg ne⟩
theorem Og{d:Addr}{o o':Obj}{M:Led}(h:(d,o)∈M):(d,o')∈Bk d o' M:=
 wu.mpr ⟨(d,o),h,if_pos rfl⟩
theorem TQ{M:Led}{p:Addr×Obj}(h:p∈M):p.1∈M.map (·.1):=xl h
theorem Oh{fz:Led}{d:Addr}{o o':Obj}:∀{M:Led},(d,o)∈M->(M.map (·.1)).Nodup->(∀p∈fz,p.1≠d)->Upd d o o' (M++fz) (Bk d o' M++fz)
 |p::r,hm,nd,dj=> by
  rw [wj,xU]at nd;by_cases e:p.1=d
  . have hr:∀q∈r,q.1≠d:=fun q hq z=> nd.1 (by rw [e,<-z];exact TQ hq);have hp:p=(d,o):=by
     cases hm with
     |head=> rfl
     |tail _ h=> exact absurd rfl (hr _ h)
    subst hp;have er:Bk d o' r=r:=by unfold Bk;refine(yK fun q hq=> if_neg (hr q hq)).trans (zU r)
    show Upd d o o' ((d,o)::(r++fz)) ((if d=d then(d,o')else(d,o))::(Bk d o' r++fz));rw [if_pos rfl,er];exact .head fun q hq=> (wV.mp hq).elim (hr q) (dj q)
  . have hm':(d,o)∈r:=by
     cases hm with
     |head=> exact absurd rfl e
     |tail _ h=> exact h
    show Upd d o o' (p::(r++fz)) ((if p.1=d then(d,o')else p)::(Bk d o' r++fz));rw [if_neg e];exact .tail e (Oh hm' nd.2 dj)
theorem L6{fz:Led}{d:Addr}{o:Obj}:∀{M:Led},(d,o)∈M->(M.map (·.1)).Nodup->(∀p∈fz,p.1≠d)->UpdF d o (M++fz) (fun o'=> Bk d o' M++fz)
 |p::r,hm,nd,dj=> by
  rw [wj,xU]at nd;by_cases e:p.1=d
  . have hr:∀q∈r,q.1≠d:=fun q hq z=> nd.1 (by rw [e,<-z];exact TQ hq);have hp:p=(d,o):=by
     cases hm with
     |head=> rfl
     |tail _ h=> exact absurd rfl (hr _ h)
    subst hp;have er:∀o',Bk d o' r=r:=fun o'=> by unfold Bk;refine(yK fun q hq=> if_neg (hr q hq)).trans (zU r)
    have:(fun o'=> Bk d o' ((d,o)::r)++fz)=fun o'=> (d,o')::(r++fz):=by
     funext o'
     show(if d=d then(d,o')else(d,o))::(Bk d o' r++fz)=_;rw [if_pos rfl,er]
    rw [this];exact .head fun q hq=> (wV.mp hq).elim (hr q) (dj q)
  . have hm':(d,o)∈r:=by
     cases hm with
     |head=> exact absurd rfl e
     |tail _ h=> exact h
    have:(fun o'=> Bk d o' (p::r)++fz)=fun o'=> p::(Bk d o' r++fz):=by
     funext o'
     show(if p.1=d then(d,o')else p)::(Bk d o' r++fz)=_;rw [if_neg e]
    rw [this];exact .tail e (L6 hm' nd.2 dj)
section
variable{prog:wR}{w:wU}{B:Heap}{W:Wd}{M:Led}{ow:Addr->Nat}{hp:Hp}
theorem DI.lt'{i:Nat}{x:AObj}(r:DI prog w B W M ow i x):oLt W.lv x:=by
 cases x with
 |lst _=> obtain⟨_,_,_,_,h,_⟩:=r;exact h.lt'
 |Ap _=> obtain⟨_,_,_,_,h,_⟩:=r;exact h.lt'
 |ins _ _=> obtain⟨_,_,_,_,_,_,_,h⟩:=r;exact h.lt'
theorem DI.gen{V:Wd}{n:Nat->Prop}{j:Nat}{x:AObj}(T:Wd.To B W V n){N:Led}{ow':Addr->Nat}(hr:V.r j=W.r j)(hM:∀p∈M,ow p.1=j->p∈N/\ow' p.1=j)(r:DI prog w B W M ow j x)(h:oLt n x):DI prog w B V N ow' j x:=by
 cases x with
 |lst _=> obtain⟨vs,k,h1,h2,h3,h4⟩:=r;exact⟨vs,k,hr.symm▸(hM _ h1 h2).1,hr.symm▸(hM _ h1 h2).2,h3.gen T h,h4⟩
 |Ap _=> obtain⟨o,h1,h2,h3,h4,h5⟩:=r;exact⟨o,hr.symm▸(hM _ h1 h2).1,hr.symm▸(hM _ h1 h2).2,hr.symm▸h3,h4.gen T h,h5⟩
 |ins _ _=> obtain⟨dx,es,k,h1,h2,h3,h4,h5⟩:=r;exact⟨dx,es,k,hr.symm▸(hM _ h1 h2).1,hr.symm▸(hM _ h1 h2).2,(hM _ h3 h4).1,(hM _ h3 h4).2,h5.gen T h⟩
theorem DI.other{i j:Nat}{d:Addr}{o':Obj}(hd:ow d=i)(ne:j≠i){x:AObj}(r:DI prog w B W M ow j x):DI prog w B W (Bk d o' M) ow j x:=
 r.gen W.le_rfl.to rfl (fun p hp h=> ⟨TP hp fun z=> ne (by rw [<-h,z,hd]),h⟩) r.lt'
theorem Cy.turn(H:Cy prog w B W M ow hp){i:Nat}(hi:hp.lv i){d:Addr}{o':Obj}{x:AObj}(hd:ow d=i)(r:DI prog w B W (Bk d o' M) ow i x):
 Cy prog w B W (Bk d o' M) ow (hp.set i x):=by
 refine⟨H.n.trans (hp.Jk i x).symm,by rw [dH];exact H.nd,fun p hp' q hq=> ?_,fun j hj=> ?_⟩
 . obtain⟨q',hq',e⟩:=wu.mp hq;have:q.1=q'.1:=by
    rw [<-e];split
    . rename_i z;exact z.symm
    . rfl
   rw [this];exact H.dj p hp' q' hq'
 . rw [hp.Jk]at hj;rw [Hp.LP x hi];by_cases e:j=i
   . subst e;rw [if_pos rfl];exact r
   . rw [if_neg e];exact(H.cell j hj).other hd e
theorem DI.grow{V:Wd}{j:Nat}{x:AObj}(h:W.le V)(hj:W.lv j){N:Led}{ow':Addr->Nat}(hM:∀p∈M,p∈N)(ho:∀p∈M,ow' p.1=ow p.1)(r:DI prog w B W M ow j x):DI prog w B V N ow' j x:=
 r.gen h.to (h.r j hj) (fun p hp e=> ⟨hM p hp,(ho p hp).trans e⟩) r.lt'
def Wd.add(W:Wd)(k:Nat)(a:Addr):Wd:=⟨fun i=> if i=k then a else W.r i,fun i=> W.lv i∨i=k,W.fz⟩
theorem Wd.Gn{W:Wd}{k:Nat}(a:Addr)(h:¬W.lv k):W.le (W.add k a):=⟨fun _ h=>.inl h,fun i l=> if_neg fun(e:i=k)=> h (e▸l),fun _ h=> h⟩
def J4(ow:Addr->Nat)(n:Nat)(as:List Addr):Addr->Nat:=fun a=> if a∈as then n else ow a
theorem Cy.nl(H:Cy prog w B W M ow hp){k:Nat}{hp':Hp}{x:AObj}(g:hp.Dc hp' k x):¬W.lv k:=H.n▸g.nl
theorem Cy.add(H:Cy prog w B W M ow hp){hp':Hp}{k:Nat}{N:Led}{a:Addr}{x:AObj}(g:hp.Dc hp' k x)(nd:(N.map (·.1)).Nodup)(fr:∀p∈N,∀q∈M++W.fz,p.1≠q.1)
 (r:DI prog w B (W.add k a) (N++M) (J4 ow k (N.map (·.1))) k x):Cy prog w B (W.add k a) (N++M) (J4 ow k (N.map (·.1))) hp':=by
 have hn:=H.n;refine⟨by rw [g.lv,<-hn];rfl,?_,fun p hp' q hq=> ?_,fun j hj=> ?_⟩
 . rw [w4];refine List.nodup_append.mpr ⟨nd,H.nd,fun a ha b hb=> ?_⟩;obtain⟨p,hp,rfl⟩:=wu.mp ha;obtain⟨q,hq,rfl⟩:=wu.mp hb;exact fr p hp q (wO _ hq)
 . rcases wV.mp hq with hq |hq
   . exact xZ (fr q hq p (wH _ hp'))
   . exact H.dj p hp' q hq
 . by_cases e:j=k
   . subst e;rw [g.at];exact r
   . rw [g.lv]at hj;have hj':hp.lv j:=hj.elim id fun z=> absurd z e;rw [g.old hj'];refine(H.cell j hj').grow (W.Gn a (H.nl g)) (hn▸hj') (fun p h=> wH _ h) fun p h=> if_neg fun hm=> ?_;obtain⟨q,hq,e⟩:=wu.mp hm;exact fr q hq p (wO _ h) e
def Wd.Bw(W:Wd)(L:Led):Wd:=⟨W.r,W.lv,L++W.fz⟩
theorem Wd.CN(W:Wd)(L:Led):W.le (W.Bw L):=⟨fun _ h=> h,fun _ _=> rfl,fun _ h=> wH _ h⟩
theorem Cy.Bw(H:Cy prog w B W M ow hp){L:Led}(fr:∀p∈L,∀q∈M,p.1≠q.1):Cy prog w B (W.Bw L) M ow hp:=
 ⟨H.n,H.nd,fun p hp' q hq=> (wV.mp hp').elim (fun h=> fr p h q hq) (fun h=> H.dj p h q hq),
   fun j hj=> (H.cell j hj).grow (W.CN L) (by rw [H.n];exact hj) (fun _ h=> h) fun _ _=> rfl⟩
end
theorem News.sub{h₀ h:Heap}{L:Addr}{l l':Led}(N:News h₀ L h l)(s:∀p∈l',p∈l):News h₀ L h l':=fun p hp=> N p (s p hp)
end
section
structure Gx where
 prog:wR
 w:wU
 K:Frag
 p:wR
 loose:List vz
 TU:ExcName->Option R5
 mg:vz->Option R5
 mb:vz->Option R5
 B:Heap
 os:xk
structure Fx where
 cn:vz
 cs:xC
 L:Addr
 ca:Addr
 cd:R5
 g:Heap
 outer:List Env
 A₀:v7
 cl:List (vz×Addr)
def Fx.env(f:Fx):Env:=envX f.cn f.cs f.L f.ca f.cd f.cl
structure AN(G:Gx)(f:Fx):Prop where
 below:Below f.A₀ G.B f.outer f.g
 X:G.K.In f.g
 T:Top G.p G.loose G.TU G.mg G.mb f.g
 fn:f.cs.kind= .function
structure Bc(f:Fx)(d:Nat)(A:v7):Prop where
 fr:A.frames=some (f.env::f.outer)
 hd:A.handled=none
 dp:A.depth+3 * d+10<recursionLimit
 un:A.units+30 * d+200<cLine
structure EG(f:Fx)(d:Nat)(A:v7):Prop where
 fr:A.frames=some (f.env::f.outer)
 hd:A.handled=none
 dp:A.depth+3 * d+8<recursionLimit
 un:A.units+30 * d+190<cLine
theorem Bc.room{f:Fx}{d:Nat}{A:v7}(h:Bc f d A):A.units+200<cLine:=by have:=h.un;exact BV this
theorem Bc.weak{f:Fx}{d:Nat}{A:v7}(h:Bc f d A):EG f d A:=⟨h.fr,h.hd,by have:=h.dp;exact BV this,by have:=h.un;exact BV this⟩
theorem Bc.type{f:Fx}{d:Nat}{A:v7}(h:Bc f d A)(C:Addr)(vs:List R5)(kw:List (vz×R5)):EG f d (A.under (.builtin "type.__call__" ⟨.ref C::vs,kw⟩)):=
 ⟨h.fr,h.hd,by have:=h.dp;show A.depth+1+3 * d+8<_;exact BV this,by have:=h.un;show A.units+1+30 * d+190<_;exact BV this⟩
theorem Bc.less{f:Fx}{d e:Nat}{A:v7}(h:Bc f d A)(le:e<=d):Bc f e A:=⟨h.fr,h.hd,by have:=h.dp;lia,by have:=h.un;lia⟩
structure Inv(G:Gx)(f:Fx)(W:Wd)(l:List (N×AV))(hp:Hp)(M:Led)(ow:Addr->Nat)(m:vz->Option R5)(s:vy):Prop where
 fr:Fr f.g f.L s.heap m
 nw:News f.g f.L s.heap (M++W.fz)
 hi:Cy G.prog G.w G.B W M ow hp
 lr:Ct G.B W l m
 gn:s.gens= #[]
 os:s.os=G.os
abbrev XP:=Wd->AV->List (N×AV)->Hp->R5->vy->Prop
inductive Ec(G:Gx)(f:Fx)(W:Wd)(r:Out AV)(v:R5)(s:vy):Prop
 |mk (a:_) (σ:_) (W':_) (M:_) (ow:_) (m:_) (h0_:r= .ok a σ) (h1_:W.le W') (h2_:Inv G f W' σ.loc σ.hp M ow m s) (h3_:AG G.B W' a v)
inductive TV(G:Gx)(f:Fx)(W:Wd)(r:Out (List AV))(v:List R5)(s:vy):Prop
 |mk (a:_) (σ:_) (W':_) (M:_) (ow:_) (m:_) (h0_:r= .ok a σ) (h1_:W.le W') (h2_:Inv G f W' σ.loc σ.hp M ow m s) (h3_:AQ G.B W' a v)
inductive J5(G:Gx)(f:Fx)(W:Wd)(r:Out Bool)(v:Bool)(s:vy):Prop
 |mk (σ:_) (W':_) (M:_) (ow:_) (m:_) (h0_:r= .ok v σ) (h1_:W.le W') (h2_:Inv G f W' σ.loc σ.hp M ow m s)
inductive TX(G:Gx)(f:Fx)(W:Wd)(r:Out Unit)(s:vy):Prop
 |mk (σ:_) (W':_) (M:_) (ow:_) (m:_) (h0_:r= .ok () σ) (h1_:W.le W') (h2_:Inv G f W' σ.loc σ.hp M ow m s)
def L8(B:Heap)(W:Wd):Flow->wx->Prop
 | .next,.next=> True
 | .brk,.brk=> True
 | .cont,.cont=> True
 | .ret a,.ret v=> AG B W a v
 |_,_=> False
inductive Gq(G:Gx)(f:Fx)(W:Wd)(r:Out Flow)(v:wx)(s:vy):Prop
 |mk (a:_) (σ:_) (W':_) (M:_) (ow:_) (m:_) (h0_:r= .ok a σ) (h1_:W.le W') (h2_:Inv G f W' σ.loc σ.hp M ow m s) (h3_:L8 G.B W' a v)
inductive Aw{α:Type}(X:XP)(W:Wd)(r:Out α)(e:R5)(s:vy):Prop
 |mk (x:_) (σ:_) (W':_) (h0_:r= .exc x σ) (h1_:W.le W') (h2_:X W' x σ.loc σ.hp e s)
theorem Bm{α β:Type}{r:Out α}{k:α->St->Out β}(h:r.bind k≠ .bad):r≠ .bad:=by
 rintro rfl;exact h rfl
theorem Bp{α β:Type}{r:Out α}{a:α}{σ:St}{k:α->St->Out β}(e:r= .ok a σ):r.bind k=k a σ:=by rw [e];rfl
theorem dI{α β:Type}{r:Out α}{a:AV}{σ:St}{k:α->St->Out β}(e:r= .exc a σ):r.bind k= .exc a σ:=by rw [e];rfl
inductive TY{α γ:Type}(r:Option α)(k:α->γ)(Z:γ):Prop
 |mk (a:α) (h1:r=some a) (h2:k a=Z)
theorem Az{α β:Type}{r:Option α}{k:α->Out β}{Z:Out β}(h:AO r k=Z)(ne:Z≠ .bad):TY r k Z:=by
 cases r with
 |none=> exact absurd h.symm ne
 |some a=> exact⟨a,rfl,h⟩
theorem dJ{α β:Type}{r:Option α}{k:α->Out β}(h:AO r k≠ .bad):∃a,r=some a/\AO r k=k a:=by
 cases r with
 |none=> exact absurd rfl h
 |some a=> exact⟨a,rfl,rfl⟩
section
variable{G:Gx}{f:Fx}{A:v7}{X:XP}{W:Wd}{s:vy}{M:wq}
theorem Aw.le{α:Type}{V:Wd}{r:Out α}{e:R5}(h:W.le V)(x:Aw X V r e s):Aw X W r e s:=by obtain⟨a,σ,W',h1,h2,h3⟩:=x;exact⟨a,σ,W',h1,h.trans h2,h3⟩
theorem Aw.bind{α β:Type}{r:Out α}{k:α->St->Out β}{e:R5}(x:Aw X W r e s):Aw X W (r.bind k) e s:=by obtain⟨a,σ,W',h1,h2,h3⟩:=x;exact⟨a,σ,W',dI h1,h2,h3⟩
theorem Ec.le{V:Wd}{r:Out AV}{v:R5}(h:W.le V)(x:Ec G f V r v s):Ec G f W r v s:=by obtain⟨a,σ,W',M,ow,m,h1,h2,h3,h4⟩:=x;exact⟨a,σ,W',M,ow,m,h1,h.trans h2,h3,h4⟩
theorem J5.le{V:Wd}{r:Out Bool}{v:Bool}(h:W.le V)(x:J5 G f V r v s):J5 G f W r v s:=by obtain⟨σ,W',M,ow,m,h1,h2,h3⟩:=x;exact⟨σ,W',M,ow,m,h1,h.trans h2,h3⟩
theorem Gq.le{V:Wd}{r:Out Flow}{v:wx}(h:W.le V)(x:Gq G f V r v s):Gq G f W r v s:=by obtain⟨a,σ,W',M,ow,m,h1,h2,h3,h4⟩:=x;exact⟨a,σ,W',M,ow,m,h1,h.trans h2,h3,h4⟩
end
section
variable{G:Gx}{f:Fx}{W:Wd}{l:List (N×AV)}{hp:Hp}{M:Led}{ow:Addr->Nat}{m:vz->Option R5}{s:vy}
theorem Inv.tok(I:Inv G f W l hp M ow m s)(k:Nat):Inv G f W l hp M ow m {s with toks:=k}:=⟨I.fr,I.nw,I.hi,I.lr,I.gn,I.os⟩
theorem Inv.kn(I:Inv G f W l hp M ow m s)(O:AN G f){a:Addr}{o:Obj}(h:Kn G.B W a o):s.heap.get? a=some o:=
 h.elim (fun h=> (I.nw _ (wH _ h)).1) fun h=> I.fr.keep _ _ (O.below.stays _ _ h)
theorem Inv.mem(I:Inv G f W l hp M ow m s){a:Addr}{o:Obj}(h:(a,o)∈M):s.heap.get? a=some o:=(I.nw _ (wO _ h)).1
theorem Inv.X(I:Inv G f W l hp M ow m s)(O:AN G f):G.K.In s.heap:=O.X.keeps I.fr.keep
theorem Inv.ok{A:v7}{mo:wq}{Q:R5->vy->Prop}{E:R5->vy->Prop}{r:Out AV}{a:AV}{v:R5}{σ:St}(I:Inv G f W σ.loc σ.hp M ow m s)(h:r= .ok a σ)(hv:AG G.B W a v):Ec G f W r v s:=
 ⟨a,σ,W,M,ow,m,h,W.le_rfl,I,hv⟩
end
end
section
abbrev mo(G:Gx):wq:=model G.prog G.w
abbrev Cz(G:Gx)(f:Fx)(A:v7)(X:XP)(W:Wd)(t:Sem R5)(Z:Out AV)(s:vy):Prop:=wpAny (mo G) A t (Ec G f W Z) (Aw X W Z) s
abbrev Oi(G:Gx)(f:Fx)(A:v7)(X:XP)(W:Wd)(t:Sem (List R5))(Z:Out (List AV))(s:vy):Prop:=wpAny (mo G) A t (TV G f W Z) (Aw X W Z) s
abbrev J6(G:Gx)(f:Fx)(A:v7)(X:XP)(W:Wd)(t:Sem Bool)(Z:Out Bool)(s:vy):Prop:=wpAny (mo G) A t (J5 G f W Z) (Aw X W Z) s
abbrev Oj(G:Gx)(f:Fx)(A:v7)(X:XP)(W:Wd)(t:Sem Unit)(Z:Out Unit)(s:vy):Prop:=wpAny (mo G) A t (fun _ s=> TX G f W Z s) (Aw X W Z) s
abbrev He(G:Gx)(f:Fx)(A:v7)(X:XP)(W:Wd)(t:Sem wx)(Z:Out Flow)(s:vy):Prop:=wpAny (mo G) A t (Gq G f W Z) (Aw X W Z) s
def AP(G:Gx)(f:Fx)(A:v7)(X:XP)(t:Sem R5)(ev:St->Out AV):Prop:=
 ∀W l hp M ow m s Z,ev ⟨l,hp⟩=Z->Inv G f W l hp M ow m s->Z≠ .bad->Cz G f A X W t Z s
def Bl(G:Gx)(f:Fx)(A:v7)(X:XP)(t:Sem Bool)(ev:St->Out Bool):Prop:=
 ∀W l hp M ow m s Z,ev ⟨l,hp⟩=Z->Inv G f W l hp M ow m s->Z≠ .bad->J6 G f A X W t Z s
def Av(G:Gx)(f:Fx)(A:v7)(X:XP)(t:Sem wx)(ev:St->Out Flow):Prop:=
 ∀W l hp M ow m s Z,ev ⟨l,hp⟩=Z->Inv G f W l hp M ow m s->Z≠ .bad->He G f A X W t Z s
section
variable{G:Gx}{f:Fx}{A:v7}{X:XP}{W:Wd}{l:List (N×AV)}{hp:Hp}{M:Led}{ow:Addr->Nat}{m:vz->Option R5}{s:vy}
theorem Inv.V{U:Wd}{Z:Out AV}{a:AV}{v:R5}(I:Inv G f W l hp M ow m s)(e:Out.ok a ⟨l,hp⟩=Z)(h:U.le W)(r:AG G.B W a v):Ec G f U Z v s:=⟨a,_,W,M,ow,m,e.symm,h,I,r⟩
theorem Inv.Vs{U:Wd}{Z:Out (List AV)}{a:List AV}{v:List R5}(I:Inv G f W l hp M ow m s)(e:Out.ok a ⟨l,hp⟩=Z)(h:U.le W)(r:AQ G.B W a v):TV G f U Z v s:=⟨a,_,W,M,ow,m,e.symm,h,I,r⟩
theorem Inv.Bo{U:Wd}{Z:Out Bool}{a:Bool}(I:Inv G f W l hp M ow m s)(e:Out.ok a ⟨l,hp⟩=Z)(h:U.le W):J5 G f U Z a s:=⟨_,W,M,ow,m,e.symm,h,I⟩
theorem Inv.U{U:Wd}{Z:Out Unit}(I:Inv G f W l hp M ow m s)(e:Out.ok () ⟨l,hp⟩=Z)(h:U.le W):TX G f U Z s:=⟨_,W,M,ow,m,e.symm,h,I⟩
theorem Inv.F{U:Wd}{Z:Out Flow}{a:Flow}{v:wx}(I:Inv G f W l hp M ow m s)(e:Out.ok a ⟨l,hp⟩=Z)(h:U.le W)(r:L8 G.B W a v):Gq G f U Z v s:=⟨a,_,W,M,ow,m,e.symm,h,I,r⟩
end
section
variable{G:Gx}{f:Fx}{A:v7}{X:XP}
theorem dK{k pos env}:AP G f A X (eval (.Constant .none k pos) env) fun s=>.ok .none s:=
 fun W l hp M ow m s Z eR I _=> wpAny_Constant_none (I.V eR W.le_rfl rfl)
theorem dM{b k pos env}:AP G f A X (eval (.Constant (.bool b) k pos) env) fun s=>.ok (.bool b) s:=
 fun W l hp M ow m s Z eR I _=> wpAny_Constant_bool (I.V eR W.le_rfl rfl)
theorem dN{i k pos env}:AP G f A X (eval (.Constant (.int i) k pos) env) fun s=>.ok (.int i) s:=
 fun W l hp M ow m s Z eR I _=> wpAny_Constant_int ((I.tok _).V eR W.le_rfl ⟨_,rfl⟩)
theorem dO{x:vz}{c:List Nat}{k pos env}(e:x=AF c)(h:A3 c):AP G f A X (eval (.Constant (.str x) k pos) env) fun s=>.ok (.str c) s:=
 fun W l hp M ow m s Z eR I _=> wpAny_Constant_str ((I.tok _).V eR W.le_rfl ⟨⟨_,by rw [e]⟩,h⟩)
theorem Im{x:N}{pos:Pos}(hk:f.cs.kind= .function)(hl:f.cs.names.lookup (nm x)=some .local)(hd:(nm x==("__debug__":vz))=false):
 AP G f A X (eval (.Name (nm x) pos) f.env) fun s=> AO (look x s.loc) fun v=>.ok v s:=fun W l hp M ow m s Z eR I ne=> by
 refine cps fun P1_ k1_=> ?_;obtain⟨a,h1,eR⟩:=Az eR ne;obtain⟨v,h3,h4⟩:=I.lr x a h1;refine k1_ ?_;exact zK I.fr h3 (I.V eR W.le_rfl h4) hk hl hd
theorem dP{x:vz}{pos:Pos}{v:R5}{a:AV}(O:AN G f)(e:nsIn G.K mainGlobals x=some (some v))(hv:∀W,AG G.B W a v)
 (hx:f.cs.names.lookup x=some .globalImplicit) (hd:(x==("__debug__":vz))=false):AP G f A X (eval (.Name x pos) f.env) fun s=>.ok a s:=fun W l hp M ow m s Z eR I _=>
 PySem.W.nameX_K I.fr O.X (topRead_of O.T) e (I.V eR W.le_rfl (hv W)) O.fn hx hd
theorem Hf{x:vz}{pos:Pos}{v:R5}{Q:R5->vy->Prop}{E:R5->vy->Prop}{W l hp M ow m s}(I:Inv G f W l hp M ow m s)(O:AN G f)(e:nsIn G.K mainGlobals x=some none)(hv:bootBuiltins x=some v)
 (hn:x≠"__name__") (h:Q v s) (hx:f.cs.names.lookup x=some .globalImplicit) (hd:(x==("__debug__":vz))=false):wpAny (mo G) A (eval (.Name x pos) f.env) Q E s:=
 PySem.W.nameX_B I.fr O.X (topRead_of O.T) e hv hn h O.fn hx hd
end
section
variable{G:Gx}{f:Fx}{A:v7}{X:XP}{U W:Wd}{s:vy}{β:Type}
theorem EH{α:Type}{r:Out α}{k:α->St->Out β}{Z:Out β}(eR:r.bind k=Z)(hU:U.le W){e:R5}{s':vy}(x:Aw X W r e s'):Aw X U Z e s':=eR▸x.bind.le hU
theorem Am{t:Sem R5}{r:Out AV}{k:AV->St->Out β}{Z:Out β}{C:R5->vy->Prop}(eR:r.bind k=Z)(hU:U.le W)(h:r≠ .bad->Cz G f A X W t r s)(ne:Z≠ .bad)
 (next:∀a σ V L ow m v s',k a σ=Z->U.le V->W.le V->Inv G f V σ.loc σ.hp L ow m s'->AG G.B V a v->Z≠ .bad->C v s'):
 wpAny (mo G) A t C (Aw X U Z) s:=
 wL (h (Bm (eR▸ne))) (fun v s' ⟨a,σ,V,L,ow,m,h1,h2,h3,h4⟩=> next a σ V L ow m v s' ((Bp h1).symm.trans eR) (hU.trans h2) h2 h3 h4 ne) fun _ _ x=> EH eR hU x
theorem Ed{t:Sem (List R5)}{r:Out (List AV)}{k:List AV->St->Out β}{Z:Out β}{C:List R5->vy->Prop}(eR:r.bind k=Z)(hU:U.le W)(h:r≠ .bad->Oi G f A X W t r s)(ne:Z≠ .bad)
 (next:∀a σ V L ow m v s',k a σ=Z->U.le V->W.le V->Inv G f V σ.loc σ.hp L ow m s'->AQ G.B V a v->Z≠ .bad->C v s'):
 wpAny (mo G) A t C (Aw X U Z) s:=
 wL (h (Bm (eR▸ne))) (fun v s' ⟨a,σ,V,L,ow,m,h1,h2,h3,h4⟩=> next a σ V L ow m v s' ((Bp h1).symm.trans eR) (hU.trans h2) h2 h3 h4 ne) fun _ _ x=> EH eR hU x
theorem Ol{t:Sem (List R5)}{r:Out (List AV)}{k:List AV->St->Out β}{Z:Out β}{C:List R5->vy->Prop}(eR:r.bind k=Z)(hU:U.le W)(h:r≠ .bad->Oi G f A X W t r s)(ne:Z≠ .bad)
 (next:∀a σ V L ow m v s',r= .ok a σ->k a σ=Z->U.le V->W.le V->Inv G f V σ.loc σ.hp L ow m s'->AQ G.B V a v->C v s'):
 wpAny (mo G) A t C (Aw X U Z) s:=
 wL (h (Bm (eR▸ne))) (fun v s' ⟨a,σ,V,L,ow,m,h1,h2,h3,h4⟩=> next a σ V L ow m v s' h1 ((Bp h1).symm.trans eR) (hU.trans h2) h2 h3 h4) fun _ _ x=> EH eR hU x
theorem bind_assoc{α γ δ:Type}(r:Out α)(k:α->St->Out γ)(k':γ->St->Out δ):(r.bind k).bind k'=r.bind fun a s=> (k a s).bind k':=by cases r<;>rfl
inductive dQ{α γ δ:Type}(r:Option α)(k:α->Out γ)(k':γ->St->Out δ)(Z:Out δ):Prop
 |mk (a:α) (h1:r=some a) (h2:(k a).bind k'=Z)
theorem Gr{α γ δ:Type}{r:Option α}{k:α->Out γ}{k':γ->St->Out δ}{Z:Out δ}(h:(AO r k).bind k'=Z)(ne:Z≠ .bad):dQ r k k' Z:=by
 cases r with
 |none=> exact absurd h.symm ne
 |some a=> exact⟨a,rfl,h⟩
theorem Hg{t:Sem Bool}{r:Out Bool}{k:Bool->St->Out β}{Z:Out β}{C:Bool->vy->Prop}(eR:r.bind k=Z)(hU:U.le W)(h:r≠ .bad->J6 G f A X W t r s)(ne:Z≠ .bad)
 (next:∀a σ V L ow m s',k a σ=Z->U.le V->W.le V->Inv G f V σ.loc σ.hp L ow m s'->Z≠ .bad->C a s'):
 wpAny (mo G) A t C (Aw X U Z) s:=
 wL (h (Bm (eR▸ne))) (fun v s' ⟨σ,V,L,ow,m,h1,h2,h3⟩=> next v σ V L ow m s' ((Bp h1).symm.trans eR) (hU.trans h2) h2 h3 ne) fun _ _ x=> EH eR hU x
theorem Om{t:Sem Unit}{r:Out Unit}{k:Unit->St->Out β}{Z:Out β}{C:Unit->vy->Prop}(eR:r.bind k=Z)(hU:U.le W)(h:r≠ .bad->Oj G f A X W t r s)(ne:Z≠ .bad)
 (next:∀σ V L ow m s',k () σ=Z->U.le V->W.le V->Inv G f V σ.loc σ.hp L ow m s'->Z≠ .bad->C () s'):
 wpAny (mo G) A t C (Aw X U Z) s:=
 wL (h (Bm (eR▸ne))) (fun v s' ⟨σ,V,L,ow,m,h1,h2,h3⟩=> next σ V L ow m s' ((Bp h1).symm.trans eR) (hU.trans h2) h2 h3 ne) fun _ _ x=> EH eR hU x
theorem L9{t:Sem wx}{r:Out Flow}{k:Flow->St->Out β}{Z:Out β}{C:wx->vy->Prop}(eR:r.bind k=Z)(hU:U.le W)(h:r≠ .bad->He G f A X W t r s)(ne:Z≠ .bad)
 (next:∀a σ V L ow m v s',k a σ=Z->U.le V->W.le V->Inv G f V σ.loc σ.hp L ow m s'->L8 G.B V a v->Z≠ .bad->C v s'):
 wpAny (mo G) A t C (Aw X U Z) s:=
 wL (h (Bm (eR▸ne))) (fun v s' ⟨a,σ,V,L,ow,m,h1,h2,h3,h4⟩=> next a σ V L ow m v s' ((Bp h1).symm.trans eR) (hU.trans h2) h2 h3 h4 ne) fun _ _ x=> EH eR hU x
theorem Io{t:Sem R5}{r:Out AV}(hU:U.le W)(h:Cz G f A X W t r s):Cz G f A X U t r s:=wL h (fun _ _ x=> x.le hU) fun _ _ x=> x.le hU
theorem Ip{t:Sem Bool}{r:Out Bool}(hU:U.le W)(h:J6 G f A X W t r s):J6 G f A X U t r s:=wL h (fun _ _ x=> x.le hU) fun _ _ x=> x.le hU
theorem J7{t:Sem wx}{r:Out Flow}(hU:U.le W)(h:He G f A X W t r s):He G f A X U t r s:=wL h (fun _ _ x=> x.le hU) fun _ _ x=> x.le hU
end
end
section
theorem FH{α:Type}{x y:Option α}{r:α}(h:alt x y=some r):x=some r∨y=some r:=by
 cases x with
 |none=> exact .inr h
 |some v=> exact .inl h
theorem dR{a:AV}{x:Bool}(h:Rm a=some x):a= .bool x:=by cases a<;>cases h;rfl
theorem CG{a:AV}{x:Int}(h:A4 a=some x):a= .int x:=by cases a<;>cases h;rfl
theorem Cn{a:AV}{x:List Nat}(h:BJ a=some x):a= .str x:=by cases a<;>cases h;rfl
theorem Hh{a:AV}{x:List AV}(h:ED a=some x):a= .tup x:=by cases a<;>cases h;rfl
theorem dS{a:AV}{x:List AV}(h:II a=some x):a= .Ah x:=by cases a<;>cases h;rfl
theorem Hi{a:AV}{x:Nat}(h:EV a=some x):a= .ref x:=by cases a<;>cases h;rfl
theorem MA{a:AObj}{x:List AV}(h:CY a=some x):a= .lst x:=by cases a<;>cases h;rfl
theorem MB{a:AObj}{x:List (AV×AV)}(h:IJ a=some x):a= .Ap x:=by cases a<;>cases h;rfl
theorem Oo{a:AObj}{c:Nat}{x:List (N×AV)}(h:Jb a=some (c,x)):a= .ins c x:=by cases a<;>cases h;rfl
theorem Gs{α:Type}:∀{l:List α} {x:α},one l=some x->l=[x]
 | [_],_,rfl=> rfl
section
open Builtin Builtin.ObjectAttr
theorem TZ:Slot "BaseException" "__getattribute__" "BaseException.__getattribute__":=
 Slot.of (T:="BaseException") (name:="__getattribute__") (owner:="BaseException") (n:="__getattribute__") (by rw [typeLookup_type,builtinLookup_eq_fast];kernel_rfl) (by decide+kernel) (by decide+kernel) (by decide+kernel)
  (.inl (by decide+kernel)) (by rw [isSubtype_type];kernel_rfl)
section
variable{prog:wR}{w:wU}{A:v7}{E:R5->vy->Prop}{s:vy}{K:Frag}{x C:Addr}{ox:Obj}{od:Option Obj}{name:vz}{expr:Bool}{Q:R5->vy->Prop}
theorem dT{v:R5}(X:K.In s.heap)(I:xq s.heap x ox C od)(hga:findIn K (.ref C) "__getattribute__"=some (some (.builtin "BaseException.__getattribute__")))(hgr:findIn K (.ref C) "__getattr__"=some none)
 (hb:mroIn K C (.type "BaseException")=some true) (hf:findObj K C od name=some (.value v)) (hh:handedIn v=true) (h:Q v {s with toks:=s.toks+1}):wpAny (model prog w) A (getAttr (.ref x) name expr) Q E s:=by
 obtain⟨hp,g,d,t,os⟩:=s;have L0:=I.type (M:=model prog w);have L1:=zV (M:=model prog w) X hga;have L2:=zV (M:=model prog w) X hgr;have L3:=looks_find (M:=model prog w) X I hf;have L4:wZ (model prog w) hp (isInstance (.ref x) (.type "BaseException")) true:=L0.andThen (xi X hb);have b1:=TZ.bind (.ref x);have hx2:(Value.builtin "BaseException.__getattribute__"==Value.builtin "object.__getattribute__")=false:=by decide+kernel
 have hx0:(expr&&onTheHeap (Value.builtin "BaseException.__getattribute__"))=false:=by cases expr<;>rfl
 unfold getAttr getAttrBy;refine v5 (wpAny_mkText (wJ (v5 (L0.at (v5 (L1.at ?_))))));dsimp only;rw [hx2,yP,if_neg xm];unfold getAttrByItsOwn hookBefore;rw [if_pos (by rfl)];refine v5 (L2.at (v5 (wpAny_attempt (wJ ?_))));unfold callGetattribute boundAndCalled;rw [hx0,if_neg xm,b1];refine v5 (v8 (xv (codeAny_call_builtin TZ.plain F.entry_bexc_ga (@check_slot (model prog w) _ _ _ "BaseException.__getattribute__" "BaseException" "__getattribute__" (.ref x) [.str name t] [] _ (by decide+kernel) (by decide+kernel) L4 (F.args_bexc_ga _ _) ?_))));refine v5 (v8 (v5 (v8 (v5 (L0.at (v5 (L3.at ?_)))))));refine v8 ?_;show wpAny _ _ (handedOut v) _ _ _;rw [handedOut_of hh];exact v8 h
end
end
structure CH(G:Gx)(P:Prog):Prop where
 get:∀c cl,P.cls c=some cl->cl.exc=false->plainGet G.K c we=true
 Ta:∀c cl,P.cls c=some cl->cl.exc=true->findIn G.K (.ref c) "__getattribute__"=some (some (.builtin "BaseException.__getattribute__"))/\findIn G.K (.ref c) "__getattr__"=some none/\mroIn G.K c (.type "BaseException")=some true/\cl.attrs=[]
 Tb:∀c cl,P.cls c=some cl->hasDictIn G.K c=true
 fld:∀c cl a,P.cls c=some cl->cl.fields.contains a=true->∃attr,findIn G.K (.ref c) (nm a)=some attr/\noGet G.K attr=true
 val:∀c cl a v,P.cls c=some cl->look a cl.attrs=some (.val v)->∃u,findIn G.K (.ref c) (nm a)=some (some u)/\specialIn G.K u "__get__"=some none/\copiedNames.contains (nm a)=false/\∀W,AG G.B W v u
 Ai:∀c cl a g,P.cls c=some cl->look a cl.attrs=some (.Ai g)->findIn G.K (.ref c) (nm a)=some (some (.ref g))/\isFn G.K (.ref g)=true/\keepIn G.K (.ref g)=true
 vd:∀c cl a g,P.cls c=some cl->look a cl.attrs=some g->cl.fields.contains a=false
structure Ef(G:Gx)(P:Prog):Prop where
 set:∀c cl a,P.cls c=some cl->cl.exc=false->cl.fields.contains a=true->takerIn G.K c (nm a)=some none
 own:∀c cl,P.cls c=some cl->cl.exc=false->findIn G.K (.ref c) "__setattr__"=some (some (.builtin "object.__setattr__"))/\plainOver G.K c=true
variable{G:Gx}{f:Fx}{A:v7}{X:XP}{P:Prog}
theorem CH.inst(C:CH G P){c:Nat}{cl:Cl}{a:N}{x:CA}(hc:P.cls c=some cl)(h:look a cl.attrs=some x):cl.exc=false:=by
 cases he:cl.exc with
 |false=> rfl
 |true=> rw [(C.Ta c cl hc he).2.2.2]at h;cases h
theorem Eg{v w:R5}(e:v=w)(h:handedIn w=true):handedIn v=true:=e▸h
set_option tactic.hygienic true in
theorem AG.handed{B:Heap}{W:Wd}{a:AV}{v:R5}(r:AG B W a v):handedIn v=true:=by
 cases a with
 |none=> exact Eg r rfl
 |bool _=> exact Eg r rfl
 |int _=> exact r.elim fun _ r=> Eg r rfl
 |str _=> exact r.1.elim fun _ r=> Eg r rfl
 |tup _=> exact let⟨⟨_,_,_,e,_,_⟩,_⟩:=r;Eg e rfl
 |Ah _=> exact let⟨⟨_,_,_,e,_,_⟩,_⟩:=r;Eg e rfl
 |obj _ _=> exact let⟨_,_,_,_,_,e,_,_,_,_,_,_⟩:=r;Eg e rfl
 |ref _=> exact Eg r.1 rfl
 |fn _=> exact Eg r rfl
 |cls _=> exact Eg r rfl
 |GZ=> exact r.elim fun _ r=> r.elim fun _ r=> Eg r rfl
section
variable{W:Wd}{l:List (N×AV)}{hp:Hp}{M:Led}{ow:Addr->Nat}{m:vz->Option R5}{s:vy}
set_option tactic.hygienic true in
theorem Tc(C:CH G P)(O:AN G f)(I:Inv G f W l hp M ow m s){x c:Nat}{ox:Obj}{es:List wQ}{k:Nat}{fs:List (N×AV)}(H:xq s.heap x ox c (some (dictOf es k)))(F:Au G.B W fs es)
 {a:N} {r:AV} (e:LC P c fs a=some r) {expr:Bool} {Q:R5->vy->Prop} {E:R5->vy->Prop} (h:∀v s',AG G.B W r v->Inv G f W l hp M ow m s'->Q v s'):
 wpAny (mo G) A (getAttr (.ref x) (nm a) expr) Q E s:=by
 unfold LC at e;cases hc:P.cls c with
 |none=> rw [hc]at e;cases e
 |some cl=>
  rw [hc]at e;dsimp only at e;have hd:=C.Tb c cl hc;cases hl:look a fs with
  |some v=>
   rw [hl]at e;dsimp only at e;split at e
   . rename_i hf;cases e;obtain⟨attr,h1,h2⟩:=C.fld c cl a hc hf;obtain⟨u,h3,h4⟩:=F.look hl;cases he:cl.exc with
     |false=> exact get_own I.fr O.X H (show plainGet G.K c (nm a)=true from C.get c cl hc he) hd h1 h2 h3 h4.handed (h u _ h4 (I.tok _))
     |true=> obtain⟨g1,g2,g3,_⟩:=C.Ta c cl hc he;exact dT (I.X O) H g1 g2 g3 (findObj_own hd h1 h2 h3) h4.handed (h u _ h4 (I.tok _))
   . cases e
  |none=>
   rw [hl]at e;dsimp only at e;split at e
   . rename_i v hv;cases e;obtain⟨u,h1,h2,h3,h4⟩:=C.val c cl a _ hc hv;have hg:plainGet G.K c (nm a)=true:=C.get c cl hc (C.inst hc hv);exact get_cls I.fr O.X H hg hd h1 h2 (h4 W).handed h3 (F.miss hl) (h u _ (h4 W) (I.tok _))
   . cases e
theorem Inv.Td(I:Inv G f W l hp M ow m s)(O:AN G f){c:Nat}{fs:List (N×AV)}{v:R5}(h:AG G.B W (.obj c fs) v):
 ∃x ox es k,v= .ref x/\xq s.heap x ox c (some (dictOf es k))/\Au G.B W fs es:=by
 obtain⟨x,ox,dx,es,k,e,q,c1,c2,c3,q2,m⟩:=h;exact⟨x,ox,es,k,e,⟨I.kn O q,c1,c3,by rw [c2];exact I.kn O q2⟩,m⟩
inductive dU(G:Gx)(W:Wd)(M:Led)(ow:Addr->Nat)(s:vy)(i c:Nat)(fs:List (N×AV)):Prop
 |mk (dx:Addr) (es:List wQ) (k:Nat) (h1:xq s.heap (W.r i) (instObj c dx) c (some (dictOf es k))) (h2:(instObj c dx).dict=some dx) (h3:(dx,dictOf es k)∈M) (h4:ow dx=i) (h5:Au G.B W fs es)
theorem Inv.J8(I:Inv G f W l hp M ow m s){i c:Nat}{fs:List (N×AV)}(hi:hp.lv i)(h:hp.f i= .ins c fs):
 dU G W M ow s i c fs:=by
 have:=I.hi.cell i hi;rw [h]at this;obtain⟨dx,es,k,h1,h2,h3,h4,h5⟩:=this;exact⟨dx,es,k,⟨I.mem h1,rfl,rfl,I.mem h3⟩,rfl,h3,h4,h5⟩
set_option tactic.hygienic true in
theorem Inv.lt(I:Inv G f W l hp M ow m s){i:Nat}{v:R5}(h:AG G.B W (.ref i) v):v= .ref (W.r i)/\hp.lv i:=⟨h.1,I.hi.n▸h.2⟩
set_option tactic.hygienic true in
theorem Oq(C:CH G P)(O:AN G f)(I:Inv G f W l hp M ow m s){o:AV}{v:R5}(hv:AG G.B W o v)
 {a:N} {r:AV} (e:E5 P hp o a=some r) {expr:Bool} {Q:R5->vy->Prop} {E:R5->vy->Prop} (h:∀v s',AG G.B W r v->Inv G f W l hp M ow m s'->Q v s'):
 wpAny (mo G) A (getAttr v (nm a) expr) Q E s:=by
 cases o<;>first |cases e |skip
 . refine cps fun P1_ k1_=> ?_;obtain⟨x,ox,es,k,rfl,H,F⟩:=I.Td O hv;refine k1_ ?_;exact Tc C O I H F e h
 . rename_i i;refine cps fun P2_ k2_=> ?_;obtain⟨rfl,hi⟩:=I.lt hv;obtain⟨⟨c,fs⟩,hf,e⟩:=yv.mp e;obtain⟨dx,es,k,H,_,_,_,F⟩:=I.J8 hi (Oo hf);refine k2_ ?_;exact Tc C O I H F e h
theorem dW{o:Expr}{attr:vz}{env:Env}{whole:Sem R5}(hn:(match o with | .Call (.Name _ _) [] [] _=> false |_=> true)=true):attributeBase o attr env whole=whole:=by
 induction o using PySem.Expr.casesOn with
 |Call g as ks p=>
  induction g using PySem.Expr.casesOn with
  |Name id q=> cases as with
   |cons _ _=> rfl
   |nil=> cases ks with
    |cons _ _=> rfl
    |nil=> exact cFT hn
  |_=> rfl
 |_=> rfl
theorem MC{o:Expr}{attr:vz}{env:Env}{whole:Sem R5}{mm:wq}{Q:R5->vy->Prop}{E:R5->vy->Prop}(hn:(match o with | .Call (.Name _ _) [] [] _=> false |_=> true)=true)(h:wpAny mm A whole Q E s):
 wpAny mm A (attributeBase o attr env whole) Q E s:=by
 rw [dW hn];exact h
end
end
section
variable{G:Gx}{f:Fx}{A:v7}{X:XP}{P:Prog}
theorem Bx(s:List Nat):(AF s).length=s.length:=by simp [AF,zz]
theorem BF.len{B:Heap}{K:Type}{of:AV->Option K}{W:Wd}:∀{x:List (AV×AV)} {v:List (K×R5)},BF B of W x v->x.length=v.length:=by
 intro x
 induction x with
 |nil=>
  intro v r;cases v with
  |nil=> rfl
  |cons _ _=> exact r.elim
 |cons _ _ ih=>
  intro v r;cases v with
  |nil=> exact r.elim
  |cons _ _=> exact congrArg (· +1) (ih r.2.2)
theorem Ot{α β:Type}{a:List α}{b:List β}(h:a.length=b.length):a.isEmpty=b.isEmpty:=by cases a<;>cases b<;>simp_all
theorem Hj{n:Nat}(h:n<=lim):(n:Int)<2 ^ 63:=by unfold lim at h;lia
section
variable{W:Wd}{l:List (N×AV)}{hp:Hp}{M:Led}{ow:Addr->Nat}{m:vz->Option R5}{s:vy}
theorem Inv.J9(I:Inv G f W l hp M ow m s){i:Nat}{xs:List AV}(hi:hp.lv i)(h:hp.f i= .lst xs):
 TM G.B W M ow i xs:=by
 have:=I.hi.cell i hi;rw [h]at this;exact this
theorem Inv.Gu(I:Inv G f W l hp M ow m s){i:Nat}{es:List (AV×AV)}(hi:hp.lv i)(h:hp.f i= .Ap es):
 TN G.prog G.w G.B W M ow i es:=by
 have:=I.hi.cell i hi;rw [h]at this;exact this
theorem EI{h:Heap}{a:Addr}{its:Array R5}{k:Nat}(e:h.get? a=some (listOf its k)):h.IsList a its:=⟨_,e,rfl,k,rfl⟩
inductive dX(B:Heap)(W:Wd)(s:vy)(v:R5)(xs:List AV):Prop
 |mk (x:Addr) (vs:List R5) (k:Nat) (h1:v= .ref x) (h2:s.heap.get? x=some (listOf vs.toArray k)) (h3:AQ B W xs vs) (h4:xs.length<=lim)
theorem Inv.FI(I:Inv G f W l hp M ow m s)(O:AN G f){a:AV}{v:R5}(hv:AG G.B W a v){xs:List AV}(e:Dv hp a=some xs):
 dX G.B W s v xs:=by
 cases a<;>first |cases e |skip
 . obtain⟨⟨x,vs,k,h1,h2,h3⟩,h4⟩:=hv;exact⟨x,vs,k,h1,I.kn O h2,h3,h4⟩
 . obtain⟨rfl,hi⟩:=I.lt hv;obtain⟨vs,k,h1,_,h3,h4⟩:=I.J9 hi (MA e);exact⟨_,vs,k,rfl,I.mem h1,h3,h4⟩
set_option tactic.hygienic true in
theorem MD(O:AN G f)(I:Inv G f W l hp M ow m s){a:AV}{v:R5}(hv:AG G.B W a v){b:Bool}(e:truthy hp a=some b){Q:Bool->vy->Prop}{E:R5->vy->Prop}
 (h:∀s',Inv G f W l hp M ow m s'->Q b s'):wpAny (mo G) A (yA v) Q E s:=by
 have lst:∀{xs:List AV},Dv hp a=some xs->b= !xs.isEmpty->wpAny (mo G) A (yA v) Q E s:=fun e e2=> by
  obtain⟨x,vs,k,rfl,h1,h2,h3⟩:=I.FI O hv e;have hz:vs.length<=lim:=h2.length▸h3;refine wpAny_truthy_list (EI h1) (by simpa using Hj hz) ?_;have:(!vs.toArray.isEmpty)=b:=by rw [e2,Ot h2.length];simp
  rw [this];exact h _ (I.tok _)
 have str:∀{s0:List Nat},((((AF s0).length:Nat):Int) !=0)= !s0.isEmpty:=fun{s0}=> by
  rw [Bx];cases(s0)with
  |nil=> rfl
  |cons c r=> exact bne_iff_ne.mpr (by simp;lia)
 cases(a)<;>first |cases e |skip
 . cases(hv);exact PyProof.Rows.truthy_none (h _ I)
 . cases(hv);exact yg (h _ I)
 . obtain⟨t,rfl⟩:=hv;exact PyProof.Rows.truthy_int (h _ I)
 . obtain⟨⟨t,rfl⟩,hz⟩:=hv;refine P.truthy_str (by rw [Bx];have:=Hj hz.1;lia) ?_;rw [str];exact h _ (I.tok _)
 . obtain⟨⟨x,vs,k,rfl,h1,h2⟩,h3⟩:=hv;have hz:vs.length<=lim:=h2.length▸h3;refine ktl_truthy (I.kn O h1) (by have:=Hj hz;simp;assumption) ?_;rw [List.isEmpty_toArray,<-Ot h2.length];exact h _ (I.tok _)
 . exact lst rfl rfl
 . rename_i i;change Jc (hp.f i)=some b at e;generalize hq:hp.f i=o at e;cases(o)<;>first |cases e |skip
   . exact lst (congrArg CY hq) rfl
   . obtain⟨rfl,hi⟩:=I.lt hv;obtain⟨o,h1,h2,h3,h4,h5⟩:=I.Gu hi hq;have key:∀{K:Type} [DecidableEq K] {knd:xr G.prog G.w K} {of:AV->Option K} {kvs:List (K×R5)},o.IsDictOf knd kvs->BF G.B of W _ kvs->wpAny (mo G) A (yA (.ref (W.r i))) Q E s:=fun{_ _ _ _ _} hd hr=> by
      refine wpAny_truthy_dict h3 (xe.mpr ⟨o,I.mem h1,hd⟩) (Hj (hr.len▸h5)) ?_;rw [<-Ot hr.len];exact h _ (I.tok _)
     rcases h4 with⟨kvs,hd,hr⟩ |⟨kvs,hd,hr⟩
     . exact key hd hr
     . exact key hd hr
end
theorem Te(C:CH G P)(O:AN G f){e:Expr}{a:N}{pos:Pos}{env:Env}{ev:St->Out AV}(hn:(match e with | .Call (.Name _ _) [] [] _=> false |_=> true)=true)(he:AP G f A X (eval e env) ev):
 AP G f A X (eval (.Attribute e (nm a) pos) env) fun s=> (ev s).bind fun o s=> AO (E5 P s.hp o a) fun v=>.ok v s:=fun W l hp M ow m s Z eR I ne=> by
 rw [arm_eval_Attribute];refine v5 (MC hn ?_);refine Am eR W.le_rfl (fun h=> he W l hp M ow m s _ rfl I h) ne fun o σ V L ow m v s' eR h1 h2 I hv ne=> ?_;obtain⟨c,h3,eR⟩:=Az eR ne;refine v5 (wa (v5 (wJ (Oq C O I hv h3 fun u s' hu I=> ?_))));exact v5 (wpAny_letTemporaryGo (v8 (I.V eR h1 hu)))
theorem dY(O:AN G f){e:Expr}{pos:Pos}{env:Env}{ev:St->Out AV}(he:AP G f A X (eval e env) ev):
 AP G f A X (eval (.UnaryOp .Not e pos) env) fun s=> (ev s).bind fun v s=> AO (truthy s.hp v) fun b=>.ok (.bool (!b)) s:=fun W l hp M ow m s Z eR I ne=> by
 rw [arm_eval_UnaryOp];refine v5 (Am eR W.le_rfl (fun h=> he W l hp M ow m s _ rfl I h) ne fun o σ V L ow m v s' eR h1 h2 I hv ne=> ?_);obtain⟨c,h3,eR⟩:=Az eR ne;exact v5 (wa (wJ (PyProof.Rows.not_of (MD O I hv h3 fun s' I=> (I.V eR h1 rfl)))))
theorem dZ{e:Expr}{pos:Pos}{env:Env}{ev:St->Out AV}(he:AP G f A X (eval e env) ev):
 AP G f A X (eval (.UnaryOp .USub e pos) env) fun s=> (ev s).bind fun v s=> AO (A4 v) fun i=>.ok (.int (-i)) s:=fun W l hp M ow m s Z eR I ne=> by
 rw [arm_eval_UnaryOp];refine v5 (Am eR W.le_rfl (fun h=> he W l hp M ow m s _ rfl I h) ne fun o σ V L ow m v s' eR h1 h2 I hv ne=> ?_);obtain⟨i,h3,eR⟩:=Az eR ne;cases CG h3;obtain⟨t,rfl⟩:=hv;exact v5 (wa (wJ (PyProof.Rows.neg_int ((I.tok _).V eR h1 ⟨_,rfl⟩))))
theorem Tf{t b o:Expr}{pos:Pos}{env:Env}{et:St->Out Bool}{eb eo:St->Out AV}(ht:Bl G f A X (isTrue t env (eval t env)) et)(hb:AP G f A X (eval b env) eb)(ho:AP G f A X (eval o env) eo):
 AP G f A X (eval (.IfExp t b o pos) env) fun s=> (et s).bind fun c s=> if c=true then eb s else eo s:=fun W l hp M ow m s Z eR I ne=> by
 rw [arm_eval_IfExp];refine v5 (Hg eR W.le_rfl (fun h=> ht W l hp M ow m s _ rfl I h) ne fun c σ V L ow m s' eR h1 h2 I ne=> ?_);cases c with
 |true=> exact Io h1 (hb V _ _ _ _ _ _ _ eR I ne)
 |false=> exact Io h1 (ho V _ _ _ _ _ _ _ eR I ne)
theorem dc{t b o:Expr}{pos:Pos}{env:Env}{whole:Sem R5}{et:St->Out Bool}{eb eo:St->Out Bool}(ht:Bl G f A X (isTrue t env (eval t env)) et)(hb:Bl G f A X (isTrue b env (eval b env)) eb)(ho:Bl G f A X (isTrue o env (eval o env)) eo):
 Bl G f A X (isTrue (.IfExp t b o pos) env whole) fun s=> (et s).bind fun c s=> if c=true then eb s else eo s:=fun W l hp M ow m s Z eR I ne=> by
 rw [arm_isTrue_IfExp];refine v5 (Hg eR W.le_rfl (fun h=> ht W l hp M ow m s _ rfl I h) ne fun c σ V L ow m s' eR h1 h2 I ne=> ?_);cases c with
 |true=> exact Ip h1 (hb V _ _ _ _ _ _ _ eR I ne)
 |false=> exact Ip h1 (ho V _ _ _ _ _ _ _ eR I ne)
theorem dd{e:Expr}{pos:Pos}{env:Env}{whole:Sem R5}{ev:St->Out Bool}(he:Bl G f A X (isTrue e env (eval e env)) ev):
 Bl G f A X (isTrue (.UnaryOp .Not e pos) env whole) fun s=> (ev s).bind fun b s=>.ok (!b) s:=fun W l hp M ow m s Z eR I ne=> by
 rw [arm_isTrue_UnaryOp];refine v5 (Hg eR W.le_rfl (fun h=> he W l hp M ow m s _ rfl I h) ne fun c σ V L ow m s' eR h1 h2 I ne=> ?_);exact v8 (I.Bo eR h1)
theorem dg(O:AN G f){e:Expr}{env:Env}{whole:Sem R5}{ev:St->Out AV}(hw:AP G f A X whole ev)(he:isTrue e env whole=(do let v<-whole;standAt e.pos;holding [v] (yA v))):
 Bl G f A X (isTrue e env whole) fun s=> (ev s).bind fun v s=> AO (truthy s.hp v) fun b=>.ok b s:=fun W l hp M ow m s Z eR I ne=> by
 rw [he];refine v5 (Am eR W.le_rfl (fun h=> hw W l hp M ow m s _ rfl I h) ne fun o σ V L ow m v s' eR h1 h2 I hv ne=> ?_);obtain⟨c,h3,eR⟩:=Az eR ne;exact v5 (wa (wJ (MD O I hv h3 fun s' I=> (I.Bo eR h1))))
end
section
variable{G:Gx}{f:Fx}{A:v7}{X:XP}{P:Prog}
theorem Ou{a b:List Nat}(h:AF a=AF b):a=b:=by have:=congrArg (fun s:vz=> s.cps.toList) h;simpa [AF]using this
theorem Ov(a b:List Nat):(AF a==AF b)=(a==b):=by rw [zL];simp only [beq_iff_eq];exact⟨Ou,congrArg _⟩
mutual
noncomputable def pd:AV->PyData
 | .none=>.none
 | .bool b=>.bool b
 | .int i=>.int i
 | .str s=>.str (AF s)
 | .tup xs=>.tuple (EJ xs)
 | .Ah xs=>.list (EJ xs)
 |_=>.none
noncomputable def EJ:List AV->List PyData
 | []=>[]
 |a::r=> pd a::EJ r
end
mutual
theorem Tg:∀(a b:AV) (r:Bool),Fp a b=some r->PyData.eqv (pd a) (pd b)=r
 | .none=>@fun b r h=> by cases b<;>cases h<;>rfl
 | .bool _=>@fun b r h=> by obtain⟨y,h1,rfl⟩:=wK.mp h;cases dR h1;rfl
 | .int _=>@fun b r h=> by cases b<;>cases h<;>rfl
 | .str x=>@fun b r h=> by obtain⟨y,h1,rfl⟩:=wK.mp h;cases Cn h1;exact Ov x y
 | .tup xs=>@fun b r h=> by refine AR h fun y h1 h2=> ?_;cases Hh h1;exact Ow xs y r h2
 | .Ah xs=>@fun b r h=> by refine AR h fun y h1 h2=> ?_;cases dS h1;exact Ow xs y r h2
 | .obj _ _=>@fun _ _ h=> nomatch h
 | .ref _=>@fun _ _ h=> nomatch h
 | .fn _=>@fun _ _ h=> nomatch h
 | .cls _=>@fun _ _ h=> nomatch h
 | .GZ=>@fun _ _ h=> nomatch h
theorem Ow:∀(a b:List AV) (r:Bool),Fq a b=some r->PyData.eqvAll (EJ a) (EJ b)=r
 | [],[],r,h=> by cases h;rfl
 | [],_::_,r,h=> by cases h;rfl
 |_::_,[],r,h=> by cases h;rfl
 |a::x,b::y,r,h=> by
  refine AR h fun c h1 h2=> ?_;show(PyData.eqv (pd a) (pd b)&&PyData.eqvAll (EJ x) (EJ y))=r;rw [Tg a b c h1];cases c with
  |true=> exact Ow x y r h2
  |false=> cases h2;rfl
end
theorem Th{a:AV}{xs:List AV}(h:kids a=some xs):a= .tup xs∨a= .Ah xs:=by cases a<;>cases h<;>first |exact .inl rfl |exact .inr rfl
theorem Ti{n:Nat}{a:AV}(h:CF n a=true):atom a=true∨∃k xs,n=k+1/\(a= .tup xs∨a= .Ah xs)/\xs.all (CF k)=true:=by
 cases n with
 |zero=> exact .inl h
 |succ n=>
  rcases yL.mp h with h |h
  . exact .inl h
  . cases hk:kids a with
    |none=> rw [hk]at h;cases h
    |some xs=> rw [hk]at h;exact .inr ⟨n,xs,rfl,Th hk,h⟩
theorem dh:∀(n:Nat) (a:AV),CF n a=true->(pd a).depth<=n:=fun n=> by
 induction n with
 |zero=> intro a h;cases a<;>first |(cases h;done) |exact wW 0
 |succ n ih=>
  intro a h;rcases Ti h with h |⟨k,xs,e,h1,h2⟩
  . cases a<;>first |(cases h;done) |exact wN _
  . cases e;have:∀l:List AV,l.all (CF n)=true->PyData.depthAll (EJ l)<=n:=fun l=> by
     induction l with
     |nil=> intro _;exact wN _
     |cons a r hr=> intro q;rw [xW,yM]at q;exact Nat.max_le.mpr ⟨ih a q.1,hr q.2⟩
    rcases h1 with rfl |rfl
    . exact xJ (this xs h2)
    . exact xJ (this xs h2)
theorem dk{s:List Nat}(h:A3 s):PyData.strOk (AF s)=true:=by unfold PyData.strOk AF;simp only [List.all_toArray,wi,decide_eq_true_eq];exact h.2
theorem Tj{B:Heap}{W:Wd}{h:Heap}(K:∀a o,Kn B W a o->h.get? a=some o):∀(n:Nat),
 (∀(a:AV) (v:R5),CF n a=true->AG B W a v->(∃as,Reads h v (pd a) as)/\(pd a).canLay0=true)/\
 (∀(xs:List AV) (vs:List R5),xs.all (CF n)=true->AQ B W xs vs->(∃as,ReadsAll h vs (EJ xs) as)/\PyData.canLayAll0 (EJ xs)=true):=by
 have at_:∀{a:AV} {v:R5},atom a=true->AG B W a v->(∃as,Reads h v (pd a) as)/\(pd a).canLay0=true:=fun{a v} q R=> by
  cases a<;>first |(cases q;done) |skip
  . cases R;exact⟨⟨_,.none⟩,rfl⟩
  . cases R;exact⟨⟨_,.bool _⟩,rfl⟩
  . obtain⟨t,rfl⟩:=R;exact⟨⟨_,.int _ t⟩,rfl⟩
  . obtain⟨⟨t,rfl⟩,z⟩:=R;exact⟨⟨_,.str _ t⟩,dk z⟩
 have all:∀{n},(∀(a:AV) (v:R5),CF n a=true->AG B W a v->(∃as,Reads h v (pd a) as)/\(pd a).canLay0=true)->
  ∀(xs:List AV) (vs:List R5),xs.all (CF n)=true->AQ B W xs vs->(∃as,ReadsAll h vs (EJ xs) as)/\PyData.canLayAll0 (EJ xs)=true:=by
  intro n ih xs
  induction xs with
  |nil=>
   intro vs _ r;cases vs with
   |nil=> exact⟨⟨_,.nil⟩,rfl⟩
   |cons _ _=> exact r.elim
  |cons a r hr=>
   intro vs q R;cases vs with
   |nil=> exact R.elim
   |cons v vs=> refine cps fun P1_ k1_=> ?_;rw [xW,yM]at q;obtain⟨⟨as,h1⟩,h2⟩:=ih a v q.1 R.1;obtain⟨⟨bs,h3⟩,h4⟩:=hr vs q.2 R.2;refine k1_ ?_;exact⟨⟨_,.cons h1 h3⟩,wD.mpr ⟨h2,h4⟩⟩
 have val:∀n,(∀(a:AV) (v:R5),CF n a=true->AG B W a v->(∃as,Reads h v (pd a) as)/\(pd a).canLay0=true):=fun n=> by
  induction n with
  |zero=> exact fun a v q R=> at_ q R
  |succ n ih=>
   intro a v q R;rcases Ti q with q |⟨k,xs,e,h1,h2⟩
   . exact at_ q R
   . cases e;rcases h1 with rfl |rfl
     . refine cps fun P2_ k2_=> ?_;obtain⟨⟨a,vs,k,rfl,h3,h4⟩,_⟩:=R;obtain⟨⟨as,h5⟩,h6⟩:=all ih xs vs h2 h4;refine k2_ ?_;exact⟨⟨_,.tuple (K _ _ h3) rfl rfl h5⟩,h6⟩
     . refine cps fun P3_ k3_=> ?_;obtain⟨⟨a,vs,k,rfl,h3,h4⟩,_⟩:=R;obtain⟨⟨as,h5⟩,h6⟩:=all ih xs vs h2 h4;refine k3_ ?_;exact⟨⟨_,.list (K _ _ h3) rfl rfl h5⟩,h6⟩
 exact fun n=> ⟨val n,all (val n)⟩
section
variable{W:Wd}{l:List (N×AV)}{hp:Hp}{M:Led}{ow:Addr->Nat}{m:vz->Option R5}{s:vy}
theorem Inv.data(I:Inv G f W l hp M ow m s)(O:AN G f){a d:AV}{v:R5}(hv:AG G.B W a v)(e:IK hp a=some d)(q:CF 8 d=true):
 (∃as,Reads s.heap v (pd d) as)/\(pd d).canLay0=true/\(pd d).depth<=8:=by
 have K:∀a o,Kn G.B W a o->s.heap.get? a=some o:=fun a o h=> I.kn O h;have hd:=dh 8 d q;unfold IK at e;cases hr:EV a with
 |some i=> rw [hr]at e;obtain⟨xs,h,rfl⟩:=wK.mp e;cases Hi hr;obtain⟨rfl,hi⟩:=I.lt hv;obtain⟨vs,k,h1,h2,h3,h4⟩:=I.J9 hi (MA h);obtain⟨⟨as,r1⟩,r2⟩:=(Tj K 7).2 xs vs q h3;exact⟨⟨_,.list (I.mem h1) rfl rfl r1⟩,r2,hd⟩
 |none=> rw [hr]at e;cases e;obtain⟨r1,r2⟩:=(Tj K 8).1 _ v q hv;exact⟨r1,r2,hd⟩
theorem ME{B:Heap}{W:Wd}:∀{ys:List AV} {vs:List R5} {l:List (List Nat)},AQ B W ys vs->strs? ys=some l->StrsAre vs (l.map AF):=by
 intro ys
 induction ys with
 |nil=>
  intro vs l R e;cases vs with
  |nil=> exact wb e▸ .nil
  |cons _ _=> exact R.elim
 |cons a r ih=>
  intro vs l R e;cases vs with
  |nil=> exact R.elim
  |cons v vs=>
   cases a with
   |str s=> obtain(⟨t,h1,h2⟩):=wK.mp (show(strs? r).map (s::·)=some l from e);obtain(⟨⟨⟨u,h3⟩,_⟩,R⟩):=R;rw [<-h2,h3];exact .cons _ _ (ih R h1)
   |_=> exact cNS e
theorem Tn:∀(a b:List Nat),strLt a b=true↔a<b
 | [],[]=> ⟨nofun,fun h=> absurd h (List.not_lt_nil _)⟩
 |_::_,[]=> ⟨nofun,fun h=> absurd h (List.not_lt_nil _)⟩
 | [],_::_=> ⟨fun _=>.nil,fun _=> rfl⟩
 |a::r,b::t=> by show(decide (a<b)||(a==b&&strLt r t))=true↔_;rw [Bool.or_eq_true,decide_eq_true_eq,yM,beq_iff_eq,Tn r t,List.cons_lt_cons_iff]
theorem dq(a b:List Nat):(!decide ((AF a).cps.toList<(AF b).cps.toList))= !strLt a b:=by congr 1;rw [zL,decide_eq_true_eq,Tn];simp [AF]
theorem dw(c:Nat)(y:List Nat):(!(yw (AF y) (AF [c]) 0 (AF y).length 1).isEmpty)=y.contains c:=by rw [show AF [c]=⟨#[c]⟩from rfl,StrLaws.found_one];rw [zL,yy];exact decide_eq_true_iff
theorem dy(y:List Nat):(!(yw (AF y) (AF []) 0 (AF y).length 1).isEmpty)=true:=by rw [StrLaws.found_iff];refine⟨0,by simp [AF,zz],?_⟩;unfold Builtin.Str.subAt;simp [AF,zz]
theorem Ox(x:List Nat):∀ss:List (List Nat),(ss.map AF).any (· ==AF x)=ss.contains x
 | []=> rfl
 |a::r=> by
  rw [wj,zS,Ox x r,Ov,xD];have:(a==x)=(x==a):=by rw [zL,beq_iff_eq,beq_iff_eq];exact eq_comm
  rw [this]
def Tp:R5->Bool
 | .none=> true
 |_=> false
theorem dz{v:R5}(h:Tp v=false):v≠ .none:=fun e=> by rw [e]at h;exact cTF h
theorem FJ{v w:R5}(e:v=w)(h:Tp w=false):v≠ .none:=dz (e▸h)
theorem AG.isNone{B:Heap}{W:Wd}{a:AV}{v:R5}(r:AG B W a v):(v= .none/\isNone a=true)∨(v≠ .none/\isNone a=false):=by
 cases a with
 |none=> exact .inl ⟨r,rfl⟩
 |bool _=> exact .inr ⟨FJ r rfl,rfl⟩
 |int _=> exact r.elim fun _ r=>.inr ⟨FJ r rfl,rfl⟩
 |str _=> exact r.1.elim fun _ r=>.inr ⟨FJ r rfl,rfl⟩
 |tup _=> exact let⟨⟨_,_,_,e,_,_⟩,_⟩:=r; .inr ⟨FJ e rfl,rfl⟩
 |Ah _=> exact let⟨⟨_,_,_,e,_,_⟩,_⟩:=r; .inr ⟨FJ e rfl,rfl⟩
 |obj _ _=> exact let⟨_,_,_,_,_,e,_,_,_,_,_,_⟩:=r; .inr ⟨FJ e rfl,rfl⟩
 |ref _=> exact .inr ⟨FJ r.1 rfl,rfl⟩
 |fn _=> exact .inr ⟨FJ r rfl,rfl⟩
 |cls _=> exact .inr ⟨FJ r rfl,rfl⟩
 |GZ=> exact r.elim fun _ r=> r.elim fun _ r=>.inr ⟨FJ r rfl,rfl⟩
theorem d3{K:Type} [DecidableEq K](j k:K)(v:R5)(t:List (K×R5)):valueAt ((j,v)::t) k=if j=k then some v else valueAt t k:=by
 unfold valueAt;rw [zM];by_cases h:j=k
 . simp [h]
 . simp [h]
def Iq{K:Type}(of:AV->Option K):Prop:=∀a b i j,of a=some i->of b=some j->(HQ a b=true↔i=j)
theorem ofInt:Iq A4:=fun a b i j h h'=> by cases CG h;cases CG h';exact beq_iff_eq
theorem Tq{a:AV}{x:vz}(h:Lz a=some x):∃s,a= .str s/\x=AF s:=by obtain⟨s,h1,rfl⟩:=wK.mp h;exact⟨s,Cn h1,rfl⟩
theorem ofStr:Iq Lz:=fun a b i j h h'=> by obtain⟨x,rfl,rfl⟩:=Tq h;obtain⟨y,rfl,rfl⟩:=Tq h';exact beq_iff_eq.trans ⟨congrArg _,Ou⟩
theorem BF.get{B:Heap}{K:Type} [DecidableEq K]{of:AV->Option K}(ok:Iq of){W:Wd}{k:AV}{kk:K}(hk:of k=some kk):∀{es:List (AV×AV)} {kvs:List (K×R5)},BF B of W es kvs->
 (∀x,DW k es=some x->∃v,valueAt kvs kk=some v/\AG B W x v)/\(DW k es=none->valueAt kvs kk=none)
 | [],kvs,h_=> by
   cases kvs with
   |nil=> exact⟨fun _ h=> (nomatch h),fun _=> rfl⟩
   |cons _ _=> exact h_.elim
 |(k',x)::r,kvs,h_=> by
  cases kvs with
  |nil=> exact h_.elim
  |cons q_ t=>
  obtain⟨j,v⟩:=q_;obtain⟨e,h,R⟩:=h_;have ih:=BF.get ok hk R;have q:=ok _ _ _ _ e hk;rw [d3];rw [Zp];by_cases z:j=kk
  . rw [if_pos z,if_pos (q.mpr z)];exact⟨fun x' e=> ⟨v,rfl,wb e▸h⟩,fun e=> (nomatch e)⟩
  . rw [if_neg z,if_neg fun y=> z (q.mp y)];exact ih
theorem BF.isSome{B:Heap}{K:Type} [DecidableEq K]{of:AV->Option K}(ok:Iq of){W:Wd}{k:AV}{kk:K}(hk:of k=some kk){es:List (AV×AV)}{kvs:List (K×R5)}(R:BF B of W es kvs):(valueAt kvs kk).isSome=(DW k es).isSome:=by
 cases h:DW k es with
 |none=> rw [(R.get ok hk).2 h];rfl
 |some x=> obtain⟨v,h1,_⟩:=(R.get ok hk).1 x h;rw [h1];rfl
theorem Ts{prog:wR}{w:wU}{K K':Type} [DecidableEq K] [DecidableEq K'](knd:xr prog w K)(ADX:xr prog w K'){o:Obj}(h:o.IsDictOf knd []):o.IsDictOf ADX []:=by
 obtain⟨es,ep,h1,h2,h3,h4,h5⟩:=h;have:es= #[]:=by
  cases he:es.toList with
  |nil=> exact Array.toList_eq_nil_iff.mp he
  |cons a r=> rw [he]at h4;cases h4
 subst this;exact⟨#[],ep,h1,h2,by intro e he;simp at he,.nil,by simp⟩
theorem Oy{a:AV}(h:(A4 a).isSome=true):∃i,a= .int i:=(yc.mp h).imp fun _=> CG
theorem Oz{a:AV}(h:(BJ a).isSome=true):∃i,a= .str i:=(yc.mp h).imp fun _=> Cn
theorem Tt{a:AV}(h:keyOk a=true):(∃i,a= .int i)∨(∃i,a= .str i):=(yL.mp h).imp Oy Oz
theorem d4{k k' x:AV}{r:List (AV×AV)}(h:Cv k ((k',x)::r)=true):(∃i j,k= .int i/\k'= .int j)∨(∃i j,k= .str i/\k'= .str j):=by
 have h:=(wD.mp h).1;rcases yL.mp h with h |h
 . obtain⟨i,rfl⟩:=Oy (wD.mp h).1;obtain⟨j,rfl⟩:=Oy (wD.mp h).2;exact .inl ⟨i,j,rfl,rfl⟩
 . obtain⟨i,rfl⟩:=Oz (wD.mp h).1;obtain⟨j,rfl⟩:=Oz (wD.mp h).2;exact .inr ⟨i,j,rfl,rfl⟩
inductive d5(prog:wR)(w:wU)(B:Heap)(W:Wd)(es:List (AV×AV))(o:Obj)(k:AV):Prop
 |int (i:Int) (kvs:List (Int×R5)) (h:k= .int i) (h1:o.IsDictOf (xM prog w) kvs) (h2:BF B A4 W es kvs)
 |str (i:List Nat) (kvs:List (vz×R5)) (h:k= .str i) (h1:o.IsDictOf (PySem.strKind prog w) kvs) (h2:BF B Lz W es kvs)
theorem O0{prog:wR}{w:wU}{B:Heap}{W:Wd}{es:List (AV×AV)}{o:Obj}{k:AV}(h:Eb prog w B W es o)(q1:keyOk k=true)(q2:Cv k es=true):
 d5 prog w B W es o k:=by
 cases es with
 |nil=>
  have z:∀{K:Type} {of:AV->Option K} {kvs:List (K×R5)},BF B of W [] kvs->kvs=[]:=fun{_ _ kvs} h=> by
   cases kvs with
   |nil=> rfl
   |cons _ _=> exact h.elim
  rcases h with⟨kvs,h1,h2⟩ |⟨kvs,h1,h2⟩
  . cases z h2;rcases Tt q1 with⟨i,rfl⟩ |⟨i,rfl⟩
    . exact .int (_) ([]) rfl (h1) (trivial)
    . exact .str (_) ([]) rfl (Ts _ _ h1) (trivial)
  . cases z h2;rcases Tt q1 with⟨i,rfl⟩ |⟨i,rfl⟩
    . exact .int (_) ([]) rfl (Ts _ _ h1) (trivial)
    . exact .str (_) ([]) rfl (h1) (trivial)
 |cons p r=>
  obtain⟨k',x⟩:=p;have nz:∀{K:Type} {of:AV->Option K} {kvs:List (K×R5)},BF B of W ((k',x)::r) kvs->∃kk,of k'=some kk:=fun{_ _ kvs} h=> by
   cases kvs with
   |nil=> exact h.elim
   |cons q _=> exact⟨q.1,h.1⟩
  rcases d4 q2 with⟨i,j,rfl,rfl⟩ |⟨i,j,rfl,rfl⟩
  . rcases h with⟨kvs,h1,h2⟩ |⟨kvs,h1,h2⟩
    . exact .int (i) (kvs) rfl (h1) (h2)
    . obtain⟨_,z⟩:=nz h2;cases z
  . rcases h with⟨kvs,h1,h2⟩ |⟨kvs,h1,h2⟩
    . obtain⟨_,z⟩:=nz h2;cases z
    . exact .str (i) (kvs) rfl (h1) (h2)
theorem d6{K:Type} [DecidableEq K](j k:K)(u v:R5)(t:List (K×R5))(nd:j∉t.map (·.1)):stored ((j,u)::t) k v=if j=k then(j,v)::t else(j,u)::stored t k v:=by
 unfold stored;by_cases h:j=k
 . subst h;simp only [zS,decide_true,Bool.true_or,if_true,wj];congr 1;refine(yK fun p hp=> if_neg fun e=> nd ?_).trans (zU t);exact e▸xl hp
 . simp only [zS,h,decide_false,yR,if_false,wj];split<;>rfl
theorem d7{K:Type} [DecidableEq K](j k:K)(u:R5)(t:List (K×R5))(nd:j∉t.map (·.1)):without ((j,u)::t) k=if j=k then t else(j,u)::without t k:=by
 unfold without;by_cases h:j=k
 . subst h;simp only [ne_eq,not_true_eq_false,decide_false,List.filter_cons,wz,if_false,if_true];exact List.filter_eq_self.mpr fun p hp=> by
    rw [decide_eq_true_eq];intro e;exact nd (e▸xl hp)
 . simp [List.filter_cons,h]
theorem BF.put{B:Heap}{K:Type} [DecidableEq K]{of:AV->Option K}(ok:Iq of){W:Wd}{k a:AV}{kk:K}{v:R5}(hk:of k=some kk)(hv:AG B W a v):∀{es:List (AV×AV)} {kvs:List (K×R5)},BF B of W es kvs->(kvs.map (·.1)).Nodup->BF B of W (Gb k a es) (stored kvs kk v)
 | [],kvs,h_,nd_=> by
   cases kvs with
   |nil=> exact⟨hk,hv,trivial⟩
   |cons _ _=> exact h_.elim
 |(k',x)::r,kvs,h_,nd=> by
  cases kvs with
  |nil=> exact h_.elim
  |cons q_ t=>
  obtain⟨j,u⟩:=q_;obtain⟨e,h,R⟩:=h_;rw [wj,xU]at nd;have ih:=BF.put ok hk hv R nd.2;have q:=ok _ _ _ _ e hk;rw [d6 _ _ _ _ _ nd.1];rw [Ro];by_cases z:j=kk
  . rw [if_pos z,if_pos (q.mpr z)];exact⟨e,hv,R⟩
  . rw [if_neg z,if_neg fun y=> z (q.mp y)];exact⟨e,h,ih⟩
theorem BF.del{B:Heap}{K:Type} [DecidableEq K]{of:AV->Option K}(ok:Iq of){W:Wd}{k:AV}{kk:K}(hk:of k=some kk):∀{es:List (AV×AV)} {kvs:List (K×R5)},BF B of W es kvs->(kvs.map (·.1)).Nodup->BF B of W (HR k es) (without kvs kk)
 | [],kvs,h_,nd_=> by
   cases kvs with
   |nil=> exact trivial
   |cons _ _=> exact h_.elim
 |(k',x)::r,kvs,h_,nd=> by
  cases kvs with
  |nil=> exact h_.elim
  |cons q_ t=>
  obtain⟨j,u⟩:=q_;obtain⟨e,h,R⟩:=h_;rw [wj,xU]at nd;have ih:=BF.del ok hk R nd.2;have q:=ok _ _ _ _ e hk;rw [d7 _ _ _ _ nd.1];rw [Rp];by_cases z:j=kk
  . rw [if_pos z,if_pos (q.mpr z)];exact R
  . rw [if_neg z,if_neg fun y=> z (q.mp y)];exact⟨e,h,ih⟩
theorem Obj.IsDictOf.nodup{prog:wR}{w:wU}{K:Type} [DecidableEq K]{knd:xr prog w K}{o:Obj}{kvs:List (K×R5)}(h:o.IsDictOf knd kvs):(kvs.map (·.1)).Nodup:=by obtain⟨es,ep,h1,h2,h3,h4,h5⟩:=h;exact h5
structure Keyed(prog:wR)(w:wU)(B:Heap)(W:Wd)(es:List (AV×AV))(o:Obj)(k:AV)(v:R5){K:Type}(dec:DecidableEq K)(knd:xr prog w K)(kvs:List (K×R5))(kk:K):Prop where
 is:o.IsDictOf knd kvs
 key:knd.is kk v=true
 len:kvs.length=es.length
 has:(valueAt kvs kk).isSome=(DW k es).isSome
 put:∀a x,AG B W a x->∀o':Obj,o'.IsDictOf knd (stored kvs kk x)->Eb prog w B W (Gb k a es) o'
 del:∀o':Obj,o'.IsDictOf knd (without kvs kk)->Eb prog w B W (HR k es) o'
 get:∀c,DW k es=some c->∃y,valueAt kvs kk=some y/\AG B W c y
theorem keyed{prog:wR}{w:wU}{B:Heap}{W:Wd}{es:List (AV×AV)}{o:Obj}{k:AV}{v:R5}(h:Eb prog w B W es o)(q:(keyOk k&&Cv k es)=true)(hk:AG B W k v):
 ∃(K:Type) (dec:DecidableEq K) (knd:xr prog w K) (kvs:List (K×R5)) (kk:K),Keyed prog w B W es o k v dec knd kvs kk:=by
 refine AS q fun q1 q2=> ?_;rcases O0 h q1 q2 with⟨k,kvs,rfl,hd,hr⟩ |⟨k,kvs,rfl,hd,hr⟩
 . obtain⟨t,rfl⟩:=hk;exact⟨_,_,_,kvs,k,hd,isInt_self k t,hr.len.symm,hr.isSome ofInt rfl,fun a x hx o' h'=>.inl ⟨_,h',hr.put ofInt rfl hx (Obj.IsDictOf.nodup hd)⟩,fun o' h'=>.inl ⟨_,h',hr.del ofInt rfl (Obj.IsDictOf.nodup hd)⟩,fun c e=> (hr.get ofInt rfl).1 c e⟩
 . obtain⟨⟨t,rfl⟩,_⟩:=hk;exact⟨_,_,_,kvs,_,hd,isStrOf_self _ t,hr.len.symm,hr.isSome ofStr rfl,fun a x hx o' h'=>.inr ⟨_,h',hr.put ofStr rfl hx (Obj.IsDictOf.nodup hd)⟩,fun o' h'=>.inr ⟨_,h',hr.del ofStr rfl (Obj.IsDictOf.nodup hd)⟩,fun c e=> (hr.get ofStr rfl).1 c e⟩
theorem d8{f:Int->Int->Bool}{a b:AV}{c:Bool}(h:HS f a b=some c):∃x y,a= .int x/\b= .int y/\f x y=c:=by refine cps fun P1_ k1_=> ?_;refine AR h fun x h1 h=> ?_;obtain⟨y,h2,h3⟩:=wK.mp h;refine k1_ ?_;exact⟨x,y,CG h1,CG h2,h3⟩
theorem Tu{f:List Nat->List Nat->Bool}{a b:AV}{c:Bool}(h:Nj f a b=some c):∃x y,a= .str x/\b= .str y/\f x y=c:=by refine cps fun P1_ k1_=> ?_;refine AR h fun x h1 h=> ?_;obtain⟨y,h2,h3⟩:=wK.mp h;refine k1_ ?_;exact⟨x,y,Cn h1,Cn h2,h3⟩
theorem d9{y:List Nat}{c:Bool}:∀{x:List Nat},Rr y x=some c->(!(yw (AF y) (AF x) 0 (AF y).length 1).isEmpty)=c
 | []=>@fun h=> (dy y).trans (wb h)
 | [ch]=>@fun h=> (dw ch y).trans (wb h)
 |_::_::_=>@fun h=> cNS h
theorem Tv{a b:AV}{c:Bool}(h:Nk a b=some c):∃x y,a= .str x/\b= .str y/\(!(yw (AF y) (AF x) 0 (AF y).length 1).isEmpty)=c:=by refine AR h fun x h1 h=> ?_;refine AR h fun y h2 h3=> ?_;exact⟨x,y,Cn h1,Cn h2,d9 h3⟩
set_option tactic.hygienic true in
theorem Tw{a b:AV}{u v:R5}{c:Bool}(hu:AG G.B W a u)(hv:AG G.B W b v)(e:Nl a b=some c){Q:R5->vy->Prop}{E:R5->vy->Prop}:
 (Q (.bool c) s->wpAny (mo G) A (compareOp .Is u v) Q E s)/\(Q (.bool (!c)) s->wpAny (mo G) A (compareOp .IsNot u v) Q E s):=by
 cases b<;>first |cases e |skip
 . cases hv;rcases hu.isNone with⟨rfl,h1⟩ |⟨h0,h1⟩
   . rw [h1]at *;exact⟨fun h=> wpAny_is_self rfl h,fun h=> wpAny_isNot_self rfl h⟩
   . rw [h1]at *;exact⟨fun h=> PyProof.Rows.is_none_ne h0 h,fun h=> PyProof.Rows.isnot_none_ne h0 h⟩
 . cases hv;cases a<;>first |cases e |skip
   . cases hu;exact⟨fun h=> wpAny_is_other rfl (fun h=> nomatch h) h,fun h=> wpAny_isNot_other rfl (fun h=> nomatch h) h⟩
   . cases hu;rename_i b a;have:(Value.bool a==Value.bool b)=(a==b):=by cases a<;>cases b<;>rfl
     exact⟨fun h=> wpAny_is_plain rfl (this.symm▸h),fun h=> wpAny_isNot_plain rfl (this.symm▸h)⟩
theorem eA(O:AN G f)(HA:A.units+200<cLine)(I:Inv G f W l hp M ow m s){a b:AV}{u v:R5}(hu:AG G.B W a u)(hv:AG G.B W b v){c:Bool}(e:K9 hp a b=some c)
 {Q:R5->vy->Prop} {E:R5->vy->Prop} (h:Q (.bool c) s):wpAny (mo G) A (compareOp .Eq u v) Q E s:=by
 refine cps fun P1_ k1_=> ?_;refine AR e fun a' h1 e=> ?_;refine AR e fun b' h2 e=> ?_;refine k1_ ?_;by_cases q:(CF 8 a'&&CF 8 b')=true
 . refine cps fun P2_ k2_=> ?_;rw [if_pos q]at e;refine AS q fun q1 q2=> ?_;obtain⟨⟨as,r1⟩,r2,r3⟩:=I.data O hu h1 q1;obtain⟨⟨bs,r4⟩,r5,r6⟩:=I.data O hv h2 q2;refine k2_ ?_;refine SeqAt.compareEq_reads r1 r4 r2 r5 ?_ ((Tg _ _ _ e).symm▸h);have:=HA;have:=Nat.min_le_left (pd a').depth (pd b').depth;exact BV (wG this (wG r3 HA))
 . rw [if_neg q]at e;cases e
theorem eB(O:AN G f)(I:Inv G f W l hp M ow m s){a b:AV}{u v:R5}(hu:AG G.B W a u)(hv:AG G.B W b v){c:Bool}(e:Rt hp a b=some c)
 {Q:R5->vy->Prop} {E:R5->vy->Prop} (h:∀s',Inv G f W l hp M ow m s'->Q (.bool c) s'):wpAny (mo G) A (compareOp .In u v) Q E s:=by
 refine AR e fun i h1 e1=> ?_;clear e;refine AR e1 fun es h2 e2=> ?_;cases Hi h1;obtain⟨rfl,hi⟩:=I.lt hv;obtain⟨o,g1,_,g3,g4,g5⟩:=I.Gu hi (MB h2);by_cases q:(keyOk a&&Cv a es)=true
 . rw [if_pos q]at e2;cases e2;obtain⟨K,dec,knd,kvs,kk,D⟩:=keyed g4 q hu;exact kda_in I.nw (wO _ g1) D.is g3 D.key _ D.has (h _ (I.tok _))
 . rw [if_neg q]at e2;cases e2
theorem eC(O:AN G f)(I:Inv G f W l hp M ow m s){a b:AV}{u v:R5}(hu:AG G.B W a u)(hv:AG G.B W b v){c:Bool}(e:Ru a b=some c)
 {Q:R5->vy->Prop} {E:R5->vy->Prop} (h:Q (.bool c) s):wpAny (mo G) A (compareOp .In u v) Q E s:=by
 refine AR e fun x h1 e=> ?_;refine AR e fun ys h2 e=> ?_;obtain⟨ss,h3,rfl⟩:=wK.mp e;cases Cn h1;obtain⟨⟨t,rfl⟩,_⟩:=hu;rcases Th h2 with rfl |rfl
 . obtain⟨⟨y,vs,k,rfl,g1,g2⟩,_⟩:=hv;exact PyProof.Rows.in_tuple_strs ⟨_,I.kn O g1,rfl,k,rfl⟩ (by simpa using ME g2 h3) (by rw [Ox];exact h)
 . obtain⟨⟨y,vs,k,rfl,g1,g2⟩,_⟩:=hv;exact PyProof.Rows.in_list_strs (EI (I.kn O g1)) (ME g2 h3) (by rw [Ox];exact h)
inductive eE(g:Int->Int->Bool)(u v:R5)(c:Bool):Prop
 |mk (x y:Int) (t t':Tok) (h1:u= .int x t) (h2:v= .int y t') (h3:c=g x y)
theorem KA{B:Heap}{W:Wd}{g:Int->Int->Bool}{a b:AV}{u v:R5}{c:Bool}(hu:AG B W a u)(hv:AG B W b v)(e:HS g a b=some c):eE g u v c:=by obtain⟨x,y,e1,e2,e3⟩:=d8 e;rw [e1]at hu;rw [e2]at hv;exact hu.elim fun t hu=> hv.elim fun t' hv=> ⟨x,y,t,t',hu,hv,e3.symm⟩
inductive eF(g:List Nat->List Nat->Bool)(u v:R5)(c:Bool):Prop
 |mk (x y:List Nat) (t t':Tok) (h1:u= .str (AF x) t) (h2:v= .str (AF y) t') (h3:c=g x y)
theorem MF{B:Heap}{W:Wd}{g:List Nat->List Nat->Bool}{a b:AV}{u v:R5}{c:Bool}(hu:AG B W a u)(hv:AG B W b v)(e:∃x y,a= .str x/\b= .str y/\g x y=c):eF g u v c:=by obtain⟨x,y,e1,e2,e3⟩:=e;rw [e1]at hu;rw [e2]at hv;exact hu.1.elim fun t hu=> hv.1.elim fun t' hv=> ⟨x,y,t,t',hu,hv,e3.symm⟩
theorem KC(O:AN G f)(HA:A.units+200<cLine)(I:Inv G f W l hp M ow m s){op:COp}{a b:AV}{u v:R5}(hu:AG G.B W a u)(hv:AG G.B W b v){c:Bool}(e:BK hp op a b=some c)
 {Q:R5->vy->Prop} {E:R5->vy->Prop} (h:∀s',Inv G f W l hp M ow m s'->Q (.bool c) s'):wpAny (mo G) A (compareOp (Gg op) u v) Q E s:=by
 cases op
 . exact eA O HA I hu hv e (h _ I)
 . rcases FH e with e |e
   . obtain⟨x,y,t,t',rfl,rfl,rfl⟩:=KA hu hv e;exact PyProof.Rows.ne_int (h _ I)
   . obtain⟨x,y,t,t',rfl,rfl,rfl⟩:=MF hu hv (Tu e);exact PyProof.Rows.ne_str (by rw [show∀x y:vz,(x !=y)= !(x==y)from fun _ _=> rfl,Ov];exact h _ I)
 . obtain⟨x,y,t,t',rfl,rfl,rfl⟩:=KA hu hv e;exact PyProof.Rows.lt_int (h _ I)
 . rcases FH e with e |e
   . obtain⟨x,y,t,t',rfl,rfl,rfl⟩:=KA hu hv e;exact PyProof.Rows.le_int (h _ I)
   . obtain⟨x,y,t,t',rfl,rfl,rfl⟩:=MF hu hv (Tu e);exact PySem.P.le_str (by rw [dq];exact h _ I)
 . obtain⟨x,y,t,t',rfl,rfl,rfl⟩:=KA hu hv e;exact PyProof.Rows.gt_int (h _ I)
 . obtain⟨x,y,t,t',rfl,rfl,rfl⟩:=KA hu hv e;exact PyProof.Rows.ge_int (h _ I)
 . rcases FH e with e |e
   . obtain⟨x,y,t,t',rfl,rfl,rfl⟩:=MF hu hv (Tv e);exact PyProof.Rows.in_str (h _ I)
   . rcases FH e with e |e
     . exact eB O I hu hv e h
     . exact eC O I hu hv e (h _ I)
 . obtain⟨z,e1,rfl⟩:=wK.mp e;obtain⟨x,y,t,t',rfl,rfl,rfl⟩:=MF hu hv (Tv e1);exact PyProof.Rows.notIn_str (h _ I)
 . exact(Tw hu hv e).1 (h _ I)
 . obtain⟨z,e1,rfl⟩:=wK.mp e;exact(Tw hu hv e1).2 (h _ I)
end
end
section
variable{G:Gx}{f:Fx}{A:v7}{X:XP}{P:Prog}
section
variable{W:Wd}{l:List (N×AV)}{hp:Hp}{M:Led}{ow:Addr->Nat}{m:vz->Option R5}{s:vy}
theorem Inv.freeze(I:Inv G f W l hp M ow m s){h':Heap}{tk:Nat}{D:Addr}{o:Obj}(F':Fr f.g f.L h' m)(N':News f.g f.L h' ((D,o)::(M++W.fz)))(lt:∀p∈M++W.fz,p.1<D):
 Inv G f (W.Bw [(D,o)]) l hp M ow m ⟨h',s.gens,s.drawn,tk,s.os⟩:=
 ⟨F',News.sub N' (fun p hp=> by
     rcases wV.mp hp with h |h
     . exact .tail _ (wO _ h)
     . rcases wV.mp h with h |h
       . rcases wM.mp h with rfl |h
         . exact .head _
         . cases h
       . exact .tail _ (wH _ h)),
   I.hi.Bw (fun p hp q hq=> by
    rcases wM.mp hp with rfl |hp
    . exact xN (lt q (wO _ hq))
    . cases hp),
   I.lr.mono (W.CN _),I.gn,I.os⟩
theorem Tx{B:Heap}{W:Wd}{D:Addr}{o:Obj}:Kn B (W.Bw [(D,o)]) D o:=.inl (wO _ (.head _))
theorem Inv.fresh(I:Inv G f W l hp M ow m s){h':Heap}{tk:Nat}{D:Addr}{o:Obj}{x:AObj}(F':Fr f.g f.L h' m)(N':News f.g f.L h' ((D,o)::(M++W.fz)))(lt:∀p∈M++W.fz,p.1<D){hp':Hp}{k:Nat}(g:hp.Dc hp' k x)
 (r:DI G.prog G.w G.B (W.add k D) ((D,o)::M) (J4 ow k [D]) k x):
 Inv G f (W.add k D) l hp' ((D,o)::M) (J4 ow k [D]) m ⟨h',s.gens,s.drawn,tk,s.os⟩:=
 ⟨F',N',I.hi.add (N:=[(D,o)]) g (by simp) (fun p hp q hq=> (by
     rcases wM.mp hp with rfl |hp
     . exact xN (lt q hq)
     . cases hp)) r,
   I.lr.mono (Wd.Gn _ (I.hi.nl g)),I.gn,I.os⟩
theorem A3.app{a b:List Nat}(h:A3 a)(h':A3 b)(z:a.length+b.length<=lim):A3 (a++b):=
 ⟨by simpa using z,fun c hc=> (wV.mp hc).elim (h.2 c) (h'.2 c)⟩
theorem A3.rep{a:List Nat}(h:A3 a):∀n:Nat,a.length * n<=lim->A3 (CM a n)
 |0=>@fun _=> ⟨wN _,fun c hc=> (nomatch hc)⟩
 |n+1=>@fun z=> by
  have z':a.length * n+a.length<=lim:=by rw [Nat.mul_succ]at z;exact z
  have ih:=h.rep n (by exact Na);have hl:∀n:Nat,(CM a n).length=a.length * n:=fun n=> by
   induction n with
   |zero=> rfl
   |succ n ih=> show(a++CM a n).length=_;rw [v9,ih,Nat.mul_succ];exact xp (EA) (EA)
  exact h.app ih (by rw [hl];exact AI z')
theorem FK{α:Type}{n:Nat}{x y:α}(h:ck n x=some y):n<=lim/\x=y:=by
 unfold ck at h;split at h
 . rename_i q;exact⟨q,wb h⟩
 . cases h
theorem MG(a b:List Nat):AF a++AF b=AF (a++b):=by show(⟨(AF a).cps++(AF b).cps⟩:vz)=_;simp [AF]
theorem Bq{n:Nat}(h:n<=lim):n<=sizeLine:=by unfold lim at h;rw [sizeLine_eq];exact C8
theorem Tz{α:Type}(xs:List α):∀n:Nat,(wB n xs).flatten=CM xs n
 |0=> rfl
 |n+1=> by rw [List.replicate_succ,List.flatten_cons,Tz xs n];rfl
theorem AQ.rep{B:Heap}{W:Wd}{xs:List AV}{vs:List R5}(h:AQ B W xs vs):∀n:Nat,AQ B W (CM xs n) (CM vs n)
 |0=> trivial
 |n+1=> h.append (h.rep n)
theorem T3{α:Type}(xs:List α):∀n:Nat,(CM xs n).length=xs.length * n
 |0=> rfl
 |n+1=> by show(xs++CM xs n).length=_;rw [v9,T3 xs n,Nat.mul_succ];exact xp (EA) (EA)
theorem T5{α:Type}:∀(n:Nat) (x acc:List α),(wB n x.toArray).foldl (· ++·) acc.toArray=(acc++CM x n).toArray
 |0=>@fun x acc=> congrArg _ (wY acc).symm
 |n+1=>@fun x acc=> by rw [List.replicate_succ,List.foldl_cons,zq,T5 n x (acc++x),wF];rfl
theorem MH{α:Type}(x:List α):CM x 1=x:=wY x
theorem T6{α:Type}:∀n:Nat,CM ([]:List α) n=[]
 |0=> rfl
 |n+1=> T6 n
theorem eG(x:List Nat)(n:Int):Txt.mul (AF x) n=AF (CM x n.toNat):=by
 unfold Txt.mul;by_cases h:n<1
 . rw [if_pos h];have:n.toNat=0:=by lia
   rw [this];rfl
 . rw [if_neg h];split
   . rename_i q;rcases yL.mp q with q |q
     . have:n=1:=by simpa using q
       subst this;rw [show(1:Int).toNat=1 from rfl,MH]
     . have:x=[]:=by
        rw [Bx]at q;cases x with
        |nil=> rfl
        |cons a r=> simp at q
       subst this;rw [T6]
   . show(⟨(wB n.toNat (AF x).cps).foldl (· ++·) #[]⟩:vz)=_;have:=T5 n.toNat x [];unfold AF;rw [List.nil_append]at this;exact congrArg PySem.Str.mk this
theorem eH{x:List Nat}{n:Int}(h1:n.natAbs<=lim)(h2:x.length * n.toNat<=lim):MulOk (AF x) n:=by
 have hl:lim=1000000:=rfl;refine⟨?_,fun h3 _=> ?_,fun _ _=> ?_⟩
 . rw [zp];exact⟨decide_eq_false (by lia),decide_eq_false (by lia)⟩
 . rw [Bx];intro h;have:(2 ^ 63 - 1:Int) / n * n<=2 ^ 63 - 1:=Int.ediv_mul_le _ (by lia);have q:(x.length * n.toNat:Nat)=(x.length:Int) * n:=by push_cast;rw [y9 (by lia)]
   have h4:(2 ^ 63 - 1:Int)<((2 ^ 63 - 1:Int) / n+1) * n:=by have:=Int.lt_ediv_add_one_mul_self (2 ^ 63 - 1:Int) (show 0<n by exact ZZ);exact this
   have h5:((2 ^ 63 - 1:Int) / n+1) * n<=(x.length:Int) * n:=Int.mul_le_mul_of_nonneg_right (by assumption) (by lia);lia
 . rw [Bx];unfold PySem.Builtin.Str.tooLong;exact decide_eq_false (by have:=Bq h2;exact JX)
theorem Eh{h:Heap}{a:Addr}{vs:List R5}{k:Nat}(e:h.get? a=some (F7 vs k)):IsTup h a vs.toArray:=⟨_,e,rfl,k,rfl⟩
theorem Inv.Ir(I:Inv G f W l hp M ow m s){h':Heap}{D:Addr}{zs:List R5}{xs:List AV}{k tk:Nat}(F':Fr f.g f.L h' m)(N':News f.g f.L h' ((D,listOf zs.toArray k)::(M++W.fz)))(lt:∀p∈M++W.fz,p.1<D)
 (R:AQ G.B W xs zs) (z:xs.length<=lim):∃V,W.le V/\Inv G f V l hp M ow m ⟨h',s.gens,s.drawn,tk,s.os⟩/\AG G.B V (.Ah xs) (.ref D):=
 ⟨_,W.CN _,I.freeze F' N' lt,⟨_,zs,k,rfl,Tx,R.mono (W.CN _)⟩,z⟩
theorem Inv.T7(I:Inv G f W l hp M ow m s){h':Heap}{D:Addr}{zs:List R5}{xs:List AV}{k tk:Nat}(F':Fr f.g f.L h' m)(N':News f.g f.L h' ((D,F7 zs k)::(M++W.fz)))(lt:∀p∈M++W.fz,p.1<D)
 (R:AQ G.B W xs zs) (z:xs.length<=lim):∃V,W.le V/\Inv G f V l hp M ow m ⟨h',s.gens,s.drawn,tk,s.os⟩/\AG G.B V (.tup xs) (.ref D):=
 ⟨_,W.CN _,I.freeze F' N' lt,⟨_,zs,k,rfl,Tx,R.mono (W.CN _)⟩,z⟩
theorem eI{x:Int}(h:x.natAbs<=lim):Builtin.Int.intBits x<=64:=by
 unfold Builtin.Int.intBits;split
 . exact K5
 . rename_i q;have hy:x.natAbs≠0:=by simpa using q
   have:x.natAbs.log2<63:=by rw [Nat.log2_lt hy];have:lim=1000000:=rfl;exact D9
   exact C8
theorem T8{x y:Int}(h:y.natAbs<=lim):AAF x y=false:=by
 unfold AAF;have:(if y==0 then 0 else y.natAbs.log2 / 30+1)<=300:=by
  split
  . exact K5
  . have:y.natAbs.log2<64:=by
     have hy:y.natAbs≠0:=by rename_i q;simpa using q
     rw [Nat.log2_lt hy];have:lim=1000000:=rfl;exact D9
    lia
 show(decide ((if y==0 then 0 else y.natAbs.log2 / 30+1)>300)&&_)=false;rw [Bool.and_eq_false_iff];exact .inl (decide_eq_false (by exact JX))
def MI(G:Gx)(f:Fx)(l:List (N×AV))(hp:Hp)(M:Led)(ow:Addr->Nat)(m:vz->Option R5)(W:Wd)(c:AV)(Q:R5->vy->Prop):Prop:=
 ∀V r s',W.le V->Inv G f V l hp M ow m s'->AG G.B V c r->Q r s'
theorem T9{g:Int->Int->AV}{a b c:AV}(h:((A4 a).bind fun x=> (A4 b).map fun y=> g x y)=some c):∃x y,a= .int x/\b= .int y/\c=g x y:=by refine cps fun P1_ k1_=> ?_;refine AR h fun x h1 h=> ?_;obtain⟨y,h2,h3⟩:=wK.mp h;refine k1_ ?_;exact⟨x,y,CG h1,CG h2,h3.symm⟩
variable{Q:R5->vy->Prop}{E:R5->vy->Prop}{a b c:AV}{u v:R5}
theorem eJ(O:AN G f)(I:Inv G f W l hp M ow m s){xs ys:List AV}(hu:AG G.B W (.tup xs) u)(hv:AG G.B W (.tup ys) v)(q:xs.length+ys.length<=1000)(h:MI G f l hp M ow m W (.tup (xs++ys)) Q):wpAny (mo G) A (binaryOp .Add u v) Q E s:=by
 obtain⟨⟨x,vs,k,rfl,h1,h2⟩,z1⟩:=hu;obtain⟨⟨y,ws,k',rfl,h3,h4⟩,z2⟩:=hv;have hl1:=h2.length;have hl2:=h4.length;refine add_tuples I.fr I.nw (Eh (I.kn O h1)) (Eh (I.kn O h3)) (fun e=> ?_) (fun e1 e2=> ?_) (fun _ _ h' F' N'=> ?_) (Bq (by show _<=1000000;exact AI (wG (w5 hl2.symm) (wG (w5 hl1.symm) q))))
 . subst e;cases xy.mp hl1;exact h W _ _ W.le_rfl I ⟨⟨y,ws,k',rfl,h3,h4⟩,z2⟩
 . subst e2;cases xy.mp hl2;rw [wY]at h;exact h W _ _ W.le_rfl I ⟨⟨x,vs,k,rfl,h1,h2⟩,z1⟩
 . obtain⟨V,q1,q2,q3⟩:=I.T7 F' N' (fun p hp=> wk (I.nw p hp).1) (h2.append h4) (by simp;show _<=1000000;exact C8);exact h V _ _ q1 q2 q3
theorem eK(O:AN G f)(I:Inv G f W l hp M ow m s)(hu:AG G.B W a u)(hv:AG G.B W b v)(e:Rq hp a b=some c)(h:MI G f l hp M ow m W c Q):wpAny (mo G) A (binaryOp .Add u v) Q E s:=by
 rcases FH e with e |e
 . obtain⟨x,y,rfl,rfl,rfl⟩:=T9 e;obtain⟨t,rfl⟩:=hu;obtain⟨t',rfl⟩:=hv;exact PyProof.Rows.add_int (h W _ _ W.le_rfl (I.tok _) ⟨_,rfl⟩)
 rcases FH e with e |e
 . refine AR e fun x h1 e=> ?_;refine AR e fun y h2 e=> ?_;obtain⟨z,rfl⟩:=FK e;rw [Cn h1]at hu;rw [Cn h2]at hv;obtain⟨⟨t,rfl⟩,h1⟩:=hu;obtain⟨⟨t',rfl⟩,h2⟩:=hv;exact PyProof.Rows.add_str (fun t' tk=> h W _ _ W.le_rfl (I.tok _) ⟨⟨_,by rw [MG]⟩,h1.app h2 z⟩) (by rw [Bx,Bx];exact Bq z)
 rcases FH e with e |e
 . refine AR e fun x h1 e=> ?_;refine AR e fun y h2 e=> ?_;rw [Hh h1]at hu;rw [Hh h2]at hv;by_cases q:x.length+y.length<=1000
   . rw [if_pos q]at e;cases e;exact eJ O I hu hv q h
   . rw [if_neg q]at e;cases e
 . refine AR e fun xs e1 e=> ?_;refine AR e fun ys e2 e=> ?_;obtain⟨z,rfl⟩:=FK e;obtain⟨x,vs,k,rfl,h1,h2,h3⟩:=I.FI O hu e1;obtain⟨y,ws,k',rfl,h4,h5,h6⟩:=I.FI O hv e2;refine kmk_add_lit I.fr I.nw (EI h1) (EI h4) rfl (fun D h' F' N' lt=> ?_) (Bq (by simpa [<-h2.length,<-h5.length]using z));obtain⟨V,q1,q2,q3⟩:=I.Ir F' N' lt (xs:=xs++ys) (by simpa using h2.append h5) (by simpa using z);exact h V _ _ q1 q2 q3
theorem eL(O:AN G f)(I:Inv G f W l hp M ow m s){y:Int}{t':Tok}(hu:AG G.B W a u)(e:Ni hp a y=some c)(h:MI G f l hp M ow m W c Q):wpAny (mo G) A (binaryOp .Mult u (.int y t')) Q E s:=by
 unfold Ni at e;by_cases qy:y.natAbs<=lim
 . rw [if_pos qy]at e;rcases FH e with e |e
   . refine AR e fun x h1 e=> ?_;rw [CG h1]at hu;by_cases q:x.natAbs<=lim
     . rw [if_pos q]at e;cases e;obtain⟨t,rfl⟩:=hu;exact PyProof.Rows.mul_int (h W _ _ W.le_rfl (I.tok _) ⟨_,rfl⟩) (IntMulOk.of_left (eI q))
     . rw [if_neg q]at e;cases e
   rcases FH e with e |e
   . refine AR e fun x h1 e=> ?_;rw [Cn h1]at hu;obtain⟨z,rfl⟩:=FK e;obtain⟨⟨t,rfl⟩,h1⟩:=hu;exact PySem.SB.mul (eH qy z) fun t' k=> h W _ _ W.le_rfl (I.tok _) ⟨⟨_,by rw [eG]⟩,h1.rep _ z⟩
   . refine AR e fun xs e1 e=> ?_;by_cases q:xs.length * y.toNat<=256
     . rw [if_pos q]at e;cases e;obtain⟨x,vs,k,rfl,h1,h2,h3⟩:=I.FI O hu e1;have AAo:lim=1000000:=rfl;refine KMa.mul I.fr I.nw (EI h1) (by lia) (by lia) (by rw [<-h2.length];exact q) (Tz _ _) fun D h' F' N' lt=> ?_;obtain⟨V,q1,q2,q3⟩:=I.Ir F' N' lt (h2.rep _) (by rw [T3];exact C8);exact h V _ _ q1 q2 q3
     . rw [if_neg q]at e;cases e
 . rw [if_neg qy]at e;cases e
theorem eM(O:AN G f)(I:Inv G f W l hp M ow m s){op:BOp}(hu:AG G.B W a u)(hv:AG G.B W b v)(e:binOp hp op a b=some c)(h:MI G f l hp M ow m W c Q):wpAny (mo G) A (binaryOp (Fv op) u v) Q E s:=by
 cases op
 . exact eK O I hu hv e h
 . obtain⟨x,y,rfl,rfl,rfl⟩:=T9 e;obtain⟨t,rfl⟩:=hu;obtain⟨t',rfl⟩:=hv;exact PyProof.Rows.sub_int' (h W _ _ W.le_rfl (I.tok _) ⟨_,rfl⟩)
 . refine AR e fun y h1 e=> ?_;rw [CG h1]at hv;obtain⟨t',rfl⟩:=hv;exact eL O I hu e h
 . refine AR e fun x h1 e=> ?_;refine AR e fun y h2 e=> ?_;rw [CG h1]at hu;rw [CG h2]at hv;obtain⟨t,rfl⟩:=hu;obtain⟨t',rfl⟩:=hv;by_cases q:y=0∨y.natAbs>lim
   . rw [if_pos q]at e;cases e
   . rw [if_neg q]at e;cases e;exact PyProof.Rows.floordiv_int (fun z=> q (.inl z)) (h W _ _ W.le_rfl (I.tok _) ⟨_,rfl⟩) (.inl (T8 (Nat.le_of_not_lt fun z=> q (.inr z))))
 . refine AR e fun x h1 e=> ?_;refine AR e fun y h2 e=> ?_;rw [CG h1]at hu;rw [CG h2]at hv;obtain⟨t,rfl⟩:=hu;obtain⟨t',rfl⟩:=hv;by_cases q:y=0
   . rw [if_pos q]at e;cases e
   . rw [if_neg q]at e;cases e;exact PyProof.Rows.mod_int' q (h W _ _ W.le_rfl (I.tok _) ⟨_,rfl⟩)
end
end
section
variable{G:Gx}{f:Fx}{A:v7}{X:XP}{P:Prog}
theorem eN(O:AN G f){l r:Expr}{pos env}{el er:St->Out AV}{op:BOp}(hl:AP G f A X (eval l env) el)(hr:AP G f A X (eval r env) er):
 AP G f A X (eval (.BinOp l (Fv op) r pos) env) fun s=> (el s).bind fun a s=> (er s).bind fun b s=> AO (binOp s.hp op a b) fun v=>.ok v s:=fun W lo hp M ow m s Z eR I ne=> by
 refine wpAny_BinOp (Am eR W.le_rfl (fun h=> hl W lo hp M ow m s _ rfl I h) ne fun a σ V L ow m v s' eR h1 h2 I hv ne=> ?_);refine Am eR h1 (fun h=> hr V _ _ L ow m s' _ rfl I h) ne fun b σ' V' L ow m v' s' eR h1 h2 I hv' ne=> ?_;obtain⟨c,h3,eR⟩:=Az eR ne;exact eM O I (hv.mono h2) hv' h3 fun U r s' q1 q2 q3=> (q2.V eR (h1.trans q1) q3)
theorem eO{t:Sem R5}{pos:Pos}{ev:St->Out AV}(h:AP G f A X t ev):AP G f A X (boolOp pos .And [t]) ev:=h
theorem eP{t:Sem R5}{pos:Pos}{ev:St->Out AV}(h:AP G f A X t ev):AP G f A X (boolOp pos .Or [t]) ev:=h
set_option backward.match.sparseCases true in
theorem eQ(O:AN G f){t t':Sem R5}{ts:List (Sem R5)}{pos:Pos}{ev er:St->Out AV}(h:AP G f A X t ev)(hr:AP G f A X (boolOp pos .And (t'::ts)) er):
 AP G f A X (boolOp pos .And (t::t'::ts)) fun s=> (ev s).bind fun v s=> AO (truthy s.hp v) fun b=> if b=true then er s else .ok v s:=fun W l hp M ow m s Z eR I ne=> by
 show wpAny _ _ (do let v<-t;standAt pos;let b<-holding [v] (yA v);match BoolOp.And,b with | .And,false | .Or,true=> pure v |_,_=> boolOp pos .And (t'::ts)) _ _ _;refine v5 (Am eR W.le_rfl (fun q=> h W l hp M ow m s _ rfl I q) ne fun a σ V L ow m v s' eR h1 h2 I hv ne=> ?_);obtain⟨c,h3,eR⟩:=Az eR ne;refine v5 (wa (v5 (wJ (MD O I hv h3 fun s' I=> ?_))));cases c with
 |true=> exact Io h1 (hr V _ _ _ _ _ _ _ eR I ne)
 |false=> exact v8 (I.V eR h1 hv)
set_option backward.match.sparseCases true in
theorem eS(O:AN G f){t t':Sem R5}{ts:List (Sem R5)}{pos:Pos}{ev er:St->Out AV}(h:AP G f A X t ev)(hr:AP G f A X (boolOp pos .Or (t'::ts)) er):
 AP G f A X (boolOp pos .Or (t::t'::ts)) fun s=> (ev s).bind fun v s=> AO (truthy s.hp v) fun b=> if b=true then .ok v s else er s:=fun W l hp M ow m s Z eR I ne=> by
 show wpAny _ _ (do let v<-t;standAt pos;let b<-holding [v] (yA v);match BoolOp.Or,b with | .And,false | .Or,true=> pure v |_,_=> boolOp pos .Or (t'::ts)) _ _ _;refine v5 (Am eR W.le_rfl (fun q=> h W l hp M ow m s _ rfl I q) ne fun a σ V L ow m v s' eR h1 h2 I hv ne=> ?_);obtain⟨c,h3,eR⟩:=Az eR ne;refine v5 (wa (v5 (wJ (MD O I hv h3 fun s' I=> ?_))));cases c with
 |true=> exact v8 (I.V eR h1 hv)
 |false=> exact Io h1 (hr V _ _ _ _ _ _ _ eR I ne)
theorem eT{env:Env}:Bl G f A X (allTrue .And [] env) fun s=>.ok true s:=fun W l hp M ow m s Z eR I ne=> wpAny_allTrue_And_nil (I.Bo eR W.le_rfl)
theorem eU{env:Env}:Bl G f A X (allTrue .Or [] env) fun s=>.ok false s:=fun W l hp M ow m s Z eR I ne=> wpAny_allTrue_Or_nil (I.Bo eR W.le_rfl)
theorem eV{e:Expr}{rest:List Expr}{env:Env}{ev er:St->Out Bool}(h:Bl G f A X (isTrue e env (eval e env)) ev)(hr:Bl G f A X (allTrue .And rest env) er):
 Bl G f A X (allTrue .And (e::rest) env) fun s=> (ev s).bind fun b s=> if b=true then er s else .ok false s:=fun W l hp M ow m s Z eR I ne=> by
 refine wpAny_allTrue_And_cons (Hg eR W.le_rfl (fun q=> h W l hp M ow m s _ rfl I q) ne fun c σ V L ow m s' eR h1 h2 I ne=> ?_);cases c with
 |true=> exact Ip h1 (hr V _ _ _ _ _ _ _ eR I ne)
 |false=> exact(I.Bo eR h1)
theorem eW{e:Expr}{rest:List Expr}{env:Env}{ev er:St->Out Bool}(h:Bl G f A X (isTrue e env (eval e env)) ev)(hr:Bl G f A X (allTrue .Or rest env) er):
 Bl G f A X (allTrue .Or (e::rest) env) fun s=> (ev s).bind fun b s=> if b=true then .ok true s else er s:=fun W l hp M ow m s Z eR I ne=> by
 refine zj (Hg eR W.le_rfl (fun q=> h W l hp M ow m s _ rfl I q) ne fun c σ V L ow m s' eR h1 h2 I ne=> ?_);cases c with
 |true=> exact(I.Bo eR h1)
 |false=> exact Ip h1 (hr V _ _ _ _ _ _ _ eR I ne)
theorem UA{op:BoolOp}{es:List Expr}{pos:Pos}{env:Env}{whole:Sem R5}{ev:St->Out Bool}(h:Bl G f A X (allTrue op es env) ev):Bl G f A X (isTrue (.BoolOp op es pos) env whole) ev:=
 fun W l hp M ow m s Z eR I ne=> wpAny_isTrue_BoolOp (h W l hp M ow m s Z eR I ne)
def eX:Bool->St->Out AV:=fun b s=>.ok (.bool b) s
def It(G:Gx)(f:Fx)(A:v7)(X:XP)(ops:List CmpOp)(ts:List (Sem R5))(ev:AV->St->Out Bool):Prop:=
 ∀(pos:Pos) a u W l hp M ow m s,Inv G f W l hp M ow m s->AG G.B W a u->
  (∀Z,ev a ⟨l,hp⟩=Z->Z≠ .bad->J6 G f A X W (testChain pos u ops ts) Z s)/\
  (∀Z,(ev a ⟨l,hp⟩).bind eX=Z->Z≠ .bad->Cz G f A X W (compareChain pos u ops ts) Z s)
theorem UB(O:AN G f)(HA:A.units+200<cLine){op:COp}{t:Sem R5}{ev:St->Out AV}(h:AP G f A X t ev):
 It G f A X [Gg op] [t] fun a s=> (ev s).bind fun b s=> AO (BK s.hp op a b) fun c=>.ok c s:=fun pos a u W l hp M ow m s I hu=> by
 refine⟨fun Z eR ne=> v5 (wJ (Am eR W.le_rfl (fun q=> h W l hp M ow m s _ rfl I q) ne fun b σ V L ow m v s' eR h1 h2 I hv ne=> ?_)),
  fun Z eR ne=> v5 (wJ (Am ((bind_assoc _ _ _).symm.trans eR) W.le_rfl (fun q=> h W l hp M ow m s _ rfl I q) ne fun b σ V L ow m v s' eR h1 h2 I hv ne=> ?_))⟩
 . obtain⟨c,h3,eR⟩:=Az eR ne;exact v5 (wa (v5 (wpAny_operate' (KC O HA I (hu.mono h2) hv h3 fun s' I=> wJ (yg (I.Bo eR h1))))))
 . obtain⟨c,h3,eR⟩:=Gr eR ne;exact v5 (wa (wpAny_operate' (KC O HA I (hu.mono h2) hv h3 fun s' I=> I.V eR h1 rfl)))
theorem eY(O:AN G f)(HA:A.units+200<cLine){op:COp}{op':CmpOp}{ops:List CmpOp}{t t':Sem R5}{ts:List (Sem R5)}{ev:St->Out AV}{er:AV->St->Out Bool}(h:AP G f A X t ev)(hr:It G f A X (op'::ops) (t'::ts) er):
 It G f A X (Gg op::op'::ops) (t::t'::ts) fun a s=> (ev s).bind fun b s=> AO (BK s.hp op a b) fun c=> if c=true then er b s else .ok false s:=fun pos a u W l hp M ow m s I hu=> by
 refine⟨fun Z eR ne=> v5 (wJ (Am eR W.le_rfl (fun q=> h W l hp M ow m s _ rfl I q) ne fun b σ V L ow m v s' eR h1 h2 I hv ne=> ?_)),
  fun Z eR ne=> v5 (wJ (Am ((bind_assoc _ _ _).symm.trans eR) W.le_rfl (fun q=> h W l hp M ow m s _ rfl I q) ne fun b σ V L ow m v s' eR h1 h2 I hv ne=> ?_))⟩
 . obtain⟨c,h3,eR⟩:=Az eR ne;refine v5 (wa (v5 (wJ (KC O HA I (hu.mono h2) hv h3 fun s' I=> v5 (x8 (v5 (wJ (yg ?_))))))));cases c with
   |true=> exact Ip h1 ((hr pos b v V _ _ _ _ _ _ I hv).1 _ eR ne)
   |false=> exact v8 (I.Bo eR h1)
 . obtain⟨c,h3,eR⟩:=Gr eR ne;refine v5 (wa (v5 (wJ (KC O HA I (hu.mono h2) hv h3 fun s' I=> v5 (x8 (v5 (wJ (yg ?_))))))));cases c with
   |true=> exact Io h1 ((hr pos b v V _ _ _ _ _ _ I hv).2 _ eR ne)
   |false=> exact v8 (I.V eR h1 rfl)
theorem eZ{le:Expr}{ops:List CmpOp}{es:List Expr}{pos:Pos}{env:Env}{el:St->Out AV}{er:AV->St->Out Bool}(hm:lastMarks ops es=false)(hl:AP G f A X (eval le env) el)(hr:It G f A X ops (evalEach es env) er):
 AP G f A X (eval (.Compare le ops es pos) env) fun s=> (el s).bind fun a s=> (er a s).bind fun b s=>.ok (.bool b) s:=fun W l hp M ow m s Z eR I ne=> by
 rw [arm_eval_Compare,zb _ _ _ hm];exact v5 (Am eR W.le_rfl (fun q=> hl W l hp M ow m s _ rfl I q) ne fun b σ V L ow m v s' eR h1 h2 I hv ne=> Io h1 ((hr pos b v V _ _ _ _ _ _ I hv).2 _ eR ne))
theorem cmp_T{le:Expr}{ops:List CmpOp}{es:List Expr}{pos:Pos}{env:Env}{whole:Sem R5}{el:St->Out AV}{er:AV->St->Out Bool}(hm:lastMarks ops es=false)(hl:AP G f A X (eval le env) el)(hr:It G f A X ops (evalEach es env) er):
 Bl G f A X (isTrue (.Compare le ops es pos) env whole) fun s=> (el s).bind fun a s=> er a s:=fun W l hp M ow m s Z eR I ne=> by
 rw [arm_isTrue_Compare,zb _ _ _ hm];exact v5 (Am eR W.le_rfl (fun q=> hl W l hp M ow m s _ rfl I q) ne fun b σ V L ow m v s' eR h1 h2 I hv ne=> Ip h1 ((hr pos b v V _ _ _ _ _ _ I hv).1 _ eR ne))
def EK(ts:List (Sem R5)):List (Bool×Sem R5):=ts.map fun t=> (false,t)
def CP(G:Gx)(f:Fx)(A:v7)(X:XP)(ts:List (Sem R5))(ev:St->Out (List AV)):Prop:=
 ∀W l hp M ow m s Z,ev ⟨l,hp⟩=Z->Inv G f W l hp M ow m s->Z≠ .bad->Oi G f A X W (spliced (EK ts)) Z s
theorem DJ(pos:Pos)(env:Env):∀es:List Expr,es.all noStar=true->backTo pos (starEach es env)=EK (evalEach es env)
 | []=>@fun _=> rfl
 |e::r=>@fun h=> by simp only [xW,yM]at h;have ih:=DJ pos env r h.2;cases e<;>first |exact congrArg _ ih |cases h.1
theorem UC:CP G f A X [] fun s=>.ok [] s:=fun W l hp M ow m s Z eR I ne=> spliced_nil (I.Vs eR W.le_rfl trivial)
theorem UD{t:Sem R5}{ts:List (Sem R5)}{ev:St->Out AV}{er:St->Out (List AV)}(h:AP G f A X t ev)(hr:CP G f A X ts er):
 CP G f A X (t::ts) fun s=> (ev s).bind fun v s=> (er s).bind fun vs s=>.ok (v::vs) s:=fun W l hp M ow m s Z eR I ne=>
 yT (Am eR W.le_rfl (fun q=> h W l hp M ow m s _ rfl I q) ne fun a σ V L ow m v s' eR h1 h2 I hv ne=>
  Ed eR h1 (fun q=> hr V _ _ _ _ _ _ _ rfl I q) ne fun as σ' V' L ow m vs s' eR h1 h2 I hvs ne=> I.Vs eR h1 ⟨hv.mono h2,hvs⟩)
theorem UE{es:List Expr}{k:Nat}{pos:Pos}{env:Env}{ev:St->Out (List AV)}(hs:es.all noStar=true)(hz:∀s vs s',ev s= .ok vs s'->vs.length<=lim)(h:CP G f A X (evalEach es env) ev):
 AP G f A X (eval (.Tuple es k pos) env) fun s=> (ev s).bind fun vs s=>.ok (.tup vs) s:=fun W l hp M ow m s Z eR I ne=> by
 rw [arm_eval_Tuple,DJ _ _ _ hs];refine v5 (wa (v5 (Ol eR W.le_rfl (fun q=> h W l hp M ow m s _ rfl I q) ne fun as σ V L ow m vs s' e0 eR h1 h2 I hv=> ?_)));have hz':=hz _ _ _ e0;refine kup_newTuple I.fr I.nw (fun D h' F' N' lt=> ?_) (Bq (hv.length▸hz'));obtain⟨V',q1,q2,q3⟩:=I.T7 F' N' lt hv hz';exact q2.V eR (h1.trans q1) q3
theorem Inv.UG{W:Wd}{l:List (N×AV)}{hp:Hp}{M:Led}{ow:Addr->Nat}{m:vz->Option R5}{s:vy}(I:Inv G f W l hp M ow m s){h':Heap}{D:Addr}{vs:List R5}{xs:List AV}{k tk:Nat}(F':Fr f.g f.L h' m)(N':News f.g f.L h' ((D,listOf vs.toArray k)::(M++W.fz)))(lt:∀p∈M++W.fz,p.1<D)
 (R:AQ G.B W xs vs) (z:xs.length<=lim):∃V M' ow',W.le V/\Inv G f V l (hp.add (.lst xs)) M' ow' m ⟨h',s.gens,s.drawn,tk,s.os⟩/\AG G.B V (.ref hp.n) (.ref D):=by
 have g:=hp.LQ (.lst xs);have e1:(W.add hp.n D).r hp.n=D:=if_pos rfl;have le:=Wd.Gn D (I.hi.nl g);refine⟨W.add hp.n D,_,_,le,I.fresh F' N' lt g ⟨vs,k,?_,?_,R.mono le,z⟩,?_,.inr rfl⟩
 . rw [e1];exact .head _
 . rw [e1];exact if_pos (.head _)
 . exact congrArg xw e1.symm
theorem UH{es:List Expr}{pos:Pos}{env:Env}{AAq:Bool}{ev:St->Out (List AV)}(hs:es.all noStar=true)(hz:∀s vs s',ev s= .ok vs s'->vs.length<=lim)(h:CP G f A X (evalEach es env) ev):
 AP G f A X (eval (.List es pos) env) fun s=> (ev s).bind fun vs s=> if AAq=true then .ok (.ref s.hp.n) ⟨s.loc,s.hp.add (.lst vs)⟩else .ok (.Ah vs) s:=fun W l hp M ow m s Z eR I ne=> by
 rw [arm_eval_List,DJ _ _ _ hs];refine v5 (wa (v5 (Ol eR W.le_rfl (fun q=> h W l hp M ow m s _ rfl I q) ne fun as σ V L ow m vs s' e0 eR h1 h2 I hv=> ?_)));have hz':=hz _ _ _ e0;refine newList_K I.fr I.nw (fun D h' F' N' lt=> ?_) (Bq (hv.length▸hz'));cases AAq with
 |false=> obtain⟨V',q1,q2,q3⟩:=I.Ir F' N' lt hv hz';exact q2.V eR (h1.trans q1) q3
 |true=> obtain⟨V',M',ow',q1,q2,q3⟩:=I.UG F' N' lt hv hz';exact q2.V eR (h1.trans q1) q3
end
section
variable{G:Gx}{f:Fx}{A:v7}{X:XP}{P:Prog}
theorem UI{n:Nat}{k:Int}{j:Nat}(h:Du n k=some j):seqIndex? k n=some j/\j<n:=by
 unfold Du at h;unfold seqIndex?;split at h
 . split at h
   . cases h;have:¬k<0:=by exact Nb
     simp only [this,if_false];refine⟨if_pos ?_,by lia⟩;simp;lia
   . cases h
 . split at h
   . cases h;have:k<0:=by lia
     simp only [this,if_true];refine⟨if_pos ?_,by lia⟩;simp;lia
   . cases h
theorem O1{n:Nat}{k:Int}{j:Nat}(h:Du n k=some j): -(n:Int)<=k/\k<n:=by
 unfold Du at h;split at h
 . split at h
   . constructor<;>lia
   . cases h
 . split at h
   . constructor<;>lia
   . cases h
def O2(u:R5)(s:vy):Prop:=∃T id,s.TypeIs u T/\typeLookup (.type T) "__getitem__"=pure (some (.builtin id))
section
variable{W:Wd}{l:List (N×AV)}{hp:Hp}{M:Led}{ow:Addr->Nat}{m:vz->Option R5}{s:vy}
theorem list_item{a:Addr}{vs:List R5}{k:Int}{t:Tok}{j:Nat}{x:R5}{prog:wR}{w:wU}{Q:R5->vy->Prop}{E:R5->vy->Prop}(hl:s.heap.IsList a vs.toArray)(e:Du vs.length k=some j)(z:vs.length<=lim)(hx:vs[j]? =some x)(h:Q x s):
 wpAny (model prog w) A (getItem (.ref a) (.int k t)) Q E s:=by
 have AAo:lim=1000000:=rfl;have hb:=O1 e;unfold Du at e;split at e
 . split at e
   . cases e;exact wpAny_getItem_list hl (by assumption) (by lia) (by simpa using hx) h
   . cases e
 . split at e
   . cases e;exact wpAny_getItem_list_neg hl (by lia) (by simp;lia) (by lia) (by simpa using hx) h
   . cases e
variable{a b c:AV}{u v:R5}{Q:R5->vy->Prop}{E:R5->vy->Prop}
abbrev Got(G:Gx)(A:v7)(u v:R5)(Q:R5->vy->Prop)(E:R5->vy->Prop)(s:vy):Prop:=O2 u s/\wpAny (mo G) A (getItem u v) Q E s
theorem UJ{xs:List AV}(e:IL xs b=some c):∃k j,b= .int k/\Du xs.length k=some j/\xs[j]? =some c:=by refine AR e fun k h1 e=> ?_;refine AR e fun j h2 e=> ?_;exact⟨k,j,CG h1,h2,e⟩
theorem UK(O:AN G f)(I:Inv G f W l hp M ow m s)(hu:AG G.B W a u)(hv:AG G.B W b v){xs:List AV}(e1:Dv hp a=some xs)(e:IL xs b=some c)(h:∀r s',Inv G f W l hp M ow m s'->AG G.B W c r->Q r s'):Got G A u v Q E s:=by refine cps fun P1_ k1_=> ?_;obtain⟨k,j,rfl,h4,h5⟩:=UJ e;obtain⟨t,rfl⟩:=hv;obtain⟨x,vs,n,rfl,h1,h2,h3⟩:=I.FI O hu e1;obtain⟨y,h6,h7⟩:=h2.get h5;refine k1_ ?_;exact⟨⟨_,_,⟨_,h1,rfl⟩,AAP.lookup⟩,list_item (EI h1) (h2.length▸h4) (h2.length▸h3) h6 (h _ _ I h7)⟩
theorem De(I:Inv G f W l hp M ow m s){x:List Nat}{k:Int}{j ch:Nat}(hu:AG G.B W (.str x) u)(hv:AG G.B W (.int k) v)(hj:Du x.length k=some j)(h1:x[j]? =some ch)(h:∀r s',Inv G f W l hp M ow m s'->AG G.B W (.str [ch]) r->Q r s'):Got G A u v Q E s:=by
 have AAo:lim=1000000:=rfl;obtain⟨⟨t,rfl⟩,hs⟩:=hu;obtain⟨t',rfl⟩:=hv;have hb:=O1 hj;have hz:=hs.1;have hc:Txt.charAt (AF x) k=some ch:=by unfold Txt.charAt;rw [Bx,(UI hj).1];show(AF x).cps[j]? =some ch;simpa [AF]using h1
 refine⟨⟨_,_,xj s _ t,AAE.lookup⟩,PySem.SB.getItem (by unfold fitsSsize;simp;lia) (by rw [hc];rfl) ?_⟩;refine h _ _ (I.tok _) ⟨⟨_,by unfold Txt.item;rw [hc];rfl⟩,by simp;exact K5,?_⟩;intro c hc';rw [xH.mp hc'];exact hs.2 _ (yJ h1)
theorem ec(O:AN G f)(I:Inv G f W l hp M ow m s){xs:List AV}(hu:AG G.B W (.tup xs) u)(hv:AG G.B W b v)(e:IL xs b=some c)(h:∀r s',Inv G f W l hp M ow m s'->AG G.B W c r->Q r s'):Got G A u v Q E s:=by refine cps fun P1_ k1_=> ?_;have AAo:lim=1000000:=rfl;obtain⟨k,j,rfl,h4,h5⟩:=UJ e;obtain⟨⟨x,vs,n,rfl,h1,h2⟩,h3⟩:=hu;obtain⟨t',rfl⟩:=hv;obtain⟨y,h6,h7⟩:=h2.get h5;refine k1_ ?_;have hb:=O1 h4;have T:=Eh (I.kn O h1);refine⟨⟨_,_,T.typeIs,PyProof.Rows.slot_tuple_getitem.lookup⟩,PyProof.Rows.getItem_tuple T (by lia) (by lia) ?_ (by simpa using h6) (h _ _ I h7)⟩;rw [w3,<-h2.length];exact(UI h4).1
theorem eg(I:Inv G f W l hp M ow m s){i:Nat}{es:List (AV×AV)}(hu:AG G.B W (.ref i) u)(hv:AG G.B W b v)(hf:hp.f i= .Ap es)(q:(keyOk b&&Cv b es)=true)(e:DW b es=some c)(h:∀r s',Inv G f W l hp M ow m s'->AG G.B W c r->Q r s'):Got G A u v Q E s:=by refine cps fun P1_ k1_=> ?_;obtain⟨rfl,hi⟩:=I.lt hu;obtain⟨o,h1,h2,h3,h4,h5⟩:=I.Gu hi hf;obtain⟨K,dec,knd,kvs,kk,D⟩:=keyed h4 q hv;obtain⟨y,h6,h7⟩:=D.get _ e;refine k1_ ?_;exact⟨⟨"dict",_,by obtain⟨es,ep,h,_⟩:=D.is;exact⟨o,I.mem h1,h.1⟩,PySem.F.slot_dict_getitem.lookup⟩,wpAny_getItem_of D.key (xe.mpr ⟨o,I.mem h1,D.is⟩).mapOf h6 (h _ _ (I.tok _) h7)⟩
set_option tactic.hygienic true in
theorem O3(O:AN G f)(I:Inv G f W l hp M ow m s)(hu:AG G.B W a u)(hv:AG G.B W b v)(e:Cr hp a b=some c)(h:∀r s',Inv G f W l hp M ow m s'->AG G.B W c r->Q r s'):Got G A u v Q E s:=by
 cases(a)<;>first |(cases(e);done) |skip
 . refine AR e fun k h1 e1=> ?_;refine AR e1 fun j h2 e2=> ?_;obtain⟨ch,h3,rfl⟩:=wK.mp e2;rw [CG h1]at hv;exact De I hu hv h2 h3 h
 . exact ec O I hu hv e h
 . exact UK O I hu hv rfl e h
 . rename_i i;change LA b (hp.f i)=some c at e;generalize hq:hp.f i=o at e;cases(o)<;>first |(cases(e);done) |skip
   . exact UK O I hu hv (congrArg CY hq) e h
   . rename_i es;by_cases q:(keyOk b&&Cv b es)=true
     . exact eg I hu hv hq q (by rw [<-e];exact(if_pos q).symm) h
     . rw [show LA b (.Ap es)=none from if_neg q]at e;cases(e)
end
theorem UL{i:Expr}{o k:R5}(h:HU i=true):subscripted i false o k=operate [o,k] (getItem o k):=by cases i<;>first |rfl |cases h
theorem ej(O:AN G f){e i:Expr}{pos:Pos}{env:Env}{ee ei:St->Out AV}(hn:HU i=true)(he:AP G f A X (eval e env) ee)(hi:AP G f A X (eval i env) ei):
 AP G f A X (eval (.Subscript e i pos) env) fun s=> (ee s).bind fun o s=> (ei s).bind fun k s=> AO (Cr s.hp o k) fun v=>.ok v s:=fun W l hp M ow m s Z eR I ne=> by
 refine ze (Am eR W.le_rfl (fun q=> he W l hp M ow m s _ rfl I q) ne fun o σ V L ow m u s' eR h1 h2 I hu ne=> ?_);refine Am eR h1 (fun h=> hi V _ _ L ow m s' _ rfl I h) ne fun k σ' V' L ow m v s' eR h1 h2 I hv ne=> ?_;refine cps fun P1_ k1_=> ?_;obtain⟨c,h3,eR⟩:=Az eR ne;obtain⟨⟨T,id,t1,t2⟩,g⟩:=O3 (A:=A) (E:=Aw X W Z) (Q:=Ec G f W Z) O I (hu.mono h2) hv h3 fun r s' I hr=> (I.V eR h1 hr);refine k1_ ?_;exact zk t1 t2 g (UL hn)
end
section
variable{G:Gx}{f:Fx}{A:v7}{X:XP}{P:Prog}
open PySem.Builtin.Str (strSliceIndices)
open PySem.StrLaws (sliceText sliceText_nat)
theorem O4(n:Nat)(i:Int):max (0:Int) (min (if i<0 then i+n else i) n)=(DV n i:Nat):=(y9 (Int.le_max_left _ _)).symm
theorem UM(n:Nat)(i:Int):DV n i<=n:=x9.mp (by rw [<-O4];exact Int.max_le.mpr ⟨xc n,Int.min_le_right _ _⟩)
def Hk(n:Nat)(l:Option Int):Nat:=(l.map (DV n)).getD 0
def Iu(n:Nat)(l:Option Int):Nat:=(l.map (DV n)).getD n
theorem UN(n:Nat)(l:Option Int):Hk n l<=n:=by cases l with |none=> exact wN _ |some i=> exact UM n i
theorem UO(n:Nat)(l:Option Int):Iu n l<=n:=by cases l with |none=> exact wW _ |some i=> exact UM n i
theorem MJ{a n:Nat}(h:a<=n):max (0:Int) (min (if(a:Int)<0 then(a:Int)+n else(a:Int)) n)=a:=by rw [if_neg (yW.mpr (xc a)),Int.min_eq_left (x9.mpr h),z0 (xc a)]
theorem eu(l u:Option Int)(n:Nat):strSliceIndices l u 1 n=strSliceIndices (some (Hk n l:Nat)) (some (Iu n u:Nat)) 1 n:=by
 have h1:=MJ (UN n l);have h2:=MJ (UO n u);have g:∀a b:Option Int,strSliceIndices a b 1 n=sliceRange (match a with |none=> 0 |some i=> max 0 (min (if i<0 then i+n else i) n)) (match b with |none=> (n:Int) |some i=> max 0 (min (if i<0 then i+n else i) n)) 1:=by intro a b;cases a<;>cases b<;>rfl
 rw [g,g];dsimp only;rw [h1,h2];congr 1
 . cases l with
   |none=> rfl
   |some i=> exact O4 n i
 . cases u with
   |none=> rfl
   |some i=> exact O4 n i
theorem ey{a b n:Nat}(ha:a<=n)(hb:b<=n)(h:b<=a):strSliceIndices (some (a:Int)) (some (b:Int)) 1 n=[]:=by
 have h1:=MJ ha;have h2:=MJ hb;show sliceRange (max 0 (min (if(a:Int)<0 then(a:Int)+n else(a:Int)) n)) (max 0 (min (if(b:Int)<0 then(b:Int)+n else(b:Int)) n)) 1=[];rw [h1,h2];unfold sliceRange;have:¬((a:Int)<b):=by lia
 simp [this]
theorem ez(s:List Nat)(l u:Option Int):sliceText (AF s) l u=AF (C9 s l u):=by
 have hs:(AF s).length=s.length:=Bx s;have e:sliceText (AF s) l u=sliceText (AF s) (some (Hk s.length l:Nat)) (some (Iu s.length u:Nat)):=by unfold sliceText;rw [hs,eu l u s.length]
 rw [e];have hl:=UN s.length l;have hu:=UO s.length u;show _=AF ((s.drop (Hk s.length l)).take (Iu s.length u - Hk s.length l));rcases Nat.le_total (Hk s.length l) (Iu s.length u)with h |h
 . rw [sliceText_nat _ h (by rw [hs];exact hu)];simp [AF]
 . have z:Iu s.length u - Hk s.length l=0:=by lia
   rw [z,List.take_zero];unfold sliceText;rw [hs,ey hl hu h];split
   . rename_i q;cases s with
     |nil=> rfl
     |cons a r=> simp at q
   . rfl
theorem UP{α:Type}(s:List α)(l u:Option Int):(C9 s l u).length<=s.length:=
 wC (List.length_take_le' ..) (wC (w5 xn) (Nat.sub_le ..))
theorem fA{α:Type}{s:List α}{l u:Option Int}{c:α}(h:c∈C9 s l u):c∈s:=List.mem_of_mem_drop (List.mem_of_mem_take h)
theorem A3.slice{s:List Nat}(h:A3 s)(l u:Option Int):A3 (C9 s l u):=⟨wC (UP s l u) h.1,fun c hc=> h.2 c (fA hc)⟩
theorem AQ.slice{B:Heap}{W:Wd}{xs:List AV}{vs:List R5}(h:AQ B W xs vs)(l u:Option Int):AQ B W (C9 xs l u) (C9 vs l u):=by unfold C9;rw [h.length];exact(h.drop _).take _
theorem UQ(n:Nat)(i:Int):DV n i=clipAt n i:=rfl
theorem fB(vs:List R5)(l u:Option Int):slicePick vs.toArray l u none=(C9 vs l u).toArray:=by
 rw [slicePick_plain];unfold C9;have g:∀i,clipAt vs.toArray.size i=DV vs.length i:=fun i=> by rw [UQ];simp
 cases l<;>cases u<;>simp [Option.elim,g,UQ]
theorem part_of{B:Heap}{W:Wd}{a:AV}{v:R5}{o:Option Int}(h:AG B W a v)(e:Nm a=some o):∃p:Option (Int×Tok),v=partValue p/\p.map (·.1)=o/\IsPart v o:=by
 cases a<;>first |(cases e;done) |skip
 . cases e;cases h;exact⟨none,rfl,rfl,.none⟩
 . cases e;obtain⟨t,rfl⟩:=h;exact⟨some (_,t),rfl,rfl,.int _ t⟩
section
variable{W:Wd}{l:List (N×AV)}{hp:Hp}{M:Led}{ow:Addr->Nat}{m:vz->Option R5}{s:vy}
def Iv(a b:R5):Obj:={cls:=.type "slice",data:=.fields #[a,b,.none]}
set_option tactic.hygienic true in
theorem fC(O:AN G f)(I:Inv G f W l hp M ow m s){a lo hi c:AV}{u vl vh:R5}(hu:AG G.B W a u)(hl:AG G.B W lo vl)(hh:AG G.B W hi vh)(e:E4 hp a lo hi=some c){Q:R5->vy->Prop}{E:R5->vy->Prop}
 (h:∀r s',II c=none->Inv G f W l hp M ow m s'->AG G.B W c r->Q r s')
 (hL:∀D h' vs tk xs,c= .Ah xs->Fr f.g f.L h' m->News f.g f.L h' ((D,listOf (List.toArray vs) 0)::(M++W.fz))->(∀p∈M++W.fz,p.1<D)->AQ G.B W xs vs->xs.length<=lim->Q (.ref D) ⟨h',s.gens,s.drawn,tk,s.os⟩):
 O2 u {s with heap:=s.heap.push (Iv vl vh)}/\wpAny (mo G) A (getItem u (.ref s.heap.objs.size)) Q E {s with heap:=s.heap.push (Iv vl vh)}:=by
 have F1:Fr f.g f.L (s.heap.push (Iv vl vh)) m:=I.fr.push _;have N1:=News.push I.fr I.nw (Iv vl vh);have hS:=(N1 _ (.head _)).1;have I1:Inv G f W l hp M ow m {s with heap:=s.heap.push (Iv vl vh)}:=⟨F1,News.sub N1 fun p hp=>.tail _ hp,I.hi,I.lr,I.gn,I.os⟩;clear I N1;generalize hs1:({s with heap:=s.heap.push (Iv vl vh)}:vy)=s1 at I1⊢;refine cps fun P1_ k1_=> ?_;refine AR e fun ol h1 e'=> ?_;clear e;refine AR e' fun oh h2 e=> ?_;clear e';obtain⟨pl,rfl,e1,i1⟩:=part_of hl h1;obtain⟨ph,rfl,e2,i2⟩:=part_of hh h2;refine k1_ ?_;have lst:∀{xs:List AV},Dv hp a=some xs->c= .Ah (C9 xs ol oh)->O2 u s1/\wpAny (mo G) A (getItem u (.ref s.heap.objs.size)) Q E s1:=fun{xs} e3 e4=> by refine cps fun P2_ k2_=> ?_;subst e4;subst hs1;obtain⟨x,vs,n,rfl,g1,g2,g3⟩:=I1.FI O hu e3;refine k2_ ?_;refine⟨⟨_,_,⟨_,g1,rfl⟩,AAP.lookup⟩,?_⟩;refine wpAny_getItem_list_slice (vs:=.none) (st:=none) (EI g1) ⟨_,hS,rfl,rfl⟩ i1 i2 .none (by intro h;cases h) ?_ (by simpa using Bq (g2.length▸g3));rw [fB];exact hL _ _ _ _ _ rfl (F1.push _) (News.push F1 I1.nw (listOf (C9 vs ol oh).toArray 0)) (fun p hp=> wk (I1.nw p hp).1) (g2.slice ol oh) (wC (UP xs ol oh) g3)
 cases a<;>first |(cases e;done) |skip
 . rename_i x;cases e;refine cps fun P3_ k3_=> ?_;clear lst hL;obtain⟨⟨t,rfl⟩,hs⟩:=hu;refine k3_ ?_;refine⟨⟨_,_,xj _ _ t,AAE.lookup⟩,?_⟩;refine wpAny_getItem_str_slice (l:=pl) (u:=ph) (st:=none) ⟨_,by rw [<-hs1];exact hS,rfl,rfl⟩ rfl ?_;have key:=ez x ol oh;unfold sliceText at key;unfold sliceMade slicePicked;rw [e1,e2];show(if((1:Int)==1&&(strSliceIndices ol oh 1 (AF x).length).length==(AF x).length)=true then Made.val (.str (AF x) t)else Made.str ⟨((strSliceIndices ol oh 1 (AF x).length).filterMap ((AF x).cps[·]?)).toArray⟩).post Q s1;by_cases q:((1:Int)==1&&(strSliceIndices ol oh 1 (AF x).length).length==(AF x).length)=true
   . rw [if_pos q]at key⊢;exact h _ _ rfl I1 ⟨⟨t,by rw [key]⟩,hs.slice _ _⟩
   . rw [if_neg q]at key⊢;rw [key];exact⟨Bq (by show(AF (C9 x ol oh)).cps.size<=lim;have:=(hs.slice ol oh).1;simpa [AF]using this),h _ _ rfl (I1.tok _) ⟨⟨_,rfl⟩,hs.slice _ _⟩⟩
 . cases e;exact lst rfl rfl
 . refine cps fun P4_ k4_=> ?_;obtain⟨xs,h3,rfl⟩:=wK.mp e;refine k4_ ?_;exact lst h3 rfl
end
def KG(G:Gx)(f:Fx)(A:v7)(X:XP)(o:Option Expr)(ev:St->Out AV):Prop:=
 ∀W l hp M ow m s Z,ev ⟨l,hp⟩=Z->Inv G f W l hp M ow m s->Z≠ .bad->Cz G f A X W (evalPart o f.env) Z s
theorem fD:KG G f A X none fun s=>.ok .none s:=fun W l hp M ow m s Z eR I ne=> wpAny_evalPart_none (I.V eR W.le_rfl rfl)
theorem fE{e:Expr}{ev:St->Out AV}(h:AP G f A X (eval e f.env) ev):KG G f A X (some e) ev:=fun W l hp M ow m s Z eR I ne=> wpAny_evalPart_some (h W l hp M ow m s Z eR I ne)
theorem fF{W U:Wd}{l:List (N×AV)}{hp:Hp}{M:Led}{ow:Addr->Nat}{m:vz->Option R5}{s:vy}(I:Inv G f W l hp M ow m s){AAq:Bool}{xs:List AV}{vs:List R5}{D:Addr}{h':Heap}{tk:Nat}{Z:Out AV}(eR:freshen AAq (.Ah xs) ⟨l,hp⟩=Z)(hU:U.le W)(F':Fr f.g f.L h' m)
 (N':News f.g f.L h' ((D,listOf (List.toArray vs) 0)::(M++W.fz))) (lt:∀p∈M++W.fz,p.1<D) (R:AQ G.B W xs vs) (z:xs.length<=lim):Ec G f U Z (.ref D) ⟨h',s.gens,s.drawn,tk,s.os⟩:=by
 cases AAq with
 |false=> obtain⟨V,q1,q2,q3⟩:=I.Ir F' N' lt R z;exact q2.V eR (hU.trans q1) q3
 |true=> obtain⟨V,M',ow',q1,q2,q3⟩:=I.UG F' N' lt R z;exact q2.V eR (hU.trans q1) q3
theorem fG{AAq:Bool}{c:AV}{s:St}(h:II c=none):freshen AAq c s= .ok c s:=by
 cases AAq with
 |false=> rfl
 |true=> unfold freshen;rw [h]
theorem fH(O:AN G f){e:Expr}{lo hi:Option Expr}{p pos:Pos}{AAq:Bool}{ee el eh:St->Out AV}(he:AP G f A X (eval e f.env) ee)(hl:KG G f A X lo el)(hh:KG G f A X hi eh):
 AP G f A X (eval (.Subscript e (.Slice lo hi none p) pos) f.env) fun s=> (ee s).bind fun o s=> (el s).bind fun a s=> (eh s).bind fun b s=> AO (E4 s.hp o a b) fun v=> freshen AAq v s:=fun W l hp M ow m s Z eR I ne=> by
 refine ze (Am eR W.le_rfl (fun q=> he W l hp M ow m s _ rfl I q) ne fun o σ V L ow m u s' eR h1 h2 I hu ne=> wpAny_Slice ?_);refine Am eR h1 (fun h=> hl V _ _ L ow m s' _ rfl I h) ne fun a σ' V' L ow m vl s' eR h1 h2' I hvl ne=> ?_;refine Am eR h1 (fun h=> hh V' _ _ L ow m s' _ rfl I h) ne fun b σ'' V'' L ow m vh s' eR h1 ABL I hvh ne=> wpAny_evalPart_none ?_;refine cps fun P1_ k1_=> ?_;obtain⟨c,h3,eR⟩:=Az eR ne;obtain⟨⟨T,id,t1,t2⟩,g⟩:=fC (A:=A) (E:=Aw X W Z) (Q:=Ec G f W Z) O I (hu.mono (h2'.trans ABL)) (hvl.mono ABL) hvh h3 (fun r s' hc I hr=> I.V ((fG hc).symm.trans eR) h1 hr)
  fun D h' vs tk xs hc F' N' lt R z=> fF I (by rw [hc]at eR;exact eR) h1 F' N' lt R z
 refine k1_ ?_;exact zk t1 t2 g rfl
end
section
variable{G:Gx}{f:Fx}{A:v7}{X:XP}{P:Prog}
section
variable{W:Wd}{l:List (N×AV)}{hp:Hp}{M:Led}{ow:Addr->Nat}{m:vz->Option R5}{s:vy}
theorem O5(k v:AV):∀es:List (AV×AV),(Gb k v es).length<=es.length+1
 | []=> wW _
 |(k',w)::r=> by have:=O5 k v r;rw [Ro];split<;>simp only [xd]<;>lia
theorem UR(k:AV):∀es:List (AV×AV),(HR k es).length<=es.length
 | []=> wW _
 |(k',w)::r=> by have:=UR k r;rw [Rp];split<;>simp only [xd]<;>lia
theorem fI{prog:wR}{w:wU}{K:Type} [DecidableEq K]{knd:xr prog w K}{h₀:Heap}{L d:Addr}{m:vz->Option R5}{news:Led}{g:Obj->Led}{o:Obj}{kvs:List (K×R5)}{k:K}{key:R5}{Q:Unit->vy->Prop}{E:R5->vy->Prop}{s:vy}
 (F:Fr h₀ L s.heap m) (N:News h₀ L s.heap news) (U:UpdF d o news g) (hd:o.IsDictOf knd kvs) (AB1:knd.is k key=true) (hsz:kvs.length<=sizeLine) (hl:(valueAt kvs k).isSome=true)
 (h:∀h' o',Fr h₀ L h' m->News h₀ L h' (g o')->o'.IsDictOf knd (without kvs k)->Q () {s with heap:=h',toks:=s.toks+1}):wpAny (model prog w) A (delItem (.ref d) key) Q E s:=by
 refine cps fun P1_ k1_=> ?_;obtain⟨pre,post,rfl,hg,a,b⟩:=U.split;refine k1_ ?_;have hm:=N (d,o) (wH _ (.head _));have hD:s.heap.DictOf knd d kvs:=xe.mpr ⟨o,hm.1,hd⟩;unfold delItem
 try with_reducible refine wJ ?_
 refine v5 (wpAny_sequenceKey hD.typeIs (by decide) ?_);refine v5 (AAT (name:=PySem.Str.ofString "__delitem__") hD.typeIs AAQ
  (call_meetsIn AAQ hD.typeIs PySem.F.entry_dict_delitem (PySem.F.args_dict_delitem_2 _ _) (meets_dict_delitem_pairs knd d AB1) ⟨kvs,hD,hsz,hl,fun h' hmm hs=> ?_⟩))
 refine cps fun P2_ k2_=> ?_;obtain⟨o',ho',hd'⟩:=xe.mp hmm;refine k2_ ?_;exact v8 (h h' o' (F.change hs hm.2.1 hm.2.2) (hg o'▸N.setIn a b hs ho') hd')
theorem Inv.O6(I:Inv G f W l hp M ow m s){i:Nat}(hi:hp.lv i){es:List (AV×AV)}{o':Obj}{h':Heap}{tk:Nat}(hw:ow (W.r i)=i)(lo:(W.r i==sysModules)=false)(F':Fr f.g f.L h' m)(N':News f.g f.L h' (Bk (W.r i) o' M++W.fz))
 (hm:∃o,(W.r i,o)∈M) (R:Eb G.prog G.w G.B W es o') (z:es.length<=lim):Inv G f W l (hp.set i (.Ap es)) (Bk (W.r i) o' M) ow m ⟨h',s.gens,s.drawn,tk,s.os⟩:=
 ⟨F',N',I.hi.turn hi hw ⟨o',Og hm.choose_spec,hw,lo,R,z⟩,I.lr,I.gn,I.os⟩
theorem fJ{prog:wR}{w:wU}{K:Type} [DecidableEq K]{knd:xr prog w K}{h₀:Heap}{L d:Addr}{m:vz->Option R5}{news:Led}{g:Obj->Led}{o:Obj}{kvs:List (K×R5)}{k:K}{key v:R5}{Q:Unit->vy->Prop}{E:R5->vy->Prop}{s:vy}
 (F:Fr h₀ L s.heap m) (N:News h₀ L s.heap news) (U:UpdF d o news g) (hd:o.IsDictOf knd kvs) (AB1:knd.is k key=true) (hsz:kvs.length<=sizeLine)
 (h:∀h' o',Fr h₀ L h' m->News h₀ L h' (g o')->o'.IsDictOf knd (stored kvs k v)->Q () {s with heap:=h',toks:=s.toks+1}):wpAny (model prog w) A (dictSet d key v) Q E s:=by
 refine cps fun P1_ k1_=> ?_;obtain⟨pre,post,rfl,hg,a,b⟩:=U.split;refine k1_ ?_;have hm:=N (d,o) (wH _ (.head _));refine wpAny_dictSet_pairs (hsz:=hsz) AB1 (xe.mpr ⟨o,hm.1,hd⟩) fun h' hmm hs=> ?_;refine cps fun P2_ k2_=> ?_;obtain⟨o',ho',hd'⟩:=xe.mp hmm;refine k2_ ?_;exact h h' o' (F.change hs hm.2.1 hm.2.2) (hg o'▸N.setIn a b hs ho') hd'
theorem US{i:Nat}{k a:AV}{hp':Hp}(e:putD hp i k a=some hp'):∃es,hp.f i= .Ap es/\(keyOk k&&Cv k es)=true/\es.length+1<=lim/\hp'=hp.set i (.Ap (Gb k a es)):=by
 refine AR e fun es h1 e=> ?_;by_cases q:(keyOk k&&Cv k es)=true
 . rw [if_pos q]at e;obtain⟨z,rfl⟩:=FK e;exact⟨es,MB h1,q,z,rfl⟩
 . rw [if_neg q]at e;cases e
theorem UT(O:AN G f)(I:Inv G f W l hp M ow m s){o k a:AV}{u v x:R5}{hp':Hp}(hu:AG G.B W o u)(hk:AG G.B W k v)(ha:AG G.B W a x)(e:HT hp o k a=some hp')
 {Q:Unit->vy->Prop} {E:R5->vy->Prop} (h:∀M' s',Inv G f W l hp' M' ow m s'->Q () s'):wpAny (mo G) A (setItem u v x) Q E s:=by
 refine cps fun P1_ k1_=> ?_;obtain⟨i,h0,e⟩:=yv.mp e;rw [Hi h0]at hu;obtain⟨rfl,hi⟩:=I.lt hu;obtain⟨es,hf,q,z,rfl⟩:=US e;obtain⟨o,h1,h2,h3,h4,h5⟩:=I.Gu hi hf;obtain⟨K,dec,knd,kvs,kk,D⟩:=keyed h4 q hk;refine k1_ ?_;exact kda_set I.fr I.nw (L6 (o:=o) h1 I.hi.nd fun p hp' z=> I.hi.dj p hp' _ h1 z) D.is D.key (Bq (D.len▸h5)) fun h' o' F' N' hd'=> h _ _ (I.O6 hi h2 h3 F' N' ⟨_,h1⟩ (D.put _ _ ha _ hd') (wC (O5 k a es) z))
theorem fK(O:AN G f)(I:Inv G f W l hp M ow m s){i:Nat}{k a:AV}{v x:R5}{hp':Hp}(hi:hp.lv i)(hk:AG G.B W k v)(ha:AG G.B W a x)(e:putD hp i k a=some hp')
 {Q:Unit->vy->Prop} {E:R5->vy->Prop} (h:∀M' s',Inv G f W l hp' M' ow m s'->hp'.lv=hp.lv->Q () s'):wpAny (mo G) A (dictSet (W.r i) v x) Q E s:=by
 refine cps fun P1_ k1_=> ?_;obtain⟨es,hf,q,z,rfl⟩:=US e;obtain⟨o,h1,h2,h3,h4,h5⟩:=I.Gu hi hf;obtain⟨K,dec,knd,kvs,kk,D⟩:=keyed h4 q hk;refine k1_ ?_;exact fJ I.fr I.nw (L6 (o:=o) h1 I.hi.nd fun p hp' z=> I.hi.dj p hp' _ h1 z) D.is D.key (Bq (D.len▸h5)) fun h' o' F' N' hd'=> h _ _ (I.O6 hi h2 h3 F' N' ⟨_,h1⟩ (D.put _ _ ha _ hd') (wC (O5 k a es) z)) (Hp.Jk _ _ _)
theorem fL(O:AN G f)(I:Inv G f W l hp M ow m s){o k:AV}{u v:R5}{hp':Hp}(hu:AG G.B W o u)(hk:AG G.B W k v)(e:LB hp o k=some hp')
 {Q:Unit->vy->Prop} {E:R5->vy->Prop} (h:∀M' s',Inv G f W l hp' M' ow m s'->Q () s'):wpAny (mo G) A (delItem u v) Q E s:=by
 refine cps fun P1_ k1_=> ?_;refine AR e fun i h0 e=> ?_;rw [Hi h0]at hu;obtain⟨rfl,hi⟩:=I.lt hu;refine AR e fun es hf e=> ?_;obtain⟨o,h1,h2,h3,h4,h5⟩:=I.Gu hi (MB hf);refine k1_ ?_;by_cases q:(keyOk k&&Cv k es&&(DW k es).isSome)=true
 . rw [if_pos q]at e;cases e;refine cps fun P2_ k2_=> ?_;refine AS q fun q q3=> ?_;obtain⟨K,dec,knd,kvs,kk,D⟩:=keyed h4 q hk;refine k2_ ?_;exact fI I.fr I.nw (L6 (o:=o) h1 I.hi.nd fun p hp' z=> I.hi.dj p hp' _ h1 z) D.is D.key (Bq (D.len▸h5)) (D.has.trans q3) fun h' o' F' N' hd'=> h _ _ (I.O6 hi h2 h3 F' N' ⟨_,h1⟩ (D.del _ hd') (wC (UR k es) h5))
 . rw [if_neg q]at e;cases e
theorem O7(n:N)(a:AV):∀(l:List (N×AV)),(put n a l).length<=l.length+1
 | []=> wW _
 |(y,w)::r=> by
  unfold put;by_cases z:y=n
  . rw [if_pos z];exact yU _
  . rw [if_neg z];exact xJ (O7 n a r)
theorem UU(C:CH G P)(S:Ef G P)(O:AN G f)(I:Inv G f W l hp M ow m s){o a:AV}{n:N}{u v:R5}{hp':Hp}(hu:AG G.B W o u)(hv:AG G.B W a v)(e:setAt P hp o n a=some hp')
 {Q:Unit->vy->Prop} {E:R5->vy->Prop} (h:∀M' s',Inv G f W l hp' M' ow m s'->Q () s'):wpAny (mo G) A (setAttr u (nm n) v) Q E s:=by
 refine cps fun P1_ k1_=> ?_;refine AR e fun i h0 e=> ?_;rw [Hi h0]at hu;obtain⟨rfl,hi⟩:=I.lt hu;obtain⟨⟨c,fs⟩,hf,e⟩:=yv.mp e;replace hf:=Oo hf;refine AR e fun cl hc e=> ?_;refine k1_ ?_;dsimp only at hc e;by_cases q:(cl.fields.contains n&& !cl.exc&&decide (fs.length<100))=true
 . rw [if_pos q]at e;cases e;refine cps fun P2_ k2_=> ?_;refine AS q fun q q3=> ?_;refine AS q fun q1 q2=> ?_;replace q2:cl.exc=false:=by simpa using q2
   have cell:=I.hi.cell i hi;rw [hf]at cell;obtain⟨dx,es,k,g1,g2,hm,hw,F⟩:=cell;refine k2_ ?_;have H:xq s.heap (W.r i) (instObj c dx) c (some (dictOf es k)):=⟨I.mem g1,rfl,rfl,I.mem hm⟩;have hsh:(getL (nm n) es).isSome=true:=by
    cases hl:look n fs with
    |none=> rw [F.miss hl];rfl
    |some x=> obtain⟨v,h1,_⟩:=F.look hl;rw [h1];rfl
   have F2:=Au.put (a:=n) hv (xF G.w.params (nm n)) (s.toks+1) F;have hz:(putL (nm n) (xF G.w.params (nm n)) (.str (nm n) (s.toks+1)) v es).length<=1000:=by rw [<-F2.len];exact wC (O7 n a fs) (wC (of_decide_eq_true q3) (by decide))
   have hne:W.r i≠dx:=by intro z;have g1:=I.mem g1;rw [z,I.mem hm]at g1;cases congrArg (fun o:Option Obj=> o.bind (·.dict)) g1
   exact set_dict I.fr O.X I.nw H rfl (S.own c cl hc q2).1 (S.own c cl hc q2).2 (S.set c cl n hc q2 q1) (C.Tb c cl hc) hsh rfl
    (Oh hm I.hi.nd fun p hp' z=> I.hi.dj p hp' _ hm z) hz fun h' F' N'=> h _ _ ⟨F',N',I.hi.turn hi hw ⟨dx,_,_,TP g1 hne,g2,Og hm,hw,F2⟩,I.lr,I.gn,I.os⟩
 . rw [if_neg q]at e;cases e
end
theorem FL{x:N}{v:AV}{u:R5}(hk:f.cs.kind= .function)(hl:f.cs.names.lookup (nm x)=some .local){W:Wd}{l:List (N×AV)}{hp:Hp}{M:Led}{ow:Addr->Nat}{m:vz->Option R5}{s:vy}
 (I:Inv G f W l hp M ow m s) (hv:AG G.B W v u) {Q:Unit->vy->Prop} {E:R5->vy->Prop} (h:∀m' s',Inv G f W (put x v l) hp M ow m' s'->Q () s'):wpAny (mo G) A (storeName f.env (nm x) u) Q E s:=
 PySem.W.storeX_L I.fr I.nw (fun h' F' N'=> h _ _ ⟨F',N',I.hi,I.lr.put hv,I.gn,I.os⟩) hk hl
end
section
variable{G:Gx}{f:Fx}{A:v7}{X:XP}{P:Prog}
section
variable{W:Wd}{l:List (N×AV)}{hp:Hp}{M:Led}{ow:Addr->Nat}{m:vz->Option R5}{s:vy}
theorem fM:seqSlot? (.type "list") (dunderI "add")=pure (some (.builtin "list.__iadd__")):=by unfold seqSlot?;rw [zh.lookup];kernel_rfl
theorem fN:fillsInplaceSlot (.type "list") "add" (Operator.Add==.Add)=pure false:=by unfold fillsInplaceSlot;show(typeLookup (.type "list") (dunderI "add") >>=fun fi=> pure (fi.isSome&& !isSeqSlot fi))=pure false;rw [zh.lookup];kernel_rfl
theorem fO{prog:wR}{w:wU}{a b:Addr}{Q:R5->vy->Prop}{E:R5->vy->Prop}(ha:s.TypeIs (.ref a) "list")(hb:s.TypeIs (.ref b) "list")
 (hc:wpAny (model prog w) A (call (.builtin "list.__iadd__") [.ref a,.ref b]) Q E s):wpAny (model prog w) A (inplaceOp .Add (.ref a) (.ref b)) Q E s:=by
 unfold inplaceOp;refine wJ ?_;refine v5 (wpAny_typeOf ha (v5 (wpAny_of_eq fN ?_)));show wpAny _ A (if false=true then _ else _) Q E s;rw [if_neg xm];refine v5 (wpAny_binaryOp1_none (nm:="add") ha hb noFill_list_add ?_);refine v5 (wpAny_of_eq fM ?_);exact v5 (wpAny_rule hc)
theorem Inv.Iw(I:Inv G f W l hp M ow m s){i:Nat}(hi:hp.lv i){xs:List AV}{vs vs':List R5}{k k':Nat}{h':Heap}{tk:Nat}(hm:(W.r i,listOf vs.toArray k)∈M)(hw:ow (W.r i)=i)(F':Fr f.g f.L h' m)
 (N':News f.g f.L h' (Bk (W.r i) (listOf vs'.toArray k') M++W.fz)) (R:AQ G.B W xs vs') (z:xs.length<=lim):Inv G f W l (hp.set i (.lst xs)) (Bk (W.r i) (listOf vs'.toArray k') M) ow m ⟨h',s.gens,s.drawn,tk,s.os⟩:=
 ⟨F',N',I.hi.turn hi hw ⟨vs',k',Og hm,hw,R,z⟩,I.lr,I.gn,I.os⟩
theorem Inv.upd(I:Inv G f W l hp M ow m s){d:Addr}{o o':Obj}(h:(d,o)∈M):Upd d o o' (M++W.fz) (Bk d o' M++W.fz):=
 Oh h I.hi.nd fun p hp' z=> I.hi.dj p hp' _ h z
theorem fP(g:Array R5->Array R5)(its:Array R5)(k:Nat):∃k',yX g (listOf its k)=listOf (g its) k':=by unfold yX;exact⟨_,rfl⟩
theorem Inv.Iy(I:Inv G f W l hp M ow m s){d:Addr}{its:Array R5}{k:Nat}(hm:(d,listOf its k)∈M)(g:Array R5->Array R5):
 ∃k',Fr f.g f.L (s.heap.update d (yX g)) m/\News f.g f.L (s.heap.update d (yX g)) (Bk d (listOf (g its) k') M++W.fz):=by
 obtain⟨k',e⟩:=fP g its k;refine⟨k',?_⟩;have z:=I.nw _ (wO _ hm);obtain⟨pre,post,e1,e2,a,b⟩:=(I.upd (o':=listOf (g its) k') hm).split;rw [e2];refine⟨I.fr.change (Heap.SameBut.update ..) z.2.1 z.2.2,News.setIn (o:=listOf its k) (by rw [<-e1];exact I.nw) a b (Heap.SameBut.update ..) ?_⟩;rw [<-e];exact zl _ z.1 (by rw [e];rfl)
theorem fQ(O:AN G f)(I:Inv G f W l hp M ow m s){i:Nat}{xs ys:List AV}{b:AV}{u v:R5}(hu:AG G.B W (.ref i) u)(hv:AG G.B W b v)(e1:hp.f i= .lst xs)(e2:Dv hp b=some ys)(z:xs.length+ys.length<=lim)
 {Q:R5->vy->Prop} {E:R5->vy->Prop} (h:∀M' r s',Inv G f W l (hp.set i (.lst (xs++ys))) M' ow m s'->AG G.B W (.ref i) r->Q r s'):wpAny (mo G) A (inplaceOp .Add u v) Q E s:=by
 obtain⟨rfl,hi⟩:=I.lt hu;obtain⟨vs,k,h1,h2,h3,h4⟩:=I.J9 hi e1;obtain⟨y,ws,k',rfl,h5,h6,h7⟩:=I.FI O hv e2;have g1:=I.mem h1;have hz:vs.toArray.size+ws.toArray.size<=sizeLine:=Bq (by rw [w3,w3,<-h3.length,<-h6.length];exact z);refine fO ⟨_,g1,rfl⟩ ⟨_,h5,rfl⟩ (call_meets zh ⟨_,g1,rfl⟩ PySem.F.entry_list_iadd (PySem.F.args_list_iadd_2 _ _)
  (AutoSeq1.list___iadd___list_list_0 (W.r i) vs.toArray k y ws.toArray k' ?_ ?_ ?_) ⟨g1,h5,?_⟩)
 . have:AAS (vs.toArray.size+ws.toArray.size)=false:=decide_eq_false (xu.mpr hz);rw [this,yP];exact xm
 . exact Na
 . exact C8
 . obtain⟨k',F',N'⟩:=I.Iy h1 fun x=> x++ws.toArray;rw [zq]at N';exact h _ _ _ (I.Iw (xs:=xs++ys) hi h1 h2 F' N' (h3.append h6) (v9▸z)) hu
theorem O8(O:AN G f)(I:Inv G f W l hp M ow m s){op:BOp}{a b c:AV}{hp':Hp}{u v:R5}(hu:AG G.B W a u)(hv:AG G.B W b v)(e:DC hp op a b=some (c,hp'))
 {Q:R5->vy->Prop} {E:R5->vy->Prop} (h:∀M' r s',Inv G f W l hp' M' ow m s'->AG G.B W c r->Q r s'):wpAny (mo G) A (inplaceOp (Fv op) u v) Q E s:=by
 cases(op)<;>first |(cases(e);done) |skip
 . cases(a)<;>first |(cases(e);done) |skip
   . obtain⟨y,h1,e⟩:=wK.mp e;cases(e);rw [CG h1]at hv;obtain⟨t,rfl⟩:=hu;obtain⟨t',rfl⟩:=hv;exact wpAny_iadd_int (h _ _ _ (I.tok _) ⟨_,rfl⟩)
   . refine AR e fun y h1 e=> ?_;obtain⟨w,e1,e2⟩:=wK.mp e;cases(e2);obtain⟨z,rfl⟩:=FK e1;rw [Cn h1]at hv;obtain⟨⟨t,rfl⟩,h1⟩:=hu;obtain⟨⟨t',rfl⟩,h2⟩:=hv;exact PyProof.Rows.iadd_str (fun t' tk=> h _ _ _ (I.tok _) ⟨⟨_,by rw [MG]⟩,h1.app h2 z⟩) (by rw [Bx,Bx];exact Bq z)
   . refine AR e fun xs e1 e=> ?_;refine AR e fun ys e2 e=> ?_;obtain⟨z,e3⟩:=FK e;cases(e3);exact fQ O I hu hv (MA e1) e2 z h
 . refine AR e fun x h1 e=> ?_;obtain⟨y,h2,e⟩:=wK.mp e;cases(e);rw [CG h1]at hu;rw [CG h2]at hv;obtain⟨t,rfl⟩:=hu;obtain⟨t',rfl⟩:=hv;exact PyProof.Rows.isub_int (h _ _ _ (I.tok _) ⟨_,rfl⟩)
end
end
section
variable{G:Gx}{f:Fx}{A:v7}{X:XP}{P:Prog}
structure EL(T:String)(m:N)(id:String):Prop where
 pa:PlainAttrs T
 slot:Slot T (nm m) id
 ty:typeOf (.builtin id)=pure (.type "method_descriptor")
theorem fR:nm N.append=("append":vz):=by decide+kernel
theorem fS:nm N.extend=("extend":vz):=by decide+kernel
theorem fT:nm N.pop=("pop":vz):=by decide+kernel
theorem fU:nm N.insert=("insert":vz):=by decide+kernel
theorem fV:nm N.join=("join":vz):=by decide+kernel
theorem fW:nm N.split=("split":vz):=by decide+kernel
theorem fX:nm N.lstrip=("lstrip":vz):=by decide+kernel
theorem fY:nm N.rstrip=("rstrip":vz):=by decide+kernel
theorem fZ:nm N.strip=("strip":vz):=by decide+kernel
theorem UW:EL "list" .append "list.append":=⟨yx,fR▸PySem.F.slot_list_append,PySem.F.type_list_append⟩
theorem UX:EL "list" .extend "list.extend":=⟨yx,fS▸PySem.F.slot_list_extend,PySem.F.type_list_extend⟩
theorem O9:EL "list" .pop "list.pop":=⟨yx,fT▸PySem.F.slot_list_pop,PySem.F.type_list_pop⟩
theorem UY:EL "list" .insert "list.insert":=⟨yx,fU▸PySem.F.slot_list_insert,PySem.F.type_list_insert⟩
theorem fc:EL "str" .join "str.join":=⟨yd,fV▸PySem.F.slot_str_join,PySem.F.type_str_join⟩
theorem fe:EL "str" .split "str.split":=⟨yd,fW▸PySem.F.slot_str_split,PySem.F.type_str_split⟩
theorem ff:EL "str" .lstrip "str.lstrip":=⟨yd,fX▸PySem.F.slot_str_lstrip,PySem.F.type_str_lstrip⟩
theorem fg:EL "str" .rstrip "str.rstrip":=⟨yd,fY▸PySem.F.slot_str_rstrip,PySem.F.type_str_rstrip⟩
theorem fh:EL "str" .strip "str.strip":=⟨yd,fZ▸PySem.F.slot_str_strip,PySem.F.type_str_strip⟩
def Hl(m:N):Option String:=if m=N.append then some "list.append" else if m=N.extend then some "list.extend" else if m=N.pop then some "list.pop" else if m=N.insert then some "list.insert" else none
def Gv(m:N):Option String:=if m=N.join then some "str.join" else if m=N.split then some "str.split" else if m=N.lstrip then some "str.lstrip" else if m=N.rstrip then some "str.rstrip" else if m=N.strip then some "str.strip" else none
theorem F9{α:Type}{c:Prop} [Decidable c]{x r:α}{y:Option α}(h:(if c then some x else y)=some r):(c/\x=r)∨y=some r:=by
 by_cases z:c
 . rw [if_pos z]at h;exact .inl ⟨z,wb h⟩
 . rw [if_neg z]at h;exact .inr h
theorem fj{m:N}{id:String}(h:Hl m=some id):EL "list" m id:=by
 rcases F9 h with⟨rfl,rfl⟩ |h
 . exact UW
 rcases F9 h with⟨rfl,rfl⟩ |h
 . exact UX
 rcases F9 h with⟨rfl,rfl⟩ |h
 . exact O9
 rcases F9 h with⟨rfl,rfl⟩ |h
 . exact UY
 cases h
theorem fk{m:N}{id:String}(h:Gv m=some id):EL "str" m id:=by
 rcases F9 h with⟨rfl,rfl⟩ |h
 . exact fc
 rcases F9 h with⟨rfl,rfl⟩ |h
 . exact fe
 rcases F9 h with⟨rfl,rfl⟩ |h
 . exact ff
 rcases F9 h with⟨rfl,rfl⟩ |h
 . exact fg
 rcases F9 h with⟨rfl,rfl⟩ |h
 . exact fh
 cases h
section
variable{W:Wd}{l:List (N×AV)}{hp:Hp}{M:Led}{ow:Addr->Nat}{m:vz->Option R5}{s:vy}
theorem fm{x:Int}(h:x.natAbs<=lim+1):AAN x=true:=by have hl:lim=1000000:=rfl;unfold AAN;simp;lia
theorem ML{id:String}{B:ya}{d:Addr}{mn:N}{rest:List R5}{its:Array R5}{k:Nat}{r:R5}{g:Array R5->Array R5}{Q:R5->vy->Prop}{E:R5->vy->Prop}
 (mf:EL "list" mn id) (entry:entryFor table id=some B) (args:argsOk id ⟨.ref d::rest,[]⟩)
 (mt:Meets (B ⟨.ref d::rest,[]⟩) (fun _ R s=> s.heap.get? d=some {cls:=.type "list",dict:=none,data:=.seq its k,slots:=#[]}/\R (.ok (.ret r)) {s with heap:=s.heap.update d (yX g),toks:=s.toks}))
 (hd:s.heap.get? d=some (listOf its k)) (h:Q r {s with heap:=s.heap.update d (yX g)}):wpAny (mo G) A (call (.builtin id) (.ref d::rest)) Q E s:=
 call_meets mf.slot ⟨_,hd,rfl⟩ entry args mt ⟨hd,h⟩
theorem fp{n:Nat}(h:n<=lim):AAS n=false:=decide_eq_false (xu.mpr (Bq h))
section
variable{i:Nat}{xs as ys:List AV}{c:AV}{vs ws:List R5}{k:Nat}{Q:R5->vy->Prop}{E:R5->vy->Prop}
abbrev FN(G:Gx)(f:Fx)(W:Wd)(l:List (N×AV))(hp:Hp)(ow:Addr->Nat)(m:vz->Option R5)(i:Nat)(c:AV)(ys:List AV)(Q:R5->vy->Prop):Prop:=
 ∀M' r s',Inv G f W l (hp.set i (.lst ys)) M' ow m s'->AG G.B W c r->Q r s'
theorem Hm{v:AV}(h:AQ G.B W [v] vs):∃x,vs=[x]/\AG G.B W v x:=by
 cases vs with
 |nil=> exact h.elim
 |cons x t=>
  cases t with
  |nil=> exact⟨x,rfl,h.1⟩
  |cons _ _=> exact h.2.elim
theorem fq(I:Inv G f W l hp M ow m s)(hi:hp.lv i)(h1:(W.r i,listOf ws.toArray k)∈M)(h2:ow (W.r i)=i)(h3:AQ G.B W xs ws){v:AV}{x:R5}(hv:AG G.B W v x)(z:xs.length+1<=lim)(h:FN G f W l hp ow m i .none (xs++[v]) Q):
 wpAny (mo G) A (call (.builtin "list.append") [.ref (W.r i),x]) Q E s:=by
 refine cps fun P1_ k1_=> ?_;have hl:=h3.length;obtain⟨k',F',N'⟩:=I.Iy h1 fun y=> y.push x;refine k1_ ?_;refine ML UW PySem.F.entry_list_append (PySem.F.args_list_append_2 _ _) (PySem.list_append _ _ k x (by rw [w3,<-hl];exact Bq (wC (yU _) z))) (I.mem h1) ?_;rw [List.push_toArray]at N';exact h _ _ _ (I.Iw hi h1 h2 F' N' (h3.append ⟨hv,trivial⟩) (by rw [v9];exact z)) rfl
theorem fx(I:Inv G f W l hp M ow m s)(hi:hp.lv i)(h1:(W.r i,listOf ws.toArray k)∈M)(h2:ow (W.r i)=i)(h3:AQ G.B W xs ws){y:Addr}{zs:List R5}{k2:Nat}{ys:List AV}(q1:s.heap.get? y=some (listOf zs.toArray k2))(q2:AQ G.B W ys zs)
 (z:xs.length+ys.length<=lim) (h:FN G f W l hp ow m i .none (xs++ys) Q):wpAny (mo G) A (call (.builtin "list.extend") [.ref (W.r i),.ref y]) Q E s:=by
 refine cps fun P1_ k1_=> ?_;have hz:ws.toArray.size+zs.toArray.size<=lim:=by rw [w3,w3,<-h3.length,<-q2.length];exact z
 obtain⟨k',F',N'⟩:=I.Iy h1 fun x=> x++zs.toArray;refine k1_ ?_;refine call_meets UX.slot ⟨_,I.mem h1,rfl⟩ PySem.F.entry_list_extend (PySem.F.args_list_extend_2 _ _) (AutoSeq1.list_extend_list_list_0 _ _ k y _ k2 (by rw [fp hz,yP];exact xm) (by have:=Bq hz;exact Na) (by have:=Bq hz;exact C8)) ⟨I.mem h1,q1,?_⟩;rw [zq]at N';exact h _ _ _ (I.Iw hi h1 h2 F' N' (h3.append q2) (by rw [v9];exact z)) rfl
theorem fy(I:Inv G f W l hp M ow m s)(hi:hp.lv i)(h1:(W.r i,listOf ws.toArray k)∈M)(h2:ow (W.r i)=i)(h3:AQ G.B W xs ws)(h4:xs.length<=lim){v:AV}(hv':xs.getLast? =some v)(h:FN G f W l hp ow m i v xs.dropLast Q):
 wpAny (mo G) A (call (.builtin "list.pop") [.ref (W.r i)]) Q E s:=by
 refine cps fun P1_ k1_=> ?_;have hl:=h3.length;have hs:=Bq h4;rw [List.getLast?_eq_getElem?]at hv';obtain⟨y,hy,hyr⟩:=h3.get hv';rw [hl]at hy;obtain⟨k',F',N'⟩:=I.Iy h1 fun x=> x.eraseIdxIfInBounds (ws.toArray.size - 1);refine k1_ ?_;refine ML O9 PySem.F.entry_list_pop (PySem.F.args_list_pop_1 _) (PySem.MeetsSeq.list_pop_last _ _ k y (by simpa using hy) (by rw [w3,<-hl];exact hs)) (I.mem h1) ?_;have hlt:ws.length - 1<ws.length:=(w6.mp hy).1;have e1:ws.toArray.eraseIdxIfInBounds (ws.toArray.size - 1)=ws.dropLast.toArray:=by rw [AAC,w3,zm,List.eraseIdx_eq_take_drop_succ,ye (zC (wN _) hlt),List.drop_length,wY]
 rw [e1]at N';exact h _ _ _ (I.Iw hi h1 h2 F' N' (by rw [zm,zm,hl];exact h3.take _) (by rw [List.length_dropLast];exact wC (Nat.sub_le _ _) h4)) hyr
theorem f6(I:Inv G f W l hp M ow m s)(hi:hp.lv i)(h1:(W.r i,listOf ws.toArray k)∈M)(h2:ow (W.r i)=i)(h3:AQ G.B W xs ws)(h4:xs.length<=lim){t:Tok}{v:AV}(hv':xs.head? =some v)(h:FN G f W l hp ow m i v xs.tail Q):
 wpAny (mo G) A (call (.builtin "list.pop") [.ref (W.r i),.int 0 t]) Q E s:=by
 have hs:=Bq h4;rw [h3.length]at hs;cases xs with
 |nil=> exact cNS hv'
 |cons x' xs'=>
  cases ws with
  |nil=> exact h3.elim
  |cons y ws'=> cases hv';obtain⟨k',F',N'⟩:=I.Iy h1 fun x=> x.eraseIdxIfInBounds 0;refine ML O9 PySem.F.entry_list_pop (PySem.F.args_list_pop_2 _ _) (PySem.MeetsSeq.list_pop_at _ _ k 0 t 0 y (by rfl) (by simp [seqIndex?]) rfl (by rw [w3];exact hs)) (I.mem h1) ?_;rw [show(y::ws').toArray.eraseIdxIfInBounds 0=ws'.toArray by rw [AAC];rfl]at N';exact h _ _ _ (I.Iw hi h1 h2 F' N' h3.2 (wC (yU _) h4)) h3.1
theorem f7(I:Inv G f W l hp M ow m s)(hi:hp.lv i)(h1:(W.r i,listOf ws.toArray k)∈M)(h2:ow (W.r i)=i)(h3:AQ G.B W xs ws){v:AV}{y:R5}(hy:AG G.B W v y){j:Int}{t:Tok}(q:0<=j/\j<=xs.length)(z:xs.length+1<=lim)(h:FN G f W l hp ow m i .none (xs.take j.toNat++v::xs.drop j.toNat) Q):
 wpAny (mo G) A (call (.builtin "list.insert") [.ref (W.r i),.int j t,y]) Q E s:=by
 refine cps fun P1_ k1_=> ?_;have hl:=h3.length;have hs:=Bq z;obtain⟨k',F',N'⟩:=I.Iy h1 fun xs=> have k:=if j<0 then(j+((xs.size:Nat):Int)).toNat else min j.toNat xs.size;(xs.extract 0 k).push y++xs.extract k
 refine k1_ ?_;refine ML UY PySem.F.entry_list_insert (PySem.F.args_list_insert_3 _ _ _) (PySem.AutoSeq1.list_insert_list_int_val_1 _ _ k j t y (by rw [fm (wC (x9.mp (by rw [Int.natAbs_of_nonneg q.1];exact q.2)) (Nat.le_of_succ_le (zF z)))];simp) (by rw [w3,<-hl];exact wC (yU _) hs)) (I.mem h1) ?_;dsimp only at N';have e1:=kl_ins_eq ws j.toNat y;rw [w3]at e1;rw [if_neg (yW.mpr q.1),w3,yk (show j.toNat<=ws.length from hl▸Int.toNat_le.mpr q.2),e1]at N';exact h _ _ _ (I.Iw hi h1 h2 F' N' ((h3.take _).append ⟨hy,h3.drop _⟩) (by rw [v9,xd,<-xX,<-v9,List.take_append_drop];exact z)) rfl
theorem f9(I:Inv G f W l hp M ow m s)(hi:hp.lv i)(h1:(W.r i,listOf ws.toArray k)∈M)(h2:ow (W.r i)=i)(h3:AQ G.B W xs ws)(hv:AQ G.B W as vs)(e:Rx xs as=some (c,ys))(h:FN G f W l hp ow m i c ys Q):
 wpAny (mo G) A (call (.builtin "list.append") (.ref (W.r i)::vs)) Q E s:=by
 refine AR e fun v o1 e=> ?_;obtain⟨z,e1⟩:=FK e;obtain⟨rfl,rfl⟩:=xh e1;rw [Gs o1]at hv;obtain⟨x,rfl,hv1⟩:=Hm hv;exact fq I hi h1 h2 h3 hv1 z h
theorem gA(O:AN G f)(I:Inv G f W l hp M ow m s)(hi:hp.lv i)(h1:(W.r i,listOf ws.toArray k)∈M)(h2:ow (W.r i)=i)(h3:AQ G.B W xs ws)(hv:AQ G.B W as vs)(e:Ry hp xs as=some (c,ys))(h:FN G f W l hp ow m i c ys Q):
 wpAny (mo G) A (call (.builtin "list.extend") (.ref (W.r i)::vs)) Q E s:=by
 refine AR e fun v o1 e=> AR e fun ys' e1 e2=> ?_;obtain⟨z,e3⟩:=FK e2;obtain⟨rfl,rfl⟩:=xh e3;rw [Gs o1]at hv;obtain⟨x,rfl,hv1⟩:=Hm hv;obtain⟨y,zs,k2,rfl,q1,q2,q3⟩:=I.FI O hv1 e1;exact fx I hi h1 h2 h3 q1 q2 z h
theorem Iz{α β:Type}{o:Option α}{a:α->β}{r:β}{G:Prop}(e:o.map a=some r)(k:∀v,o=some v->a v=r->G):G:=by
 cases o with
 |none=> exact cNS e
 |some v=> exact k v rfl (wb e)
theorem gC(I:Inv G f W l hp M ow m s)(hi:hp.lv i)(h1:(W.r i,listOf ws.toArray k)∈M)(h2:ow (W.r i)=i)(h3:AQ G.B W xs ws)(h4:xs.length<=lim)(hv:AQ G.B W as vs)(e:Nn xs as=some (c,ys))(h:FN G f W l hp ow m i c ys Q):
 wpAny (mo G) A (call (.builtin "list.pop") (.ref (W.r i)::vs)) Q E s:=by
 cases as with
 |nil=> cases vs with
  |cons _ _=> exact hv.elim
  |nil=> refine Iz e fun v hv' e=> ?_;obtain⟨rfl,rfl⟩:=xh e;exact fy I hi h1 h2 h3 h4 hv' h
 |cons a as=> cases as with
  |cons _ _=> exact cNS e
  |nil=> obtain⟨x,rfl,hz⟩:=Hm hv;clear hv;refine AR e fun k0 o1 e=> C7 e (fun z e=> Iz e fun v hv' e=> ?_) fun _ e=> cNS e;obtain⟨rfl,rfl⟩:=xh e;rw [CG o1,z]at hz;obtain⟨t,rfl⟩:=hz;exact f6 I hi h1 h2 h3 h4 hv' h
theorem gF(I:Inv G f W l hp M ow m s)(hi:hp.lv i)(h1:(W.r i,listOf ws.toArray k)∈M)(h2:ow (W.r i)=i)(h3:AQ G.B W xs ws)(hv:AQ G.B W as vs)(e:Rw xs as=some (c,ys))(h:FN G f W l hp ow m i c ys Q):
 wpAny (mo G) A (call (.builtin "list.insert") (.ref (W.r i)::vs)) Q E s:=by
 cases as with
 |nil=> exact cNS e
 |cons a as=> cases as with
  |nil=> exact cNS e
  |cons v as=> cases as with
   |cons _ _=> exact cNS e
   |nil=> cases vs with
    |nil=> exact hv.elim
    |cons x vs=> obtain⟨y,rfl,hy⟩:=Hm hv.2;refine AR e fun j o1 e=> C7 e (fun q e=> ?_) fun _ e=> cNS e;obtain⟨z,e3⟩:=FK e;obtain⟨rfl,rfl⟩:=xh e3;have ha:=hv.1;rw [CG o1]at ha;obtain⟨t,rfl⟩:=ha;exact f7 I hi h1 h2 h3 hy q z h
theorem gG(O:AN G f)(I:Inv G f W l hp M ow m s){mn:N}{u:R5}(hu:AG G.B W (.ref i) u)(hf:hp.f i= .lst xs)(hv:AQ G.B W as vs)(e:Jf hp xs mn as=some (c,ys))(h:FN G f W l hp ow m i c ys Q):
 ∃id,Hl mn=some id/\wpAny (mo G) A (call (.builtin id) (u::vs)) Q E s:=by
 obtain⟨rfl,hi⟩:=I.lt hu;obtain⟨ws,k,h1,h2,h3,h4⟩:=I.J9 hi hf;exact C7 e (fun n e=> ⟨_,congrArg Hl n,f9 I hi h1 h2 h3 hv e h⟩) fun _ e=> C7 e (fun n e=> ⟨_,congrArg Hl n,gA O I hi h1 h2 h3 hv e h⟩) fun _ e=> C7 e (fun n e=> ⟨_,congrArg Hl n,gC I hi h1 h2 h3 h4 hv e h⟩) fun _ e=>
  C7 e (fun n e=> ⟨_,congrArg Hl n,gF I hi h1 h2 h3 hv e h⟩) fun _ e=> cNS e
end
end
end
def slotsOf(ps:List vz)(vs dv:List R5):List (vz×R5):=
 ((ps.drop (ps.length - dv.length)).zip dv).foldl (fun sl p=> if(sl.lookup p.1).isNone then sl++[(p.1,p.2)]else sl) (ps.zip vs)
theorem UZ{α β:Type}{M:wq}{A:v7}{E:R5->vy->Prop}{s:vy}{Q:β->vy->Prop}(g:β->α->β)(f:α->β->Sem (ForInStep β))(hf:∀a b,f a b=pure (.yield (g b a))):∀(l:List α) (b:β),Q (l.foldl g b) s->wpAny M A (forIn l b f) Q E s
 | []=>@fun b h=> by simpa using v8 h
 |a::r=>@fun b h=> by rw [yO,hf];exact v5 (v8 (UZ g f hf r (g b a) h))
def PA(ps:List vz)(vs:List R5):List (vz×R5)->List R5->Prop
 | [],us=> us=vs
 | [(n,v)],us=> ps[vs.length]? =some n/\us=vs++[v]
 |_,_=> False
theorem gH{ps:List vz}:∀{vs:List R5} {n:vz} {v:R5},ps[vs.length]? =some n->ps.zip (vs++[v])=ps.zip vs++[(n,v)]:=by
 induction ps with
 |nil=> intro vs n v h;cases vs<;>cases h
 |cons p r ih=>
  intro vs n v h;cases vs with
  |nil=> cases h;simp
  |cons w ws=> have h:r[ws.length]? =some n:=h;show(p,w)::r.zip (ws++[v])=(p,w)::(r.zip ws++[(n,v)]);rw [ih h]
theorem gJ{ps:List vz}(nd:ps.Nodup):∀{vs:List R5} {n:vz},ps[vs.length]? =some n->(ps.zip vs).lookup n=none:=by
 induction ps with
 |nil=> intro vs n h;cases vs<;>cases h
 |cons p r ih=>
  intro vs n h;rw [xU]at nd;cases vs with
  |nil=> rfl
  |cons w ws=>
   have h:r[ws.length]? =some n:=h;have hn:(n==p)=false:=by
    have hm:n∈r:=yJ h;rw [beq_eq_false_iff_ne]
    rintro rfl
    exact nd.1 hm
   rw [zD,wm,hn];exact ih nd.2 h
theorem wI{α:Type}{M:wq}{A:v7}{E:R5->vy->Prop}{s:vy}{Q:α->vy->Prop}{c:Prop} [Decidable c]{a b:Sem α}(h:c)(k:wpAny M A a Q E s):wpAny M A (if c then a else b) Q E s:=by rw [if_pos h];exact k
theorem wE{α:Type}{M:wq}{A:v7}{E:R5->vy->Prop}{s:vy}{Q:α->vy->Prop}{c:Prop} [Decidable c]{a b:Sem α}(h:¬c)(k:wpAny M A b Q E s):wpAny M A (if c then a else b) Q E s:=by rw [if_neg h];exact k
theorem gK{M:wq}{A:v7}{E:R5->vy->Prop}{s:vy}{ps L kn:List vz}(hL:L=ps){vs us:List R5}{kws:List (vz×R5)}(hkw:PA ps vs kws us)(nd:ps.Nodup)
 {R:List (vz×R5)×List (vz×R5)->vy->Prop} {J J':vz×R5->List (vz×R5)×List (vz×R5)->Sem (ForInStep (List (vz×R5)×List (vz×R5)))}
 (h:R (ps.zip us,[]) s):
 wpAny M A (forIn kws (L.zip vs,[]) fun x b=> if(ps.contains x.1||kn.contains x.1)=true then(if(b.1.lookup x.1).isSome=true then J x b else pure (.yield (b.1++[(x.1,x.2)],b.2)))else J' x b) R E s:=by
 subst hL;cases kws with
 |nil=> rw [show us=vs from hkw]at h;exact v8 h
 |cons p t=>
  cases t with
  |cons _ _=> exact hkw.elim
  |nil=> obtain⟨n,v⟩:=p;obtain⟨hn,rfl⟩:=hkw;have c2:=gJ nd hn (vs:=vs);rw [gH hn]at h;rw [yO];refine v5 (wI (by rw [Bool.or_eq_true];exact .inl (by simpa using yJ hn)) (wE (by rw [c2];exact nofun) (v8 ?_)));exact v8 h
theorem gL{M:wq}{A:v7}{E:R5->vy->Prop}{s:vy}{Q:List (vz×R5)->vy->Prop}{fd:w8}{vs us dv:List R5}{kws:List (vz×R5)}{ps:List vz}(hkw:PA ps vs kws us)(nd:ps.Nodup)
 (h1:fd.params.posonlyargs=[]) (h2:fd.params.args.map (·.arg)=ps) (h3:fd.params.vararg=none) (h4:fd.params.kwonlyargs=[]) (h5:fd.params.kwarg=none)
 (hd:∀(Q:Option (Array R5)->vy->Prop),(∀o:Option (Array R5),(o.getD #[]).toList=dv->Q o s)->wpAny M A (seqItems? fd.defaults) Q E s) (hl:vs.length<=ps.length) (hdl:dv.length<=ps.length)
 (hm:((ps.take (ps.length - dv.length)).filter fun n=> ((ps.zip us).lookup n).isNone)=[])
 (h:Q (ps.filterMap fun n=> ((slotsOf ps us dv).lookup n).map (n,·)) s):wpAny M A (bindArgs fd ⟨vs,kws⟩) Q E s:=by
 obtain⟨name,qual,params,fb,scope,glb,cl,dV,kV,doc,pm,anA,cdv,ct,blt⟩:=fd;obtain⟨po,ar,va,ko,kd,kw,df⟩:=params;cases h1;cases h3;cases h4;cases h5;cases(show ar.map (·.arg)=ps from h2);unfold bindArgs;dsimp only;refine v5 ?_;refine gK (show([]:List Arg).map xQ++ar.map xQ=ar.map xQ from rfl) hkw nd ?_;refine v5 (hd _ fun o ho=> ?_);refine wE (by simpa using hl) ?_;have e1:((o.getD #[]).toList.drop ((o.getD #[]).toList.length - (([]:List Arg).map xQ++ar.map xQ).length))=dv:=by rw [ho,show dv.length - (([]:List Arg).map xQ++ar.map xQ).length=0 from Nat.sub_eq_zero_of_le hdl,zQ]
 rw [e1];refine wE (show¬(!(((ar.map xQ).take ((ar.map xQ).length - dv.length)).filter fun n=> (((ar.map xQ).zip us).lookup n).isNone).isEmpty)=true by rw [hm];exact nofun) ?_;refine v5 (UZ (fun sl p=> if(sl.lookup p.1).isNone then sl++[(p.1,p.2)]else sl) _ (fun a b=> ?_) _ _ ?_)
 . split<;>rfl
 . exact v5 (v8 (v8 (show Q (((ar.map xQ)++[]).filterMap _) s by rw [wY];exact h)))
theorem Ua(n:vz):∀(l b:List (vz×R5)),(l.foldl (fun sl p=> if(sl.lookup p.1).isNone then sl++[(p.1,p.2)]else sl) b).lookup n=(b.lookup n).or (l.lookup n)
 | []=>@fun b=> by simp
 |(k,v)::r=>@fun b=> by
  rw [List.foldl_cons,Ua n r];have ap:∀(b c:List (vz×R5)),(b++c).lookup n=(b.lookup n).or (c.lookup n):=fun b c=> by
   induction b with
   |nil=> simp
   |cons p r ih=>
    obtain⟨k',v'⟩:=p;rw [x7,wm,wm];split
    . simp
    . exact ih
  cases hb:b.lookup n with
  |some x=>
   dsimp only;split
   . rw [ap,hb];simp
   . rw [hb];simp
  |none=>
   dsimp only;rw [wm];by_cases e:n=k
   . subst e;simp only [hb,Option.isNone_none,if_true,beq_self_eq_true];rw [ap,hb];simp [wm]
   . have:(n==k)=false:=by simpa using e
     simp only [this];split
     . rw [ap,hb];simp [wm,this]
     . rw [hb]
theorem PB{B:Heap}{W:Wd}{x:N}:∀{ps:List N} {as:List AV} {vs:List R5} {Ay:List (N×AV)} {loc:List (N×AV)} {a:AV},AQ B W as vs->DY ps as Ay=some loc->look x loc=some a->
 (∃v,((ps.map nm).zip vs).lookup (nm x)=some v/\AG B W a v)∨(((ps.map nm).zip vs).lookup (nm x)=none/\look x Ay=some a)/\x∈ps
 | [],[],[],_,loc,a,_,e,h=> by cases e;cases h
 |p::ps,a'::as,v::vs,Ay,loc,a,R,e,h=> by
  obtain⟨ABm,e1,rfl⟩:=wK.mp (show(DY ps as Ay).map ((p,a')::·)=some loc from e);rw [Fo]at h;rw [wj,zD,wm];by_cases q:p=x
  . subst q;rw [if_pos rfl]at h;cases h;exact .inl ⟨v,by simp,R.1⟩
  . rw [if_neg q]at h;have:(nm x==nm p)=false:=by
     rw [beq_eq_false_iff_ne];exact fun z=> q (IT z).symm
    rw [this];rcases PB R.2 e1 h with h |⟨h,hm⟩
    . exact .inl h
    . exact .inr ⟨h,.tail _ hm⟩
 |p::ps,[],[],Ay,loc,a,R,e,h=> by
  refine AR (show((look p Ay).bind fun v=> (DY ps [] Ay).map ((p,v)::·))=some loc from e) fun d hd e=> ?_;obtain⟨ABm,e1,rfl⟩:=wK.mp e;rw [Fo]at h;by_cases q:p=x
  . subst q;rw [if_pos rfl]at h;cases h;exact .inr ⟨⟨by simp,hd⟩,.head _⟩
  . rw [if_neg q]at h;rcases PB R e1 h with h |⟨h,hm⟩
    . obtain⟨v,h1,_⟩:=h;simp at h1
    . exact .inr ⟨⟨by simp,h.2⟩,.tail _ hm⟩
 | [],_::_,_,_,_,_,_,e,_=> by cases e
 |_::_,[],_::_,_,_,_,R,_,_=> R.elim
 |_::_,_::_,[],_,_,_,R,_,_=> R.elim
 | [],[],_::_,_,_,_,R,_,_=> R.elim
theorem Ub{B:Heap}{W:Wd}{x:N}:∀{Ay:List (N×AV)} {dv:List R5} {a:AV},AQ B W (Ay.map (·.2)) dv->look x Ay=some a->∃v,((Ay.map fun p=> nm p.1).zip dv).lookup (nm x)=some v/\AG B W a v
 |(p,d)::r,v::dv,a,R,h=> by
  rw [Fo]at h;rw [wj,zD,wm];by_cases q:p=x
  . subst q;rw [if_pos rfl]at h;cases h;exact⟨v,by simp,R.1⟩
  . rw [if_neg q]at h;have:(nm x==nm p)=false:=by
     rw [beq_eq_false_iff_ne];exact fun z=> q (IT z).symm
    rw [this];exact Ub R.2 h
 | [],_,_,_,h=> by cases h
 |_::_,[],_,R,_=> R.elim
theorem MM(f:vz->Option R5)(n:vz):∀ps:List vz,n∈ps->(ps.filterMap fun n=> (f n).map (n,·)).lookup n=f n
 |p::r,h=> by
  rw [zr];by_cases e:n=p
  . subst e;cases hf:f n with
    |none=>
     simp only [Option.map_none];by_cases hm:n∈r
     . rw [MM f n r hm,hf]
     . have:∀l:List vz,n∉l->(l.filterMap fun n=> (f n).map (n,·)).lookup n=none:=fun l=> by
        induction l with
        |nil=> intro _;rfl
        |cons q t ih=>
         intro hq;rw [zr];have hne:n≠q:=fun z=> hq (z▸ .head _);cases f q with
         |none=> simp only [Option.map_none];exact ih fun z=> hq (.tail _ z)
         |some w=> simp only [zN,wm];rw [show(n==q)=false by simpa using hne];exact ih fun z=> hq (.tail _ z)
       exact this r hm
    |some v=> simp [wm]
  . have hm:n∈r:=by
     cases h with
     |head=> exact absurd rfl e
     |tail _ h=> exact h
    cases hf:f p with
    |none=> simp only [Option.map_none];exact MM f n r hm
    |some v=> simp only [zN,wm];rw [show(n==p)=false by simpa using e];exact MM f n r hm
theorem Uc(n:vz):∀l:List (vz×R5),(l.map (·.1)).Nodup->l.reverse.lookup n=l.lookup n
 | []=>@fun _=> rfl
 |(k,v)::r=>@fun h=> by
  rw [wj,xU]at h;rw [zG,wm];have ap:∀(b c:List (vz×R5)),(b++c).lookup n=(b.lookup n).or (c.lookup n):=fun b c=> by
   induction b with
   |nil=> simp
   |cons p r ih=>
    obtain⟨k',v'⟩:=p;rw [x7,wm,wm];split
    . simp
    . exact ih
  rw [ap,Uc n r h.2];by_cases e:n=k
  . subst e;have:r.lookup n=none:=by
     rw [List.lookup_eq_none_iff];intro p hp;rw [bne_iff_ne];intro z;exact h.1 (by show n∈_;rw [z];exact xl (f:=(·.1)) hp)
    rw [this];simp [wm]
  . have:(n==k)=false:=by simpa using e
    simp [wm,this]
theorem PC(f:vz->Option R5):∀ps:List vz,((ps.filterMap fun n=> (f n).map (n,·)).map (·.1)).Sublist ps
 | []=>.slnil
 |p::r=> by
  rw [zr];cases f p with
  |none=> exact(PC f r).cons _
  |some v=> exact(PC f r).cons_cons _
abbrev vf:=PySem.FuncData
inductive gM(G:Gx)(a:Addr)(fn:Fn)(qual:vz)(scope:xC)(body:List Stmt)(cdv:R5)(cl:List (vz×Addr)):Prop
 |mk (name:_) (params:_) (dV:_) (kV:_) (doc:_) (pm:_) (ct:_) (oc:_) (an:_) (od:_) (osl:_) (dv:List R5) (h:G.K.lookup a=some ⟨oc,od,.func (fnX name qual params body scope cl dV kV doc pm an cdv ct),osl⟩)
   (h1:params.posonlyargs=[]) (h2:params.args.map (·.arg)=fn.ps.map nm) (h3:params.vararg=none) (h4:params.kwonlyargs=[]) (h5:params.kwarg=none)
   (h6:(dV= .none/\dv=[])∨∃T k,dV= .ref T/\G.K.lookup T=some (F7 dv k)) (h7:∀W,AQ G.B W (fn.Ay.map (·.2)) dv) (h8:fn.Ay.map (fun p=> nm p.1)=(fn.ps.map nm).drop (fn.ps.length - dv.length)) (h9:dv.length<=fn.ps.length)
structure FnShape(G:Gx)(a:Addr)(fn:Fn)(qual:vz)(scope:xC)(body:List Stmt)(cdv:R5)(cl:List (vz×Addr)):Prop where
 ex:gM G a fn qual scope body cdv cl
 code:codeIn G.K cdv qual=true
 nd:(fn.ps.map nm).Nodup
 loc:∀p∈fn.ps,scope.names.lookup (nm p)=some .local
 co:scope.isCoroutine=false
 gen:scope.isGenerator=false
 kind:scope.kind= .function
 cell:∀x∈scope.names,x.2≠ .cell
section
variable{G:Gx}{f:Fx}{A:v7}{P:Prog}
theorem EG.deep{d:Nat}{f':Fx}(h:EG f (d+1) A)(e:f'.outer=f.env::f.outer):Bc f' d (A.deeper f'.env):=by
 refine⟨?_,h.hd,?_,?_⟩
 . rw [yz h.fr,e]
 . have:=h.dp;show A.depth+1+3 * d+10<recursionLimit;exact BV this
 . have:=h.un;show A.units+3+30 * d+200<cLine;exact BV this
section
variable{W:Wd}{l:List (N×AV)}{hp:Hp}{M:Led}{ow:Addr->Nat}{m:vz->Option R5}{s:vy}
theorem gN{B:Heap}{fn:Fn}{as:List AV}{vs dv:List R5}{loc:List (N×AV)}(nd:(fn.ps.map nm).Nodup)(R:AQ B W as vs)(D:AQ B W (fn.Ay.map (·.2)) dv)
 (e1:fn.Ay.map (fun p=> nm p.1)=(fn.ps.map nm).drop (fn.ps.length - dv.length)) (hb:DY fn.ps as fn.Ay=some loc):
 Ct B W loc (fun y=> (((fn.ps.map nm).filterMap fun n=> ((slotsOf (fn.ps.map nm) vs dv).lookup n).map (n,·)).reverse).lookup y):=by
 intro x a h;have key:∃v,(slotsOf (fn.ps.map nm) vs dv).lookup (nm x)=some v/\AG B W a v:=by
  unfold slotsOf;rw [Ua];rcases PB R hb h with⟨v,h1,h2⟩ |⟨⟨h1,h2⟩,h3⟩
  . exact⟨v,by rw [h1];rfl,h2⟩
  . obtain⟨v,h4,h5⟩:=Ub D h2;refine⟨v,?_,h5⟩;rw [h1,wo,<-e1,h4];rfl
 obtain⟨v,h1,h2⟩:=key;have hm:x∈fn.ps:=by
  have:∀{ps:List N} {as:List AV} {loc:List (N×AV)},DY ps as fn.Ay=some loc->look x loc=some a->x∈ps:=by
   intro ps
   induction ps with
   |nil=> intro as loc e h;cases as<;>cases e;cases h
   |cons p r ih=>
    intro as loc e h;by_cases q:p=x
    . subst q;exact .head _
    . cases as with
      |cons a' as=> obtain⟨ABm,e1,rfl⟩:=wK.mp e;rw [Fo]at h;rw [if_neg q]at h;exact .tail _ (ih e1 h)
      |nil=> refine AR e fun d hd e=> ?_;obtain⟨ABm,e1,rfl⟩:=wK.mp e;rw [Fo]at h;rw [if_neg q]at h;exact .tail _ (ih e1 h)
  exact this hb h
 refine⟨v,?_,h2⟩;show List.lookup (nm x) (List.reverse _)=some v;rw [Uc _ _ ((PC _ _).nodup nd),MM _ _ _ (xl hm),h1]
theorem Ud{Ay:List (N×AV)}:∀{ps:List N} {as:List AV} {loc:List (N×AV)},DY ps as Ay=some loc->as.length<=ps.length
 | [],[],_,_=> wW _
 |_::_,[],_,_=> wN _
 | [],_::_,_,e=> by cases e
 |p::ps,a::as,_,e=> by obtain⟨ABm,e1,rfl⟩:=wK.mp e;exact xJ (Ud e1)
theorem gO{ps:List vz}{vs:List R5}{n:vz}{k:Nat}(hk:k<=vs.length)(h:n∈ps.take k):((ps.zip vs).lookup n).isNone=false:=by
 induction ps generalizing vs k with
 |nil=> simp at h
 |cons p r ih=>
  cases k with
  |zero=> simp at h
  |succ k=>
   cases vs with
   |nil=> simp at hk
   |cons v vs=>
    rw [zD,wm];split
    . rfl
    . rename_i q;rw [List.take_succ_cons]at h;cases h with
      |head=> simp at q
      |tail _ h=> exact ih (by simpa using hk) h
theorem PD{fn:Fn}{as:List AV}{ks loc:List (N×AV)}(h:EW fn as ks=some loc):∃as',IM fn.ps as ks=some as'/\fn.ps.length<=as'.length+fn.Ay.length/\DY fn.ps as' fn.Ay=some loc:=by
 refine AR h fun as' h1 h2=> ?_;by_cases q:fn.ps.length<=as'.length+fn.Ay.length
 . rw [if_pos q]at h2;exact⟨as',h1,q,h2⟩
 . rw [if_neg q]at h2;cases h2
inductive I0(G:Gx)(f:Fx)(W:Wd)(l:List (N×AV))(m:vz->Option R5)(r:COut)(v:R5)(s:vy):Prop
 |mk (a:_) (hp':_) (W':_) (M':_) (ow':_) (h0_:r= .ok a hp') (h1_:W.le W') (h2_:Inv G f W' l hp' M' ow' m s) (h3_:AG G.B W' a v)
def DM(B:Heap)(W:Wd):List (N×AV)->List (vz×R5)->Prop
 | [],[]=> True
 |(n,a)::r,(x,v)::t=> x=nm n/\AG B W a v/\DM B W r t
 |_,_=> False
theorem DM.mono{B:Heap}{W V:Wd}(h:W.le V):∀{ks:List (N×AV)} {kv:List (vz×R5)},DM B W ks kv->DM B V ks kv:=by
 intro ks
 induction ks with
 |nil=>
  intro kv r;cases kv with
  |nil=> trivial
  |cons _ _=> exact r.elim
 |cons p t ih=>
  intro kv r;cases kv with
  |nil=> exact r.elim
  |cons q u=> exact⟨r.1,r.2.1.mono h,ih r.2.2⟩
theorem PE{ps:List N}{as as':List AV}{G:Prop}:∀{ks:List (N×AV)},IM ps as ks=some as'->(ks=[]->as'=as->G)->(∀n v,ks=[(n,v)]->ps[as.length]? =some n->as'=as++[v]->G)->G
 | []=>@fun e h _=> h rfl (wb e).symm
 | [(n,v)]=>@fun e _ h=> C7 e (fun c e=> h n v rfl c (wb e).symm) (fun _ e=> cNS e)
 |_::_::_=>@fun e _ _=> cNS e
theorem gP{B:Heap}{W:Wd}{ps:List N}{as as':List AV}{vs:List R5}{ks:List (N×AV)}{kv:List (vz×R5)}(R:AQ B W as vs)(K:DM B W ks kv)(e:IM ps as ks=some as'):
 ∃us,PA (ps.map nm) vs kv us/\AQ B W as' us:=by
 refine PE e (fun e1 e2=> ?_) (fun n v e1 hn e2=> ?_)
 . subst e1 e2;cases kv with
   |nil=> exact⟨vs,rfl,R⟩
   |cons _ _=> exact K.elim
 . subst e1 e2;cases kv with
   |nil=> exact K.elim
   |cons p t=>
    cases t with
    |cons _ _=> exact K.2.2.elim
    |nil=>
    obtain⟨x,u⟩:=p;obtain⟨rfl,k2,_⟩:=K;refine⟨vs++[u],⟨?_,rfl⟩,R.append ⟨k2,trivial⟩⟩;rw [<-R.length,zx,hn];rfl
theorem gQ{ps:List N}{as as':List AV}{ks:List (N×AV)}(e:IM ps as ks=some as'):as.length<=as'.length:=
 PE e (fun _ e=> e▸wW _) (fun n v _ _ e=> by rw [e,v9];exact xK ..)
set_option backward.match.sparseCases true in
theorem Ue{prog:wR}{w:wU}{A₀ A:v7}{s:vy}{base h₀:Heap}{outer:List Env}{L:Addr}{m:vz->Option R5}{env:Env}{news:List (Addr×Obj)}
 {R:Result->vy->Prop} {name qual:vz} {params:Arguments} {body:List Stmt} {scope:xC} {cl:List (vz×Addr)} {dV kV doc pm cdv ct:R5} {an:Option Addr} {fo:Obj} {f:Addr} {args:Args} {binds:List (vz×R5)}
 (B:Below A₀ base outer h₀) (F:Fr h₀ L s.heap m) (N:News h₀ L s.heap news) (AAo:h₀.NoLimit) (hA:A.frames=some (env::outer)) (hf:env.frame=some L) (hke:env.scope.kind= .function)
 (ho:s.heap.get? f=some fo) (hd:fo.data= .func (fnX name qual params body scope cl dV kV doc pm an cdv ct)) (hcd:s.heap.CodeRec cdv qual) (ADY:A.depth<recursionLimit)
 (ADZ:BindsTo s (fnX name qual params body scope cl dV kV doc pm an cdv ct) args binds) (ABX:∀y∈binds,scope.names.lookup y.1=some .local)
 (h:∀g L' h₁,Fr h₀ L g m->Fr g L' h₁ (fun y=> binds.reverse.lookup y)->News g L' h₁ news->Below A base (env::outer) g->h₀.StaysIn g->(∀p∈news,p.1<L')->
   PySem.wpAt (model prog w) (A.deeper (envX qual scope L' f cdv cl)) (.func body (envX qual scope L' f cdv cl)) (execs body (envX qual scope L' f cdv cl))
    (fun fl s'=> LeaveK h₀ L m g R (match fl with | .ret v=> v |_=>.none) s')
    (fun e s'=> wpAny (model prog w) (A.deeper (envX qual scope L' f cdv cl)) (leaving (envX qual scope L' f cdv cl) e) (fun _ s''=> R (.error e) s'') (fun e' s''=> R (.error e') s'') s')
    {s with heap:=h₁,toks:=s.toks+binds.length})
 (ACU:∀x∈scope.names,x.2≠ .cell) (D7:scope.isCoroutine=false:=by rfl) (ADa:scope.isGenerator=false:=by rfl) (hk:scope.kind= .function:=by rfl):codeAny (model prog w) A (.call (.ref f) args) R s:=by
 obtain⟨FG,BG,st,lv⟩:=groundX (R:=R) B F N hA hf hke;refine ks_codeAny_call_defAt (fd:=fnX name qual params body scope cl dV kV doc pm an cdv ct) (body:=body) (binds:=binds) ADY ho hd (AAo.keeps F.keep) hcd rfl ADZ ACU ABX (fun h₁ hns hk₁=> ?_) D7 ADa hk;exact zW (h _ s.heap.objs.size h₁ FG ⟨hns,fun b o e=> hk₁ b o (of_hideAll _ e),w5 (hideAll_size _ _)⟩
  (fun p hp=> ⟨hk₁ _ _ (N p hp).1,wt (wk (N p hp).1),hideAll_none _ (xl hp)⟩) BG st (fun p hp=> wk (N p hp).1)) (fun fl s' hl=> lv _ _ hl) fun _ _ y=> y
inductive gR(G:Gx)(a:Nat)(qual:vz)(scope:xC)(body:List Stmt)(cdv:R5)(cl:List (vz×Addr))(W:Wd)(s:vy)(vs:List R5)(kv:List (vz×R5))(loc:List (N×AV)):Prop
 |mk (name:_) (params:_) (dV:_) (kV:_) (doc:_) (pm:_) (ct:_) (oc:_) (an:_) (od:_) (osl:_) (binds:_) (h1:s.heap.get? a=some ⟨oc,od,.func (fnX name qual params body scope cl dV kV doc pm an cdv ct),osl⟩) (h2:BindsTo s (fnX name qual params body scope cl dV kV doc pm an cdv ct) ⟨vs,kv⟩ binds)
   (h3:∀y∈binds,scope.names.lookup y.1=some .local) (h4:Ct G.B W loc fun y=> binds.reverse.lookup y)
theorem FnShape.binds{a:Nat}{fn:Fn}{qual:vz}{scope:xC}{body:List Stmt}{cdv:R5}{cl:List (vz×Addr)}(S:FnShape G a fn qual scope body cdv cl){W:Wd}{s:vy}(X:G.K.In s.heap)
 {as:List AV} {vs:List R5} {ks:List (N×AV)} {kv:List (vz×R5)} (R0:AQ G.B W as vs) (K0:DM G.B W ks kv) {loc:List (N×AV)} (he:EW fn as ks=some loc):
 gR G a qual scope body cdv cl W s vs kv loc:=by
 refine cps fun P1_ k1_=> ?_;obtain⟨as',hn,hle,hb⟩:=PD he;obtain⟨us,hkw,R1⟩:=gP R0 K0 hn;obtain⟨name,params,dV,kV,doc,pm,ct,oc,an,od,osl,dv,ho,p1,p2,p3,p4,p5,hdv,D,e1,hdl⟩:=S.ex;refine k1_ ?_;have hlen:=Ud hb;have hl1:=R1.length;have hl0:=R0.length;have hl2:=gQ hn;have hd:dv.length=fn.Ay.length:=by have:=(D W).length;simpa using this.symm
 refine⟨name,params,dV,kV,doc,pm,ct,oc,an,od,osl,(fn.ps.map nm).filterMap fun n=> ((slotsOf (fn.ps.map nm) us dv).lookup n).map (n,·),X _ _ ho,fun mm A' E' Q' hq=> ?_,fun y hy=> ?_,gN S.nd R1 (D W) e1 hb⟩
 . refine gL (ps:=fn.ps.map nm) (dv:=dv) hkw S.nd p1 p2 p3 p4 p5 (fun Q'' h''=> ?_) (by rw [wo];lia) (by simpa using hdl) ?_ hq
   . show wpAny mm A' (seqItems? dV) Q'' E' s;rcases hdv with⟨rfl,rfl⟩ |⟨T,k,rfl,hT⟩
     . exact fun _ _ _=> h'' none rfl
     . exact wpAny_seqItems (X _ _ hT) rfl (h'' _ (by simp))
   . rw [List.filter_eq_nil_iff];intro n hn;rw [wo]at hn;rw [gO (by lia) hn];simp
 . refine cps fun P2_ k2_=> ?_;obtain⟨n,hn,e⟩:=zE.mp hy;obtain⟨v,_,rfl⟩:=wK.mp e;obtain⟨p,hp,rfl⟩:=wu.mp hn;refine k2_ ?_;exact S.loc p hp
theorem Ug{d a:Nat}{fn:Fn}{qual:vz}{scope:xC}{body:List Stmt}{cdv:R5}{cl:List (vz×Addr)}(S:FnShape G a fn qual scope body cdv cl)(O:AN G f)(HA:EG f (d+1) A)(I:Inv G f W l hp M ow m s)
 {as:List AV} {vs:List R5} {ks:List (N×AV)} {kv:List (vz×R5)} (R0:AQ G.B W as vs) (K0:DM G.B W ks kv) {loc:List (N×AV)} (he:EW fn as ks=some loc) {r:Out Flow} {X':Fx->XP} {R:Result->vy->Prop}
 (run:∀f' m' s',f'.A₀=A->f'.cs=scope->f'.outer=f.env::f.outer->f'.cl=cl->f'.ca=a->f'.cd=cdv->AN G f'->Bc f' d (A.deeper f'.env)->Inv G f' W loc hp M ow m' s'->PySem.wpAt (mo G) (A.deeper f'.env) (.func body f'.env) (execs body f'.env) (Gq G f' W r) (Aw (X' f') W r) s')
 (ret:∀v s',I0 G f W l m (Dw r) v s'->R (.ok (.ret v)) s')
 (exc:∀f' e s',f'.outer=f.env::f.outer->f'.A₀=A->Fr f.g f.L f'.g m->AN G f'->Aw (X' f') W r e s'->wpAny (mo G) (A.deeper f'.env) (leaving f'.env e) (fun _ s''=> R (.error e) s'') (fun e' s''=> R (.error e') s'') s'):
 codeAny (mo G) A (.call (.ref a) ⟨vs,kv⟩) R s:=by
 have X:=I.X O;obtain⟨name,params,dV,kV,doc,pm,ct,oc,an,od,osl,binds,ho,hb,ABX,hL⟩:=S.binds X R0 K0 he;refine Ue O.below I.fr I.nw O.T.nolimit HA.fr rfl O.fn ho rfl (codeRec_of X S.code) (zC (wC (xK _ _) (xK _ _)) HA.dp) hb ABX ?_ S.cell S.co S.gen S.kind
 . intro g L' h₁ Fg F1 N1 Bg st _;let f':Fx:=⟨qual,scope,L',a,cdv,g,f.env::f.outer,A,cl⟩;have O':AN G f':=⟨Bg,O.X.keeps st,O.T.keeps st,S.kind⟩;have I':Inv G f' W loc hp M ow _ {s with heap:=h₁,toks:=s.toks+binds.length}:=⟨F1,N1,I.hi,hL,I.gn,I.os⟩;refine zW (run f' _ _ rfl rfl rfl rfl rfl rfl O' (HA.deep rfl) I') (fun fl s' h=> ?_) fun e s' h=> exc f' e s' rfl rfl Fg O' h;obtain⟨c,σ,W',M',ow',m',h1,h2,h3,h4⟩:=h;refine⟨L',m',M'++W'.fz,h3.fr,h3.nw,fun F2 N2=> ret _ s' ?_⟩;have I2:Inv G f W' l σ.hp M' ow' m s':=⟨F2,N2,h3.hi,I.lr.mono h2,h3.gn,h3.os⟩;subst h1;cases c with
   |ret b=>
    cases fl<;>first |exact h4.elim |skip
    exact⟨b,_,W',M',ow',rfl,h2,I2,h4⟩
   |next=> cases fl<;>first |exact h4.elim |exact⟨.none,_,W',M',ow',rfl,h2,I2,rfl⟩
   |brk=> cases fl<;>first |exact h4.elim |exact⟨.none,_,W',M',ow',rfl,h2,I2,rfl⟩
   |cont=> cases fl<;>first |exact h4.elim |exact⟨.none,_,W',M',ow',rfl,h2,I2,rfl⟩
end
end
section
variable{G:Gx}{f:Fx}{A:v7}{X:XP}{P:Prog}
def GA(G:Gx)(f:Fx)(A:v7)(X:XP)(t:Expr)(ev:AV->St->Out Unit):Prop:=
 ∀a u W l hp M ow m s Z,ev a ⟨l,hp⟩=Z->Inv G f W l hp M ow m s->AG G.B W a u->Z≠ .bad->Oj G f A X W (assign t f.env u) Z s
theorem Uh{x:N}{pos:Pos}(hk:f.cs.kind= .function)(hl:f.cs.names.lookup (nm x)=some .local):GA G f A X (.Name (nm x) pos) fun v s=>.ok () ⟨put x v s.loc,s.hp⟩:=
 fun a u W l hp M ow m s Z eR I hu _=> zH (FL hk hl I hu fun m' s' I'=> I'.U eR W.le_rfl)
theorem Ui(C:CH G P)(S:Ef G P)(O:AN G f){e:Expr}{n:N}{pos:Pos}{ev:St->Out AV}(he:AP G f A X (eval e f.env) ev):
 GA G f A X (.Attribute e (nm n) pos) fun v s=> (ev s).bind fun o s=> AO (setAt P s.hp o n v) fun h=>.ok () ⟨s.loc,h⟩:=fun a u W l hp M ow m s Z eR I hu ne=> by
 refine v5 (wJ (Am eR W.le_rfl (fun q=> he W l hp M ow m s _ rfl I q) ne fun o σ V L ow m v s' eR h1 h2 I hv ne=> ?_));obtain⟨h',h3,eR⟩:=Az eR ne;exact v5 (wa (v5 (wJ (UU C S O I hv (hu.mono h2) h3 fun M' s' I'=> x8 (I'.U eR h1)))))
set_option backward.match.sparseCases true in
theorem gS(e i:Expr)(pos:Pos)(env:Env)(u:R5):assign (.Subscript e i pos) env u=(do let ov<-holding [u] (eval e env);let iv<-holding [u,ov] (eval i env);standAt pos;holding [u,ov,iv] (setItem ov iv u);release (match i with | .Slice _ _ none _=>[iv,u,ov] |_=>[u,ov,iv]) []):=rfl
theorem gT(O:AN G f){e i:Expr}{pos:Pos}{ev ei:St->Out AV}(he:AP G f A X (eval e f.env) ev)(hi:AP G f A X (eval i f.env) ei):
 GA G f A X (.Subscript e i pos) fun v s=> (ev s).bind fun o s=> (ei s).bind fun k s=> AO (HT s.hp o k v) fun h=>.ok () ⟨s.loc,h⟩:=fun a u W l hp M ow m s Z eR I hu ne=> by
 rw [gS];refine v5 (wJ (Am eR W.le_rfl (fun q=> he W l hp M ow m s _ rfl I q) ne fun o σ V L ow m v s' eR h1 h2 I hv ne=> ?_));refine v5 (wJ (Am eR h1 (fun q=> hi V _ _ L ow m s' _ rfl I q) ne fun k σ' V' L ow m w s' eR h1 h2' I hw ne=> ?_));obtain⟨h',h3,eR⟩:=Az eR ne;exact v5 (wa (v5 (wJ (UT O I (hv.mono h2') hw (hu.mono (h2.trans h2')) h3 fun M' s' I'=> x8 (I'.U eR h1)))))
theorem Gw{e:Expr}{t:Option Expr}{n:Nat}{env:Env}(h:EY e=true):swapsWith e t n env=pure false:=by cases e<;>first |rfl |cases h
theorem gU{e:Expr}{pos:Pos}{ev:St->Out AV}(hc:EY e=true)(hi:interactive f.env=false)(he:AP G f A X (eval e f.env) ev):
 Av G f A X (exec (.Expr e pos) f.env) fun s=> (ev s).bind fun _ s=>.ok .next s:=fun W l hp M ow m s Z eR I ne=> by
 refine wpAny_Expr_any (Am eR W.le_rfl (fun q=> he W l hp M ow m s _ rfl I q) ne fun o σ V L ow m v s' eR h1 h2 I hv ne=> ?_) hi (Gw hc);exact(I.F eR h1 trivial)
theorem gV{pos:Pos}:Av G f A X (exec (.Return none pos) f.env) fun s=>.ok (.ret .none) s:=fun W l hp M ow m s Z eR I ne=>
 wpAny_Return_none (I.F eR W.le_rfl rfl)
theorem Uj{e:Expr}{pos:Pos}{ev:St->Out AV}(he:AP G f A X (eval e f.env) ev):
 Av G f A X (exec (.Return (some e) pos) f.env) fun s=> (ev s).bind fun v s=>.ok (.ret v) s:=fun W l hp M ow m s Z eR I ne=> by
 refine wpAny_Return_some (Am eR W.le_rfl (fun q=> he W l hp M ow m s _ rfl I q) ne fun o σ V L ow m v s' eR h1 h2 I hv ne=> ?_);exact(I.F eR h1 hv)
theorem gW{t:Expr}{b o:List Stmt}{pos:Pos}{et:St->Out Bool}{eb eo:St->Out Flow}(ht:Bl G f A X (isTrue t f.env (eval t f.env)) et)(hb:Av G f A X (execs b f.env) eb)(ho:Av G f A X (execs o f.env) eo):
 Av G f A X (exec (.If t b o pos) f.env) fun s=> (et s).bind fun c s=> if c=true then eb s else eo s:=fun W l hp M ow m s Z eR I ne=> by
 refine wpAny_If (Hg eR W.le_rfl (fun q=> ht W l hp M ow m s _ rfl I q) ne fun c σ V L ow m s' eR h1 h2 I ne=> ?_);cases c with
 |true=> exact J7 h1 (hb V _ _ _ _ _ _ _ eR I ne)
 |false=> exact J7 h1 (ho V _ _ _ _ _ _ _ eR I ne)
theorem pass_S{pos:Pos}:Av G f A X (exec (.Pass pos) f.env) fun s=>.ok .next s:=fun W l hp M ow m s Z eR I ne=> wpAny_Pass (I.F eR W.le_rfl trivial)
theorem gX{pos:Pos}:Av G f A X (exec (.Break pos) f.env) fun s=>.ok .brk s:=fun W l hp M ow m s Z eR I ne=> wpAny_Break (I.F eR W.le_rfl trivial)
theorem gY{pos:Pos}:Av G f A X (exec (.Continue pos) f.env) fun s=>.ok .cont s:=fun W l hp M ow m s Z eR I ne=> wpAny_Continue (I.F eR W.le_rfl trivial)
theorem MN:Av G f A X (execs [] f.env) fun s=>.ok .next s:=fun W l hp M ow m s Z eR I ne=> xV (I.F eR W.le_rfl trivial)
theorem Uk{st:Stmt}{rest:List Stmt}{es er:St->Out Flow}(hs:Av G f A X (exec st f.env) es)(hr:Av G f A X (execs rest f.env) er):
 Av G f A X (execs (st::rest) f.env) fun s=> (es s).bind fun f s=> match f with
  | .next=> er s
  | .brk=>.ok .brk s
  | .cont=>.ok .cont s
  | .ret v=>.ok (.ret v) s:=fun W l hp M ow m s Z eR I ne=> by
 refine zI (L9 eR W.le_rfl (fun q=> hs W l hp M ow m s _ rfl I q) ne fun a σ V L ow m v s' eR h1 h2 I hv ne=> ?_);cases a<;>cases v<;>first |exact hv.elim |skip
 . exact J7 h1 (hr V _ _ _ _ _ _ _ eR I ne)
 . exact(I.F eR h1 trivial)
 . exact(I.F eR h1 trivial)
 . exact(I.F eR h1 hv)
end
section
variable{G:Gx}{f:Fx}{A:v7}{X:XP}{P:Prog}
theorem PF{t v:Expr}{env:Env}(h:Dx t=true):swappedStores [t] v env=pure none:=by cases t<;>first |rfl |cases h
theorem Ul{t:Expr}{env:Env}(h:Dx t=true):(assignEach [t] env).map (·.2)=[assign t env]:=by cases t<;>first |rfl |cases h
theorem KH{t v:Expr}{pos:Pos}{ev:St->Out AV}{ea:AV->St->Out Unit}(ht:Dx t=true)(hc:EY v=true)(hv:AP G f A X (eval v f.env) ev)(ha:GA G f A X t ea):
 Av G f A X (exec (.Assign [t] v pos) f.env) fun s=> (ev s).bind fun v s=> (ea v s).bind fun _ s=>.ok .next s:=fun W l hp M ow m s Z eR I ne=> by
 refine zA (Am eR W.le_rfl (fun q=> hv W l hp M ow m s _ rfl I q) ne fun a σ V L ow m u s' eR h1 h2 I hu ne=> ?_) (Gw hc) (PF ht);rw [Ul ht];show wpAny (mo G) A (assign t f.env u) _ _ _;refine Om eR h1 (fun q=> ha a u V _ _ L ow m s' _ rfl I hu q) ne fun σ' V' L ow m s' eR h1 h2 I ne=> ?_;exact(I.F eR h1 trivial)
theorem gZ{x:N}{op:BOp}{ACW pos:Pos}{e:Expr}{ev:St->Out AV}(O:AN G f)(hl:f.cs.names.lookup (nm x)=some .local)(he:AP G f A X (eval e f.env) ev):
 Av G f A X (exec (.AugAssign (.Name (nm x) ACW) (Fv op) e pos) f.env) fun s=> AO (look x s.loc) fun old=> (ev s).bind fun v s=> AO (DC s.hp op old v) fun r=>.ok .next ⟨put x r.1 s.loc,r.2⟩:=fun W l hp M ow m s Z eR I ne=> by
 obtain⟨a,h1,eR⟩:=Az eR ne;obtain⟨u,h3,h4⟩:=I.lr x a h1;refine wpAny_AugAssign_Name (wpAny_loadName_local O.fn hl I.fr.ns h3 ?_);refine Am eR W.le_rfl (fun q=> he W l hp M ow m s _ rfl I q) ne fun b σ V L ow m v s' eR h1 h2 I hv ne=> ?_;obtain⟨⟨c,hp'⟩,h5,eR⟩:=Az eR ne;exact O8 O I (h4.mono h2) hv h5 fun M' r s' I' hr=> FL O.fn hl I' hr fun m' s'' I''=> (I''.F eR h1 trivial)
theorem gb(C:CH G P)(S:Ef G P)(O:AN G f){n:N}{op:BOp}{AAu pos:Pos}{o e:Expr}{eo ev:St->Out AV}(ho:AP G f A X (eval o f.env) eo)(he:AP G f A X (eval e f.env) ev):
 Av G f A X (exec (.AugAssign (.Attribute o (nm n) AAu) (Fv op) e pos) f.env) fun s=> (eo s).bind fun ov s=> AO (E5 P s.hp ov n) fun old=> (ev s).bind fun v s=>
  AO (DC s.hp op old v) fun r=> AO (setAt P r.2 ov n r.1) fun h=>.ok .next ⟨s.loc,h⟩:=fun W l hp M ow m s Z eR I ne=> by
 refine wpAny_AugAssign_AttributeAny (Am eR W.le_rfl (fun q=> ho W l hp M ow m s _ rfl I q) ne fun ov σ V L ow m u s' eR h1 h2 I hu ne=> ?_);obtain⟨old,h3,eR⟩:=Az eR ne;refine Oq C O I hu h3 fun w s' hw I=> ?_;refine Am eR h1 (fun q=> he V _ _ L ow m s' _ rfl I q) ne fun b σ' V' L ow m v s' eR h1 h2' I hv ne=> ?_;obtain⟨⟨c,hp'⟩,h5,eR⟩:=Az eR ne;obtain⟨ADb,h7,eR⟩:=Az eR ne;exact O8 O I (hw.mono h2') hv h5 fun M' r s' I' hr=> UU C S O I' (hu.mono h2') hr h7 fun M'' s'' I''=> (I''.F eR h1 trivial)
theorem gc{i:Expr}(h:HU i=true)(ov iv new:R5):augStore i ov iv new=(do holding [new,ov,iv] (setItem ov iv new);release [new,ov,iv] [];pure .next):=by cases i<;>first |rfl |cases h
theorem gf(O:AN G f){op:BOp}{AAu pos:Pos}{o i e:Expr}{eo ei ev:St->Out AV}(hn:HU i=true)(ho:AP G f A X (eval o f.env) eo)(hi:AP G f A X (eval i f.env) ei)(he:AP G f A X (eval e f.env) ev):
 Av G f A X (exec (.AugAssign (.Subscript o i AAu) (Fv op) e pos) f.env) fun s=> (eo s).bind fun ov s=> (ei s).bind fun k s=> AO (Cr s.hp ov k) fun old=> (ev s).bind fun v s=>
  AO (DC s.hp op old v) fun r=> AO (HT r.2 ov k r.1) fun h=>.ok .next ⟨s.loc,h⟩:=fun W l hp M ow m s Z eR I ne=> by
 refine wpAny_AugAssign_SubscriptAny (Am eR W.le_rfl (fun q=> ho W l hp M ow m s _ rfl I q) ne fun ov σ V L ow m u s' eR h1 h2 I hu ne=> ?_) (gc hn);refine Am eR h1 (fun q=> hi V _ _ L ow m s' _ rfl I q) ne fun k σ' V' L ow m uk s' eR h1 h2' I hk ne=> ?_;obtain⟨old,h3,eR⟩:=Az eR ne;refine(O3 O I (hu.mono h2') hk h3 fun w s' I hw=> ?_).2;refine Am eR h1 (fun q=> he V' _ _ L ow m s' _ rfl I q) ne fun b σ'' V'' L ow m v s' eR h1 ABL I hv ne=> ?_;obtain⟨⟨c,hp'⟩,h5,eR⟩:=Az eR ne;obtain⟨ADb,h7,eR⟩:=Az eR ne;exact O8 O I (hw.mono ABL) hv h5 fun M' r s' I' hr=> UT O I' (hu.mono (h2'.trans ABL)) (hk.mono ABL) hr h7 fun M'' s'' I''=> (I''.F eR h1 trivial)
theorem gg(O:AN G f){e i:Expr}{AB6 pos:Pos}{ee ei:St->Out AV}(he:AP G f A X (eval e f.env) ee)(hi:AP G f A X (eval i f.env) ei):
 Av G f A X (exec (.Delete [.Subscript e i AB6] pos) f.env) fun s=> (ee s).bind fun o s=> (ei s).bind fun k s=> AO (LB s.hp o k) fun h=>.ok .next ⟨s.loc,h⟩:=fun W l hp M ow m s Z eR I ne=> by
 show wpAny _ _ (do standAt pos;deleteEach [.Subscript e i AB6] f.env;pure PySem.Flow.next:Sem wx) _ _ _;refine v5 (wa (v5 ?_));show wpAny _ _ (do(do let ov<-eval e f.env;let iv<-holding [ov] (eval i f.env);standAt AB6;holding [ov,iv] (delItem ov iv);release [ov,iv] []);deleteEach [] f.env) _ _ _;refine v5 (v5 (Am eR W.le_rfl (fun q=> he W l hp M ow m s _ rfl I q) ne fun ov σ V L ow m u s' eR h1 h2 I hu ne=> ?_));refine v5 (wJ (Am eR h1 (fun q=> hi V _ _ L ow m s' _ rfl I q) ne fun k σ' V' L ow m uk s' eR h1 h2' I hk ne=> ?_));obtain⟨hp',h3,eR⟩:=Az eR ne;exact v5 (wa (v5 (wJ (fL O I (hu.mono h2') hk h3 fun M' s' I'=> x8 (v8 (v8 (I'.F eR h1 trivial)))))))
def Gy(G:Gx)(f:Fx)(A:v7)(X:XP):Prop:=∀(W:Wd) (r:Out Flow) e s,Aw X W r e s->notedBy (mo G) A f.env (fun e s'=> cameBackBy (mo G) A f.env (Aw X W r) e s') e s
theorem gh{t:Expr}{b:List Stmt}{pos:Pos}{et:St->Out Bool}{eb:St->Out Flow}(fu:Nat)(hX:Gy G f A X)(ht:Bl G f A X (isTrue t f.env (eval t f.env)) et)(hb:Av G f A X (execs b f.env) eb):
 Av G f A X (exec (.While t b [] pos) f.env) fun s=> Bb et eb fu s:=fun W l hp M ow m s Z eR I ne=> by
 refine wpAny_While (codeAny_whileLoop (fun n s=> ∃V l hp M ow m,W.le V/\Inv G f V l hp M ow m s/\Bb et eb n ⟨l,hp⟩=Z) (fun n s hI=> ?_) fu ⟨W,l,hp,M,ow,m,W.le_rfl,I,eR⟩);clear I eR;obtain⟨V,l,hp,M,ow,m,hV,I,eR⟩:=hI;cases n with
 |zero=> exact absurd eR.symm ne
 |succ n=>
  refine wL (Hg eR hV (fun q=> ht V l hp M ow m s _ rfl I q) ne fun c σ V' L ow m s' eR h1 h2 I ne=> ?_) (fun _ _ x=> x) (fun e s' he=> hX _ _ _ _ he);cases c with
  |true=>
   refine wL (L9 eR h1 (fun q=> hb V' _ _ L ow m s' _ rfl I q) ne fun a σ' V'' L ow m v s' eR h1 h2 I hv ne=> ?_) (fun _ _ x=> x) (fun e s' he=> hX _ _ _ _ he);cases a<;>cases v<;>first |exact hv.elim |skip
   . exact⟨n,yN _,V'',_,_,_,_,_,h1,I,eR⟩
   . exact I.F eR h1 trivial
   . exact⟨n,yN _,V'',_,_,_,_,_,h1,I,eR⟩
   . exact I.F eR h1 hv
  |false=> exact xV (I.F eR h1 trivial)
end
section
variable{G:Gx}{f:Fx}{A:v7}{X:XP}{P:Prog}
theorem Um{B:Heap}{W V:Wd}(hr:V.r=W.r)(hn:V.lv=W.lv)(h:∀a o,DH o->Kn B W a o->Kn B V a o):Wd.To B W V W.lv:=⟨h,fun i l=> ⟨by rw [hr],by rw [hn];exact l⟩⟩
theorem AG.conv{B:Heap}{W V:Wd}(hr:V.r=W.r)(hn:V.lv=W.lv)(h:∀a o,DH o->Kn B W a o->Kn B V a o){x:AV}{v:R5}(r:AG B W x v):AG B V x v:=r.gen (Um hr hn h) r.lt'
def Wd.drop(W:Wd)(I:Addr):Wd:=⟨W.r,W.lv,W.fz.filter fun p=> !(p.1==I)⟩
theorem PG{W:Wd}{I:Addr}{p:Addr×Obj}(h:p∈W.fz)(ne:p.1≠I):p∈(W.drop I).fz:=yl.mpr ⟨h,by simpa using ne⟩
theorem KI{W:Wd}{I:Addr}{p:Addr×Obj}(h:p∈(W.drop I).fz):p∈W.fz/\p.1≠I:=by obtain⟨a,b⟩:=yl.mp h;exact⟨a,by simpa using b⟩
theorem Wd.Hn{U W:Wd}{I:Addr}(h:U.le W)(n:∀p∈U.fz,p.1≠I):U.le (W.drop I):=⟨h.lv,h.r,fun p hp=> PG (h.fz p hp) (n p hp)⟩
section
variable{W:Wd}{l:List (N×AV)}{hp:Hp}{M:Led}{ow:Addr->Nat}{m:vz->Option R5}{s:vy}
theorem Inv.PH(I:Inv G f W l hp M ow m s){D:Addr}{o:Obj}(hD:(D,o)∈W.fz)(nd:¬DH o)(a:Addr)(o':Obj)(hd:DH o')(k:Kn G.B W a o'):Kn G.B (W.drop D) a o':=by
 rcases k with k |k
 . refine .inl (PG k fun e=> ?_);have g1:=(I.nw _ (wH _ hD)).1;have g2:=(I.nw _ (wH _ k)).1;dsimp only at g1 g2;rw [show a=D from e,g1]at g2;cases g2;exact nd hd
 . exact .inr k
theorem Inv.MP(I:Inv G f W l hp M ow m s){D:Addr}{o:Obj}(hD:(D,o)∈W.fz)(nd:¬DH o):Inv G f (W.drop D) l hp M ow m s:=by
 have c:=I.PH hD nd;refine⟨I.fr,News.sub I.nw fun p hp=> ?_,⟨I.hi.n,I.hi.nd,fun p hp q hq=> I.hi.dj p (KI hp).1 q hq,fun j hj=> ?_⟩,fun x a e=> ?_,I.gn,I.os⟩
 . rcases wV.mp hp with h |h
   . exact wO _ h
   . exact wH _ (KI h).1
 . have r:=I.hi.cell j hj;exact r.gen (Um (W:=W) (V:=W.drop D) rfl rfl c) rfl (fun p hp h=> ⟨hp,h⟩) r.lt'
 . obtain⟨v,h1,h2⟩:=I.lr x a e;exact⟨v,h1,h2.conv (W:=W) (V:=W.drop D) rfl rfl c⟩
theorem PI(I:Inv G f W l hp M ow m s){D:Addr}{o:Obj}(hD:(D,o)∈W.fz):∀p∈M++(W.drop D).fz,p.1≠D:=fun p hp=> by
 rcases wV.mp hp with h |h
 . exact fun e=> I.hi.dj _ hD p h e.symm
 . exact(KI h).2
theorem Inv.Un(I:Inv G f W l hp M ow m s){D:Addr}{o o':Obj}{h':Heap}{tk:Nat}(hD:(D,o)∈W.fz)(nd:¬DH o)(hs:AAB D s.heap h')(ho:h'.get? D=some o'):
 Inv G f ((W.drop D).Bw [(D,o')]) l hp M ow m ⟨h',s.gens,s.drawn,tk,s.os⟩:=by
 have J:=I.MP hD nd;have z:=I.nw _ (wH _ hD);have ne:=PI I hD;have F':Fr f.g f.L h' m:=I.fr.change hs z.2.1 z.2.2;refine⟨F',fun p hp=> ?_,J.hi.Bw fun p hp q hq=> ?_,J.lr.mono (Wd.CN _ _),I.gn,I.os⟩
 . have old:∀p∈M++(W.drop D).fz,h'.get? p.1=some p.2/\p.1≠f.L/\f.g.get? p.1=none:=fun p hp=> ⟨(hs.2 p.1 (ne p hp)).trans (J.nw p hp).1,(J.nw p hp).2⟩;rcases wV.mp hp with h |h
   . exact old p (wO _ h)
   . rcases wV.mp h with h |h
     . rcases wM.mp h with rfl |h
       . exact⟨ho,z.2⟩
       . cases h
     . exact old p (wH _ h)
 . rcases wM.mp hp with rfl |hp
   . exact fun e=> ne q (wO _ hq) e.symm
   . cases hp
theorem Inv.PJ(I:Inv G f W l hp M ow m s){D:Addr}{o:Obj}{h':Heap}{tk:Nat}(hD:(D,o)∈W.fz)(nd:¬DH o)(hs:Heap.ExtBut D s.heap h'):
 Inv G f (W.drop D) l hp M ow m ⟨h',s.gens,s.drawn,tk,s.os⟩:=by
 refine cps fun P1_ k1_=> ?_;have J:=I.MP hD nd;have z:=I.nw _ (wH _ hD);have ne:=PI I hD;obtain⟨oL,es,ep,hL,r⟩:=I.fr.ns;refine k1_ ?_;refine⟨⟨⟨oL,es,ep,hs f.L oL (fun e=> z.2.1 e.symm) hL,r⟩,fun b x q=> hs b x (fun e=> ?_) (I.fr.keep b x q),I.fr.above⟩,fun p hp=> ⟨hs p.1 p.2 (ne p hp) (J.nw p hp).1,(J.nw p hp).2⟩,J.hi,J.lr,I.gn,I.os⟩;have:=z.2.2;dsimp only at this;rw [<-e,q]at this;cases this
end
end
section
variable{G:Gx}{f:Fx}{A:v7}{X:XP}{P:Prog}
theorem gi{β:Type}{U W:Wd}{s:vy}{t:Sem Unit}{r:Out Unit}{k:Unit->St->Out β}{Z:Out β}{C:Unit->vy->Prop}(eR:r.bind k=Z)(hU:U.le W)(h:r≠ .bad->Oj G f A X W t r s)(ne:Z≠ .bad)
 (next:∀σ V L ow m s',r= .ok () σ->k () σ=Z->U.le V->W.le V->Inv G f V σ.loc σ.hp L ow m s'->C () s'):
 wpAny (mo G) A t C (Aw X U Z) s:=
 wL (h (Bm (eR▸ne))) (fun v s' ⟨σ,V,L,ow,m,h1,h2,h3⟩=> next σ V L ow m s' h1 ((Bp h1).symm.trans eR) (hU.trans h2) h2 h3) fun _ _ x=> EH eR hU x
theorem gj{β:Type}{U W:Wd}{s:vy}{t:Sem wx}{r:Out Flow}{k:Flow->St->Out β}{Z:Out β}{C:wx->vy->Prop}(eR:r.bind k=Z)(hU:U.le W)(h:r≠ .bad->He G f A X W t r s)(ne:Z≠ .bad)
 (next:∀a σ V L ow m v s',r= .ok a σ->k a σ=Z->U.le V->W.le V->Inv G f V σ.loc σ.hp L ow m s'->L8 G.B V a v->C v s'):
 wpAny (mo G) A t C (Aw X U Z) s:=
 wL (h (Bm (eR▸ne))) (fun v s' ⟨a,σ,V,L,ow,m,h1,h2,h3,h4⟩=> next a σ V L ow m v s' h1 ((Bp h1).symm.trans eR) (hU.trans h2) h2 h3 h4) fun _ _ x=> EH eR hU x
structure I6(G:Gx)(f:Fx)(A:v7)(W₀:Wd)(D:Addr)(xs:List AV)(OK:Nat->Obj->Prop)(Hy:Hp->Prop)(t:Expr):Prop where
 nd:∀i o,OK i o->¬DH o
 apart:∀p∈W₀.fz,p.1≠D
 item:∀i a W l hp M ow m s o (Q:Option R5->vy->Prop) (E:R5->vy->Prop),xs[i]? =some a->Inv G f W l hp M ow m s->W₀.le W->(D,o)∈W.fz->OK i o->Hy hp->
  (∀h' tk v o',AAB D s.heap h'->h'.get? D=some o'->OK (i+1) o'->AG G.B (W.drop D) a v->Q (some v) ⟨h',s.gens,s.drawn,tk,s.os⟩)->wpAny (mo G) A (pyNext (.ref D)) Q E s
 fin:∀i W l hp M ow m s o (Q:Option R5->vy->Prop) (E:R5->vy->Prop),xs[i]? =none->Inv G f W l hp M ow m s->W₀.le W->(D,o)∈W.fz->OK i o->Hy hp->
  (∀h' tk,Heap.ExtBut D s.heap h'->Q none ⟨h',s.gens,s.drawn,tk,s.os⟩)->wpAny (mo G) A (pyNext (.ref D)) Q E s
 go:∀v i o (s:vy) (Q:Unit->vy->Prop) (E:R5->vy->Prop),s.heap.get? D=some o->OK i o->Q () s->wpAny (mo G) A (letOwnedTupleGo t (.ref D) v) Q E s
inductive Uo(G:Gx)(f:Fx)(A:v7)(W:Wd)(t:Expr)(Pu:Prop)(r:Out (List AV))(it:R5)(s:vy):Prop
 |mk (xs:_) (σ:_) (W₀:_) (V:_) (M:_) (ow:_) (m:_) (D:_) (o:_) (OK:_) (Hy:_) (h0_:r= .ok xs σ) (h1_:W.le W₀) (h2_:W₀.le V) (h3_:Inv G f V σ.loc σ.hp M ow m s) (h4_:it= .ref D) (h5_:(D,o)∈V.fz) (h6_:OK 0 o) (h7_:Hy σ.hp) (h8_:I6 G f A W₀ D xs OK Hy t) (h9_:(Pu∨∀h,Hy h))
def PK(G:Gx)(f:Fx)(A:v7)(X:XP)(t e:Expr)(Pu:Prop)(ev:St->Out (List AV)):Prop:=
 ∀W l hp M ow m s Z,ev ⟨l,hp⟩=Z->Inv G f W l hp M ow m s->Z≠ .bad->
  wpAny (mo G) A (eval e f.env) (fun x s₁=> wpAny (mo G) A (pyIter x) (fun it s₂=> Uo G f A W t Pu Z it s₂) (Aw X W Z) s₁) (Aw X W Z) s
def Up{α:Type}(ev:St->Out α):Prop:=∀s a s',ev s= .ok a s'->s'.hp=s.hp
theorem PL{e:Expr}{env:Env}(h:Jl e=true)(x:R5):foldedSetIterable e env x=pure x:=by cases e<;>first |rfl |cases h
inductive Uq(G:Gx)(f:Fx)(W₀:Wd)(D:Addr)(OK:Nat->Obj->Prop)(Hy:Hp->Prop)(xs:List AV)(ev:List AV->St->Out Flow)(Z:Out Flow)(n:Nat)(s:vy):Prop
 |mk (i:_) (V:_) (l:_) (hp:_) (M:_) (ow:_) (m:_) (o:_) (h0_:n=xs.length+1 - i) (h1_:i<=xs.length) (h2_:W₀.le V) (h3_:Inv G f V l hp M ow m s) (h4_:(D,o)∈V.fz) (h5_:OK i o) (h6_:Hy hp) (h7_:ev (xs.drop i) ⟨l,hp⟩=Z)
theorem dec_lt{a j n:Nat}(hn:n=a+1 - j)(h:j<a):a+1 - (j+1)<n:=hn▸Nat.sub_succ_lt_self (a+1) j (xI h)
theorem Ur{t e:Expr}{b:List Stmt}{pos:Pos}{Pu:Prop}{es:St->Out (List AV)}{ea:AV->St->Out Unit}{eb:St->Out Flow}(hX:Gy G f A X)(hn:Jl e=true)(hs:PK G f A X t e Pu es)(ha:GA G f A X t ea)(hb:Av G f A X (execs b f.env) eb)
 (ka:Pu->∀a,Up (ea a)) (kb:Pu->Up eb):
 Av G f A X (exec (.For t e b [] pos) f.env) fun s=> (es s).bind fun xs s=> Bf ea eb xs s:=fun W l hp M ow m s Z eR I ne=> by
 refine wpAny_For (wL (hs W l hp M ow m s _ rfl I (Bm (eR▸ne))) (fun x s₁ h=> wL h (fun it s₂ h=> ?_) fun _ _ e=> EH eR W.le_rfl e) fun _ _ e=> EH eR W.le_rfl e) (PL hn);clear I;obtain⟨xs,σ,W₀,V,M,ow,m,D,o,OK,Hy,h1,h2,h3,I,rfl,h5,h6,h7,St,hPu⟩:=h;replace eR:=(Bp h1).symm.trans eR;refine zt (Uq G f W₀ D OK Hy xs (Bf ea eb) Z) (fun n s hI=> ?_) (xs.length+1) ⟨0,V,_,_,M,ow,m,o,rfl,wN _,h3,I,h5,h6,h7,eR⟩;clear eR I h7 h6 h5 h3 h1;obtain⟨i,V,l,hp,M,ow,m,o,hn,hi,hV,I,hD,hO,hH,eR⟩:=hI;cases hx:xs[i]? with
 |none=> refine St.fin i V l hp M ow m s o _ _ hx I hV hD hO hH fun h' tk hs=> ?_;rw [xa (yb.mp hx)]at eR;exact xV ((I.PJ (tk:=tk) hD (St.nd _ _ hO) hs).F eR (h2.trans (Wd.Hn hV St.apart)) trivial)
 |some a=>
  refine St.item i a V l hp M ow m s o _ _ hx I hV hD hO hH fun h' tk v o' hs ho' hO' hv=> ?_;have J:=I.Un (tk:=tk) hD (St.nd _ _ hO) hs ho';have hV':W₀.le ((V.drop D).Bw [(D,o')]):=(Wd.Hn hV St.apart).trans (Wd.CN _ _);obtain⟨hil,e1⟩:=w6.mp hx;rw [w9 hil,e1]at eR;refine St.go v _ o' _ _ _ ho' hO' (wL (gi eR (h2.trans hV') (fun q=> ha a v _ _ _ _ _ _ _ _ rfl J (hv.mono (Wd.CN _ _)) q) ne fun σ V₁ L₁ ow₁ m₁ s₁ ho eR h1 h2' I₁=> ?_) (fun _ _ x=> x) fun e s' he=> hX _ _ _ _ he);have H1:Hy σ.hp:=hPu.elim (fun p=> by rw [ka p a _ _ _ ho];exact hH) fun p=> p _;refine wL (gj eR h1 (fun q=> hb V₁ _ _ _ _ _ _ _ rfl I₁ q) ne fun c σ' V₂ L₂ ow₂ m₂ w s₂ ho₂ eR h3 h3' I₂ hw=> ?_) (fun _ _ x=> x) fun e s' he=> hX _ _ _ _ he;have H2:Hy σ'.hp:=hPu.elim (fun p=> by rw [kb p _ _ _ ho₂];exact H1) fun p=> p _;have ih:Bf ea eb (xs.drop (i+1)) σ'=Z->∃m,m<n/\Uq G f W₀ D OK Hy xs (Bf ea eb) Z m s₂:=
   fun e=> ⟨xs.length+1 - (i+1),dec_lt hn hil,i+1,V₂,σ'.loc,σ'.hp,L₂,ow₂,m₂,o',rfl,hil,hV'.trans (h2'.trans h3'),I₂,(h2'.trans h3').fz _ (wO _ (.head _)),hO',H2,e⟩
  cases c<;>cases w<;>first |exact hw.elim |skip
  . exact ih eR
  . exact I₂.F eR h3 trivial
  . exact ih eR
  . exact I₂.F eR h3 hw
end
section
variable{G:Gx}{f:Fx}{A:v7}{X:XP}{P:Prog}
theorem KJ{t:Expr}(h:Dx t=true)(it v:R5):letOwnedTupleGo t it v=pure ():=by cases t<;>first |rfl |cases h
theorem Ei{o:Obj}{n:String}(h:o.cls= .type n)(h1:n≠"tuple")(h2:n≠"list")(h3:n≠"dict"):¬DH o:=by
 intro d;rcases d with d |d |d |⟨c,d⟩<;>rw [h]at d
 . exact h1 (by injection d)
 . exact h2 (by injection d)
 . exact h3 (by injection d)
 . cases d
section
variable{W:Wd}{l:List (N×AV)}{hp:Hp}{M:Led}{ow:Addr->Nat}{m:vz->Option R5}{s:vy}
theorem Inv.PM(I:Inv G f W l hp M ow m s)(o:Obj)(hf:o.isFreed=false):
 Inv G f (W.Bw [(s.heap.objs.size,o)]) l hp M ow m {s with heap:=s.heap.push o}/\(∀p∈W.fz,p.1≠s.heap.objs.size):=
 ⟨I.freeze (I.fr.push o) (News.push I.fr I.nw o hf) fun p hp=> wk (I.nw p hp).1,fun p hp=> wt (wk (I.nw p (wH _ hp)).1)⟩
theorem gk{l₀:Addr}{xs:List AV}{W₀:Wd}{D:Addr}{Hy:Hp->Prop}{t:Expr}{d:Nat}(HA:Bc f d A)(ht:Dx t=true)(ap:∀p∈W₀.fz,p.1≠D)(hz:xs.length<=lim)
 (src:∀{W l hp M ow m s},Inv G f W l hp M ow m s->W₀.le W->Hy hp->∃vs k,s.heap.get? l₀=some (listOf vs.toArray k)/\AQ G.B W xs vs):
 I6 G f A W₀ D xs (fun i o=> o.cls= .type "list_iterator"/\o.data= .fields #[.ref l₀,.int i 0]) Hy t:=by
 refine⟨fun i o h=> Ei h.1 (by decide) (by decide) (by decide),ap,fun i a W l hp M ow m s o Q E hx I hW hD hO hH h=> ?_,fun i W l hp M ow m s o Q E hx I hW hD hO hH h=> ?_,fun v i o s Q E ho hO h=> by rw [KJ ht];exact v8 h⟩
 . obtain⟨vs,k,h1,h2⟩:=src I hW hH;obtain⟨v,h3,h4⟩:=h2.get hx;have g:=(I.nw _ (wH _ hD)).1;refine wpAny_pyNext_list_item ⟨o,g,hO.1,hO.2⟩ (EI h1) (by simpa using h3) fun h' hi hs=> ?_;obtain⟨o',ho',c1,c2⟩:=hi;exact h h' _ v o' hs ho' ⟨c1,c2⟩ (h4.conv (W:=W) (V:=W.drop D) rfl rfl (I.PH hD (Ei hO.1 (by decide) (by decide) (by decide))))
 . obtain⟨vs,k,h1,h2⟩:=src I hW hH;have g:=(I.nw _ (wH _ hD)).1;have hl:=h2.length;refine wpAny_pyNext_list_end HA.hd ⟨o,g,hO.1,hO.2⟩ (EI h1) ?_ fun h' hs=> h h' _ hs;rw [yb]at hx;simp;exact AI (wG (w5 hl.symm) hx)
theorem gm{l₀:Addr}{xs:List AV}{W₀:Wd}{D:Addr}{t:Expr}{d:Nat}(HA:Bc f d A)(ht:Dx t=true)(ap:∀p∈W₀.fz,p.1≠D)
 (src:∀{W l hp M ow m s},Inv G f W l hp M ow m s->W₀.le W->∃vs k,s.heap.get? l₀=some (F7 vs k)/\AQ G.B W xs vs):
 I6 G f A W₀ D xs (fun i o=> o.cls= .type "tuple_iterator"/\o.data= .fields #[.ref l₀,.int i 0]) (fun _=> True) t:=by
 refine⟨fun i o h=> Ei h.1 (by decide) (by decide) (by decide),ap,fun i a W l hp M ow m s o Q E hx I hW hD hO hH h=> ?_,fun i W l hp M ow m s o Q E hx I hW hD hO hH h=> ?_,fun v i o s Q E ho hO h=> by rw [KJ ht];exact v8 h⟩
 . obtain⟨vs,k,h1,h2⟩:=src I hW;obtain⟨v,h3,h4⟩:=h2.get hx;have g:=(I.nw _ (wH _ hD)).1;refine wpAny_pyNext_tuple_item ⟨o,g,hO.1,hO.2⟩ (Eh h1) (by simpa using h3) fun h' hi hs=> ?_;obtain⟨o',ho',c1,c2⟩:=hi;exact h h' _ v o' hs ho' ⟨c1,c2⟩ (h4.conv (W:=W) (V:=W.drop D) rfl rfl (I.PH hD (Ei hO.1 (by decide) (by decide) (by decide))))
 . obtain⟨vs,k,h1,h2⟩:=src I hW;have g:=(I.nw _ (wH _ hD)).1;have hl:=h2.length;refine wpAny_pyNext_tuple_end HA.hd ⟨o,g,hO.1,hO.2⟩ (Eh h1) ?_ fun h' hs=> h h' _ hs;rw [yb]at hx;simp;exact AI (wG (w5 hl.symm) hx)
end
theorem Inv.Us{W:Wd}{l:List (N×AV)}{hp:Hp}{M:Led}{ow:Addr->Nat}{m:vz->Option R5}{s:vy}{W₀:Wd}(I:Inv G f W l hp M ow m s)(O:AN G f)(h:W₀.le W){a:Addr}{o:Obj}(k:Kn G.B W₀ a o):s.heap.get? a=some o:=I.kn O (k.mono h)
theorem Inv.it{W:Wd}{l:List (N×AV)}{hp:Hp}{M:Led}{ow:Addr->Nat}{m:vz->Option R5}{s:vy}{U:Wd}{t:Expr}{Pu:Prop}{xs:List AV}{Z:Out (List AV)}{OK:Nat->Obj->Prop}{Hy:Hp->Prop}(I:Inv G f W l hp M ow m s)(o:Obj)(hf:o.isFreed=false)(eR:Out.ok xs ⟨l,hp⟩=Z)(hU:U.le W)(h0:OK 0 o)(hH:Hy hp)
 (St:(∀p∈W.fz,p.1≠s.heap.objs.size)->I6 G f A W s.heap.objs.size xs OK Hy t) (hPu:Pu∨∀h,Hy h):Uo G f A U t Pu Z (.ref s.heap.objs.size) {s with heap:=s.heap.push o}:=
 ⟨xs,_,W,_,_,_,_,_,o,OK,Hy,eR.symm,hU,W.CN _,(I.PM o hf).1,rfl,wO _ (.head _),h0,hH,St (I.PM o hf).2,hPu⟩
end
section
variable{G:Gx}{f:Fx}{A:v7}{X:XP}{P:Prog}
def PN(x left step:Int):Obj:={cls:=.type "range_iterator",dict:=none,data:=.fields #[rawInt x,rawInt left,rawInt step],slots:=#[]}
theorem gp{a b c:Int}{i:Nat}{x:AV}(h:((Ft a b c).map AV.int)[i]? =some x):i<Fs a b c/\x= .int (a+(i:Int) * c):=by unfold Ft at h;refine cps fun P1_ k1_=> ?_;rw [yp,zx]at h;obtain⟨k,h1,h2⟩:=wK.mp h;obtain⟨h3,h4⟩:=w6.mp h1;rw [List.getElem_range]at h4;subst h4;refine k1_ ?_;rw [List.length_range]at h3;exact⟨h3,h2.symm⟩
theorem gu{a b c:Int}{i:Nat}(h:((Ft a b c).map AV.int)[i]? =none):Fs a b c<=i:=by rw [yb]at h;simpa [Ft]using h
theorem gv{a b c:Int}{W₀:Wd}{D:Addr}{t:Expr}{d:Nat}(HA:Bc f d A)(ht:Dx t=true)(ap:∀p∈W₀.fz,p.1≠D):
 I6 G f A W₀ D ((Ft a b c).map .int) (fun i o=> o=PN (a+(i:Int) * c) ((Fs a b c:Int) - i) c) (fun _=> True) t:=by
 refine⟨fun i o h=> h▸Ei (n:="range_iterator") rfl (by decide) (by decide) (by decide),ap,fun i a' W l hp M ow m s o Q E hx I hW hD hO hH h=> ?_,fun i W l hp M ow m s o Q E hx I hW hD hO hH h=> ?_,fun v i o s Q E ho hO h=> by rw [KJ ht];exact v8 h⟩
 . obtain⟨h1,rfl⟩:=gp hx;have g:=(I.nw _ (wH _ hD)).1;subst hO;refine wpAny_pyNext_range_item g (by lia) fun h' hi hs=> ?_;refine h h' _ _ _ hs hi ?_ ⟨_,rfl⟩;have e1:a+(i:Int) * c+c=a+((i+1:Nat):Int) * c:=by
    rw [Int.natCast_add,Int.add_mul];simp;exact Int.add_assoc ..
   have e2:(Fs a b c:Int) - i - 1=(Fs a b c:Int) - ((i+1:Nat):Int):=by lia
   rw [e1,e2];rfl
 . have h1:=gu hx;have g:=(I.nw _ (wH _ hD)).1;subst hO;exact wpAny_pyNext_range_end HA.hd g (by lia) fun h' hs=> h h' _ hs
theorem gw{x:List Nat}{tk₀:Tok}{W₀:Wd}{D:Addr}{t:Expr}{d:Nat}(HA:Bc f d A)(ht:Dx t=true)(ap:∀p∈W₀.fz,p.1≠D)(hx0:A3 x):
 I6 G f A W₀ D (x.map fun c=>.str [c]) (fun i o=> o.cls= .type (strIterType (AF x))/\o.data= .fields #[.str (AF x) tk₀,.int i 0]) (fun _=> True) t:=by
 have one:∀{c:Nat},c∈x->A3 [c]:=fun{c} hc=> ⟨by show 1<=lim;decide,fun y hy=> by
  rcases wM.mp hy with rfl |hy
  . exact hx0.2 _ hc
  . cases hy⟩
 have get:∀{i:Nat} {a:AV},(x.map fun c=> AV.str [c])[i]? =some a->∃c,(AF x).cps[i]? =some c/\c∈x/\a= .str [c]:=fun{i a} h=> by rw [zx]at h;obtain⟨c,h1,h2⟩:=wK.mp h;exact⟨c,by simpa [AF]using h1,yJ h1,h2.symm⟩
 have non:∀{i:Nat},(x.map fun c=> AV.str [c])[i]? =none->(AF x).cps[i]? =none:=fun{i} h=> by rw [yb]at h;simpa [AF]using h
 refine⟨fun i o h=> ?_,ap,fun i a' W l hp M ow m s o Q E hx I hW hD hO hH h=> ?_,fun i W l hp M ow m s o Q E hx I hW hD hO hH h=> ?_,fun v i o s Q E ho hO h=> by rw [KJ ht];exact v8 h⟩
 . unfold strIterType at h;split at h
   . exact Ei h.1 (by decide) (by decide) (by decide)
   . exact Ei h.1 (by decide) (by decide) (by decide)
 . obtain⟨c,h1,h2,rfl⟩:=get hx;have g:=(I.nw _ (wH _ hD)).1;by_cases hw:(AF x).cps.all (· <128)=true
   . have e:strIterType (AF x)="str_ascii_iterator":=if_pos hw;rw [e]at hO h;refine wpAny_pyNext_ascii_item ⟨o,g,hO.1,hO.2⟩ h1 fun h' hi hs=> ?_;obtain⟨o',ho',c1,c2⟩:=hi;exact h h' _ _ o' hs ho' ⟨c1,c2⟩ ⟨⟨_,rfl⟩,one h2⟩
   . have e:strIterType (AF x)="str_iterator":=if_neg hw;rw [e]at hO h;refine wpAny_pyNext_wide_item ⟨o,g,hO.1,hO.2⟩ h1 fun h' hi hs=> ?_;obtain⟨o',ho',c1,c2⟩:=hi;exact h h' _ _ o' hs ho' ⟨c1,c2⟩ ⟨⟨_,rfl⟩,one h2⟩
 . have h1:=non hx;have g:=(I.nw _ (wH _ hD)).1;by_cases hw:(AF x).cps.all (· <128)=true
   . have e:strIterType (AF x)="str_ascii_iterator":=if_pos hw;rw [e]at hO;exact wpAny_pyNext_ascii_end HA.hd ⟨o,g,hO.1,hO.2⟩ h1 fun h' hs=> h h' _ hs
   . have e:strIterType (AF x)="str_iterator":=if_neg hw;rw [e]at hO;exact wpAny_pyNext_wide_end HA.hd ⟨o,g,hO.1,hO.2⟩ h1 fun h' hs=> h h' _ hs
end
section
variable{G:Gx}{f:Fx}{A:v7}{X:XP}{P:Prog}
theorem EM{M:wq}{A:v7}{E:R5->vy->Prop}{s:vy}{fv:R5}{ts:List (Sem R5)}{Q:Args->vy->Prop}(h:wpAny M A (spliced (EK ts)) (fun vs s'=> Q ⟨vs,[]⟩ s') E s):
 wpAny M A (evalArgs fv true (EK ts) []) Q E s:=by
 cases ts with
 |nil=> unfold evalArgs;show wpAny M A (spliced [] >>=_) Q E s;refine v5 (wL h (fun vs s' h'=> v5 (v8 ?_)) fun _ _ x=> x);refine wJ ?_;exact v5 (v8 (v5 (v8 (v8 h'))))
 |cons t r=> exact evalArgs_plain h
theorem plain_any(ts:List (Sem R5)):(EK ts).any (·.1)=false:=by unfold EK;rw [List.any_map];exact List.any_eq_false.mpr fun x _=> by simp
theorem I7{x:Int}(h: -8000000<=x/\x<=8000000):AAJ x=true:=by obtain⟨h1,h2⟩:=h;unfold AAJ;rw [yM,decide_eq_true_eq,decide_eq_true_eq];exact⟨xA (by decide) h1,Int.lt_of_le_of_lt h2 (by decide)⟩
theorem PO{x:Int}(h:Cc x=true): -1000000<=x/\x<=1000000:=by have h:(x.natAbs:Int)<=1000000:=x9.mpr (of_decide_eq_true h);exact⟨Int.neg_le_of_neg_le (xA (Int.natAbs_neg x▸Int.le_natAbs) h),xA Int.le_natAbs h⟩
theorem PQ{x:Int}(h: -1000000<=x/\x<=1000000): -8000000<=x/\x<=8000000:=⟨xA (by decide) h.1,xA h.2 (by decide)⟩
theorem Ut{x y c:Int}(h1: -1000000<=x/\x<=1000000)(h2: -1000000<=y/\y<=1000000)(hc:0<c)(hl:x<y): -8000000<=(y - x - 1) / c+1/\(y - x - 1) / c+1<=8000000:=by have h0:0<=y - x - 1:=Int.sub_nonneg_of_le (Int.le_sub_left_of_add_le (Int.add_one_le_of_lt hl));have h3:=Int.ediv_le_self c h0;have h4:=Int.ediv_nonneg h0 (zX hc);have h5:y - x - 1<=7999999:=xA (Int.sub_le_self _ (by decide)) (xA (Int.sub_le_sub h2.2 h1.1) (by decide));exact⟨xA (by decide) (yQ h4 (xP 1)),yQ (xA h3 h5) (xP 1)⟩
theorem gy{a b c:Int}(ha: -1000000<=a/\a<=1000000)(hb: -1000000<=b/\b<=1000000)(h0:c≠0): -8000000<=yG a b c/\yG a b c<=8000000:=by
 have z:(-8000000:Int)<=0/\(0:Int)<=8000000:=by decide
 unfold yG;by_cases hc:c>0
 . rw [if_pos hc];by_cases h:a<b
   . rw [if_pos h];exact Ut ha hb hc h
   . rw [if_neg h];exact z
 . rw [if_neg hc];by_cases h:a>b
   . rw [if_pos h];exact Ut hb ha (Int.neg_pos_of_neg (Int.lt_iff_le_and_ne.mpr ⟨yW.mp hc,h0⟩)) h
   . rw [if_neg h];exact z
theorem Uu{b c d:Int}(hb: -1000000<=b/\b<=1000000)(hc: -1000000<=c/\c<=1000000)(hd: -1<=d/\d<=1): -8000000<=b+(c+d)/\b+(c+d)<=8000000:=
 ⟨xA (by decide) (yQ hb.1 (yQ hc.1 hd.1)),xA (yQ hb.2 (yQ hc.2 hd.2)) (by decide)⟩
theorem gz{a b c:Int}(ha:Cc a=true)(hb:Cc b=true)(hc:Cc c=true)(h0:c≠0):Builtin.Range.small a b c=true:=by
 have ha:=PO ha;have hb:=PO hb;have hc:=PO hc;unfold Builtin.Range.small;rw [I7 (PQ ha),I7 (PQ hb),I7 (PQ hc),I7 (gy ha hb h0)];show(_||_)=true;rw [Bool.or_eq_true]
 right
 by_cases h:c>0
 . rw [if_pos h];exact I7 (Uu hb hc (d:= -1) (by decide))
 . rw [if_neg h];exact I7 (Uu hb hc (d:=1) (by decide))
theorem size_eq(a b c:Int):(Fs a b c:Int)=yG a b c:=by
 unfold Fs yG;have:0<=(if c>0 then(if a<b then(b - a - 1) / c+1 else 0)else(if a>b then(a - b - 1) / (-c)+1 else 0)):=by
  split
  . split
    . rename_i h1 h2;have h4:0<=(b - a - 1) / c:=Int.ediv_nonneg (by omega) (by omega);omega
    . omega
  . split
    . rename_i h1 h2;have h4:0<=(a - b - 1) / (-c):=Int.ediv_nonneg (by omega) (by omega);omega
    . omega
 exact y9 this
end
section
variable{G:Gx}{f:Fx}{A:v7}{X:XP}{P:Prog}
structure Built(G:Gx)(f:Fx)(n:vz)(v:R5):Prop where
 no:nsIn G.K mainGlobals n=some none
 val:bootBuiltins n=some v
 ne:n≠"__name__"
 nd:(n==("__debug__":vz))=false
 glob:f.cs.names.lookup n=some .globalImplicit
section
variable{W:Wd}{l:List (N×AV)}{hp:Hp}{M:Led}{ow:Addr->Nat}{m:vz->Option R5}{s:vy}
def KL:List Int->List R5->Prop
 | [],[]=> True
 |i::r,v::vs=> (∃t,v= .int i t)/\KL r vs
 | [],_::_=> False
 |_::_,[]=> False
theorem Uv{B:Heap}{W:Wd}:∀{as:List AV} {vs:List R5} {is:List Int},AQ B W as vs->Jd as=some is->KL is vs
 | [],[],_,_,e=> by cases e;trivial
 |a::as,v::vs,is,R,e=> by
  cases a<;>first |(cases e;done) |skip
  obtain⟨js,h1,rfl⟩:=wK.mp e;exact⟨R.1,Uv R.2 h1⟩
 | [],_::_,_,R,_=> R.elim
 |_::_,[],_,R,_=> R.elim
theorem PU{α:Type}{c:Prop} [Decidable c]{a:Option α}{b:α}{G:Prop}(e:(if c then a else none)=some b)(k:c->a=some b->G):G:=by
 by_cases q:c
 . rw [if_pos q]at e;exact k q e
 . rw [if_neg q]at e;exact cNS e
inductive g0(a:Int)(vs:List R5):Prop
 |mk (t:Tok) (h:vs=[.int a t])
theorem ints1{a:Int}{vs:List R5}(h:KL [a] vs):g0 a vs:=by
 cases vs with
 |nil=> exact h.elim
 |cons v vs=> cases vs with
  |nil=> exact h.1.elim fun t e=> ⟨t,by rw [e]⟩
  |cons _ _=> exact h.2.elim
inductive hG(a b:Int)(vs:List R5):Prop
 |mk (t t':Tok) (h:vs=[.int a t,.int b t'])
theorem ints2{a b:Int}{vs:List R5}(h:KL [a,b] vs):hG a b vs:=by
 cases vs with
 |nil=> exact h.elim
 |cons v vs=> exact match h.1,ints1 h.2 with
  |⟨t,e⟩,⟨t',e'⟩=> ⟨t,t',by rw [e,e']⟩
inductive hJ(a b c:Int)(vs:List R5):Prop
 |mk (t t' t'':Tok) (h:vs=[.int a t,.int b t',.int c t''])
theorem ints3{a b c:Int}{vs:List R5}(h:KL [a,b,c] vs):hJ a b c vs:=by
 cases vs with
 |nil=> exact h.elim
 |cons v vs=> exact match h.1,ints2 h.2 with
  |⟨t,e⟩,⟨t',t'',e'⟩=> ⟨t,t',t'',by rw [e,e']⟩
theorem iA(I:Inv G f W l hp M ow m s){as xs:List AV}{vs:List R5}(hv:AQ G.B W as vs)(e:LF as=some xs){Q:R5->vy->Prop}{E:R5->vy->Prop}
 (h:∀D a b c h' tk t u v,xs=(Ft a b c).map .int->Cc a=true->Cc b=true->Cc c=true->c≠0->IsRange h' D a b c t u v->Fr f.g f.L h' m->News f.g f.L h' (M++W.fz)->Q (.ref D) ⟨h',s.gens,s.drawn,tk,s.os⟩):
 wpAny (mo G) A (call (.type "range") vs) Q E s:=by
 refine AR e fun is h1 e=> ?_;have hv:=Uv hv h1;clear h1;cases is with
 |nil=> exact cNS e
 |cons a is=> cases is with
  |nil=> obtain⟨t,rfl⟩:=ints1 hv;refine PU (c:=Cc a=true) e fun q e=> ?_;cases e;exact range1_rows I.fr I.nw fun h' tk t₁ u₁ v₁ hr F' N' _=> h _ _ _ _ _ _ _ _ _ rfl (by decide) q (by decide) (by decide) hr F' N'
  |cons b is=> cases is with
   |nil=> obtain⟨t,t',rfl⟩:=ints2 hv;refine PU (c:=(Cc a&&Cc b)=true) e fun q e=> AS q fun q1 q2=> ?_;cases e;exact range2_rows I.fr I.nw fun h' tk t₁ u₁ v₁ hr F' N' _=> h _ _ _ _ _ _ _ _ _ rfl q1 q2 (by decide) (by decide) hr F' N'
   |cons c is=> cases is with
    |nil=> obtain⟨t,t',t'',rfl⟩:=ints3 hv;refine PU (c:=(Cc a&&Cc b&&Cc c&&c !=0)=true) e fun q e=> AS q fun q q4=> AS q fun q q3=> AS q fun q1 q2=> ?_;cases e;exact range3_rows I.fr I.nw (bne_iff_ne.mp q4) (fun h' tk t₁ u₁ v₁ hr F' N' _=> h _ _ _ _ _ _ _ _ _ rfl q1 q2 q3 (bne_iff_ne.mp q4) hr F' N') (.inl (T8 (of_decide_eq_true q3)))
    |cons _ _=> exact cNS e
end
theorem iB{t:Expr}{args:List Expr}{np pos:Pos}{d:Nat}{Pu:Prop}{ev:St->Out (List AV)}(O:AN G f)(HA:Bc f d A)(ht:Dx t=true)(hB:Built G f "range" (.type "range"))(hs:args.all noStar=true)(hl:CP G f A X (evalEach args f.env) ev):
 PK G f A X t (.Call (.Name "range" np) args [] pos) Pu fun s=> (ev s).bind fun vs s=> AO (LF vs) fun xs=>.ok xs s:=fun W l hp M ow m s Z eR I ne=> by
 refine xo (Hf I O hB.no hB.val hB.ne ?_ hB.glob hB.nd);rw [DJ _ _ _ hs];refine zd (plain_any _) (EM ?_);refine Ed eR W.le_rfl (fun q=> hl W l hp M ow m s _ rfl I q) ne fun as σ V L ow m vs s' eR h1 h2 I hv ne=> ?_;obtain⟨xs,h3,eR⟩:=Az eR ne;refine iA I hv h3 fun D a b c h' tk t₁ u₁ v₁ hx qa qb qc q0 hr F' N'=> ?_;subst hx;have I':Inv G f V σ.loc σ.hp L ow m ⟨h',s'.gens,s'.drawn,tk,s'.os⟩:=⟨F',N',I.hi,I.lr,I.gn,I.os⟩;refine wpAny_pyIter_range hr (gz qa qb qc q0) (I'.it {cls:=Value.type "range_iterator",data:=Data.fields #[rawInt a,rawInt (yG a b c),rawInt c]} rfl eR h1 ?_ trivial (fun ap=> gv HA ht ap) (.inr fun _=> trivial));show _=PN (a+((0:Nat):Int) * c) ((Fs a b c:Int) - ((0:Nat):Int)) c;rw [size_eq];simp [PN]
end
section
variable{G:Gx}{f:Fx}{A:v7}{X:XP}{P:Prog}
theorem iC{t e:Expr}{d:Nat}{Pu:Prop}{ev:St->Out AV}(O:AN G f)(HA:Bc f d A)(ht:Dx t=true)(he:AP G f A X (eval e f.env) ev):
 PK G f A X t e Pu fun s=> (ev s).bind fun v s=> AO (Nv v) fun xs=>.ok xs s:=fun W l hp M ow m s Z eR I ne=> by
 refine Am eR W.le_rfl (fun q=> he W l hp M ow m s _ rfl I q) ne fun a σ V L ow m u s' eR h1 h2 I hu ne=> ?_;obtain⟨xs,h3,eR⟩:=Az eR ne;cases a<;>first |(cases h3;done) |skip
 . cases h3;obtain⟨⟨tk,rfl⟩,q3⟩:=hu;exact wpAny_pyIter_strU (I.it {cls:=.type (strIterType (AF _)),data:=.fields #[.str (AF _) tk,.int 0 0]} rfl eR h1 ⟨rfl,rfl⟩ trivial (fun ap=> gw HA ht ap q3) (.inr fun _=> trivial))
 . cases h3;obtain⟨⟨x,vs,k,rfl,q1,q2⟩,q3⟩:=hu;exact wpAny_pyIter_tuple (Eh (I.kn O q1)) (I.it {cls:=.type "tuple_iterator",data:=.fields #[.ref x,.int 0 0]} rfl eR h1 ⟨rfl,rfl⟩ trivial (fun ap=> gm HA ht ap fun{W l hp M ow m s} I hW=> ⟨vs,k,I.Us O hW q1,q2.mono hW⟩) (.inr fun _=> trivial))
 . cases h3;obtain⟨⟨x,vs,k,rfl,q1,q2⟩,q3⟩:=hu;exact wpAny_pyIter_list (EI (I.kn O q1)) (I.it {cls:=.type "list_iterator",data:=.fields #[.ref x,.int 0 0]} rfl eR h1 ⟨rfl,rfl⟩ (Hy:=fun _=> True) trivial (fun ap=> gk HA ht ap q3 fun{W l hp M ow m s} I hW _=> ⟨vs,k,I.Us O hW q1,q2.mono hW⟩) (.inr fun _=> trivial))
end
section
variable{G:Gx}{f:Fx}{A:v7}{X:XP}{P:Prog}
section
variable{W:Wd}{l:List (N×AV)}{hp:Hp}{M:Led}{ow:Addr->Nat}{m:vz->Option R5}{s:vy}
inductive iE(hp:Hp)(a c:AV):Prop
 |str (x:List Nat) (h:a= .str x) (e:c= .int x.length)
 |tup (x:List AV) (h:a= .tup x) (e:c= .int x.length)
 |lst (x:List AV) (h:Dv hp a=some x) (e:c= .int x.length)
theorem iG{hp:Hp}{a c:AV}(e:lenOf hp a=some c):iE hp a c:=by
 cases a with
 |str x=> exact .str x rfl (wb e).symm
 |tup x=> exact .tup x rfl (wb e).symm
 |Ah x=> exact .lst x rfl (wb e).symm
 |ref i=> exact Iz e fun x h e=>.lst x h e.symm
 |_=> exact cNS e
theorem iH(O:AN G f)(I:Inv G f W l hp M ow m s){a c:AV}{u:R5}(hu:AG G.B W a u)(e:lenOf hp a=some c){Q:R5->vy->Prop}{E:R5->vy->Prop}
 (h:∀r s',Inv G f W l hp M ow m s'->AG G.B W c r->Q r s'):wpAny (mo G) A (call (.builtin "len") [u]) Q E s:=by
 rcases iG e with⟨x,rfl,rfl⟩ |⟨x,rfl,rfl⟩ |⟨xs,e1,rfl⟩
 . obtain⟨⟨t,rfl⟩,hs⟩:=hu;exact PyProof.Rows.len_str (by rw [Bx];have:=Hj hs.1;lia) (h _ _ (I.tok _) ⟨_,by rw [Bx]⟩)
 . obtain⟨⟨x,vs,k,rfl,h1,h2⟩,h3⟩:=hu;have hl:=h2.length;exact PyProof.Rows.len_tuple (Eh (I.kn O h1)) (by simpa using Hj (hl▸h3)) (h _ _ (I.tok _) ⟨s.toks+1,by rw [hl];simp⟩)
 . obtain⟨x,vs,k,rfl,h1,h2,h3⟩:=I.FI O hu e1;have hl:=h2.length;exact call_len_list (EI h1) (by simpa using Hj (hl▸h3)) (h _ _ (I.tok _) ⟨s.toks+1,by rw [hl];simp⟩)
end
theorem iI{x:vz}{id:String}{b:BI}{args:List Expr}{np pos:Pos}{ev:St->Out (List AV)}(O:AN G f)(hB:Built G f x (.builtin id))(hs:args.all noStar=true)(hl:CP G f A X (evalEach args f.env) ev)
 (op:∀{W l hp M ow m s a c u U Z},Inv G f W l hp M ow m s->AG G.B W a u->E6 hp b [a]=some c->Out.ok c ⟨l,hp⟩=Z->U.le W->Cz G f A X U (call (.builtin id) [u]) Z s):
 AP G f A X (eval (.Call (.Name x np) args [] pos) f.env) fun s=> (ev s).bind fun vs s=> AO (E6 s.hp b vs) fun v=>.ok v s:=fun W l hp M ow m s Z eR I ne=> by
 refine xo (Hf I O hB.no hB.val hB.ne ?_ hB.glob hB.nd);rw [DJ _ _ _ hs];refine yj (plain_any _) (EM (Ed eR W.le_rfl (fun q=> hl W l hp M ow m s _ rfl I q) ne fun as σ V L ow m vs s' eR h1 h2 I hv ne=> ?_));obtain⟨c,h3,eR⟩:=Az eR ne;refine AR h3 fun a h4 h5=> ?_;rw [Gs h4]at hv;obtain⟨u,rfl,hu⟩:=Hm hv;exact op I hu h5 eR h1
theorem iJ{args:List Expr}{np pos:Pos}{ev:St->Out (List AV)}(O:AN G f)(hB:Built G f "len" (.builtin "len"))(hs:args.all noStar=true)(hl:CP G f A X (evalEach args f.env) ev):
 AP G f A X (eval (.Call (.Name "len" np) args [] pos) f.env) fun s=> (ev s).bind fun vs s=> AO (E6 s.hp .len vs) fun v=>.ok v s:=
 iI O hB hs hl fun I hu e eR hU=> iH O I hu e fun r s'' I' hr=> I'.V eR hU hr
end
section
variable{G:Gx}{f:Fx}{A:v7}{X:XP}{P:Prog}
def C0(G:Gx)(f:Fx)(A:v7)(X:XP)(P:Prog)(cf:Nat->List AV->List (N×AV)->Hp->COut):Prop:=
 ∀a as vs ks kv W l hp M ow m s (R:Result->vy->Prop),Inv G f W l hp M ow m s->AQ G.B W as vs->DM G.B W ks kv->cf a as ks hp≠ .bad->
  (∀v s',I0 G f W l m (cf a as ks hp) v s'->R (.ok (.ret v)) s')->(∀e s',Aw X W ((cf a as ks hp).bind l fun v s=> Out.ok v s) e s'->R (.error e) s')->codeAny (mo G) A (.call (.ref a) ⟨vs,kv⟩) R s
theorem C0.call{cf:Nat->List AV->List (N×AV)->Hp->COut}(CO:C0 G f A X P cf){a:Nat}{as:List AV}{vs:List R5}{ks:List (N×AV)}{kv:List (vz×R5)}{W l hp M ow m s}(I:Inv G f W l hp M ow m s)(R:AQ G.B W as vs)(K:DM G.B W ks kv)(ne:cf a as ks hp≠ .bad):
 wpAny (mo G) A (call (.ref a) vs kv) (fun v s'=> I0 G f W l m (cf a as ks hp) v s') (fun e s'=> Aw X W ((cf a as ks hp).bind l fun v s=> Out.ok v s) e s') s:=
 xv (CO a as vs ks kv W l hp M ow m s _ I R K ne (fun v s' h=> h) fun e s' h=> h)
theorem Uw{r:COut}{l:List (N×AV)}{a:AV}{h:Hp}{β:Type}{k:AV->St->Out β}(e:r= .ok a h):r.bind l k=k a ⟨l,h⟩:=by rw [e];rfl
theorem C0.V{cf:Nat->List AV->List (N×AV)->Hp->COut}(CO:C0 G f A X P cf){a:Nat}{as:List AV}{vs:List R5}{ks:List (N×AV)}{kv:List (vz×R5)}{U W l hp M ow m s}(I:Inv G f W l hp M ow m s)(R:AQ G.B W as vs)(K:DM G.B W ks kv){Z:Out AV}
 (eR:((cf a as ks hp).bind l fun v s=> Out.ok v s)=Z) (hU:U.le W) (ne:Z≠ .bad):Cz G f A X U (PySem.call (.ref a) vs kv) Z s:=
 wL (CO.call I R K fun z=> ne (by rw [<-eR,z];rfl)) (fun v s' ⟨b,hp',W',M',ow',q1,q2,q3,q4⟩=> q3.V ((Uw q1).symm.trans eR) (hU.trans q2) q4) fun e s' h=> eR▸h.le hU
theorem Ux{n:N}{e:Expr}{p pos:Pos}{ev:St->Out AV}{U W:Wd}{β:Type}{k:AV->St->Out β}{Z:Out β}(h:AP G f A X (eval e f.env) ev){l hp M ow m s}(eR:(ev ⟨l,hp⟩).bind k=Z)(hU:U.le W)(I:Inv G f W l hp M ow m s)(ne:Z≠ .bad){C:List R5->vy->Prop}
 (next:∀a σ V L ow m v s',k a σ=Z->U.le V->W.le V->Inv G f V σ.loc σ.hp L ow m s'->AG G.B V a v->Z≠ .bad->C [v] s'):
 wpAny (mo G) A (evalAll ((backToKw pos (keywordEach [⟨some (nm n),e,p⟩] f.env)).map (·.2))) C (Aw X U Z) s:=
 kwAll_cons (Am eR hU (fun q=> h W l hp M ow m s _ rfl I q) ne fun a σ V L ow m v s' eR h1 h2 I hv ne=> kwAll_nil (next a σ V L ow m v s' eR h1 h2 I hv ne))
theorem Uy{M:wq}{A:v7}{E:R5->vy->Prop}{s:vy}{fv:R5}{ts:List (Sem R5)}{kws:List (Option vz×Sem R5)}(hall:kws.all (·.1.isSome)=true){Q:Args->vy->Prop}
 (h:wpAny M A (spliced (EK ts)) (fun vs s₁=> wpAny M A (evalAll (kws.map (·.2))) (fun ks s₂=> Q ⟨vs,(kws.filterMap (·.1)).zip ks⟩ s₂) E s₁) E s):wpAny M A (evalArgs fv true (EK ts) kws) Q E s:=by
 cases ts with
 |nil=> unfold evalArgs;show wpAny M A (spliced [] >>=_) Q E s;refine v5 (wL h (fun vs s' h'=> v5 (v8 ?_)) fun _ _ x=> x);refine wJ ?_;simp only [hall,if_true];exact v5 (wL h' (fun ks s₂ h₂=> v5 (v8 (v8 h₂))) fun _ _ x=> x)
 |cons t r=> exact evalArgs_kw hall h
def PW(G:Gx)(f:Fx)(A:v7):Prop:=∀x a mn c u w W l hp M ow m s (Q:R5->vy->Prop) (E:R5->vy->Prop),Inv G f W l hp M ow m s->AG G.B W (.str x) u->AG G.B W a w->R4 hp x mn a=some c->
 (∀V r s',W.le V->Inv G f V l hp M ow m s'->AG G.B V c r->Q r s')->∃id,Gv mn=some id/\wpAny (mo G) A (call (.builtin id) [u,w]) Q E s
theorem KN{ts:List (Sem R5)}{kws:List (Option vz×Sem R5)}{n:Nat}(hk:kws.all (·.1.isSome)=true)(h:n<29):methodCallForm n (EK ts) kws=true:=by
 unfold methodCallForm EK;rw [hk];have h1:n+(if kws.isEmpty=true then 0 else 1)<30:=by split<;>exact BV h
 rw [decide_eq_true h1];simp
theorem KO{o:Expr}{env:Env}{apos pos:Pos}(h:(apos.endLine==pos.line)=true):methodCallPos true o env apos pos=pure pos:=by unfold methodCallPos;simp [h]
theorem GB{m x:N}{r:List N}(h:(x::r).contains m=true):m=x∨r.contains m=true:=by rw [xD]at h;exact(yL.mp h).imp (eq_of_beq) id
theorem iK{m:N}(h:Ge m=true):∃id,Hl m=some id:=by
 rcases GB h with rfl |h
 . exact⟨_,rfl⟩
 rcases GB h with rfl |h
 . exact⟨_,rfl⟩
 rcases GB h with rfl |h
 . exact⟨_,rfl⟩
 rcases GB h with rfl |h
 . exact⟨_,rfl⟩
 cases h
theorem iL{m:N}(h:Nu m=true):∃id,Gv m=some id:=by
 rcases GB h with rfl |h
 . exact⟨_,rfl⟩
 rcases GB h with rfl |h
 . exact⟨_,rfl⟩
 rcases GB h with rfl |h
 . exact⟨_,rfl⟩
 rcases GB h with rfl |h
 . exact⟨_,rfl⟩
 rcases GB h with rfl |h
 . exact⟨_,rfl⟩
 cases h
theorem Uz{m:N}{c:Nat}{fs:List (N×AV)}{k:Option Nat}(h:Jh P m c fs=some k):look m fs=none/\∃cl fa,P.cls c=some cl/\look m cl.attrs=some (.Ai fa)/\k=some fa:=by
 unfold Jh at h;cases h1:look m fs with
 |some _=> rw [h1]at h;cases h
 |none=>
  rw [h1]at h;cases h2:(P.cls c).bind fun cl=> look m cl.attrs with
  |none=> rw [h2]at h;cases h
  |some a=>
   rw [h2]at h;cases a with
   |val _=> cases h
   |Ai fa=> cases h;refine AR h2 fun cl h3 h4=> ?_;exact⟨rfl,cl,fa,h3,h4,rfl⟩
section
variable{cf:Nat->List AV->List (N×AV)->Hp->COut}{o:Expr}{a:N}{apos pos kp:Pos}{args:List Expr}{eas:St->Out (List AV)}{U W:Wd}{l:List (N×AV)}{hp:Hp}{M:Led}{ow:Addr->Nat}{m:vz->Option R5}{s:vy}{Z:Out AV}{u:R5}
abbrev I8(o:Expr)(a:N)(apos pos:Pos)(f:Fx)(u:R5)(args:List Expr):Sem R5:=methodCall o (nm a) apos pos f.env u args.length (EK (evalEach args f.env)) []
theorem iM(C:CH G P)(O:AN G f)(CO:C0 G f A X P cf)(hl:(apos.endLine==pos.line)=true)(h30:args.length<28)(ha:CP G f A X (evalEach args f.env) eas)(I:Inv G f W l hp M ow m s){r c:Nat}{fs:List (N×AV)}{k:Option Nat}(hf:hp.f r= .ins c fs)(hk:Jh P a c fs=some k)
 (hu:AG G.B W (.ref r) u) (hU:U.le W) (eR:((eas ⟨l,hp⟩).bind fun vs s=> (Fu cf k (.ref r) a vs s.hp).bind s.loc fun v s=>.ok v s)=Z) (ne:Z≠ .bad):Cz G f A X U (I8 o a apos pos f u args) Z s:=by
 refine cps fun P1_ k1_=> ?_;obtain⟨rfl,hi⟩:=I.lt hu;obtain⟨ACq,cl,fa,hc,hca,rfl⟩:=Uz hk;obtain⟨dx,es,n,H,_,_,_,F⟩:=I.J8 hi hf;obtain⟨g1,g2,g3⟩:=C.Ai c cl a fa hc hca;refine k1_ ?_;unfold I8 methodCall;rw [KN rfl (xI h30),KO hl];refine v5 (wJ (method_inst I.fr O.X H (C.get c cl hc (C.inst hc hca)) g1 g2 (F.miss ACq) (v5 (v8 ?_))));refine yV (P:=G.K.In) (by rw [plain_any];rfl) (keeps_K g3) (EM ?_);exact Ed eR hU (fun q=> ha W _ _ _ _ _ _ _ rfl I q) ne fun as σ' V' L ow m vs s' eR h1 h2' I hv ne=> ⟨I.X O,CO.V (as:=.ref r::as) (vs:=.ref (W.r r)::vs) (ks:=[]) (kv:=[]) I ⟨hu.mono h2',hv⟩ trivial eR h1 ne⟩
theorem iO(O:AN G f)(hl:(apos.endLine==pos.line)=true)(h30:args.length<28)(ha:CP G f A X (evalEach args f.env) eas)(I:Inv G f W l hp M ow m s){r:Nat}{xs:List AV}(hf:hp.f r= .lst xs)(hm:Ge a=true)
 (hu:AG G.B W (.ref r) u) (hU:U.le W) (eR:((eas ⟨l,hp⟩).bind fun vs s=> (Fu cf none (.ref r) a vs s.hp).bind s.loc fun v s=>.ok v s)=Z) (ne:Z≠ .bad):Cz G f A X U (I8 o a apos pos f u args) Z s:=by
 refine cps fun P1_ k1_=> ?_;obtain⟨rfl,hi⟩:=I.lt hu;obtain⟨id,hid⟩:=iK hm;have mf:=fj hid;obtain⟨ws,k,g1,g2,g3,g4⟩:=I.J9 hi hf;refine k1_ ?_;have gl:=I.mem g1;unfold I8 methodCall;rw [KN rfl (xI h30),KO hl];refine v5 (wJ (getMethod_builtin ⟨_,gl,rfl⟩ mf.pa mf.slot mf.ty (fun b e=> by cases e;exact⟨_,gl,rfl⟩) (v5 (v8 ?_))));refine yj (plain_any _) (EM (Ed eR hU (fun q=> ha W _ _ _ _ _ _ _ rfl I q) ne fun as σ' V' L ow m vs s' eR h1 h2' I hv ne=> ?_));unfold Fu at eR;cases hbm:Bv σ'.hp (.ref r) a as with
 |none=> rw [hbm]at eR;exact absurd eR.symm ne
 |some cp=> refine cps fun P2_ k2_=> ?_;rw [hbm]at eR;refine AR hbm fun ys q0 q=> ?_;obtain⟨⟨c',zs⟩,q1,rfl⟩:=wK.mp q;obtain⟨id',q3,q4⟩:=gG (A:=A) (E:=Aw X U Z) (Q:=Ec G f U Z) O I (hu.mono h2') (MA q0) hv q1 fun M' rr s'' I' hr=> I'.V eR h1 hr;refine k2_ ?_;rw [hid]at q3;cases q3;exact q4
theorem iP(SM:PW G f A)(hl:(apos.endLine==pos.line)=true)(h30:args.length<28)(ha:CP G f A X (evalEach args f.env) eas)(I:Inv G f W l hp M ow m s){x:List Nat}(hm:Nu a=true)
 (hu:AG G.B W (.str x) u) (hU:U.le W) (eR:((eas ⟨l,hp⟩).bind fun vs s=> (Fu cf none (.str x) a vs s.hp).bind s.loc fun v s=>.ok v s)=Z) (ne:Z≠ .bad):Cz G f A X U (I8 o a apos pos f u args) Z s:=by
 refine cps fun P1_ k1_=> ?_;obtain⟨id,hid⟩:=iL hm;have mf:=fk hid;have hu0:=hu;obtain⟨⟨t,rfl⟩,hsx⟩:=hu;refine k1_ ?_;unfold I8 methodCall;rw [KN rfl (xI h30),KO hl];refine v5 (wJ (getMethod_builtin (xj _ _ t) mf.pa mf.slot mf.ty (fun b e=> by cases e) (v5 (v8 ?_))));refine yj (plain_any _) (EM (Ed eR hU (fun q=> ha W _ _ _ _ _ _ _ rfl I q) ne fun as σ' V' L ow m vs s' eR h1 h2' I hv ne=> ?_));unfold Fu at eR;cases hbm:Bv σ'.hp (.str x) a as with
 |none=> rw [hbm]at eR;exact absurd eR.symm ne
 |some cp=> refine cps fun P2_ k2_=> ?_;rw [hbm]at eR;refine AR hbm fun v q0 q=> ?_;obtain⟨c,q1,rfl⟩:=wK.mp q;rw [Gs q0]at hv;obtain⟨w,rfl,hw⟩:=Hm hv;obtain⟨id',q3,q4⟩:=SM x v a c _ w V' σ'.loc σ'.hp L ow m s' (Ec G f U Z) (Aw X U Z) I (hu0.mono h2') hw q1 fun V'' rr s'' hV I' hr=> I'.V eR (h1.trans hV) hr;refine k2_ ?_;rw [hid]at q3;cases q3;exact q4
end
theorem iQ{cf:Nat->List AV->List (N×AV)->Hp->COut}(C:CH G P)(O:AN G f)(CO:C0 G f A X P cf)(SM:PW G f A){o:Expr}{a:N}{apos pos:Pos}{args:List Expr}{ev:St->Out AV}{eas:St->Out (List AV)}
 (hn:(match o with | .Call (.Name _ _) [] [] _=> false |_=> true)=true) (hl:(apos.endLine==pos.line)=true) (hs:args.all noStar=true) (h30:args.length<28) (he:AP G f A X (eval o f.env) ev) (ha:CP G f A X (evalEach args f.env) eas):
 AP G f A X (eval (.Call (.Attribute o (nm a) apos) args [] pos) f.env) fun s=> (ev s).bind fun o s=> AO (E8 P s.hp o a) fun k=> (eas s).bind fun vs s=> (Fu cf k o a vs s.hp).bind s.loc fun v s=>.ok v s:=fun W l hp M ow m s Z eR I ne=> by
 rw [arm_eval_Call,DJ _ _ _ hs];refine v5 (MC hn (Am eR W.le_rfl (fun q=> he W l hp M ow m s _ rfl I q) ne fun ov σ V L ow m u s' eR h1 h2 I hu ne=> ?_));obtain⟨k,h3,eR⟩:=Az eR ne;refine v5 (wa ?_);have no:∀{b:Bool},(if b=true then some none else none)=some k->k=none/\b=true:=fun{b} h=> by cases(b)<;>cases(h);exact⟨rfl,rfl⟩
 cases(ov)<;>first |(cases(h3);done) |skip
 . obtain⟨h4,h5⟩:=no h3;subst h4;exact iP SM hl h30 ha I h5 hu h1 eR ne
 . change LH P a (σ.hp.f _)=some k at h3;generalize hq:σ.hp.f _=ob at h3;cases(ob)<;>first |(cases(h3);done) |skip
   . obtain⟨h4,h5⟩:=no h3;subst h4;exact iO O hl h30 ha I hq h5 hu h1 eR ne
   . exact iM C O CO hl h30 ha I hq h3 hu h1 eR ne
theorem iR{h:Hp}{o:AV}{a:N}{fa:Nat}(e:LI P h o a=some fa):∃r c fs,o= .ref r/\h.f r= .ins c fs/\Jh P a c fs=some (some fa):=by
 refine AR e fun k e e1=> ?_;cases(e1);have no:∀{b:Bool},(if b=true then some none else none)=some (some fa)->False:=fun{b} h=> by cases(b)<;>cases(h)
 cases(o)<;>first |(cases(e);done) |skip
 . exact(no e).elim
 . change LH P a (h.f _)=_ at e;generalize hq:h.f _=ob at e;cases(ob)<;>first |(cases(e);done) |skip
   . exact(no e).elim
   . exact⟨_,_,_,rfl,hq,e⟩
theorem iS{cf:Nat->List AV->List (N×AV)->Hp->COut}(C:CH G P)(O:AN G f)(CO:C0 G f A X P cf){o e:Expr}{a n:N}{apos pos kp:Pos}{args:List Expr}{ev ek:St->Out AV}{eas:St->Out (List AV)}
 (hn:(match o with | .Call (.Name _ _) [] [] _=> false |_=> true)=true) (hl:(apos.endLine==pos.line)=true) (hs:args.all noStar=true) (h30:args.length<28) (he:AP G f A X (eval o f.env) ev) (ha:CP G f A X (evalEach args f.env) eas) (hk:AP G f A X (eval e f.env) ek):
 AP G f A X (eval (.Call (.Attribute o (nm a) apos) args [⟨some (nm n),e,kp⟩] pos) f.env) fun s=> (ev s).bind fun o s=> AO (LI P s.hp o a) fun k=> (eas s).bind fun vs s=> (ek s).bind fun kv s=> (cf k (o::vs) [(n,kv)] s.hp).bind s.loc fun v s=>.ok v s:=fun W l hp M ow m s Z eR I ne=> by
 rw [arm_eval_Call,DJ _ _ _ hs];refine v5 (MC hn (Am eR W.le_rfl (fun q=> he W l hp M ow m s _ rfl I q) ne fun ov σ V L ow m u s' eR h1 h2 I hu ne=> ?_));refine cps fun P1_ k1_=> ?_;obtain⟨fa,h3,eR⟩:=Az eR ne;refine k1_ ?_;refine v5 (wa ?_);unfold methodCall;rw [KN (n:=args.length+[Keyword.mk (some (nm n)) e kp].length) rfl (Nat.succ_lt_succ h30),KO hl];refine cps fun P2_ k2_=> ?_;obtain⟨r,c,fs,rfl,hf,hm⟩:=iR h3;obtain⟨rfl,hi⟩:=I.lt hu;obtain⟨ACq,cl,fa,hc,hca,e0⟩:=Uz hm;refine k2_ ?_;cases e0;refine cps fun P3_ k3_=> ?_;obtain⟨dx,es,n',H,_,_,_,F⟩:=I.J8 hi hf;obtain⟨g1,g2,g3⟩:=C.Ai c cl a fa hc hca;refine k3_ ?_;refine v5 (wJ (method_inst I.fr O.X H (C.get c cl hc (C.inst hc hca)) g1 g2 (F.miss ACq) (v5 (v8 ?_))));refine yV (P:=G.K.In) (by rw [plain_any];rfl) (keeps_K g3) (Uy rfl ?_);exact Ed eR h1 (fun q=> ha V _ _ L ow m s' _ rfl I q) ne fun as σ' V' L ow m vs s' eR h1 h2' I hv ne=>
  Ux hk eR h1 I ne fun kvv σ'' V'' L ow m w s' eR h1 ABL I hw ne=> ⟨I.X O,CO.V (as:=.ref r::as) (vs:=.ref (V.r r)::vs) (ks:=[(n,kvv)]) (kv:=[(nm n,w)]) I ⟨hu.mono (h2'.trans ABL),hv.mono ABL⟩ ⟨rfl,hw,trivial⟩ eR h1 ne⟩
end
theorem Ho(c:List Nat):∀s:List Nat,DA c s=s.drop (s.takeWhile c.contains).length
 | []=> rfl
 |a::r=> by
  rw [Zl];by_cases h:c.contains a=true
  . rw [if_pos h,List.takeWhile_cons,if_pos h,xd,List.drop_succ_cons,Ho c r]
  . rw [if_neg h,List.takeWhile_cons,if_neg h];rfl
theorem PX(c:List Nat):(fun a=> (AF c).cps.contains a)=fun a=> c.contains a:=by
 funext a;simp [AF]
theorem PY(x:List Nat)(i j:Nat):Builtin.Str.strSub (AF x) i j=AF ((x.drop i).take (j - i)):=by unfold Builtin.Str.strSub AF;simp
theorem PZ(c y:List Nat):EC c y=y.take (y.length - (y.reverse.takeWhile c.contains).length):=by unfold EC;rw [Ho,List.reverse_drop,List.reverse_reverse,List.length_reverse]
theorem iU(x c:List Nat):Txt.lstripChars (AF x) (AF c)=AF (DA c x):=by
 unfold Txt.lstripChars;rw [zf,PY];unfold stripLo stripHi;simp only [if_true,wz,if_false,Bx];have e:(AF x).cps.toList=x:=by simp [AF]
 rw [e,show((AF c).cps.contains:Nat->Bool)=c.contains from PX c,<-Ho,yH];rw [Ho];simp
theorem iV(x c:List Nat):Txt.rstripChars (AF x) (AF c)=AF (EC c x):=by
 unfold Txt.rstripChars;rw [zf,PY];unfold stripLo stripHi;simp only [if_true,wz,if_false,Bx,zQ,Nat.sub_zero];have e:(AF x).cps.toList=x:=by simp [AF]
 rw [e,show((AF c).cps.contains:Nat->Bool)=c.contains from PX c,PZ]
theorem iW(x c:List Nat):Txt.stripChars (AF x) (AF c)=AF (EC c (DA c x)):=by
 unfold Txt.stripChars;rw [zf,PY];unfold stripLo stripHi;simp only [if_true,Bx];have e:(AF x).cps.toList=x:=by simp [AF]
 rw [e,show((AF c).cps.contains:Nat->Bool)=c.contains from PX c,<-Ho,PZ];congr 2;rw [Ho,xn];lia
section
variable{G:Gx}{f:Fx}{A:v7}{X:XP}{P:Prog}
theorem A3.U0{a b:List Nat}(h:A3 b)(l:a.length<=b.length)(m:∀c∈a,c∈b):A3 a:=⟨wC l h.1,fun c hc=> h.2 c (m c hc)⟩
theorem A3.DA{s:List Nat}(h:A3 s)(c:List Nat):A3 (Internal.DA c s):=by rw [Ho];exact h.U0 (by simp) fun a ha=> List.mem_of_mem_drop ha
theorem A3.EC{s:List Nat}(h:A3 s)(c:List Nat):A3 (Internal.EC c s):=by rw [PZ];exact h.U0 (by simp) fun a ha=> List.mem_of_mem_take ha
section
variable{W:Wd}{l:List (N×AV)}{hp:Hp}{M:Led}{ow:Addr->Nat}{m:vz->Option R5}{s:vy}{Q:R5->vy->Prop}{E:R5->vy->Prop}{x c:List Nat}{t t':Tok}
theorem iX(I:Inv G f W l hp M ow m s)(hx:A3 x)(h:∀r s',Inv G f W l hp M ow m s'->AG G.B W (.str (DA c x)) r->Q r s'):wpAny (mo G) A (call (.builtin "str.lstrip") [.str (AF x) t,.str (AF c) t']) Q E s:=
 SC.lstripChars (fun t'' k=> h _ _ (I.tok k) ⟨⟨t'',by rw [iU]⟩,hx.DA c⟩) (by rw [Bx];exact Bq hx.1)
theorem iY(I:Inv G f W l hp M ow m s)(hx:A3 x)(h:∀r s',Inv G f W l hp M ow m s'->AG G.B W (.str (EC c x)) r->Q r s'):wpAny (mo G) A (call (.builtin "str.rstrip") [.str (AF x) t,.str (AF c) t']) Q E s:=
 SC.rstripChars (fun t'' k=> h _ _ (I.tok k) ⟨⟨t'',by rw [iV]⟩,hx.EC c⟩) (by rw [Bx];exact Bq hx.1)
theorem iZ(I:Inv G f W l hp M ow m s)(hx:A3 x)(h:∀r s',Inv G f W l hp M ow m s'->AG G.B W (.str (EC c (DA c x))) r->Q r s'):wpAny (mo G) A (call (.builtin "str.strip") [.str (AF x) t,.str (AF c) t']) Q E s:=
 SC.stripChars (fun t'' k=> h _ _ (I.tok k) ⟨⟨t'',by rw [iW]⟩,(hx.DA c).EC c⟩) (by rw [Bx];exact Bq hx.1)
end
end
section
variable{G:Gx}{f:Fx}{A:v7}{X:XP}{P:Prog}
theorem Pa(s:List Nat):∀l:List (List Nat),PySem.Str.join (AF s) (l.map AF)=AF (Ba s l)
 | []=> rfl
 | [x]=> rfl
 |x::y::r=> by have ih:=Pa s (y::r);show AF x++AF s++PySem.Str.join (AF s) ((y::r).map AF)=AF (x++s++Ba s (y::r));rw [ih,MG,MG]
theorem U3(s:List Nat):∀l:List (List Nat),(Ba s l).length<=(l.map w7).sum+l.length * s.length
 | []=> wN _
 | [x]=> wC (xK ..) (xK ..)
 |x::y::r=> by
  have ih:=U3 s (y::r);show(x++s++Ba s (y::r)).length<=_;have e:((x::y::r).length) * s.length=(y::r).length * s.length+s.length:=by rw [xd,Nat.add_mul,Nat.one_mul]
  rw [e,v9,v9,wj,List.sum_cons];exact AI ih
theorem U4{s:List Nat}{c:Nat}:∀{l:List (List Nat)},c∈Ba s l->c∈s∨∃w∈l,c∈w
 | []=>@fun h=> by cases h
 | [x]=>@fun h=>.inr ⟨x,.head _,h⟩
 |x::y::r=>@fun h=> by
  have h:c∈x++s++Ba s (y::r):=h;rcases wV.mp h with h |h
  . rcases wV.mp h with h |h
    . exact .inr ⟨x,.head _,h⟩
    . exact .inl h
  . rcases U4 h with h |⟨w,h1,h2⟩
    . exact .inl h
    . exact .inr ⟨w,.tail _ h1,h2⟩
theorem U5{B:Heap}{W:Wd}:∀{ys:List AV} {vs:List R5} {l:List (List Nat)},AQ B W ys vs->strs? ys=some l->∀w∈l,A3 w
 | [],[],l,_,e=> by cases e;intro w h;cases h
 | .str s::r,v::vs,l,R,e=> by
   obtain⟨t,h1,rfl⟩:=wK.mp (show(strs? r).map (s::·)=some l from e);intro w hw;rcases wM.mp hw with rfl |hw
   . exact R.1.2
   . exact U5 R.2 h1 w hw
 | [],_::_,_,R,_=> R.elim
 | .str _::_,[],_,R,_=> R.elim
theorem ia{s:List Nat}{l:List (List Nat)}(hs:A3 s)(h:∀w∈l,A3 w)(z:s.length<=16/\(l.map w7).sum+l.length<=60000):A3 (Ba s l):=by
 refine⟨?_,fun c hc=> ?_⟩
 . have h1:=U3 s l;have h2:l.length * s.length<=l.length * 16:=Nat.mul_le_mul_left _ z.1;show _<=1000000;lia
 . rcases U4 hc with h1 |⟨w,h1,h2⟩
   . exact hs.2 c h1
   . exact(h w h1).2 c h2
theorem map_len(l:List (List Nat)):((l.map AF).map (·.length))=l.map w7:=by rw [yp];exact yK fun a _=> Bx a
section
variable{W:Wd}{l:List (N×AV)}{hp:Hp}{M:Led}{ow:Addr->Nat}{m:vz->Option R5}{s:vy}{Q:R5->vy->Prop}{E:R5->vy->Prop}
theorem ib(O:AN G f)(I:Inv G f W l hp M ow m s){x:List Nat}{a:AV}{xs:List AV}{ss:List (List Nat)}{t:Tok}{u:R5}(hx:A3 x)(hu:AG G.B W a u)(e1:items hp a=some xs)(e2:strs? xs=some ss)(z:x.length<=16/\(ss.map w7).sum+ss.length<=60000)
 (h:∀r s',Inv G f W l hp M ow m s'->AG G.B W (.str (Ba x ss)) r->Q r s'):wpAny (mo G) A (call (.builtin "str.join") [.str (AF x) t,u]) Q E s:=by
 have fin:∀{vs:List R5},AQ G.B W xs vs->∀t' k,Q (.str (Txt.join (AF x) (ss.map AF)) t') {s with toks:=k}:=fun{vs} R t' k=>
  h _ _ (I.tok k) ⟨⟨t',by rw [show Txt.join (AF x) (ss.map AF)=PySem.Str.join (AF x) (ss.map AF)from StrLaws.glued_eq_join _ _,Pa]⟩,ia hx (U5 R e2) z⟩
 have hw:(((ss.map AF).map (·.length)).sum+(ss.map AF).length)<=1048576:=by rw [map_len,wo];exact AI z.2
 rcases FH e1 with e1 |e1
 . rw [Hh e1]at hu;obtain⟨⟨y,vs,k,rfl,h1,h2⟩,h3⟩:=hu;exact join_tupleW (Eh (I.kn O h1)) (by simpa using ME h2 e2) (by rw [Bx];exact z.1) hw (fin h2)
 . obtain⟨y,vs,k,rfl,h1,h2,h3⟩:=I.FI O hu e1;exact join_listW (EI h1) (by simpa using ME h2 e2) (by rw [Bx];exact z.1) hw (fin h2)
end
end
section
variable{G:Gx}{f:Fx}{A:v7}{X:XP}{P:Prog}
theorem U6{c:Nat}:∀{p q R S:List Nat},c∉p->c∉q->p++c::R=q++c::S->p=q/\R=S
 | [],[],R,S,_,_,h=> ⟨rfl,by simpa using h⟩
 | [],b::q,R,S,_,h2,h=> by simp only [List.nil_append,x7,zO]at h;exact absurd (h.1▸List.mem_cons_self) h2
 |a::p,[],R,S,h1,_,h=> by simp only [List.nil_append,x7,zO]at h;exact absurd (h.1▸List.mem_cons_self) h1
 |a::p,b::q,R,S,h1,h2,h=> by simp only [x7,zO]at h;obtain(⟨e,h⟩):=h;obtain(⟨e1,e2⟩):=U6 (fun z=> h1 (.tail _ z)) (fun z=> h2 (.tail _ z)) h;exact⟨by rw [e,e1],e2⟩
theorem U7{c:Nat}:∀{P Q:List (List Nat)},P≠[]->Q≠[]->(∀p∈P,c∉p)->(∀q∈Q,c∉q)->Ba [c] P=Ba [c] Q->P=Q
 | [],_,h,_,_,_,_=> absurd rfl h
 |_,[],_,h,_,_,_=> absurd rfl h
 | [p],[q],_,_,_,_,h=> by rw [show p=q from h]
 | [p],q::q'::r,_,_,h1,_,h=> by have h:p=q++[c]++Ba [c] (q'::r):=h;exact absurd (by rw [h];simp) (h1 p (.head _))
 |p::p'::r,[q],_,_,_,h2,h=> by have h:p++[c]++Ba [c] (p'::r)=q:=h;exact absurd (by rw [<-h];simp) (h2 q (.head _))
 |p::p'::r,q::q'::r',_,_,h1,h2,h=> by have h:p++[c]++Ba [c] (p'::r)=q++[c]++Ba [c] (q'::r'):=h;rw [wF,wF]at h;obtain⟨e1,e2⟩:=U6 (h1 p (.head _)) (h2 q (.head _)) h;rw [e1,U7 (by simp) (by simp) (fun x hx=> h1 x (.tail _ hx)) (fun x hx=> h2 x (.tail _ hx)) e2]
theorem ic{a:Nat}{l:List (List Nat)}:Nh a l≠[]:=by cases l<;>exact nofun
theorem U8(c:Nat):∀s:List Nat,CW c s≠[]
 | []=> nofun
 |a::r=> by
  rw [K8];by_cases h:a=c
  . rw [if_pos h];exact nofun
  . rw [if_neg h];exact ic
theorem U9(c:Nat):∀s:List Nat,∀p∈CW c s,c∉p
 | []=>@fun p hp=> by rw [xH.mp hp];exact List.not_mem_nil
 |a::r=>@fun p hp=> by
  have ih:=U9 c r;rw [K8]at hp;by_cases ne:a=c
  . rw [if_pos ne]at hp;rcases wM.mp hp with rfl |hp
    . exact List.not_mem_nil
    . exact ih p hp
  . rw [if_neg ne]at hp;cases hw:CW c r with
    |nil=> rw [hw]at hp;rw [xH.mp hp];exact fun h=> ne (xH.mp h).symm
    |cons w ws=>
     rw [hw]at hp ih;rcases wM.mp hp with rfl |hp
     . intro hc;rcases wM.mp hc with e |hc
       . exact ne e.symm
       . exact ih w (.head _) hc
     . exact ih p (.tail _ hp)
theorem MQ(s x:List Nat):∀{r:List (List Nat)},r≠[]->Ba s (x::r)=x++s++Ba s r
 | []=>@fun h=> absurd rfl h
 |_::_=>@fun _=> rfl
theorem MR(c:Nat):∀s:List Nat,Ba [c] (CW c s)=s
 | []=> rfl
 |a::r=> by
  have ih:=MR c r;have hne:=U8 c r;rw [K8];by_cases e:a=c
  . rw [if_pos e,MQ _ _ hne,ih,e];rfl
  . rw [if_neg e];cases hw:CW c r with
    |nil=> exact absurd hw hne
    |cons w ws=>
     rw [hw]at ih;show Ba [c] ((a::w)::ws)=_;cases ws with
     |nil=> rw [show Ba [c] [w]=w from rfl]at ih;rw [ih];rfl
     |cons v vs=> rw [MQ _ _ (by simp)]at ih⊢;rw [x7,x7,ih]
theorem ie(x:List Nat)(c:Nat):Txt.split (AF x) (AF [c])=(CW c x).map AF:=by
 have e0:AF [c]=⟨#[c]⟩:=rfl;have hT:∀T:List vz,T=(T.map fun t=> t.cps.toList).map AF:=fun T=> by rw [yp];exact((yK fun a _=> by simp [AF]).trans (zU T)).symm
 have h1:=StrLaws.join_split (AF x) (AF [c]);have h2:=StrLaws.split_free (AF x) c;rw [<-e0]at h2;have h3:=split_pos (AF x) (AF [c]);generalize Txt.split (AF x) (AF [c])=T at h1 h2 h3⊢;have e1:=hT T;rw [e1]at h1⊢;rw [Pa]at h1;congr 1;refine U7 (c:=c) (by intro z;rw [List.map_eq_nil_iff]at z;rw [z]at h3;simp at h3) (U8 c x) (fun p hp=> ?_) (U9 c x) ?_
 . obtain⟨t,ht,rfl⟩:=wu.mp hp;exact h2 t ht
 . rw [MR];exact Ou h1
theorem ig{c a:Nat}:∀{s p:List Nat},p∈CW c s->a∈p->a∈s:=by
 intro s p hp ha;have:=MR c s;rw [<-this];have:∀(l:List (List Nat)),p∈l->a∈Ba [c] l:=fun l=> by
  induction l with
  |nil=> intro h;cases h
  |cons x r ih=>
   intro h;cases r with
   |nil=>
    rcases wM.mp h with rfl |h
    . exact ha
    . cases h
   |cons y r'=>
    rw [MQ _ _ (by simp)];rcases wM.mp h with rfl |h
    . simp [ha]
    . exact wH _ (ih h)
 exact this _ hp
end
section
variable{G:Gx}{f:Fx}{A:v7}{X:XP}{P:Prog}
theorem VA(c:Nat):∀s:List Nat,(CW c s).length<=s.length+1
 | []=> wW _
 |a::r=> by
  have ih:=VA c r;rw [K8];by_cases h:a=c
  . rw [if_pos h];exact xJ ih
  . rw [if_neg h];cases hw:CW c r with
    |nil=> exact xJ (wN _)
    |cons w ws=> rw [hw]at ih;exact zF ih
theorem ij{c:Nat}{x p:List Nat}(hp:p∈CW c x):p.length<=x.length:=by
 have h1:=MR c x;have:p.length<=(Ba [c] (CW c x)).length:=by
  clear h1
  revert hp
  generalize CW c x=L;intro hp
  induction L with
  |nil=> cases hp
  |cons a r ih=>
   cases r with
   |nil=>
    rcases wM.mp hp with rfl |hp
    . exact wW _
    . cases hp
   |cons b r'=>
    rw [MQ _ _ (by simp)];rcases wM.mp hp with rfl |hp
    . simp
    . have:=ih hp;simp;exact AI this
 rw [h1]at this;exact this
theorem VB{B:Heap}{W:Wd}:∀{l:List (vz×Tok)} {ps:List (List Nat)},l.map (·.1)=ps.map AF->(∀p∈ps,A3 p)->AQ B W (ps.map AV.str) (strValues l)
 | [],[],_,_=> trivial
 |(x,t)::l,p::ps,h,ok=> by simp only [wj,zO]at h;refine⟨⟨⟨t,?_⟩,ok p (.head _)⟩,VB h.2 fun q hq=> ok q (.tail _ hq)⟩;show yY x t=_;rw [h.1]
 | [],_::_,h,_=> by cases h
 |_::_,[],h,_=> by cases h
section
variable{W:Wd}{l:List (N×AV)}{hp:Hp}{M:Led}{ow:Addr->Nat}{m:vz->Option R5}{s:vy}{Q:R5->vy->Prop}{E:R5->vy->Prop}
theorem ik(I:Inv G f W l hp M ow m s){x:List Nat}{c:Nat}{t t':Tok}(hx:A3 x)(z:x.length+1<=lim)(h:∀V r s',W.le V->Inv G f V l hp M ow m s'->AG G.B V (.Ah ((CW c x).map .str)) r->Q r s'):
 wpAny (mo G) A (call (.builtin "str.split") [.str (AF x) t,.str (AF [c]) t']) Q E s:=by
 refine splitN1 I.fr I.nw rfl (fun lz h' k e F' N'=> ?_) (by rw [Bx];have:=Bq hx.1;have:lim=1000000:=rfl;have:=hx.1;rw [show sizeLine=2 ^ 24 from rfl];exact D9);rw [ie]at e;obtain⟨V,q1,q2,q3⟩:=I.Ir (tk:=k) F' N' (fun p hp=> wk (I.nw p hp).1) (xs:=(CW c x).map .str) (VB e fun p hp=> ⟨wC (ij hp) hx.1,fun a ha=> hx.2 a (ig hp ha)⟩) (by rw [wo];exact wC (VA c x) z);exact h V _ _ q1 q2 q3
theorem il(O:AN G f)(I:Inv G f W l hp M ow m s){x:List Nat}{a c:AV}{t:Tok}{w:R5}(hx:A3 x)(hv:AG G.B W a w)(e:LD hp x a=some c)(h:∀V r s',W.le V->Inv G f V l hp M ow m s'->AG G.B V c r->Q r s'):
 wpAny (mo G) A (call (.builtin "str.join") [.str (AF x) t,w]) Q E s:=
 AR e fun ss h1 h2=> AR h1 fun xs h3 h4=> C7 h2 (fun z h2=> by obtain rfl:=wb h2;exact ib O I hx hv h3 h4 z fun r s' I' hr=> h W r s' W.le_rfl I' hr) fun _ e=> cNS e
inductive ip(a:AV)(w:R5)(c:List Nat):Prop
 |mk (t:Tok) (h:w= .str (AF c) t)
theorem MS{B:Heap}{a:AV}{w:R5}{c:List Nat}(hv:AG B W a w)(e:BJ a=some c):ip a w c:=by rw [Cn e]at hv;obtain⟨⟨t,h⟩,_⟩:=hv;exact⟨t,h⟩
theorem s_split(I:Inv G f W l hp M ow m s){x:List Nat}{a c:AV}{t:Tok}{w:R5}(hx:A3 x)(hv:AG G.B W a w)(e:Rz x a=some c)(h:∀V r s',W.le V->Inv G f V l hp M ow m s'->AG G.B V c r->Q r s'):
 wpAny (mo G) A (call (.builtin "str.split") [.str (AF x) t,w]) Q E s:=
 AR e fun c' h1 e=> AR e fun ch h2 e=> by obtain⟨t',rfl⟩:=MS hv h1;obtain⟨z,rfl⟩:=FK e;rw [Gs h2];exact ik I hx z h
theorem iq(O:AN G f):PW G f A:=by
 intro x a mn c u w W l hp M ow m s Q E I hu hv e h;obtain⟨⟨t,rfl⟩,hx⟩:=(hu:(∃t,u= .str (AF x) t)/\A3 x);have k:∀r s',Inv G f W l hp M ow m s'->AG G.B W c r->Q r s':=fun r s' I' hr=> h W r s' W.le_rfl I' hr;exact C7 e (fun n e=> ⟨_,congrArg Gv n,il O I hx hv e h⟩) fun _ e=> C7 e (fun n e=> ⟨_,congrArg Gv n,s_split I hx hv e h⟩) fun _ e=>
  C7 e (fun n e=> ⟨_,congrArg Gv n,Iz e fun c' e1 e2=> by obtain⟨t',rfl⟩:=MS hv e1;exact iX I hx fun r s' I' hr=> k r s' I' (e2▸hr)⟩) fun _ e=>
  C7 e (fun n e=> ⟨_,congrArg Gv n,Iz e fun c' e1 e2=> by obtain⟨t',rfl⟩:=MS hv e1;exact iY I hx fun r s' I' hr=> k r s' I' (e2▸hr)⟩) fun _ e=>
  C7 e (fun n e=> ⟨_,congrArg Gv n,Iz e fun c' e1 e2=> by obtain⟨t',rfl⟩:=MS hv e1;exact iZ I hx fun r s' I' hr=> k r s' I' (e2▸hr)⟩) fun _ e=> cNS e
end
end
section
variable{G:Gx}{f:Fx}{A:v7}{X:XP}{P:Prog}
theorem MT(ps:List (N×Pos))(env:Env):assignEach (FC ps) env=ps.map fun p=> (false,assign (.Name (nm p.1) p.2) env):=by
 induction ps with
 |nil=> rfl
 |cons p r ih=> show assignEach (.Name (nm p.1) p.2::FC r) env=_;rw [wj,<-ih];rfl
theorem ir(ps:List (N×Pos))(env:Env):(assignEach (FC ps) env).findIdx? (·.1)=none:=by rw [MT];exact List.findIdx?_eq_none_iff.mpr fun x hx=> by obtain⟨p,_,rfl⟩:=wu.mp hx;rfl
section
variable{W:Wd}{l:List (N×AV)}{hp:Hp}{M:Led}{ow:Addr->Nat}{m:vz->Option R5}{s:vy}
theorem iu(O:AN G f){ps:List (N×Pos)}(hl:∀p∈ps,f.cs.names.lookup (nm p.1)=some .local):∀{l l':List (N×AV)} {m:vz->Option R5} {s:vy} {as:List AV} {vs:List R5},Inv G f W l hp M ow m s->AQ G.B W as vs->putAll (ps.map (·.1)) as l=some l'->
 ∀{Q:Unit->vy->Prop} {E:R5->vy->Prop},(∀m' s',Inv G f W l' hp M ow m' s'->Q () s')->wpAny (mo G) A (assignInOrder ((assignEach (FC ps) f.env).map (·.2)) vs) Q E s:=by
 induction ps with
 |nil=>
  intro l l' m s as vs I R e Q E h;cases as with
  |nil=> cases e;exact zy (h m s I)
  |cons a r=> cases e
 |cons p r ih=>
  intro l l' m s as vs I R e Q E h;cases as with
  |nil=> cases e
  |cons a as=>
   cases vs with
   |nil=> exact R.elim
   |cons v vs=> have e:putAll (r.map (·.1)) as (put p.1 a l)=some l':=e;rw [MT,wj,wj];refine yf (zH (FL O.fn (hl p (.head _)) I R.1 fun m' s' I'=> ?_));have:=ih (fun q hq=> hl q (.tail _ hq)) I' R.2 e (E:=E) h;rw [MT]at this;exact this
end
theorem iw{xs:List N}:∀{ys:List AV} {l l':List (N×AV)},putAll xs ys l=some l'->xs.length=ys.length:=by
 induction xs with
 |nil=> intro ys l l' e;cases ys<;>first |rfl |cases e
 |cons x r ih=>
  intro ys l l' e;cases ys with
  |nil=> cases e
  |cons y ys=> exact congrArg (· +1) (ih (show putAll r ys (put x y l)=some l' from e))
theorem ix{ps:List (N×Pos)}{k:Nat}{pos:Pos}(O:AN G f)(hd:A.handled=none)(hl:∀p∈ps,f.cs.names.lookup (nm p.1)=some .local):
 GA G f A X (.Tuple (FC ps) k pos) fun v s=> AO (ED v) fun vs=> AO (putAll (ps.map (·.1)) vs s.loc) fun l=>.ok () ⟨l,s.hp⟩:=fun a u W l hp M ow m s Z eR I hu ne=> by
 obtain⟨vs,h0,eR⟩:=Az eR ne;obtain⟨l',h1,eR⟩:=Az eR ne;rw [Hh h0]at hu;obtain⟨⟨t,us,n,rfl,q1,q2⟩,q3⟩:=hu;refine unpackN_ I.fr I.nw (Eh (I.kn O q1)) hd ?_ (ir _ _) fun h' F' N'=> ?_
 . have:=iw h1;rw [MT,wo,w3,<-q2.length,<-this,wo]
 . have I':Inv G f W l hp M ow m ⟨h',s.gens,s.drawn,s.toks,s.os⟩:=⟨F',N',I.hi,I.lr,I.gn,I.os⟩;exact iu O hl I' q2 h1 fun m' s' I'=> I'.U eR W.le_rfl
theorem iN{α:Type}{c:Prop} [Decidable c]{r b:α}(h:b=r):(if c then r else b)=r:=by rw [h];exact ite_self _
theorem iT{α:Type}{c:Prop} [Decidable c]{r b:α}(h:c):(if c then r else b)=r:=if_pos h
theorem iF{α:Type}{c:Prop} [Decidable c]{a b r:α}(h:¬c)(e:b=r):(if c then a else b)=r:=(if_neg h).trans e
theorem iy{ts:List Expr}{k:Nat}{pos:Pos}{v:Expr}{env:Env}(h:N5 v=true):swappedStores [.Tuple ts k pos] v env=pure none:=by
 cases v with
 |Tuple vs n p=> exact iN (iN (iN (iT h)))
 |_=> rfl
theorem iz{ts:List Expr}{k:Nat}{AAu pos:Pos}{v:Expr}{ev:St->Out AV}{ea:AV->St->Out Unit}(hw:N5 v=true)(hc:EY v=true)(hv:AP G f A X (eval v f.env) ev)(ha:GA G f A X (.Tuple ts k AAu) ea):
 Av G f A X (exec (.Assign [.Tuple ts k AAu] v pos) f.env) fun s=> (ev s).bind fun v s=> (ea v s).bind fun _ s=>.ok .next s:=fun W l hp M ow m s Z eR I ne=> by
 refine zA (Am eR W.le_rfl (fun q=> hv W l hp M ow m s _ rfl I q) ne fun a σ V L ow m u s' eR h1 h2 I hu ne=> ?_) (show swapsWith v (some (.Tuple ts k AAu)) pos.line f.env=pure false from Gw hc) (iy hw);show wpAny (mo G) A (assign (.Tuple ts k AAu) f.env u) _ _ _;refine Om eR h1 (fun q=> ha a u V _ _ L ow m s' _ rfl I hu q) ne fun σ' V' L ow m s' eR h1 h2 I ne=> ?_;exact(I.F eR h1 trivial)
theorem Ct.ext{B:Heap}{W:Wd}{l l':List (N×AV)}{m:vz->Option R5}(r:Ct B W l m)(h:∀x,look x l'=look x l):Ct B W l' m:=fun x a e=> r x a (h x▸e)
theorem nB{b:Bool}(h:(!b)=true):¬b=true:=fun z=> by rw [z]at h;exact cFT h
theorem nF{b:Bool}(h:b=false):¬b=true:=fun z=> cFT (h.symm.trans z)
theorem i0{x y:vz}{p q:Pos}{env:Env}(hx:env.kindOf x=some .local)(hy:env.kindOf y=some .local)(h5:(q.line==p.line)=true):
 ([xx x p,xx y q].filterMap fun e=> match e with
   | .Name id pos=> if(env.kindOf id==some .local&&pos.line==p.line)=true then some id else none
   |_=> none)=[x,y]:=by
 simp only [List.filterMap,hx,hy,h5,beq_self_eq_true,Bool.and_self,if_true]
theorem i3{x y:vz}(h:¬(x==y)=true):([x,y].length !=2||[x,y].eraseDups.length !=[x,y].length)=false:=by have:¬(y==x)=true:=fun z=> h (beq_iff_eq.mpr (beq_iff_eq.mp z).symm);simp [List.eraseDups_cons,this]
set_option backward.match.sparseCases true in
theorem VC{x y:vz}{p q AA3 AAu:Pos}{k n:Nat}{vs:List Expr}{env:Env}(h:IU [.Name x p,.Name y q] (.Tuple vs n AA3)=true)(hf:env.blockKind= .function)(hx:env.kindOf x=some .local)(hy:env.kindOf y=some .local):
 swappedStores [.Tuple [.Name x p,.Name y q] k AAu] (.Tuple vs n AA3) env=pure (some [x,y]):=by
 obtain⟨h,h5⟩:=wD.mp h;obtain⟨h,h4⟩:=wD.mp h;obtain⟨h,h3⟩:=wD.mp h;obtain⟨h1,h2⟩:=wD.mp h;obtain⟨h5,h6⟩:=wD.mp h5;have E:=i0 hx hy h5;have D:=i3 (x:=x) (y:=y) (nB h6);have hl:vs.length=2:=wy h1;have c1:(!(([xx x p,xx y q].length==2)||([xx x p,xx y q].length==3))||vs.length !=[xx x p,xx y q].length||env.blockKind != .function)=false:=by rw [hl,hf];rfl
 have c2:(vs.any fun e=> match e with | .Starred .. => true |_=> false)=false:=List.any_eq_false.mpr fun e he=> by
  have:=wi.mp h2 e he;cases e with
  |Starred _ _=> exact cFT this
  |_=> exact nF rfl
 refine iF (nF c1) (iF (nF c2) (iF (nF ?_) (iF (nB h3) (iF (nB h4) ?_))))
 . exact(congrArg (fun l:List vz=> (l.length !=2||l.eraseDups.length !=l.length)) E).trans D
 . exact congrArg (fun l=> pure (some l)) E
theorem VD{x y:N}(hxy:x≠y){a b:AV}{l:List (N×AV)}(z:N):look z (put y b (put x a l))=look z (put x a (put y b l)):=by
 rw [Ik,Ik,Ik,Ik];by_cases h1:z=y
 . rw [if_pos h1,if_neg fun h2=> hxy (h2.symm.trans h1),if_pos h1]
 . rw [if_neg h1,if_neg h1]
theorem VE{x y:N}{p q AA3:Pos}{n:Nat}{vs:List Expr}(h:IU [.Name (nm x) p,.Name (nm y) q] (.Tuple vs n AA3)=true):x≠y:=fun e=> by subst e;have:=(wD.mp (wD.mp h).2).2;simp at this
inductive i4(B:Heap)(W:Wd)(x y:N)(as:List AV)(us:List R5)(l l':List (N×AV)):Prop
 |mk (a b:AV) (u1 u2:R5) (h1:as=[a,b]) (h2:us=[u1,u2]) (h3:AG B W a u1) (h4:AG B W b u2) (h5:l'=put y b (put x a l))
theorem VF{B:Heap}{W:Wd}{x y:N}{as:List AV}{us:List R5}{l l':List (N×AV)}(R:AQ B W as us)(e:putAll [x,y] as l=some l'):i4 B W x y as us l l':=by
 cases as with
 |nil=> exact cNS e
 |cons a as=> cases as with
  |nil=> exact cNS e
  |cons b as=> cases as with
   |cons _ _=> exact cNS e
   |nil=> cases us with
    |nil=> exact R.elim
    |cons u1 us=> cases us with
     |nil=> exact R.2.elim
     |cons u2 us=> cases us with
      |nil=> exact⟨a,b,u1,u2,rfl,rfl,R.1,R.2.1,(wb e).symm⟩
      |cons _ _=> exact R.2.2.elim
theorem i5{x y:N}{p q AAu AA3 pos:Pos}{k n:Nat}{vs:List Expr}{ev:St->Out AV}(O:AN G f)(hd:A.handled=none)(hlx:f.cs.names.lookup (nm x)=some .local)(hly:f.cs.names.lookup (nm y)=some .local)
 (hw:IU [.Name (nm x) p,.Name (nm y) q] (.Tuple vs n AA3)=true) (hc:EY (.Tuple vs n AA3)=true) (hv:AP G f A X (eval (.Tuple vs n AA3) f.env) ev):
 Av G f A X (exec (.Assign [.Tuple [.Name (nm x) p,.Name (nm y) q] k AAu] (.Tuple vs n AA3) pos) f.env) fun s=> (ev s).bind fun v s=> (AO (ED v) fun vs=> AO (putAll [x,y] vs s.loc) fun l=> Out.ok () (⟨l,s.hp⟩:St)).bind fun _ s=>.ok .next s:=fun W l hp M ow m s Z eR I ne=> by
 refine Assign_Tuple_swapped (names:=[nm x,nm y]) (Am eR W.le_rfl (fun q=> hv W l hp M ow m s _ rfl I q) ne fun a σ V L ow m u s' eR h1 h2 I hu ne=> ?_) (show swapsWith (.Tuple vs n AA3) (some (.Tuple [.Name (nm x) p,.Name (nm y) q] k AAu)) pos.line f.env=pure false from Gw hc)
  (VC hw (show(if f.cs.kind.isAnnotationScope then _ else f.cs.kind)=_ by rw [O.fn];rfl) hlx hly)
 obtain⟨as,h3,eR⟩:=Gr eR ne;obtain⟨l',h4,eR⟩:=Gr eR ne;rw [Hh h3]at hu;obtain⟨⟨t,us,n,rfl,q1,q2⟩,q3⟩:=hu;obtain⟨a,b,u1,u2,rfl,rfl,r1,r2,rfl⟩:=VF q2 h4;refine unpackItemsN_ I.fr I.nw (Eh (I.kn O q1)) hd (by rfl) fun h' F' N'=> ?_;have I':Inv G f V σ.loc σ.hp L ow m ⟨h',s'.gens,s'.drawn,s'.toks,s'.os⟩:=⟨F',N',I.hi,I.lr,I.gn,I.os⟩;refine yf (bindName_ (FL O.fn hly I' r2 fun m' s' I'=> ?_));refine yf (bindName_ (FL O.fn hlx I' r1 fun m' s' I'=> zy ?_));exact Inv.F ⟨I'.fr,I'.nw,I'.hi,I'.lr.ext (VD (VE hw)),I'.gn,I'.os⟩ eR h1 trivial
end
section
variable{G:Gx}{f:Fx}{A:v7}{X:XP}{P:Prog}
section
variable{W:Wd}{l:List (N×AV)}{hp:Hp}{M:Led}{ow:Addr->Nat}{m:vz->Option R5}{s:vy}
theorem Inv.i6(I:Inv G f W l hp M ow m s){D1 D2:Addr}{o1 o2:Obj}(h1:(D1,o1)∈W.fz)(h2:(D2,o2)∈W.fz)(ne:D2≠D1)(nd1:¬DH o1)(nd2:¬DH o2){h':Heap}{tk:Nat}{L:Led}
 (keep:∀b o,b≠D1->b≠D2->s.heap.get? b=some o->h'.get? b=some o) (news:∀p∈L,h'.get? p.1=some p.2/\(p.1=D1∨p.1=D2∨s.heap.objs.size<=p.1)):
 Inv G f (((W.drop D1).drop D2).Bw L) l hp M ow m ⟨h',s.gens,s.drawn,tk,s.os⟩:=by
 refine cps fun P1_ k1_=> ?_;have J1:=I.MP h1 nd1;have h2':(D2,o2)∈(W.drop D1).fz:=PG h2 ne;have J2:=J1.MP h2' nd2;have z1:=I.nw _ (wH _ h1);have z2:=I.nw _ (wH _ h2);dsimp only at z1 z2;have n2:=PI J1 h2';have n1:∀p∈M++((W.drop D1).drop D2).fz,p.1≠D1:=fun p hp=> by
  rcases wV.mp hp with h |h
  . exact fun e=> I.hi.dj _ h1 p h e.symm
  . exact(KI (KI h).1).2
 have hL:=I.fr.ns.lt;have far:∀p∈L,p.1≠f.L/\f.g.get? p.1=none:=fun p hp=> by
  rcases(news p hp).2 with e |e |e
  . rw [e];exact z1.2
  . rw [e];exact z2.2
  . refine⟨fun z=> ?_,?_⟩
    . exact absurd hL (xu.mpr (z▸e))
    . cases hg:f.g.get? p.1 with
      |none=> rfl
      |some x=> exact absurd (wk (I.fr.keep _ _ hg)) (xu.mpr e)
 obtain⟨oL,es,ep,hLg,r⟩:=I.fr.ns;refine k1_ ?_;refine⟨⟨⟨oL,es,ep,keep f.L oL (fun e=> z1.2.1 e.symm) (fun e=> z2.2.1 e.symm) hLg,r⟩,fun b x q=> keep b x (fun e=> ?_) (fun e=> ?_) (I.fr.keep b x q),I.fr.above⟩,fun p hp=> ?_,
  J2.hi.Bw fun p hp q hq=> ?_,J2.lr.mono (Wd.CN _ _),I.gn,I.os⟩
 . have:=z1.2.2;rw [<-e,q]at this;cases this
 . have:=z2.2.2;rw [<-e,q]at this;cases this
 . have old:∀p∈M++((W.drop D1).drop D2).fz,h'.get? p.1=some p.2/\p.1≠f.L/\f.g.get? p.1=none:=fun p hp=> ⟨keep _ _ (n1 p hp) (n2 p hp) (J2.nw p hp).1,(J2.nw p hp).2⟩;rcases wV.mp hp with h |h
   . exact old p (wO _ h)
   . rcases wV.mp h with h |h
     . exact⟨(news p h).1,far p h⟩
     . exact old p (wH _ h)
 . rcases(news p hp).2 with e |e |e
   . exact fun z=> n1 q (wO _ hq) (by rw [<-z,e])
   . exact fun z=> n2 q (wO _ hq) (by rw [<-z,e])
   . intro z;have:=wk (I.mem (a:=q.1) (o:=q.2) hq);exact absurd (z▸this) (xu.mpr e)
end
theorem i7{o:Obj}(h:o.cls= .type "enumerate"):¬DH o:=Ei h (by decide) (by decide) (by decide)
theorem VG{o:Obj}{x:vz}(h:o.cls= .type (strIterType x)):¬DH o:=by
 unfold strIterType at h;split at h
 . exact Ei h (by decide) (by decide) (by decide)
 . exact Ei h (by decide) (by decide) (by decide)
theorem VH{A:v7}(hh:A.handled=none)(it:Addr)(x:vz)(t:Tok):
 Draws G.prog G.w A it [it] x.cps.size (fun i v=> ∃c u,x.cps[i]? =some c/\v= .str ⟨#[c]⟩ u) (fun i h=> h.IsStrIter it (strIterType x) x t i):=by
 by_cases hw:x.cps.all (· <128)=true
 . have e:strIterType x="str_ascii_iterator":=if_pos hw;rw [e];exact Draws.strAscii hh it x t
 . have e:strIterType x="str_iterator":=if_neg hw;rw [e];exact Draws.strWide hh it x t
def MU(it:Addr)(i:Int)(old:R5):Obj:={cls:=.type "enumerate",dict:=none,data:=.fields #[.none,.bool false,.ref it,rawInt i,.none,old],slots:=#[]}
section
variable{W:Wd}{l:List (N×AV)}{hp:Hp}{M:Led}{ow:Addr->Nat}{m:vz->Option R5}{s:vy}
theorem Inv.two(I:Inv G f W l hp M ow m s){h':Heap}{tk:Nat}{o1 o2:Obj}(hk:∀b o,s.heap.get? b=some o->h'.get? b=some o)(g1:h'.get? (s.heap.objs.size+1)=some o1)(g2:h'.get? s.heap.objs.size=some o2):
 Inv G f (W.Bw [(s.heap.objs.size+1,o1),(s.heap.objs.size,o2)]) l hp M ow m ⟨h',s.gens,s.drawn,tk,s.os⟩:=by
 have far:∀a,s.heap.objs.size<=a->a≠f.L/\f.g.get? a=none:=fun a e=> by
  refine⟨fun z=> absurd I.fr.ns.lt (xu.mpr (z▸e)),?_⟩;cases hg:f.g.get? a with
  |none=> rfl
  |some x=> exact absurd (wk (I.fr.keep _ _ hg)) (xu.mpr e)
 have old:∀p∈M++W.fz,h'.get? p.1=some p.2/\p.1≠f.L/\f.g.get? p.1=none:=fun p hp=> ⟨hk _ _ (I.nw p hp).1,(I.nw p hp).2⟩;refine⟨⟨I.fr.ns.keeps hk,fun b o q=> hk b o (I.fr.keep b o q),I.fr.above⟩,fun p hp=> ?_,I.hi.Bw fun p hp q hq=> ?_,I.lr.mono (Wd.CN _ _),I.gn,I.os⟩
 . rcases wV.mp hp with h |h
   . exact old p (wO _ h)
   . rcases wM.mp h with rfl |h
     . exact⟨g1,far _ (yU _)⟩
     . rcases wM.mp h with rfl |h
       . exact⟨g2,far _ (wW _)⟩
       . exact old p (wH _ h)
 . have:=wk (I.mem (a:=q.1) (o:=q.2) hq);rcases wM.mp hp with rfl |hp
   . exact xN (xI this)
   . rw [xH.mp hp];exact xN this
inductive KP(Y:Wd)(D:Addr)(x:List Nat)(tk:Tok)(i:Nat):Prop
 |mk (oi:_) (old:_) (h0_:(D+1,MU D i old)∈Y.fz) (h1_:(D,oi)∈Y.fz) (h2_:oi.cls= .type (strIterType (AF x))) (h3_:oi.data= .fields #[.str (AF x) tk,.int i 0])
theorem KP.mono{Y V:Wd}{D:Addr}{x:List Nat}{tk:Tok}{i:Nat}(h:KP Y D x tk i)(le:Y.le V):KP V D x tk i:=
 let⟨oi,old,a,b,c,d⟩:=h;⟨oi,old,le.fz _ a,le.fz _ b,c,d⟩
def Apart(V:Wd)(D:Addr):Prop:=∀p∈V.fz,p.1≠D+1/\p.1≠D
theorem i8{V Y:Wd}{D:Addr}{x:List Nat}{tk:Tok}{i c:Nat}(hx:A3 x)(ap:Apart V D)(hY:V.le Y)(I:Inv G f Y l hp M ow m s){oi oi':Obj}{old:R5}(hE:(D+1,MU D i old)∈Y.fz)(hI:(D,oi)∈Y.fz)(hic:oi.cls= .type (strIterType (AF x)))
 (hc:x[i]? =some c) {h₁ h₂:Heap} {tk₁ u:Tok} {tk₂:Nat} (hk:∀b o,b≠D+1->b≠D->s.heap.get? b=some o->h₁.get? b=some o) (hT:h₁.get? s.heap.objs.size=some (F7 [.int i tk₁,.str ⟨#[c]⟩ u] 0)) (ACs:h₁.get? D=some oi')
 (ACC:oi'.cls= .type (strIterType (AF x))) (ACD:oi'.data= .fields #[.str (AF x) tk,.int ((i+1:Nat):Int) 0]) (he₂:h₂.get? (D+1)=some (MU D ((i:Int)+1) (.str ⟨#[c]⟩ u))) (hs₂:AAB (D+1) h₁ h₂):
 ∃Y',V.le Y'/\Inv G f Y' l hp M ow m ⟨h₂,s.gens,s.drawn,tk₂,s.os⟩/\KP Y' D x tk (i+1)/\AG G.B Y' (.tup [.int i,.str [c]]) (.ref s.heap.objs.size):=by
 have hDn:D+1≠D:=Nat.succ_ne_self D;have hTD:s.heap.objs.size≠D+1:=xN (wk (I.nw _ (wH _ hE)).1);have J:=I.i6 (tk:=tk₂) (h':=h₂) hE hI (xZ hDn) (i7 rfl) (VG hic) (L:=[(s.heap.objs.size,F7 [.int i tk₁,.str ⟨#[c]⟩ u] 0),(D+1,MU D ((i:Int)+1) (.str ⟨#[c]⟩ u)),(D,oi')])
  (fun b o q1 q2 hb=> by rw [hs₂.2 b q1];exact hk b o q1 q2 hb) (fun p hp=> by
    rcases wM.mp hp with rfl |hp
    . exact⟨by show h₂.get? _=_;rw [hs₂.2 _ hTD];exact hT,.inr (.inr (wW _))⟩
    . rcases wM.mp hp with rfl |hp
      . exact⟨he₂,.inl rfl⟩
      . rw [xH.mp hp];exact⟨by show h₂.get? _=_;rw [hs₂.2 _ (xZ hDn)];exact ACs,.inr (.inl rfl)⟩)
 refine⟨_,(Wd.Hn (Wd.Hn hY fun p hp=> (ap p hp).1) fun p hp=> (ap p hp).2).trans (Wd.CN _ _),J,⟨oi',_,wO _ (.tail _ (.head _)),wO _ (.tail _ (.tail _ (.head _))),ACC,ACD⟩,?_⟩;exact⟨⟨_,[.int i tk₁,.str ⟨#[c]⟩ u],0,rfl,.inl (wO _ (.head _)),⟨_,rfl⟩,⟨⟨_,rfl⟩,(by show 1<=lim;decide),fun y hy=> by rw [xH.mp hy];exact hx.2 _ (yJ hc)⟩,trivial⟩,by show 2<=lim;decide⟩
end
theorem VI(x:List Nat):(EX x).length=x.length:=by simp [EX]
theorem i9{x:List Nat}{i c:Nat}(h:x[i]? =some c):(EX x).drop i= .tup [.int i,.str [c]]::(EX x).drop (i+1):=by have hi:i<x.length:=(w6.mp h).1;rw [w9 (by rw [VI];exact hi)];congr 1;have:x[i]=c:=(w6.mp h).2;simp [EX,this]
inductive VJ(G:Gx)(f:Fx)(V:Wd)(D:Addr)(x:List Nat)(tk:Tok)(ev:List AV->St->Out Flow)(Z:Out Flow)(n:Nat)(s:vy):Prop
 |mk (i:_) (Y:_) (l:_) (hp:_) (M:_) (ow:_) (m:_) (h0_:n=x.length+1 - i) (h1_:i<=x.length) (h2_:V.le Y) (h3_:Inv G f Y l hp M ow m s) (h4_:KP Y D x tk i) (h5_:ev ((EX x).drop i) ⟨l,hp⟩=Z)
theorem jA{ps:List (N×Pos)}{k:Nat}{AAu np ADc pos:Pos}{e:Expr}{b:List Stmt}{ev:St->Out AV}{ea:AV->St->Out Unit}{eb:St->Out Flow}(O:AN G f){d:Nat}(HA:Bc f d A)(hX:Gy G f A X)(hB:Built G f "enumerate" (.type "enumerate"))
 (hs:noStar e=true) (he:AP G f A X (eval e f.env) ev) (ha:GA G f A X (.Tuple (FC ps) k AAu) ea) (hb:Av G f A X (execs b f.env) eb):
 Av G f A X (exec (.For (.Tuple (FC ps) k AAu) (.Call (.Name "enumerate" np) [e] [] ADc) b [] pos) f.env) fun s=> ((ev s).bind fun v s=> AO (BJ v) fun t=>.ok (EX t) s).bind fun xs s=> Bf ea eb xs s:=fun W l hp M ow m s Z eR I ne=> by
 replace eR:=(bind_assoc _ _ _).symm.trans eR;refine wpAny_For (xo (Hf I O hB.no hB.val hB.ne ?_ hB.glob hB.nd)) (PL rfl);rw [DJ _ _ _ (by rw [xW,hs];rfl)];refine zd (plain_any _) (EM (yT (Am eR W.le_rfl (fun q=> he W l hp M ow m s _ rfl I q) ne fun a σ V L ow m u s' eR h1 h2 I hu ne=> spliced_nil ?_)));refine cps fun P1_ k1_=> ?_;clear h2;obtain⟨x,h3,eR⟩:=Gr eR ne;rw [Cn h3]at hu;obtain⟨⟨tk,rfl⟩,hx⟩:=hu;refine k1_ ?_;replace eR:Bf ea eb (EX x) σ=Z:=eR;refine call_enumerate_str fun h' he hit hsz hk=> wpAny_pyIter_enum (old:=.none) (i:=0) he ?_;refine cps fun P2_ k2_=> ?_;obtain⟨oi,hoi,hic,hid⟩:=hit;refine k2_ ?_;have J:=I.two (tk:=s'.toks) hk he hoi;have ap:Apart V s'.heap.objs.size:=fun p hp=> by have:=wk (I.nw p (wH _ hp)).1;exact⟨wt (xI this),wt this⟩
 clear hk I hsz;generalize s'.heap.objs.size=D at J ap he hoi;refine zt (VJ G f V D x tk (Bf ea eb) Z) (fun n s hI=> ?_) (x.length+1)
  ⟨0,_,_,_,_,_,_,rfl,wN _,V.CN _,J,⟨oi,.none,wO _ (.head _),wO _ (.tail _ (.head _)),hic,hid⟩,eR⟩
 refine cps fun P3_ k3_=> ?_;clear eR J he hoi hic hid;obtain⟨i,Y,l,hp,M,ow,m,hn,hi,hY,I,⟨oi,old,hE,hI,hic,hid⟩,eR⟩:=hI;refine k3_ ?_;have gE:=(I.nw _ (wH _ hE)).1;have gI:=(I.nw _ (wH _ hI)).1;have hcs:(AF x).cps.size=x.length:=w3;rcases xt i x.length with hlt |hge
 . refine wpAny_pyNext_enum_itemD (VH (G:=G) (A:=A.in1) HA.hd D (AF x) tk) (i:=i) (old:=old) gE ⟨oi,gI,hic,hid⟩ (by rw [hcs];exact hlt) (Nat.succ_ne_self D) (by simp) fun v h₁ tk₁ hv ho hst hT hsz hk=> ?_;refine cps fun P4_ k4_=> ?_;obtain⟨c,u,hc,rfl⟩:=hv;rw [show(AF x).cps[i]? =x[i]? by simp [AF]]at hc;rw [i9 hc]at eR;obtain⟨oi',ACs,ACC,ACD⟩:=hst;refine k4_ ?_;refine wpAny_letOwnedTupleGo_enum ho fun h₂ he₂ hs₂=> ?_;refine cps fun P5_ k5_=> ?_;obtain⟨Y',hV',J,hE',hvr⟩:=i8 (tk₂:=tk₁+1) hx ap hY I hE hI hic hc hk hT ACs ACC ACD he₂ hs₂;refine k5_ ?_;refine wL (Om eR (h1.trans hV') (fun q=> ha _ _ _ _ _ _ _ _ _ _ rfl J hvr q) ne fun σ V₁ L₁ ow₁ m₁ s₁ eR h1 h2' I₁ ne₁=> ?_) (fun _ _ x=> x) fun e s' he=> hX _ _ _ _ he;refine wL (L9 eR h1 (fun q=> hb V₁ _ _ _ _ _ _ _ rfl I₁ q) ne fun c σ' V₂ L₂ ow₂ m₂ w s₂ eR h3 h3' I₂ hw ne₂=> ?_) (fun _ _ x=> x) fun e s' he=> hX _ _ _ _ he;have ih:Bf ea eb ((EX x).drop (i+1)) σ'=Z->∃m,m<n/\VJ G f V D x tk (Bf ea eb) Z m s₂:=
    fun e=> ⟨x.length+1 - (i+1),dec_lt hn hlt,i+1,V₂,σ'.loc,σ'.hp,L₂,ow₂,m₂,rfl,hlt,hV'.trans (h2'.trans h3'),I₂,hE'.mono (h2'.trans h3'),e⟩
   cases c<;>cases w<;>first |exact hw.elim |skip
   . exact ih eR
   . exact I₂.F eR h3 trivial
   . exact ih eR
   . exact I₂.F eR h3 hw
 . have hie:i=x.length:=xp hi hge;subst hie;refine wpAny_pyNext_enum_endD (VH (G:=G) (A:=A.in1) HA.hd D (AF x) tk) (old:=old) gE ⟨oi,gI,hic,by rw [hcs];exact hid⟩ fun h₁ hs₁=> ?_;rw [xa (w5 (VI x))]at eR;exact xV ((I.PJ (tk:=s.toks) hI (VG hic) hs₁).F eR (h1.trans (Wd.Hn hY fun p hp=> (ap p hp).2)) trivial)
end
section
variable{G:Gx}{f:Fx}{A:v7}{X:XP}{P:Prog}
def Ej(G:Gx)(f:Fx)(A:v7)(t:Sem R5)(ev:St->Out AV):Prop:=
 ∀W l hp M ow m s Z (Q:R5->vy->Prop) (E:R5->vy->Prop),ev ⟨l,hp⟩=Z->Inv G f W l hp M ow m s->Z≠ .bad->(∀a u s',Out.ok a ⟨l,hp⟩=Z->Inv G f W l hp M ow m s'->AG G.B W a u->Q u s')->wpAny (mo G) A t Q E s
def Hq(G:Gx)(f:Fx)(A:v7)(t:Sem Bool)(ev:St->Out Bool):Prop:=
 ∀W l hp M ow m s Z (Q:Bool->vy->Prop) (E:R5->vy->Prop),ev ⟨l,hp⟩=Z->Inv G f W l hp M ow m s->Z≠ .bad->(∀b s',Out.ok b ⟨l,hp⟩=Z->Inv G f W l hp M ow m s'->Q b s')->wpAny (mo G) A t Q E s
def EN(G:Gx)(f:Fx)(A:v7)(t:Sem wx)(ev:St->Out Flow):Prop:=
 ∀W l hp M ow m s Z (Q:wx->vy->Prop) (E:R5->vy->Prop),ev ⟨l,hp⟩=Z->Inv G f W l hp M ow m s->Z≠ .bad->(∀l' m' s',Out.ok .next ⟨l',hp⟩=Z->Inv G f W l' hp M ow m' s'->Q .next s')->wpAny (mo G) A t Q E s
theorem jB{k pos env}:Ej G f A (eval (.Constant .none k pos) env) fun s=>.ok .none s:=
 fun W l hp M ow m s Z Q E eR I _ h=> wpAny_Constant_none (h _ _ _ eR I rfl)
theorem jC{x:N}{pos:Pos}(hk:f.cs.kind= .function)(hl:f.cs.names.lookup (nm x)=some .local)(hd:(nm x==("__debug__":vz))=false):
 Ej G f A (eval (.Name (nm x) pos) f.env) fun s=> AO (look x s.loc) fun v=>.ok v s:=fun W l hp M ow m s Z Q E eR I ne h=> by
 obtain⟨a,h1,eR⟩:=Az eR ne;obtain⟨v,h3,h4⟩:=I.lr x a h1;exact zK I.fr h3 (h a v s eR I h4) hk hl hd
theorem jD(C:CH G P)(O:AN G f){e:Expr}{a:N}{pos:Pos}{env:Env}{ev:St->Out AV}(hn:(match e with | .Call (.Name _ _) [] [] _=> false |_=> true)=true)(he:Ej G f A (eval e env) ev):
 Ej G f A (eval (.Attribute e (nm a) pos) env) fun s=> (ev s).bind fun o s=> AO (E5 P s.hp o a) fun v=>.ok v s:=fun W l hp M ow m s Z Q E eR I ne h=> by
 rw [arm_eval_Attribute];refine v5 (MC hn (he W l hp M ow m s _ _ _ rfl I (Bm (eR▸ne)) fun o u s' e1 I hu=> ?_));obtain⟨c,h3,eR⟩:=Az ((Bp e1.symm).symm.trans eR) ne;exact v5 (wa (v5 (wJ (Oq C O I hu h3 fun u s' hu I=> v5 (wpAny_letTemporaryGo (v8 (h _ _ _ eR I hu)))))))
theorem jE(O:AN G f){e i:Expr}{pos:Pos}{env:Env}{ee ei:St->Out AV}(hn:HU i=true)(he:Ej G f A (eval e env) ee)(hi:Ej G f A (eval i env) ei):
 Ej G f A (eval (.Subscript e i pos) env) fun s=> (ee s).bind fun o s=> (ei s).bind fun k s=> AO (Cr s.hp o k) fun v=>.ok v s:=fun W l hp M ow m s Z Q E eR I ne h=> by
 refine ze (he W l hp M ow m s _ _ _ rfl I (Bm (eR▸ne)) fun o u s' e1 I hu=> ?_);replace eR:=(Bp e1.symm).symm.trans eR;refine hi W l hp M ow m s' _ _ _ rfl I (Bm (eR▸ne)) fun k v s' e2 I hv=> ?_;obtain⟨c,h3,eR⟩:=Az ((Bp e2.symm).symm.trans eR) ne;obtain⟨⟨T,id,t1,t2⟩,g⟩:=O3 (A:=A) (E:=E) (Q:=Q) O I hu hv h3 fun r s' I hr=> h _ _ _ eR I hr;exact zk t1 t2 g (UL hn)
theorem jF(O:AN G f)(HA:A.units+200<cLine){le e:Expr}{op:COp}{pos:Pos}{env:Env}{whole:Sem R5}{el er:St->Out AV}(hm:lastMarks [Gg op] [e]=false)(hl:Ej G f A (eval le env) el)(hr:Ej G f A (eval e env) er):
 Hq G f A (isTrue (.Compare le [Gg op] [e] pos) env whole) fun s=> (el s).bind fun a s=> (er s).bind fun b s=> AO (BK s.hp op a b) fun c=>.ok c s:=fun W l hp M ow m s Z Q E eR I ne h=> by
 rw [arm_isTrue_Compare,zb _ _ _ hm];refine v5 (hl W l hp M ow m s _ _ _ rfl I (Bm (eR▸ne)) fun a u s' e1 I hu=> ?_);replace eR:=(Bp e1.symm).symm.trans eR;refine v5 (wJ (hr W l hp M ow m s' _ _ _ rfl I (Bm (eR▸ne)) fun b v s' e2 I hv=> ?_));obtain⟨c,h3,eR⟩:=Az ((Bp e2.symm).symm.trans eR) ne;exact v5 (wa (v5 (wpAny_operate' (KC O HA I hu hv h3 fun s' I=> wJ (yg (h _ _ eR I))))))
theorem jG{e e':Expr}{pos:Pos}{env:Env}{whole:Sem R5}{ev ev':St->Out Bool}(h1:Hq G f A (isTrue e env (eval e env)) ev)(h2:Hq G f A (isTrue e' env (eval e' env)) ev'):
 Hq G f A (isTrue (.BoolOp .Or [e,e'] pos) env whole) fun s=> (ev s).bind fun b s=> if b=true then .ok true s else(ev' s).bind fun b s=> if b=true then .ok true s else .ok false s:=fun W l hp M ow m s Z Q E eR I ne h=> by
 refine wpAny_isTrue_BoolOp (zj (h1 W l hp M ow m s _ _ _ rfl I (Bm (eR▸ne)) fun b s' e1 I=> ?_));replace eR:=(Bp e1.symm).symm.trans eR;cases b with
 |true=> exact h true s' eR I
 |false=>
  refine zj (h2 W l hp M ow m s' _ _ _ rfl I (Bm (eR▸ne)) fun b s' e2 I=> ?_);replace eR:=(Bp e2.symm).symm.trans eR;cases b with
  |true=> exact h true s' eR I
  |false=> exact wpAny_allTrue_Or_nil (h false s' eR I)
theorem jH{x:N}{v:Expr}{ACW pos:Pos}{ev:St->Out AV}(O:AN G f)(hl:f.cs.names.lookup (nm x)=some .local)(hc:EY v=true)(hv:Ej G f A (eval v f.env) ev):
 EN G f A (exec (.Assign [.Name (nm x) ACW] v pos) f.env) fun s=> (ev s).bind fun v s=>.ok .next ⟨put x v s.loc,s.hp⟩:=fun W l hp M ow m s Z Q E eR I ne h=> by
 refine zA (hv W l hp M ow m s _ _ _ rfl I (Bm (eR▸ne)) fun a u s' e1 I hu=> ?_) (show swapsWith v (some (.Name (nm x) ACW)) pos.line f.env=pure false from Gw hc) (PF rfl);replace eR:=(Bp e1.symm).symm.trans eR;exact zH (FL O.fn hl I hu fun m' s' I'=> h _ _ _ eR I')
theorem jI{t:Expr}{b:List Stmt}{pos:Pos}{et:St->Out Bool}{eb:St->Out Flow}(ht:Hq G f A (isTrue t f.env (eval t f.env)) et)(hb:EN G f A (execs b f.env) eb):
 EN G f A (exec (.If t b [] pos) f.env) fun s=> (et s).bind fun c s=> if c=true then eb s else .ok .next s:=fun W l hp M ow m s Z Q E eR I ne h=> by
 refine wpAny_If (ht W l hp M ow m s _ _ _ rfl I (Bm (eR▸ne)) fun c s' e1 I=> ?_);replace eR:=(Bp e1.symm).symm.trans eR;cases c with
 |true=> exact hb W l hp M ow m s' _ _ _ eR I ne h
 |false=> exact xV (h _ _ _ eR I)
theorem jJ:EN G f A (execs [] f.env) fun s=>.ok .next s:=fun W l hp M ow m s Z Q E eR I ne h=> xV (h _ _ _ eR I)
theorem jK{st:Stmt}{rest:List Stmt}{es er:St->Out Flow}(hs:EN G f A (exec st f.env) es)(hr:EN G f A (execs rest f.env) er):
 EN G f A (execs (st::rest) f.env) fun s=> (es s).bind fun f s=> match f with
  | .next=> er s
  | .brk=>.ok .brk s
  | .cont=>.ok .cont s
  | .ret v=>.ok (.ret v) s:=fun W l hp M ow m s Z Q E eR I ne h=>
 zI (hs W l hp M ow m s _ _ _ rfl I (Bm (eR▸ne)) fun l' m' s' e1 I=> hr W l' hp M ow m' s' _ _ _ ((Bp e1.symm).symm.trans eR) I ne h)
theorem BF.keys{B:Heap}{W:Wd}:∀{es:List (AV×AV)} {kvs:List (Int×R5)},BF B A4 W es kvs->es.map (·.1)=kvs.map fun p=> AV.int p.1
 | [],kvs,h=> by
   cases kvs with
   |nil=> rfl
   |cons _ _=> exact h.elim
 |p::es,kvs,h=> by
  cases kvs with
  |nil=> exact h.elim
  |cons q kvs=> exact congr (congrArg za (CG h.1)) (BF.keys h.2.2)
set_option tactic.hygienic true in
theorem VK{prog:wR}{w:wU}{k:Int}{v:R5}(h:(xM prog w).is k v=true):∃t,v= .int k t:=by
 cases v<;>first |exact absurd h (by intro z;cases z) |skip
 rename_i n t;have h:(n==k)=true:=h;exact⟨t,by rw [eq_of_beq h]⟩
def MV(d0:Addr)(j n ep:Nat):Data:=.fields #[.ref d0,.int j 0,.int n 0,.int ep 0]
abbrev putN(x:N):AV->St->Out Unit:=fun v s=>.ok () ⟨put x v s.loc,s.hp⟩
inductive jL(G:Gx)(f:Fx)(V:Wd)(D d0:Addr)(ep:Nat)(hp:Hp)(M:Led)(ow:Addr->Nat)(kvs:List (Int×R5))(ev:List AV->St->Out Flow)(Z:Out Flow)(n:Nat)(s:vy):Prop
 |mk (j:_) (Y:_) (l:_) (m:_) (oi:_) (h0_:n=kvs.length+1 - j) (h1_:j<=kvs.length) (h2_:V.le Y) (h3_:Inv G f Y l hp M ow m s) (h4_:(D,oi)∈Y.fz) (h5_:oi.cls= .type "dict_keyiterator") (h6_:oi.data=MV d0 j kvs.length ep) (h7_:ev ((kvs.map fun p=> AV.int p.1).drop j) ⟨l,hp⟩=Z)
theorem VL{hp:Hp}{a:AV}{xs:List AV}(h:keysOf hp a=some xs):∃i es,a= .ref i/\hp.f i= .Ap es/\Cv (.int 0) es=true/\xs=es.map (·.1):=by
 refine AR h fun i h1 h=> ?_;refine AR h fun es h2 h=> ?_;by_cases q:Cv (.int 0) es=true
 . rw [if_pos q]at h;cases h;exact⟨i,es,Hi h1,MB h2,q,rfl⟩
 . rw [if_neg q]at h;cases h
theorem jM{x:N}{AAu pos:Pos}{e:Expr}{b:List Stmt}{ev:St->Out AV}{eb:St->Out Flow}(O:AN G f){d:Nat}(HA:Bc f d A)(hl:f.cs.names.lookup (nm x)=some .local)
 (hs:Jl e=true) (he:AP G f A X (eval e f.env) ev) (hb:EN G f A (execs b f.env) eb):
 Av G f A X (exec (.For (.Name (nm x) AAu) e b [] pos) f.env) fun s=> ((ev s).bind fun v s=> AO (keysOf s.hp v) fun xs=> Out.ok xs s).bind fun xs s=> Bf (putN x) eb xs s:=fun W l hp M ow m s Z eR I ne=> by
 replace eR:=(bind_assoc _ _ _).symm.trans eR;refine wpAny_For (Am eR W.le_rfl (fun q=> he W l hp M ow m s _ rfl I q) ne fun a σ V M ow m u s₁ eR h1 h2 I hu ne=> ?_) (PL hs);clear h2;refine cps fun P1_ k1_=> ?_;obtain⟨xs,h3,eR⟩:=Gr eR ne;obtain⟨i,es,rfl,hf,hk,rfl⟩:=VL h3;replace eR:Bf (putN x) eb (es.map (·.1)) σ=Z:=eR;obtain⟨rfl,hi⟩:=I.lt hu;obtain⟨o,q1,q2,q3,q4,q5⟩:=I.Gu hi hf;rcases O0 (k:=.int 0) q4 rfl hk with⟨_,kvs,_,g1,g2⟩ |⟨_,_,hz,_⟩
 . rw [g2.keys]at eR;obtain⟨ep,hat⟩:=(xe.mpr ⟨o,I.mem q1,g1⟩:s₁.heap.DictOf (xM G.prog G.w) (V.r i) kvs).dictAt;have ADO:∀h:Heap,h.get? (V.r i)=some o->h.DictAt (xM G.prog G.w) (V.r i) kvs ep:=by
    obtain⟨o',es',z1,z2⟩:=hat;have:o'=o:=by rw [I.mem q1]at z1;exact(wb z1).symm
    subst this;exact fun h hh=> ⟨o',es',hh,z2⟩
   refine k1_ ?_;refine wpAny_pyIter_dict q3 hat ?_;obtain⟨J,ap⟩:=I.PM {cls:=.type "dict_keyiterator",data:=MV (V.r i) 0 kvs.length ep} rfl;clear hat I hu g1 g2 q4;change codeAny (mo G) A (.forLoop _ (.ref s₁.heap.objs.size) b [] f.env) _ {s₁ with heap:=s₁.heap.push {cls:=.type "dict_keyiterator",data:=MV (V.r i) 0 kvs.length ep}};generalize{s₁ with heap:=s₁.heap.push {cls:=.type "dict_keyiterator",data:=MV (V.r i) 0 kvs.length ep}}=s₂ at J⊢;generalize s₁.heap.objs.size=D at J ap⊢;generalize V.r i=d0 at ADO q1 J;refine zt (jL G f V D d0 ep σ.hp M ow kvs (Bf (putN x) eb) Z) (fun n s hI=> ?_) (kvs.length+1)
    ⟨0,_,_,_,_,rfl,wN _,V.CN _,J,wO _ (.head _),rfl,rfl,eR⟩
   clear eR J;obtain⟨j,Y,l,m,oi,hn,hj,hY,I,hD,hic,hid,eR⟩:=hI;have gD:=(I.nw _ (wH _ hD)).1;have gd:=ADO s.heap (I.mem q1);have nd:¬DH oi:=Ei hic (by decide) (by decide) (by decide);cases hx2:kvs[j]? with
   |none=> refine wpAny_pyNext_dict_end HA.hd ⟨oi,gD,hic,hid⟩ gd hx2 fun h' hs'=> ?_;rw [xa (by simpa using hx2)]at eR;exact xV ((I.PJ (tk:=s.toks) hD nd hs').F eR (h1.trans (Wd.Hn hY ap)) trivial)
   |some kv=>
    obtain⟨k,v⟩:=kv;refine wpAny_pyNext_dict_item ⟨oi,gD,hic,hid⟩ gd hx2 fun key h' AB1 hit hs'=> ?_;obtain⟨t,rfl⟩:=VK AB1;obtain⟨oi',ho',ACC,ACD⟩:=hit;have J:=I.Un (tk:=s.toks) hD nd hs' ho';obtain⟨hjl,e1⟩:=w6.mp hx2;rw [w9 (by simpa using hjl),List.getElem_map,e1]at eR;show wpAny (mo G) A (letOwnedTupleGo (.Name (nm x) AAu) (.ref D) (.int k t)) _ _ _;rw [KJ rfl];refine v8 (zH (FL (v:=.int k) (u:=.int k t) O.fn hl J ⟨t,rfl⟩ fun m' s' I'=> ?_));have eR:((eb ⟨put x (.int k) l,σ.hp⟩).bind fun f s=> _)=Z:=eR;exact hb _ _ _ _ _ _ _ _ _ _ rfl I' (Bm (eR▸ne)) fun l₂ m₂ s₂ e2 I₂=>
     ⟨kvs.length+1 - (j+1),dec_lt hn hjl,j+1,_,l₂,m₂,oi',rfl,hjl,(Wd.Hn hY ap).trans (Wd.CN _ _),I₂,wO _ (.head _),ACC,ACD,(Bp e2.symm).symm.trans eR⟩
 . cases hz
end
section
variable{G:Gx}{f:Fx}{A:v7}{X:XP}{P:Prog}
theorem VM{n:vz}{T:String}{b:BI}{args:List Expr}{np pos:Pos}{ev:St->Out (List AV)}(O:AN G f)(hB:Built G f n (.type T))(hs:args.all noStar=true)(hl:CP G f A X (evalEach args f.env) ev)
 (op:∀{W l hp M ow m s a u c U Z},Inv G f W l hp M ow m s->AG G.B W a u->E6 hp b [a]=some c->Out.ok c ⟨l,hp⟩=Z->U.le W->Cz G f A X U (call (.type T) [u]) Z s):
 AP G f A X (eval (.Call (.Name n np) args [] pos) f.env) fun s=> (ev s).bind fun vs s=> AO (E6 s.hp b vs) fun v=>.ok v s:=fun W l hp M ow m s Z eR I ne=> by
 refine xo (Hf I O hB.no hB.val hB.ne ?_ hB.glob hB.nd);rw [DJ _ _ _ hs];refine zd (plain_any _) (EM (Ed eR W.le_rfl (fun q=> hl W l hp M ow m s _ rfl I q) ne fun as σ V L ow m vs s' eR h1 h2 I hv ne=> ?_));obtain⟨c,h3,eR⟩:=Az eR ne;refine AR h3 fun a h4 h5=> ?_;rw [Gs h4]at hv;obtain⟨u,rfl,hu⟩:=Hm hv;exact op I hu h5 eR h1
theorem jN{W l hp M ow m s a u xs}(I:Inv G f W l hp M ow m s)(hu:AG G.B W a u)(h3:keysOf hp a=some xs):
 ∃i o kvs ep,u= .ref (W.r i)/\(W.r i,o)∈M/\(W.r i==sysModules)=false/\xs=(kvs.map fun p=> AV.int p.1)/\kvs.length<=lim/\s.heap.DictAt (xM G.prog G.w) (W.r i) kvs ep:=by
 refine cps fun P1_ k1_=> ?_;obtain⟨i,es,rfl,hf,hk,rfl⟩:=VL h3;obtain⟨rfl,hi⟩:=I.lt hu;obtain⟨o,q1,q2,q3,q4,q5⟩:=I.Gu hi hf;refine k1_ ?_;rcases O0 (k:=.int 0) q4 rfl hk with⟨_,kvs,_,g1,g2⟩ |⟨_,_,hz,_⟩
 . obtain⟨ep,hat⟩:=(xe.mpr ⟨o,I.mem q1,g1⟩:s.heap.DictOf (xM G.prog G.w) (W.r i) kvs).dictAt;exact⟨i,o,kvs,ep,rfl,q1,q3,g2.keys,g2.len▸q5,hat⟩
 . cases hz
theorem jO{prog:wR}{w:wU}{B:Heap}{W:Wd}:∀{kvs:List (Int×R5)} {ws:List R5},ws.length=kvs.length->(∀(j:Nat) (v:R5),ws[j]? =some v->∃(k:Int) (x:R5),kvs[j]? =some (k,x)/\(xM prog w).is k v=true)->AQ B W (kvs.map fun p=> AV.int p.1) ws:=by
 intro kvs
 induction kvs with
 |nil=>
  intro ws hl hw;cases ws with
  |nil=> trivial
  |cons _ _=> exact absurd hl nofun
 |cons p r ih=>
  intro ws hl hw;cases ws with
  |nil=> exact absurd hl nofun
  |cons w ws=> refine⟨?_,ih (Nat.succ.inj hl) fun j v hj=> hw (j+1) v hj⟩;obtain⟨k,x,h1,h2⟩:=hw 0 w rfl;rw [wb h1];exact VK h2
theorem jP(O:AN G f){d:Nat}(HA:Bc f d A){W l hp M ow m s a u c U Z}(I:Inv G f W l hp M ow m s)(hu:AG G.B W a u)(e:E6 hp .list [a]=some c)(eR:Out.ok c ⟨l,hp⟩=Z)(hU:U.le W):Cz G f A X U (call (.type "list") [u]) Z s:=by refine cps fun P1_ k1_=> ?_;obtain⟨xs,h3,rfl⟩:=wK.mp (show(keysOf hp a).map .Ah=some c from e);obtain⟨i,o,kvs,ep,rfl,q1,q3,rfl,q5,hat⟩:=jN I hu h3;refine k1_ ?_;refine kdl_N (kdl_dict (knd:=xM G.prog G.w) (kvs:=kvs) (ep:=ep) q3) HA.hd I.fr I.nw hat (Bq q5) fun D n h' tk ws F' N' lt hl hw=> ?_;refine cps fun P2_ k2_=> ?_;obtain⟨V,z1,z2,z3⟩:=I.Ir (tk:=tk) F' N' lt (jO hl hw) (by rw [wo];exact q5);refine k2_ ?_;exact z2.V eR (hU.trans z1) z3
theorem jQ(c:Nat)(h1:48<=c)(h2:c<=57):PySem.intText? (AF [c])=some ((c:Int) - 48):=by
 have key:∀d:Fin 10,PySem.intText? (AF [d.1+48])=some ((d.1:Nat):Int):=by decide+kernel
 have:=key ⟨c - 48,Nat.sub_lt_left_of_lt_add h1 (yh h2)⟩;rw [ye h1]at this;rw [this];exact congrArg some (Int.ofNat_sub h1)
theorem jR{W l hp M ow m s a u c U Z}(I:Inv G f W l hp M ow m s)(hu:AG G.B W a u)(e:E6 hp .int [a]=some c)(eR:Out.ok c ⟨l,hp⟩=Z)(hU:U.le W):Cz G f A X U (call (.type "int") [u]) Z s:=by
 refine AR (show((BJ a).bind fun s=> (one s).bind fun c=> if 48<=c/\c<=57 then some (AV.int ((c:Int) - 48))else none)=some c from e) fun x h1 e=> ?_;refine AR e fun ch h2 e=> ?_;rw [Cn h1,Gs h2]at hu;obtain⟨⟨t,rfl⟩,hs⟩:=hu;by_cases q:48<=ch/\ch<=57
 . rw [if_pos q]at e;cases e;exact KIN.call_text (jQ ch q.1 q.2) (by rw [Bx];show 1<=640;decide) ((I.tok _).V eR hU ⟨_,rfl⟩)
 . rw [if_neg q]at e;cases e
theorem jS(O:AN G f){pos:Pos}:AP G f A X (eval (.Dict [] [] pos) f.env) fun s=>.ok (.ref s.hp.n) ⟨s.loc,s.hp.add (.Ap [])⟩:=fun W l hp M ow m s Z eR I ne=> by refine newDict_K I.fr I.nw O.T.nolimit fun D h' o F' N' lt lo a _ b _=> ?_;have g:=hp.LQ (.Ap []);have e1:(W.add hp.n D).r hp.n=D:=if_pos rfl;exact(I.fresh (tk:=s.toks) F' N' lt g ⟨o,e1.symm▸ .head _,e1.symm▸if_pos (.head _),e1.symm▸lo,.inl ⟨[],b,trivial⟩,wN _⟩).V eR (Wd.Gn D (I.hi.nl g)) ⟨congrArg xw e1.symm,.inr rfl⟩
def MW(B:Heap)(W:Wd):List (AV×AV)->List (R5×R5)->Prop
 | [],[]=> True
 |a::r,v::t=> AG B W a.1 v.1/\AG B W a.2 v.2/\MW B W r t
 |_,_=> False
def KQ(kvs:List (Expr×Expr))(env:Env)(pos:Pos):List (Sem R5×Sem R5):=kvs.map fun p=> (eval p.1 env,do let x<-eval p.2 env;standAt pos;pure x)
inductive VN(G:Gx)(f:Fx)(W:Wd)(r:Out (List (AV×AV)))(vs:List (R5×R5))(s:vy):Prop
 |mk (es:_) (σ:_) (W':_) (M:_) (ow:_) (m:_) (h0_:r= .ok es σ) (h1_:W.le W') (h2_:Inv G f W' σ.loc σ.hp M ow m s) (h3_:MW G.B W' es vs)
def KR(G:Gx)(f:Fx)(A:v7)(X:XP)(kvs:List (Expr×Expr))(pos:Pos)(ev:St->Out (List (AV×AV))):Prop:=
 ∀W l hp M ow m s Z,ev ⟨l,hp⟩=Z->Inv G f W l hp M ow m s->Z≠ .bad->wpAny (mo G) A (evalPairs (KQ kvs f.env pos)) (VN G f W Z) (Aw X W Z) s
theorem VO{β:Type}{U W:Wd}{s:vy}{t:Sem (List (R5×R5))}{r:Out (List (AV×AV))}{k:List (AV×AV)->St->Out β}{Z:Out β}{C:List (R5×R5)->vy->Prop}(eR:r.bind k=Z)(hU:U.le W)(h:r≠ .bad->wpAny (mo G) A t (VN G f W r) (Aw X W r) s)(ne:Z≠ .bad)
 (next:∀a σ V L ow m v s',k a σ=Z->U.le V->W.le V->Inv G f V σ.loc σ.hp L ow m s'->MW G.B V a v->C v s'):wpAny (mo G) A t C (Aw X U Z) s:=
 wL (h (Bm (eR▸ne))) (fun v s' ⟨a,σ,V,L,ow,m,h1,h2,h3,h4⟩=> next a σ V L ow m v s' ((Bp h1).symm.trans eR) (hU.trans h2) h2 h3 h4) fun _ _ x=> EH eR hU x
theorem jT{pos:Pos}:KR G f A X [] pos fun s=>.ok [] s:=fun W l hp M ow m s Z eR I ne=> evalPairs_nil ⟨_,_,W,_,_,_,eR.symm,W.le_rfl,I,trivial⟩
theorem jU{ke ve:Expr}{kvs:List (Expr×Expr)}{pos:Pos}{k:AV}{ev:St->Out AV}{er:St->Out (List (AV×AV))}(hk:AP G f A X (eval ke f.env) fun s=>.ok k s)(hv:AP G f A X (eval ve f.env) ev)(hr:KR G f A X kvs pos er):
 KR G f A X ((ke,ve)::kvs) pos fun s=> (ev s).bind fun v s=> (er s).bind fun es s=>.ok ((k,v)::es) s:=fun W l hp M ow m s Z eR I ne=> by
 show wpAny (mo G) A (evalPairs ((eval ke f.env,do let x<-eval ve f.env;standAt pos;pure x)::KQ kvs f.env pos)) _ _ _;exact evalPairs_cons (Am (r:=.ok k ⟨l,hp⟩) (k:=fun k s=> (ev s).bind fun v s=> (er s).bind fun es s=>.ok ((k,v)::es) s) eR W.le_rfl (fun q=> hk W l hp M ow m s _ rfl I q) ne fun k' σ0 V1 L1 ow1 m1 u s1 eR h1 _ I1 hu ne=>
  v5 (Am eR h1 (fun q=> hv V1 _ _ L1 ow1 m1 s1 _ rfl I1 q) ne fun a σ V L ow m u2 s' eR h3 h4 I hu2 ne=> v5 (wa (v8
   (VO eR h3 (fun q=> hr V σ.loc σ.hp L ow m s' _ rfl I q) ne fun es σ2 V2 L2 ow2 m2 vs s'' eR h5 h6 I2 hR=> ⟨_,_,V2,_,_,_,eR.symm,h5,I2,hu.mono (h4.trans h6),hu2.mono h6,hR⟩)))))
theorem VP(O:AN G f){W:Wd}{l:List (N×AV)}{ow:Addr->Nat}{m:vz->Option R5}{i:Nat}{Q:PUnit->vy->Prop}{E:R5->vy->Prop}:∀{es:List (AV×AV)} {vs:List (R5×R5)} {hp hp':Hp} {M:Led} {s:vy},Inv G f W l hp M ow m s->hp.lv i->MW G.B W es vs->Je hp i es=some hp'->
 (∀M' s',Inv G f W l hp' M' ow m s'->Q PUnit.unit s')->wpAny (mo G) A (forIn vs PUnit.unit fun(x:R5×R5) (_:PUnit)=> (do dictSet (W.r i) x.1 x.2;pure (ForInStep.yield PUnit.unit):Sem (ForInStep PUnit))) Q E s
 | [],[],hp,hp',M,s,I,hi,R,e,h=> by cases e;rw [List.forIn_nil];exact v8 (h _ _ I)
 |(k,a)::es,(v,x)::vs,hp,hp',M,s,I,hi,R,e,h=> by obtain⟨R1,R2,R3⟩:=R;refine AR e fun hp1 e1 e2=> ?_;rw [yO];exact v5 (v5 (fK O I hi R1 R2 e1 fun M' s' I' hn=> v8 (VP O I' (hn▸hi) R3 e2 h)))
 | [],_::_,_,_,_,_,_,_,R,_,_=> R.elim
 |_::_,[],_,_,_,_,_,_,R,_,_=> R.elim
theorem jV(O:AN G f){W:Wd}{l:List (N×AV)}{hp:Hp}{M:Led}{ow:Addr->Nat}{m:vz->Option R5}{s:vy}{Q:Addr->vy->Prop}{E:R5->vy->Prop}(I:Inv G f W l hp M ow m s)
 (h:∀V M' ow' s',W.le V->Inv G f V l (hp.add (.Ap [])) M' ow' m s'->V.lv hp.n->Q (V.r hp.n) s'):wpAny (mo G) A (alloc {cls:=.type "dict",data:=.dict #[]}) Q E s:=by
 refine wpAny_alloc ?_;have F:=I.fr;have g:=hp.LQ (.Ap []);have F':=F.push {cls:=.type "dict",data:=.dict #[]};have N':=News.push F I.nw {cls:=.type "dict",data:=.dict #[]};have e1:(W.add hp.n s.heap.objs.size).r hp.n=s.heap.objs.size:=if_pos rfl;have lo:=F.notModules (modules_low O.T.nolimit);have hd:(({cls:=.type "dict",data:=.dict #[]}:Obj)).IsDictOf (xM G.prog G.w) []:=by obtain⟨o,ho,hd⟩:=xe.mp (Heap.DictOf.new (knd:=xM G.prog G.w) s.heap);rw [zB _ rfl]at ho;exact(wb ho)▸hd
 have lt:∀p∈M++W.fz,p.1<s.heap.objs.size:=fun p hp=> wk (I.nw p hp).1;have:=h (W.add hp.n s.heap.objs.size) _ _ _ (Wd.Gn _ (I.hi.nl g)) (I.fresh (tk:=s.toks) F' N' lt g ⟨_,by rw [e1];exact .head _,by rw [e1];exact if_pos (.head _),by rw [e1];exact lo,.inl ⟨[],hd,trivial⟩,wN _⟩) (.inr rfl);rw [e1]at this;exact this
theorem jW{kvs:List (Expr×Expr)}{pos:Pos}{ev:St->Out (List (AV×AV))}(O:AN G f)(hl:kvs.length<=15)(h0:kvs≠[])(hd:KR G f A X kvs pos ev):
 AP G f A X (eval (.Dict (kvs.map fun p=> some p.1) (kvs.map (·.2)) pos) f.env) fun s=> (ev ⟨s.loc,s.hp.add (.Ap [])⟩).bind fun es t=> AO (Je t.hp s.hp.n es) fun h=>.ok (.ref s.hp.n) ⟨t.loc,h⟩:=fun W l hp M ow m s Z eR I ne=> by
 have ADd:(evalEachOpt (kvs.map fun p=> some p.1) f.env).zip ((evalEach (kvs.map (·.2)) f.env).map fun v=> do let x<-v;standAt pos;pure x)=(KQ kvs f.env pos).map fun p=> (some p.1,p.2):=by
  clear ne hl h0 hd
  induction kvs with
  |nil=> rfl
  |cons p r ih=> exact congrArg ((some (eval p.1 f.env),do let x<-eval p.2 f.env;standAt pos;pure x)::·) ih
 have hlen:(KQ kvs f.env pos).length=kvs.length:=by unfold KQ;rw [wo]
 rw [arm_eval_Dict,ADd,dictDisplay_pairs _ (by intro z;apply h0;have:=congrArg w7 z;rw [hlen]at this;exact xy.mp this) (by exact BV (wG (w5 hlen) hl))];refine v5 (wa (v5 ?_));unfold subDict;refine v5 (jV O I fun V1 M1 ow1 s1 h1 I1 hi1=> v5 (wJ ?_));rw [if_pos (by exact AI (wG (w5 hlen) hl))];refine v5 (VO eR h1 (fun q=> hd V1 _ _ M1 ow1 m s1 _ rfl I1 q) ne fun es σ V2 M2 ow2 m2 vs s2 eR h2 h2' I2 R=> ?_);obtain⟨h',e1,eR⟩:=Az eR ne;rw [<-h2'.r _ hi1];have hi2:=h2'.lv _ hi1;exact wJ (v5 (VP O I2 (I2.hi.n▸hi2) R e1 fun M' s' I'=> v8 (v8 (v8 (I'.V eR h2 ⟨rfl,hi2⟩)))))
theorem VQ{β:Type}{U W:Wd}{s:vy}{t:Sem R5}{r:Out AV}{k:AV->St->Out β}{Z:Out β}{C:R5->vy->Prop}(eR:r.bind k=Z)(hU:U.le W)(h:r≠ .bad->Cz G f A X W t r s)(ne:Z≠ .bad)
 (next:∀a σ V L ow m v s',r= .ok a σ->k a σ=Z->U.le V->W.le V->Inv G f V σ.loc σ.hp L ow m s'->AG G.B V a v->C v s'):
 wpAny (mo G) A t C (Aw X U Z) s:=
 wL (h (Bm (eR▸ne))) (fun v s' ⟨a,σ,V,L,ow,m,h1,h2,h3,h4⟩=> next a σ V L ow m v s' h1 ((Bp h1).symm.trans eR) (hU.trans h2) h2 h3 h4) fun _ _ x=> EH eR hU x
theorem jX{e:Expr}{np sp pos:Pos}{ev:St->Out AV}(O:AN G f)(hB:Built G f "isinstance" (.builtin "isinstance"))(hS:Built G f "str" (.type "str"))(hs:noStar e=true)(he:AP G f A X (eval e f.env) ev):
 AP G f A X (eval (.Call (.Name "isinstance" np) [e,.Name "str" sp] [] pos) f.env) fun s=> (ev s).bind fun v s=> AO (BJ v) fun _=>.ok (.bool true) s:=fun W l hp M ow m s Z eR I ne=> by
 refine xo (Hf I O hB.no hB.val hB.ne ?_ hB.glob hB.nd);rw [DJ _ _ _ (by rw [xW,hs];rfl)];refine yj (plain_any _) (EM ?_);refine yT (Am eR W.le_rfl (fun q=> he W l hp M ow m s _ rfl I q) ne fun a σ V L ow m v s' eR h1 h2 I hv ne=> ?_);refine yT (Hf I O hS.no hS.val hS.ne (spliced_nil ?_) hS.glob hS.nd);obtain⟨x,h3,eR⟩:=Az eR ne;rw [Cn h3]at hv;obtain⟨⟨t,rfl⟩,hx⟩:=hv;exact IsiPair.str_str (I.V eR h1 rfl)
structure Pb(G:Gx)(P:Prog):Prop where
 yes:∀d cl c,P.cls d=some cl->cl.exc=false->P.CL.contains c=true->cl.mro.contains c=true->isIn G.K (.ref d) c=true
 no:∀d cl c,P.cls d=some cl->cl.exc=false->P.CL.contains c=true->cl.mro.contains c=false->kin_not G.K d c=true
 fit:∀d cl,P.cls d=some cl->cl.exc=false->plainGet G.K d "__class__"=true/\hasDictIn G.K d=true/\findIn G.K (.ref d) "__class__"=some (some (.builtin "object.__class__"))/\mroIn G.K d (.type "object")=some true
 sp:specialIn G.K (.builtin "object.__class__") "__get__"=some (some (.builtin "getset_descriptor.__get__"))
 tk:takesIn G.K (.builtin "object.__class__")=some true
set_option tactic.hygienic true in
theorem jY{n:vz}{c:Nat}{e:Expr}{np cp pos:Pos}{ev:St->Out AV}(O:AN G f)(IS:Pb G P)(hB:Built G f "isinstance" (.builtin "isinstance"))(hs:noStar e=true)(he:AP G f A X (eval e f.env) ev)
 (hc:AP G f A X (eval (.Name n cp) f.env) fun s=>.ok (.cls c) s):
 AP G f A X (eval (.Call (.Name "isinstance" np) [e,.Name n cp] [] pos) f.env) fun s=> (ev s).bind fun v s=> AO (Jg P v c) fun b=>.ok (.bool b) s:=fun W l hp M ow m s Z eR I ne=> by
 refine xo (Hf I O hB.no hB.val hB.ne ?_ hB.glob hB.nd);rw [DJ _ _ _ (by rw [xW,hs];rfl)];refine yj (plain_any _) (EM ?_);refine yT (Am eR W.le_rfl (fun q=> he W l hp M ow m s _ rfl I q) ne fun a σ V L ow m v s' eR h1 h2 I hv ne=> ?_);obtain⟨b,h3,eR⟩:=Az eR ne;refine yT (VQ (r:=.ok (.cls c) σ) (k:=fun _ s=> Out.ok (AV.bool b) s) eR h1 (fun q=> hc V _ _ L ow m s' _ rfl I q) ne fun a' σ' V' L' ow' m' u s'' e0 eR h5 h5' I' hu=> spliced_nil ?_);cases e0;cases(hu:u= .ref c);have hv:=hv.mono h5';cases a<;>first |(cases h3;done) |skip
 rename_i d fs _;change(if P.CL.contains c=true then(P.cls d).bind fun cl=> if cl.exc=true then none else some (cl.mro.contains c)else none)=some b at h3;by_cases hcs:P.CL.contains c=true
 . rw [if_pos hcs]at h3;refine AR h3 fun cl g1 g2=> ?_;cases gx:cl.exc with
   |true=> rw [gx,if_pos rfl]at g2;cases g2
   |false=>
   rw [gx,if_neg xm]at g2;have g2:=wb g2;obtain⟨x,ox,es,k,rfl,H,F⟩:=I'.Td O hv;cases b with
   |true=> exact isi_call (I'.X O) (fun M=> H.type) (IS.yes d cl c g1 gx hcs g2) (by intro z;cases z) (I'.V eR h5 rfl)
   |false=> obtain⟨f1,f2,f3,f4⟩:=IS.fit d cl g1 gx;exact kin_callC (I'.X O) H (IS.no d cl c g1 gx hcs g2) f1 f2 f3 IS.sp IS.tk f4 ((I'.tok _).V eR h5 rfl)
 . rw [if_neg hcs]at h3;cases h3
end
end Internal
section
set_option backward.match.sparseCases true
namespace Internal
variable{G:Gx}{f:Fx}{A:v7}{X:XP}{P:Prog}
section
open PySem.Builtin PySem.Builtin.Str
theorem jZ{A:v7}{E:R5->vy->Prop}{s:vy}{prog:wR}{w:wU}{b:Nat}{x:vz}{t:Tok}{Q:R5->vy->Prop}(h:∀t' k,Q (.str (xg x) t') {s with toks:=k})(hsz:(xg x).length<=sizeLine):
 wpAny (model prog w) A (pyReprObjUnder b (.str x t)) Q E s:=by
 unfold pyReprObjUnder pyReprObjBy;refine v5 (v8 ?_);refine v5 (wpAny_specialOf (name:=Str.ofString "__repr__") (xj s x t) zo.lookup ?_);refine v5 (wpAny_callSpecialIfBoundBy?_slotG (name:=Str.ofString "__repr__") (xj s x t) zo.toG ?_);refine call_gives zo (xj s x t) PySem.F.entry_str_repr (PySem.F.args_str_repr_1 _) (PySem.gives_str_repr x t) ⟨hsz,?_⟩;exact v5 (z8 (T:="str") (b:=true) rfl isSubtype_str_str (v8 (h _ _)))
def ja:vz:=⟨#[102,111,117,110,100,32,99,104,97,114,97,99,116,101,114,32,37,114,32,116,104,97,116,32,99,97,110,110,111,116,32,115,116,97,114,116,32,97,110,121,32,116,111,107,101,110]⟩
abbrev Hr:=List R5×Writer×List Nat
theorem jb{prog:wR}{w:wU}{A:v7}{E:R5->vy->Prop}{s:vy}{Q:Fin->vy->Prop}{x:vz}{u:Tok}{f:Nat->Hr->Sem (ForInStep Hr)}{g:Hr->Sem Fin}{b0 b1:Hr}{b2 b3:Hr}{bb:Nat}{X:Type}{K1:R5->Sem X}{K2:X->Sem (ForInStep Hr)}{z:Tok->X}
 (hsz:(xg x).length<=sizeLine) {l:List Nat}
 (e0:f 0 b0=pure (.yield b1)) (e1:f 1 b1=(pyReprObjUnder bb (.str x u) >>=K1) >>=K2) (e2:∀t',K1 (.str (xg x) t')=pure (z t')) (e3:∀t',K2 (z t')=pure (.yield b2)) (e4:f 2 b2=pure (.yield b3)) (e5:f 3 b3=pure (.done b3))
 (e6:∃y,g b3= .fresh fun k=>.pure (.done (.ret (.str y k))))
 (h:∀y t' k,Q (.done (.ret (.str y t'))) {s with toks:=k}):
 wpAny (model prog w) A (forIn (0::1::2::3::l) b0 f) (fun r s'=> wpAny (model prog w) A (g r) Q E s') E s:=by
 refine KPc.turn ?_;rw [e0];refine v8 (KPc.turn ?_);rw [e1];refine v5 (v5 (jZ (fun t' k=> ?_) hsz));rw [e2];refine v8 ?_;rw [e3];refine v8 (KPc.turn ?_);rw [e4];refine v8 (KPc.turn ?_);rw [e5];obtain(⟨y,e6⟩):=e6;refine v8 ?_;show wpAny _ _ (g b3) _ _ _;rw [e6];exact fun _ _ _=> h _ _ _
def I9:List Nat:=[102,111,117,110,100,32,99,104,97,114,97,99,116,101,114,32,37,114,32,116,104,97,116,32,99,97,110,110,111,116,32,115,116,97,114,116,32,97,110,121,32,116,111,107,101,110]
def MX:Writer:=({}:Writer).add ⟨(I9.take 16).toArray⟩ none
def VR(x:vz):Writer:=MX.add x none
def VS(x:vz):Writer:=(VR x).add ⟨(I9.drop 18).toArray⟩ none
def jc(o:R5):Sem (List Nat×Option R5×Bool):=asStr? o >>=fun s=> match s with
 |some s=> pure (s.cps.toList,some o,false)
 |_=> unsupported "internal:str.__mod__"
def jd(r:List Nat×Option R5×Bool):Sem (ForInStep Hr):=match percentField {type:=114} r.2.2 r.1 with
 |none=> pure (.yield ([],MX.add ⟨r.1.toArray⟩ none,I9.drop 18))
 |some laid=> pure (.yield ([],MX.add ⟨laid.toArray⟩,I9.drop 18))
theorem je{A:v7}{c:Nat}(hc:c=37∨c=64∨c=96∨c=9){t u:Tok}{s:vy}{Q:R5->vy->Prop}{E:R5->vy->Prop}(h:∀x t' k,Q (.str x t') {s with toks:=k}):
 wpAny (mo G) A (binaryOp .Mod (.str (AF Nq) t) (.str (AF [c]) u)) Q E s:=by
 refine binaryOp_meets (T:="str") (op:=.Mod) (xj s ja t) (xj s (AF [c]) u) F.fills_str_mod F.slot_str_mod F.entry_str_mod (F.args_str_mod_2 _ _) (S:=fun _ R s=> ∀y t' k,R (.ok (.ret (.str y t'))) {s with toks:=k}) (Meets.of_wp fun prog w A _ s hS=> ?_) (fun y t' k=> ⟨(fun e=> nomatch e),h _ t' k⟩);rw [KPc.entry_is_s];unfold percentFormat;refine v5 (z8 (xj _ _ _) F.sub_str_tuple ?_);refine v5 (wpAny_of_eq (a:=some _) rfl ?_);refine v5 (KPc.wp_fills_str ?_);intro b;refine wpAny_ite (KPc.ite_no xm ?_);refine v5 (v8 ?_);refine v5 ?_;rw [KPc.range_list];refine jb (l:=List.range' 4 42 1) (x:=AF [c]) (u:=u) (b1:=([.str (AF [c]) u],MX,I9.drop 16)) (b2:=([],VR (xg (AF [c])),I9.drop 18)) (b3:=([],VS (xg (AF [c])),[])) (K1:=jc) (K2:=jd) (z:=fun t'=> ((xg (AF [c])).cps.toList,some (.str (xg (AF [c])) t'),false)) (bb:=16) ?h0 ?e0 ?e1 ?e2 ?e3 ?e4 ?e5 ?e6 ?h1
 case h0=> rcases hc with rfl |rfl |rfl |rfl<;>decide+kernel
 case h1=> exact fun y t k=> ⟨_,rfl,hS y t k⟩
 case e0=> kernel_rfl
 case e1=> kernel_rfl
 case e2=> exact fun _=> rfl
 case e3=> intro t';rcases hc with rfl |rfl |rfl |rfl<;>kernel_rfl
 case e4=> rcases hc with rfl |rfl |rfl |rfl<;>kernel_rfl
 case e5=> rcases hc with rfl |rfl |rfl |rfl<;>kernel_rfl
 case e6=> refine⟨(VS (xg (AF [c]))).text,?_⟩;rcases hc with rfl |rfl |rfl |rfl<;>kernel_rfl
end
theorem jf{l r:Expr}{pos:Pos}{env:Env}{el er:St->Out AV}(hl:AP G f A X (eval l env) el)(hr:AP G f A X (eval r env) er):
 AP G f A X (eval (.BinOp l .Mod r pos) env) fun s=> (el s).bind fun a s=> (er s).bind fun b s=> AO (Nr a b) fun v=>.ok v s:=fun W lo hp M ow m s Z eR I ne=> by
 refine wpAny_BinOp (Am eR W.le_rfl (fun h=> hl W lo hp M ow m s _ rfl I h) ne fun a σ V L ow m v s' eR h1 h2 I hv ne=> ?_);refine Am eR h1 (fun h=> hr V _ _ L ow m s' _ rfl I h) ne fun b σ' V' L ow m v' s' eR h1 h2 I hv' ne=> ?_;obtain⟨c,h3,eR⟩:=Az eR ne;refine AR h3 fun g g1 h3=> ?_;refine AR h3 fun y g2 h3=> ?_;refine AR h3 fun d g3 h3=> ?_;by_cases q:g=Nq/\(d=37∨d=64∨d=96∨d=9)
 . rw [if_pos q]at h3;cases h3;rw [Cn g1]at hv;rw [Cn g2,Gs g3]at hv';obtain⟨⟨t,rfl⟩,_⟩:=hv;obtain⟨⟨t',rfl⟩,_⟩:=hv';rw [q.1];exact je q.2 fun x t' k=> (I.tok _).V eR h1 ⟨_,_,rfl⟩
 . rw [if_neg q]at h3;cases h3
end Internal
end
namespace Internal
section
variable{G:Gx}{f:Fx}{A:v7}{X:XP}{P:Prog}
def Wd.cut(W:Wd)(n:Nat->Prop)(L:Led):Wd:=⟨W.r,n,L++W.fz⟩
theorem Pc{B:Heap}{W:Wd}{n:Nat->Prop}{L:Led}:Wd.To B W (W.cut n L) n:=⟨fun _ _ _ h=> h.imp (fun h=> wH _ h) id,fun _ h=> ⟨rfl,h⟩⟩
theorem AG.cut{B:Heap}{W:Wd}{n:Nat->Prop}{L:Led}{x:AV}{v:R5}(r:AG B W x v)(h:D6 n x):AG B (W.cut n L) x v:=r.gen Pc h
theorem Au.cut{B:Heap}{W:Wd}{n:Nat->Prop}{L:Led}{x:List (N×AV)}{v:List wQ}(r:Au B W x v)(h:F8 n x):Au B (W.cut n L) x v:=r.gen Pc h
section
variable{W:Wd}{l:List (N×AV)}{hp:Hp}{M:Led}{ow:Addr->Nat}{m:vz->Option R5}{s:vy}
theorem Inv.oLt(I:Inv G f W l hp M ow m s){i:Nat}(hi:hp.lv i):oLt hp.lv (hp.f i):=I.hi.n▸(I.hi.cell i hi).lt'
theorem Inv.cut{hp':Hp}{k:Nat}(I:Inv G f W l hp' M ow m s)(hn:hp'.lv=fun j=> hp.lv j∨j=k)(nl:¬hp.lv k)(hf:∀i,hp.lv i->hp'.f i=hp.f i){c:Nat}{r:List (N×AV)}(hc:hp'.f k= .ins c r)
 (bl:∀x a,look x l=some a->D6 hp.lv a) (bc:∀i,hp.lv i->Internal.oLt hp.lv (hp.f i)) (br:F8 hp.lv r):
 ∃L M',Inv G f (W.cut hp.lv L) l hp M' ow m s/\AG G.B (W.cut hp.lv L) (.obj c r) (.ref (W.r k)):=by
 have ACU:=I.hi.cell k (by rw [hn];exact .inr rfl);rw [hc]at ACU;obtain⟨dx,es,kk,h1,h2,h3,h4,h5⟩:=ACU;let L:Led:=[(W.r k,instObj c dx),(dx,dictOf es kk)];let M':Led:=M.filter fun p=> !(ow p.1==k);have mk:∀{p:Addr×Obj},p∈M->ow p.1≠k->p∈M':=fun h ne=> yl.mpr ⟨h,by simpa using ne⟩;have un:∀{p:Addr×Obj},p∈M'->p∈M/\ow p.1≠k:=fun h=> ⟨(yl.mp h).1,by simpa using(yl.mp h).2⟩;have Lo:∀p∈L,p∈M/\ow p.1=k:=fun p hp=> by
  rcases wM.mp hp with rfl |hp
  . exact⟨h1,h2⟩
  . rcases wM.mp hp with rfl |hp
    . exact⟨h3,h4⟩
    . cases hp
 refine⟨L,M',⟨I.fr,fun p hp'=> ?_,⟨rfl,?_,fun p hp' q hq=> ?_,fun j hj=> ?_⟩,fun x a e=> ?_,I.gn,I.os⟩,?_⟩
 . rcases wV.mp hp' with h |h
   . exact I.nw _ (wO _ (un h).1)
   . rcases wV.mp h with h |h
     . exact I.nw _ (wO _ (Lo p h).1)
     . exact I.nw _ (wH _ h)
 . exact(I.hi.nd.sublist (List.Sublist.map _ List.filter_sublist))
 . rcases wV.mp hp' with h |h
   . intro e;exact(un hq).2 (e▸(Lo p h).2)
   . exact I.hi.dj p h q (un hq).1
 . have hj':hp'.lv j:=by rw [hn];exact .inl hj
   have r:=I.hi.cell j hj';rw [hf j hj]at r;have jn:j≠k:=fun e=> nl (e▸hj);exact r.gen Pc rfl (fun p hp h=> ⟨mk hp fun z=> jn (h.symm.trans z),h⟩) (bc j hj)
 . obtain⟨v,h1,h2⟩:=I.lr x a e;exact⟨v,h1,h2.cut (bl x a e)⟩
 . exact⟨W.r k,instObj c dx,dx,es,kk,rfl,.inl (wO _ (.head _)),rfl,rfl,rfl,.inl (wO _ (.tail _ (.head _))),h5.cut br⟩
theorem Inv.D6(I:Inv G f W l hp M ow m s){x:N}{a:AV}(e:look x l=some a):Internal.D6 hp.lv a:=by obtain⟨v,_,h⟩:=I.lr x a e;exact I.hi.n▸h.lt'
end
theorem Pd{α:Type}{x:N}{v:α}:∀{l:List (N×α)},look x l=none->put x v l=l++[(x,v)]
 | []=>@fun _=> rfl
 |(y,w)::r=>@fun h=> by
  unfold look at h;split at h
  . cases h
  . rename_i ne;unfold put;rw [if_neg ne,Pd h];rfl
theorem Pe{α:Type}{x:N}:∀{l r:List (N×α)},look x l=none->look x r=none->look x (l++r)=none
 | [],_,_,h=> h
 |(y,w)::l,r,h,h'=> by
  unfold look at h;split at h
  . cases h
  . rename_i ne;show(if y=x then some w else look x (l++r))=none;rw [if_neg ne];exact Pe h h'
theorem jg{fu:Nat}{cf:Nat->List AV->List (N×AV)->Hp->COut}{cl:Cl}{c n:Nat}{loc:List (N×AV)}(hc:P.cls c=some cl)(he:cl.exc=false)(hs:look .self loc=some (.ref n)){x p:N}{v:AV}{fs0:List (N×AV)}{hp:Hp}(hv:look p loc=some v)(hn:hp.f n= .ins c fs0)
 (hF:cl.fields.contains x=true) (hx:look x fs0=none) (hz:fs0.length<100):As P fu cf (.asg (.AD (.var .self) x) (.var p)) ⟨loc,hp⟩= .ok .next ⟨loc,hp.set n (.ins c (fs0++[(x,v)]))⟩:=by
 have c1:setAt P hp (.ref n) x v=some (hp.set n (.ins c (fs0++[(x,v)]))):=by show((Jb (hp.f n)).bind fun p=> (P.cls p.1).bind fun cl=> if(cl.fields.contains x&& !cl.exc&&decide (p.2.length<100))=true then some (hp.set n (.ins p.1 (put x v p.2)))else none)=_;rw [hn];show((P.cls c).bind fun cl=> if(cl.fields.contains x&& !cl.exc&&decide (fs0.length<100))=true then some (hp.set n (.ins c (put x v fs0)))else none)=_;rw [hc];show(if(cl.fields.contains x&& !cl.exc&&decide (fs0.length<100))=true then some (hp.set n (.ins c (put x v fs0)))else none)=_;rw [hF,he,decide_eq_true hz,Pd hx];rfl
 show((AO (look p loc) fun v=> Out.ok v (⟨loc,hp⟩:St)).bind fun v s=> ((AO (look .self s.loc) fun v=> Out.ok v s).bind fun o s=> AO (setAt P s.hp o x v) fun h=> Out.ok () ⟨s.loc,h⟩).bind fun _ s=> Out.ok Flow.next s)=_;rw [hv];show((AO (look .self loc) fun v=> Out.ok v (⟨loc,hp⟩:St)).bind fun o s=> AO (setAt P s.hp o x v) fun h=> Out.ok () (⟨s.loc,h⟩:St)).bind (fun _ s=> Out.ok Flow.next s)=_;rw [hs];show(AO (setAt P hp (.ref n) x v) fun h=> Out.ok () (⟨loc,h⟩:St)).bind (fun _ s=> Out.ok Flow.next s)=_;rw [c1];rfl
theorem VT{fu:Nat}{cf:Nat->List AV->List (N×AV)->Hp->COut}{cl:Cl}{c n:Nat}{loc:List (N×AV)}(hc:P.cls c=some cl)(he:cl.exc=false)(hs:look .self loc=some (.ref n)):
 ∀{fs:List (N×N)} {fs0 r:List (N×AV)} {hp:Hp},EE loc fs=some r->hp.lv n->hp.f n= .ins c fs0->(∀p∈fs,cl.fields.contains p.1=true)->(fs.map (·.1)).Nodup->(∀p∈fs,look p.1 fs0=none)->fs0.length+fs.length<100->
  AU P fu cf (DB fs) ⟨loc,hp⟩= .ok .next ⟨loc,hp.set n (.ins c (fs0++r))⟩
 | [],fs0,r,hp,e,_,hn,_,_,_,_=> by cases e;rw [wY,Hp.Zv hn];rfl
 |(x,p)::fs,fs0,r,hp,e,lv,hn,hF,nd,hl,hz=> by
  refine AR e fun v hv e=> ?_;obtain⟨r',e1,rfl⟩:=wK.mp e;rw [wj,xU]at nd;have hz':fs0.length+(fs.length+1)<100:=hz;have step:=jg (fu:=fu) (cf:=cf) hc he hs hv hn (hF (x,p) (.head _)) (hl (x,p) (.head _)) (by exact BV hz');refine(Bp (k:=fun f s=> match f with
   | .next=> AU P fu cf (DB fs) s
   | .brk=>.ok .brk s
   | .cont=>.ok .cont s
   | .ret v=>.ok (.ret v) s) step).trans ?_
  show AU P fu cf (DB fs) ⟨loc,hp.set n (.ins c (fs0++[(x,v)]))⟩=_;rw [VT hc he hs (fs0:=fs0++[(x,v)]) e1 (by rw [hp.Jk];exact lv) ((Hp.LP _ lv n).trans (if_pos rfl)) (fun q hq=> hF q (.tail _ hq)) nd.2 (fun q hq=> Pe (hl q (.tail _ hq)) ?_) (by rw [v9];show fs0.length+1+fs.length<100;exact BV hz'),Hp.set_set,wF]
  . rfl
  . show(if x=q.1 then some v else none)=none;rw [if_neg];intro z;exact nd.1 (by show x∈fs.map (·.1);rw [z];exact xl (f:=fun(p:N×N)=> p.1) hq)
end
section
variable{G:Gx}{f:Fx}{A:v7}{X:XP}{P:Prog}
structure JA(G:Gx)(P:Prog):Prop where
 jh:∀a fn,P.fns a=some fn->keepIn G.K (.ref a)=true
 ji:∀c cl,P.cls c=some cl->cl.exc=false->keepIn G.K (.ref c)=true
 make:∀c cl,P.cls c=some cl->cl.exc=false->makesIn G.K c=true
 BH:∀c cl fi fs,P.cls c=some cl->cl.exc=false->cl.init= .BH fi fs->findIn G.K (.ref c) "__init__"=some (some (.ref fi))/\typeIn G.K (.ref fi)=some (.type "function")/\
  ∃fn ps,P.fns fi=some fn/\fn.body=DB fs/\fn.ps= .self::ps/\(∀p∈fs,cl.fields.contains p.1=true)/\(fs.map (·.1)).Nodup/\fs.length<100/\(∀p∈fs,p.2≠ .self)
 run:∀c cl i,P.cls c=some cl->cl.exc=false->cl.init= .run i->findIn G.K (.ref c) "__init__"=some (some (.ref i))/\typeIn G.K (.ref i)=some (.type "function")
section
variable{W:Wd}{l:List (N×AV)}{hp:Hp}{M:Led}{ow:Addr->Nat}{m:vz->Option R5}{s:vy}
theorem Inv.VU(I:Inv G f W l hp M ow m s){h':Heap}{tk:Nat}{x dx:Addr}{c:Nat}(F':Fr f.g f.L h' m)(N':News f.g f.L h' ((x,instObj c dx)::(dx,emptyDict)::(M++W.fz)))(lt:∀p∈M++W.fz,p.1<dx)(lx:dx<x){hp':Hp}{k:Nat}(g:hp.Dc hp' k (.ins c [])):
 ∃M' ow',Inv G f (W.add k x) l hp' M' ow' m ⟨h',s.gens,s.drawn,tk,s.os⟩:=by
 have e1:(W.add k x).r k=x:=if_pos rfl;have nd:([(x,instObj c dx),(dx,emptyDict)]:Led).map (·.1)=[x,dx]:=rfl;refine⟨[(x,instObj c dx),(dx,emptyDict)]++M,J4 ow k [x,dx],F',N',I.hi.add (N:=[(x,instObj c dx),(dx,emptyDict)]) g ?_ (fun p hp' q hq=> ?_) ?_,I.lr.mono (Wd.Gn _ (I.hi.nl g)),I.gn,I.os⟩
 . rw [nd];simp;exact xN lx
 . rcases wM.mp hp' with rfl |hp'
   . exact xN (Nat.lt_trans (lt q hq) lx)
   . rcases wM.mp hp' with rfl |hp'
     . exact xN (lt q hq)
     . cases hp'
 . refine⟨dx,[],0,?_,?_,.tail _ (.head _),if_pos (.tail _ (.head _)),trivial⟩
   . rw [e1];exact .head _
   . rw [e1];exact if_pos (.head _)
end
theorem Pf{n:Nat->Prop}:∀{xs:List AV},Hd n xs->∀x∈xs,D6 n x
 |_::_,h,x,hx=> by
  rcases wM.mp hx with rfl |hx
  . exact h.1
  . exact Pf h.2 x hx
theorem VV{x:N}{v:AV}:∀{l:List (N×AV)},look x l=some v->v∈l.map (·.2)
 |(y,w)::r,h=> by
  rw [Fo]at h;by_cases q:y=x
  . rw [if_pos q]at h;cases h;exact .head _
  . rw [if_neg q]at h;exact .tail _ (VV h)
theorem Pg{Ay:List (N×AV)}:∀{ps:List N} {as:List AV} {loc:List (N×AV)} {x:N} {v:AV},DY ps as Ay=some loc->look x loc=some v->v∈as∨v∈Ay.map (·.2)
 | [],[],loc,x,v,e,h=> by cases e;cases h
 | [],_::_,_,_,_,e,_=> by cases e
 |p::ps,a::as,loc,x,v,e,h=> by
  obtain⟨ABm,e1,rfl⟩:=wK.mp e;rw [Fo]at h;by_cases q:p=x
  . rw [if_pos q]at h;cases h;exact .inl (.head _)
  . rw [if_neg q]at h;exact(Pg e1 h).imp (fun h=>.tail _ h) id
 |p::ps,[],loc,x,v,e,h=> by
  refine AR e fun u hu e=> ?_;obtain⟨ABm,e1,rfl⟩:=wK.mp e;rw [Fo]at h;by_cases q:p=x
  . rw [if_pos q]at h;cases h;exact .inr (VV hu)
  . rw [if_neg q]at h;exact Pg e1 h
theorem VW{n:Nat->Prop}{loc:List (N×AV)}(hl:∀x v,x≠ .self->look x loc=some v->D6 n v):∀{fs:List (N×N)} {r:List (N×AV)},EE loc fs=some r->(∀p∈fs,p.2≠ .self)->F8 n r
 | [],r,e,_=> by cases e;trivial
 |(x,p)::fs,r,e,h=> by refine AR e fun v hv e=> ?_;obtain⟨r',e1,rfl⟩:=wK.mp e;exact⟨hl p v (h (x,p) (.head _)) hv,VW hl e1 fun q hq=> h q (.tail _ hq)⟩
def MY(G:Gx)(P:Prog):Prop:=∀c cl fi fs fn,P.cls c=some cl->cl.exc=false->cl.init= .BH fi fs->P.fns fi=some fn->∃qual scope body cdv cl',FnShape G fi fn qual scope body cdv cl'/\
 ∀f' A' X',f'.cs=scope->f'.cl=cl'->AN G f'->Bc f' 0 A'->Av G f' A' X' (execs body f'.env) fun s=> AU P 0 (fun _ _ _ _=>.bad) fn.body s
theorem jj{ps:List N}{a:AV}{as as':List AV}{ks:List (N×AV)}(e:IM ps (a::as) ks=some as'):∃t,as'=a::t/\∀x∈t,x∈as∨x∈ks.map (·.2):=
 PE e (fun _ e=> ⟨as,e,fun x h=>.inl h⟩) fun n v e1 _ e=> ⟨as++[v],e,fun x h=> (wV.mp h).imp id fun h=> by rw [e1];exact h⟩
theorem VX{B:Heap}{W:Wd}:∀{ks:List (N×AV)} {kv:List (vz×R5)},DM B W ks kv->∀x∈ks.map (·.2),D6 W.lv x
 |(n,a)::r,(y,v)::t,h,x,hx=> by
  rcases wM.mp hx with rfl |hx
  . exact h.2.1.lt'
  . exact VX h.2.2 x hx
 | [],_,_,x,hx=> by cases hx
 |_::_,[],h,_,_=> h.elim
section
variable{W:Wd}{l:List (N×AV)}{hp:Hp}{M:Led}{ow:Addr->Nat}{m:vz->Option R5}{s:vy}
theorem Hs{α:Type}{r:Option α}{k:α->COut}{Z:COut}(h:E7 r k=Z)(ne:Z≠ .bad):TY r k Z:=by
 cases r with
 |none=> exact absurd h.symm ne
 |some a=> exact⟨a,rfl,h⟩
variable{cf:Nat->List AV->List (N×AV)->Hp->COut}{d c:Nat}{cl:Cl}{as:List AV}{vs:List R5}{ks:List (N×AV)}{kv:List (vz×R5)}{R:Result->vy->Prop}
theorem jk{fn:Fn}{i:Nat}{ps:List N}{loc:List (N×AV)}(g5:fn.ps= .self::ps)(hb:EW fn (.ref i::as) ks=some loc):
 look .self loc=some (.ref i)/\∀y v,y≠ .self->look y loc=some v->v∈as∨v∈ks.map (·.2)∨v∈fn.Ay.map (·.2):=by
 refine cps fun P1_ k1_=> ?_;obtain⟨as',hk,_,hb⟩:=PD hb;obtain⟨t,rfl,ht⟩:=jj hk;rw [g5]at hb;obtain⟨ABm,hb',rfl⟩:=wK.mp hb;refine k1_ ?_;refine⟨if_pos rfl,fun y v hy hv=> ?_⟩;rw [Fo]at hv;rw [if_neg (xZ hy)]at hv;rcases Pg hb' hv with h |h
 . exact(ht v h).imp id .inl
 . exact .inr (.inr h)
theorem VY{B:Heap}{W:Wd}{x:Addr}{k:Nat}:AG B (W.add k x) (.ref k) (.ref x):=⟨congrArg xw (if_pos rfl).symm,.inr rfl⟩
theorem jl(C:CH G P)(MK:JA G P)(RS:MY G P)(O:AN G f)(HA:Bc f (d+1) A)(I:Inv G f W l hp M ow m s){fi:Nat}{fs:List (N×N)}{r:List (N×AV)}(hc:P.cls c=some cl)(he:cl.exc=false)(hi:cl.init= .BH fi fs)
 (R0:AQ G.B W as vs) (K0:DM G.B W ks kv) (hr:IP P cl (.ref hp.n) as ks=some r) (ret:∀v s',I0 G f W l m (.ok (.obj c r) hp) v s'->R (.ok (.ret v)) s'):codeAny (mo G) A (.call (.ref c) ⟨vs,kv⟩) R s:=by
 have hN:=I.hi.n;obtain⟨g1,g2,fn,ps,g3,g4,g5,g6,g7,g8,g9⟩:=MK.BH c cl fi fs hc he hi;unfold IP at hr;rw [hi]at hr;refine AR hr fun fn' g3' hr=> ?_;cases g3.symm.trans g3';refine AR hr fun loc hb hr=> ?_;obtain⟨qual,scope,body,cdv,cl',S,SB⟩:=RS c cl fi fs fn hc he hi g3;refine make_K I.fr I.nw (I.X O) (MK.make c cl hc he) g1 g2 fun x dx h' F' N' lt1 lt2=> ?_;have g:=hp.LQ (.ins c []);have le:=Wd.Gn x (I.hi.nl g);obtain⟨M1,ow1,I1⟩:=I.VU (tk:=s.toks) F' N' lt1 lt2 g;have hx:=VY (B:=G.B) (W:=W) (x:=x) (k:=hp.n);obtain⟨ACG,ABX⟩:=jk g5 hb;have ADP:=VT (P:=P) (fu:=0) (cf:=fun _ _ _ _=>.bad) (c:=c) (n:=hp.n) (loc:=loc) hc he ACG (fs:=fs) (fs0:=[]) (r:=r) (hp:=hp.add (.ins c [])) hr g.N0 g.at g6 g7 (fun _ _=> rfl) (xB _▸g8);rw [<-g4]at ADP;have br:F8 hp.lv r:=VW (fun y v hy hv=> hN▸(ABX y v hy hv).elim (fun h=> Pf R0.lt' v h) fun h=> h.elim (fun h=> VX K0 v h) fun h=> by obtain⟨_,_,_,_,_,_,_,_,_,_,_,dv,_,_,_,_,_,_,_,D,_,_⟩:=S.ex;exact Pf (D W).lt' v h) hr g9
 refine Ug (X':=fun _ _ _ _ _ _ _=> False) (r:=.ok .next ⟨loc,(hp.add (.ins c [])).set hp.n (.ins c ([]++r))⟩) (as:=.ref hp.n::as) (vs:=.ref x::vs) S O ((HA.less (xJ (wN d))).type c vs kv) I1 ⟨hx,R0.mono le⟩ (K0.mono le) hb
  (fun f' m' s' q0 q1 q2 q3 qa qb q4 q5 q6=> yn (SB f' _ _ q1 q3 q4 q5 _ _ _ _ _ _ _ _ ADP q6 (fun z=> by cases(z)))) (fun v s' hv=> ?_) (fun f' e s' q1 _ _ q2 q3=> ?_)
 . obtain⟨a',hp2,W',M',ow',z1,z2,z3,z4⟩:=hv;cases(z1);have hf2:∀i,hp.lv i->((hp.add (.ins c [])).set hp.n (.ins c ([]++r))).f i=hp.f i:=fun i hi=> ((Hp.LP _ g.N0 i).trans (if_neg fun(e:i=hp.n)=> g.nl (e▸hi))).trans (g.old hi);obtain⟨L,M3,I3,hv3⟩:=z3.cut ((Hp.Jk _ _ _).trans g.lv) g.nl hf2 ((Hp.LP _ g.N0 _).trans (if_pos rfl)) (fun y a e=> I.D6 e) (fun i hi=> I.oLt hi) br;rw [show W'.r hp.n=x from(z2.r hp.n hx.2).trans (xw.inj hx.1).symm]at hv3;refine⟨z4,ret _ _ ⟨_,_,W'.cut hp.lv L,M3,_,rfl,⟨fun i hi=> hN▸hi,fun i hi=> ?_,fun p hp'=> wH _ (z2.fz p hp')⟩,I3,hv3⟩⟩;exact(z2.r i (.inl hi)).trans (le.r i hi)
 . obtain⟨_,_,_,z,_⟩:=q3;cases(z)
theorem jm(MK:JA G P)(O:AN G f)(HA:Bc f (d+1) A)(CO:∀A',EG f (d+1) A'->C0 G f A' X P cf)(I:Inv G f W l hp M ow m s){i:Nat}(hc:P.cls c=some cl)(he:cl.exc=false)(hi:cl.init= .run i)(R0:AQ G.B W as vs)(K0:DM G.B W ks kv){Z:COut}
 (eR:endRun hp.nI (cf i (.ref hp.nI::as) ks (hp.IH (.ins c [])))=Z) (ne:Z≠ .bad) (ret:∀v s',I0 G f W l m Z v s'->R (.ok (.ret v)) s') (exc:∀e s',Aw X W (Z.bind l fun v s=> Out.ok v s) e s'->R (.error e) s'):
 codeAny (mo G) A (.call (.ref c) ⟨vs,kv⟩) R s:=by
 obtain⟨g1,g2⟩:=MK.run c cl i hc he hi;refine make_K I.fr I.nw (I.X O) (MK.make c cl hc he) g1 g2 fun x dx h' F' N' lt1 lt2=> ?_;have g:=hp.Zx (.ins c []);have le:=Wd.Gn x (I.hi.nl g);obtain⟨M1,ow1,I1⟩:=I.VU (tk:=s.toks) F' N' lt1 lt2 g;have hx:=VY (B:=G.B) (W:=W) (x:=x) (k:=hp.nI);generalize hz:cf i (.ref hp.nI::as) ks (hp.IH (.ins c []))=z at eR;refine CO _ (HA.type c vs kv) i (.ref hp.nI::as) (.ref x::vs) ks kv (W.add hp.nI x) l _ M1 ow1 m _ _ I1 ⟨hx,R0.mono le⟩ (K0.mono le) (fun q=> ne (by rw [<-eR,<-hz,q];rfl)) (fun v s' hv=> ?_) fun e s' hxx=> ?_
 . obtain⟨a',hp2,W',M',ow',z1,z2,z3,z4⟩:=hv;rw [hz]at z1;subst z1;have eR:(if isNone a'=true then COut.ok (.ref hp.nI) hp2 else .bad)=Z:=eR;by_cases q:isNone a'=true
   . rw [if_pos q]at eR;rcases z4.isNone with⟨rfl,_⟩ |⟨_,q'⟩
     . exact⟨rfl,ret _ _ ⟨_,_,W',M',ow',eR.symm,le.trans z2,z3,hx.mono z2⟩⟩
     . rw [q']at q;cases(q)
   . rw [if_neg q]at eR;exact absurd eR.symm ne
 . obtain⟨a',σ',W',z1,z2,z3⟩:=hxx;rw [hz]at z1;refine exc e s' ?_;cases(z)with
   |bad=> exact absurd eR.symm ne
   |ok v h=> cases(z1)
   |exc e' h'=> cases(z1);exact eR▸⟨_,_,W',rfl,le.trans z2,z3⟩
set_option tactic.hygienic true in
theorem jo(C:CH G P)(MK:JA G P)(RS:MY G P)(O:AN G f)(HA:Bc f (d+1) A)(CO:∀A',EG f (d+1) A'->C0 G f A' X P cf)(I:Inv G f W l hp M ow m s)
 {fv:AV} {u:R5} (hu:AG G.B W fv u) (R0:AQ G.B W as vs) (K0:DM G.B W ks kv) {Z:COut} (eR:EF P cf fv as ks hp=Z) (ne:Z≠ .bad)
 (ret:∀v s',I0 G f W l m Z v s'->R (.ok (.ret v)) s') (exc:∀e s',Aw X W (Z.bind l fun v s=> Out.ok v s) e s'->R (.error e) s'):
 codeAny (mo G) A (.call u ⟨vs,kv⟩) R s:=by
 cases fv<;>first |exact absurd eR.symm ne |skip
 . rename_i a;cases(hu:u= .ref a);have eR:cf a as ks hp=Z:=eR;subst eR;exact CO A HA.weak a as vs ks kv W l hp M ow m s R I R0 K0 ne ret exc
 . rename_i c;cases(hu:u= .ref c);obtain⟨cl,hc,eR⟩:=Hs eR ne;unfold LG at eR;cases he:cl.exc with
   |true=> rw [he]at eR;exact absurd eR.symm ne
   |false=>
    rw [he]at eR;cases hi:cl.init with
    |BH fi fs=> rw [hi]at eR;obtain⟨r,hr,eR⟩:=Hs eR ne;subst eR;exact jl C MK RS O HA I hc he hi R0 K0 hr ret
    |run i=> rw [hi]at eR;exact jm MK O HA CO I hc he hi R0 K0 eR ne ret exc
end
end
section
variable{G:Gx}{f:Fx}{A:v7}{X:XP}{P:Prog}
def KS(G:Gx)(u:R5)(h:Heap):Prop:=∃k,(k=Keeper.frame∨k=Keeper.machine∨k=Keeper.boundFrame)/\wZ (mo G) h (keeperOf u) k
set_option tactic.hygienic true in
theorem jq(MK:JA G P){cf:Nat->List AV->List (N×AV)->Hp->COut}(hcf:∀a as ks h,cf a as ks h≠ .bad->(P.fns a).isSome=true)(O:AN G f){W l hp M ow m s}(I:Inv G f W l hp M ow m s){fv:AV}{u:R5}{as:List AV}{ks:List (N×AV)}(hu:AG G.B W fv u){Z:COut}
 (eR:EF P cf fv as ks hp=Z) (ne:Z≠ .bad):KS G u s.heap:=by
 cases fv<;>first |exact absurd eR.symm ne |skip
 . rename_i a;cases(hu:u= .ref a);obtain⟨fn,hfn⟩:=yc.mp (hcf a as ks hp (fun z=> ne (eR.symm.trans z)));exact keeps_K (MK.jh _ _ hfn) _ (I.X O)
 . rename_i c;cases(hu:u= .ref c);obtain⟨cl,hc,eR⟩:=Hs eR ne;unfold LG at eR;cases he:cl.exc with
   |true=> rw [he]at eR;exact absurd eR.symm ne
   |false=> exact keeps_K (MK.ji _ _ hc he) _ (I.X O)
structure Gz(G:Gx)(f:Fx)(A:v7)(X:XP)(P:Prog)(cf:Nat->List AV->List (N×AV)->Hp->COut):Prop where
 C:CH G P
 MK:JA G P
 RS:MY G P
 ex:∃d,Bc f (d+1) A/\∀A',EG f (d+1) A'->C0 G f A' X P cf
 fn:∀a as ks h,cf a as ks h≠ .bad->(P.fns a).isSome=true
theorem Gz.Pj{cf:Nat->List AV->List (N×AV)->Hp->COut}(CE:Gz G f A X P cf):C0 G f A X P cf:=by obtain⟨d,HA,CO⟩:=CE.ex;exact CO A HA.weak
theorem VZ{cf:Nat->List AV->List (N×AV)->Hp->COut}(CE:Gz G f A X P cf)(O:AN G f){U W l hp M ow m s}(I:Inv G f W l hp M ow m s)
 {fv:AV} {u:R5} {as:List AV} {vs:List R5} {ks:List (N×AV)} {kv:List (vz×R5)} (hu:AG G.B W fv u) (R0:AQ G.B W as vs) (K0:DM G.B W ks kv) {Z:Out AV} (eR:((EF P cf fv as ks hp).bind l fun v s=> Out.ok v s)=Z) (hU:U.le W) (ne:Z≠ .bad):
 KS G u s.heap/\Cz G f A X U (call u vs kv) Z s:=by
 refine cps fun P1_ k1_=> ?_;obtain⟨d,HA,CO⟩:=CE.ex;refine k1_ ?_;generalize hz:EF P cf fv as ks hp=z at eR;have nz:z≠ .bad:=fun q=> ne (by rw [<-eR,q];rfl);exact⟨jq CE.MK CE.fn O I hu hz nz,xv (jo CE.C CE.MK CE.RS O HA CO I hu R0 K0 hz nz (fun v s' ⟨b,hp',W',M',ow',q1,q2,q3,q4⟩=> q3.V ((Uw q1).symm.trans eR) (hU.trans q2) q4) fun e s' h=> eR▸h.le hU)⟩
theorem jr{cf:Nat->List AV->List (N×AV)->Hp->COut}(CE:Gz G f A X P cf)(O:AN G f){n:vz}{np pos:Pos}{args:List Expr}{ef:St->Out AV}{eas:St->Out (List AV)}
 (hs:args.all noStar=true) (hf:AP G f A X (eval (.Name n np) f.env) ef) (ha:CP G f A X (evalEach args f.env) eas):
 AP G f A X (eval (.Call (.Name n np) args [] pos) f.env) fun s=> (ef s).bind fun fv s=> (eas s).bind fun vs s=> (EF P cf fv vs [] s.hp).bind s.loc fun v s=>.ok v s:=fun W l hp M ow m s Z eR I ne=> by
 refine xo (Am eR W.le_rfl (fun q=> hf W l hp M ow m s _ rfl I q) ne fun fv σ V L ow m u s' eR h1 h2 I hu ne=> ?_);rw [DJ _ _ _ hs];exact yV (P:=KS G u) (by rw [plain_any];rfl) (fun h p=> p) (EM (Ed eR h1 (fun q=> ha V _ _ L ow m s' _ rfl I q) ne fun as σ' V' L ow m vs s' eR h1 h2' I hv ne=> VZ CE O I (hu.mono h2') hv (ks:=[]) (kv:=[]) trivial eR h1 ne))
theorem jt{cf:Nat->List AV->List (N×AV)->Hp->COut}(CE:Gz G f A X P cf)(O:AN G f){n:vz}{kn:N}{np kp pos:Pos}{args:List Expr}{e:Expr}{ef ek:St->Out AV}{eas:St->Out (List AV)}
 (hs:args.all noStar=true) (hf:AP G f A X (eval (.Name n np) f.env) ef) (ha:CP G f A X (evalEach args f.env) eas) (hk:AP G f A X (eval e f.env) ek):
 AP G f A X (eval (.Call (.Name n np) args [⟨some (nm kn),e,kp⟩] pos) f.env) fun s=> (ef s).bind fun fv s=> (eas s).bind fun vs s=> (ek s).bind fun kv s=> (EF P cf fv vs [(kn,kv)] s.hp).bind s.loc fun v s=>.ok v s:=fun W l hp M ow m s Z eR I ne=> by
 show wpAny (mo G) A (do callWith pos (<-eval (.Name n np) f.env) [] (backTo pos (starEach args f.env)) (backToKw pos (keywordEach [⟨some (nm kn),e,kp⟩] f.env))) _ _ s;refine v5 (Am eR W.le_rfl (fun q=> hf W l hp M ow m s _ rfl I q) ne fun fv σ V L ow m u s' eR h1 h2 I hu ne=> ?_);rw [DJ _ _ _ hs];exact yV (P:=KS G u) (by rw [plain_any];rfl) (fun h p=> p) (Uy rfl (Ed eR h1 (fun q=> ha V _ _ L ow m s' _ rfl I q) ne fun as σ' V' L ow m vs s' eR h1 h2' I hv ne=>
  Ux hk eR h1 I ne fun kvv σ'' V'' L ow m w s' eR h1 ABL I hw ne=> VZ CE O I (hu.mono (h2'.trans ABL)) (hv.mono ABL) (ks:=[(kn,kvv)]) (kv:=[(nm kn,w)]) ⟨rfl,hw,trivial⟩ eR h1 ne))
end
section
open PySem PySem.W PyProof.Rows PySem.Calls Builtin
theorem BX{b:Bool}{r:List Bool}(h:allB (b::r)=true):b=true/\allB r=true:=wD.mp h
abbrev CB(C t:Addr):Obj:={cls:=.ref C,data:=.fields #[.ref t,.none,.none,.none,.bool false,.none]}
abbrev Ek(rest:List R5):Obj:={cls:=.type "tuple",data:=.seq rest.toArray}
structure Pk(M:wq)(h:Heap)(C:Addr):Prop where
 obj:∃oc od cd sl,h.get? C=some ⟨oc,od,.cls cd,sl⟩/\cd.mro.isEmpty=false/\cd.hasDel=false
 made:wZ M h (Bind.madeBy (.ref C)) (some "Exception.__new__")
 base:wZ M h (Bind.staticBase (.ref C)) (.ref C)
 self:wZ M h (isSubtype (.ref C) (.ref C)) true
 top:wZ M h (isSubtype (.ref C) (.type "Exception")) true
 AD:wZ M h (isSubtype (.ref C) (.type "AttributeError")) false
 Va:wZ M h (isSubtype (.ref C) (.type "NameError")) false
 call:wZ M h (specialOf (.ref C) "__call__") (some (.builtin "type.__call__"))
 typ:wZ M h (isInstance (.ref C) (.type "type")) true
theorem ju{K:Frag}{M:wq}{h:Heap}(X:K.In h){C:Addr}(e:excIn K C=true):Pk M h C:=by
 unfold excIn at e;cases ho:K.lookup C with
 |none=> rw [ho]at e;cases e
 |some o=>
  obtain⟨oc,od,dat,sl⟩:=o;rw [ho]at e;cases dat with
  |cls cd=>
   obtain⟨e3,e⟩:=BX e;obtain⟨e4,e⟩:=BX e;obtain⟨eD,e⟩:=BX e;obtain⟨e5,e⟩:=BX e;obtain⟨e6,e⟩:=BX e;obtain⟨e7,e⟩:=BX e;obtain⟨e8,e⟩:=BX e;obtain⟨e9,e⟩:=BX e;have e10:=(BX e).1;simp only [Bool.not_eq_true',beq_iff_eq]at e3 e4 eD e7 e8 e9 e10;have hc:clsIn K C=some cd:=by unfold clsIn;rw [ho]
   have hm:wZ M h (mroOf (.ref C)) cd.mro:=(looks_clsIn X hc).andThen .now;obtain⟨c,l,hl⟩:∃c l,cd.mro=c::l:=by cases q:cd.mro with |nil=> rw [q]at e4;cases e4 |cons c l=> exact⟨c,l,rfl⟩
   have made:wZ M h (Bind.madeBy (.ref C)) (some "Exception.__new__"):=by intro A Q E s k q;unfold Bind.madeBy;refine v5 (hm A _ E s k ?_);rw [hl,yO];refine v5 (v5 (v5 (v5 (zR (k _ _ (X _ _ ho)) (v8 ?_)))));dsimp only;rw [<-Array.getElem?_toList,e3];exact v8 (v8 (v8 q))
   have mr:∀v b,cd.mro.contains v=b->mroIn K C v=some b:=fun v b z=> by unfold mroIn;rw [hc,Option.bind_some,if_neg (by rw [e4];decide),z]
   refine⟨⟨oc,od,cd,sl,X _ _ ho,e4,eD⟩,made,?_,xi X (mr _ _ e5),xi X (mr _ _ e6),xi X (mr _ _ e7),xi X (mr _ _ e8),looks_specialIn X e9,looks_instIn X e10⟩;intro A Q E s k q;unfold Bind.staticBase;refine v5 (hm A _ E s k ?_);rw [hl,yO];exact v5 (v5 (v5 (made A _ E s k (v8 (v8 (v8 q))))))
  |_=> cases e
section
variable{prog:wR}{w:wU}{A:v7}{C:Addr}{R:Result->vy->Prop}{h:Heap}{g:Array GenState}{d:Drawn}{t:Nat}{os:xk}
theorem jv{rest:List R5}(Y:Pk (model prog w) h C)(AC1:rest.length<=sizeLine)
 (hq:R (.ok (.ret (.ref (h.objs.size+1)))) ⟨(h.push (Ek rest)).push (CB C h.objs.size),g,d,t,os⟩):
 codeAny (model prog w) A (.call (.builtin "Exception.__new__") ⟨.ref C::rest,[]⟩) R ⟨h,g,d,t,os⟩:=by
 refine cps fun P1_ k1_=> ?_;obtain⟨⟨oc,od,cd,sl,hC,e4,eD⟩,made,base,self,top,AD,Va,call,typ⟩:=Y;refine k1_ ?_;have F:=PySem.F.excBase_Exception;have hstar:=F.noStar;have hends:=F.ends;have here:wZ (model prog w) h (Bind.madeHere "Exception.__new__" (.ref C)) ():=base.andThen (made.andThen (Looks.of_pure (by simp only [zN,bne_self_eq_false,wz,if_false])));have here':wZ (model prog w) h (Bind.madeHere "BaseException.__new__" (.ref C)) ():=base.andThen (made.andThen (Looks.of_pure (by simp only [zN,F.canon,bne_self_eq_false,wz,if_false])));refine codeAny_call_builtin_code (Code.quiet_builtin _ F.quiet) ?_;simp only [checkBuiltinCall,F.newKind,F.newSplit,F.newRow]
 repeat(first |simp only [bne_self_eq_false,wz,if_false,zT] |lk)
 refine codeAny_builtinAt F.entry ?_;unfold Builtin.«BaseException.__new__»;refine _root_.PySem.wpAt_bind ?_;show _root_.PySem.wpAt _ _ _ (stack >>=_) _ _ _;refine _root_.PySem.wpAt_bind (_root_.PySem.wpAt_stack fun p below=> _root_.PySem.wpAt_of_wpAny ?_)
 wp_walk
 refine _root_.PySem.wpAt_of_wpAny ?_;rw [F.owner]
 repeat(first |simp only [bne_self_eq_false,wz,if_false,zT] |lk)
 rw [if_neg (show¬rest.toArray.size>sizeLine by simpa using AC1)];unfold newObjAsIs
 repeat(first |simp only [bne_self_eq_false,wz,if_false,zT] |lk)
 refine nd_load (xb _ (xb _ hC)) (v8 ?_);dsimp only;rw [eD];refine v8 ?_;unfold ret;refine v8 (v8 ?_);show R _ _;rw [Heap.size_push];exact hq
theorem jw{rest:List R5}{init:R5}(Y:Pk (model prog w) h C)(AC1:rest.length<=sizeLine)(hi:wZ (model prog w) h (typeLookup (.ref C) "__init__") (some init))
 (hb:∀self,wZ (model prog w) h (bindSpecial init self) (init,[self]))
 (hq:codeAny (model prog w) (A.under (.builtin "type.__call__" ⟨.ref C::rest,[]⟩)) (.call init ⟨.ref (h.objs.size+1)::rest,[]⟩) (InitBack (h.objs.size+1) R) ⟨(h.push (Ek rest)).push (CB C h.objs.size),g,d,t,os⟩):
 codeAny (model prog w) A (.call (.ref C) ⟨rest,[]⟩) R ⟨h,g,d,t,os⟩:=by
 refine cps fun P1_ k1_=> ?_;have Y':=Y;obtain(⟨⟨oc,od,cd,sl,hC,e4,eD⟩,made,base,self,top,AD,Va,call,typ⟩):=Y;refine k1_ ?_;refine codeAny_of_tree ?_;show wpAny _ _ (callAny (.ref C) _) _ _ _;refine nd_load hC ?_;show wpAny _ _ (callAny.viaDunder (.ref C) _) _ _ _;unfold callAny.viaDunder;refine v5 (call.at ?_);dsimp only;rw [tc_bind];refine v5 (v8 (v5 (v8 ?_)));refine v8 (a:=Fin.again (.call (.builtin "type.__call__") ⟨.ref C::rest,[]⟩)) (And.intro rfl ?_);refine codeAny_call_builtin_at (Code.quiet_builtin _ (by decide+kernel)) entry_typeCall (check_slot tc_kind tc_split typ (tc_args _ _ _) ?_);unfold Builtin.«type.__call__»;have hm:wZ (model prog w) h (mroOf (.ref C)) cd.mro:=((Looks.ld (part:=none) hC).andThen .now).andThen .now
 repeat(first |simp only [e4,wz,if_false] |with_reducible refine xv ?_ |lk)
 refine jv Y' AC1 ?_;have k:∀b o,h.get? b=some o->((h.push (Ek rest)).push (CB C h.objs.size)).get? b=some o:=fun b o e=> xb _ (xb _ e);have hx:((h.push (Ek rest)).push (CB C h.objs.size)).get? (h.objs.size+1)=some (CB C h.objs.size):=by heap_get
 have t1:wZ (model prog w) ((h.push (Ek rest)).push (CB C h.objs.size)) (typeOf (.ref (h.objs.size+1))) (.ref C):=(Looks.ld hx).andThen .now;have s1:=self.keeps k;have i1:=hi.keeps k;have b1:=(hb (.ref (h.objs.size+1))).keeps k;unfold isInstance callSpecial? specialOf
 repeat(first |with_reducible refine xv ?_ |lk)
 refine codeAny_mono hq fun r s' z=> ?_;rcases r with e |(v |_ |_ |_)<;>first |exact z |exact z.elim |skip
 obtain(⟨rfl,z⟩):=z;exact v8 (v8 z)
end
end
section
open PySem PySem.W PyProof.Rows PySem.Calls Builtin Builtin.ObjectAttr Builtin.Getset_descriptor
theorem jx(self:R5):refuseLoop self "__setattr__" [.type "Exception",.type "BaseException",.type "object"]=pure ():=by kernel_rfl
theorem Vb:∀{l:List R5},IV l=true->(∃c r,l= .ref c::r/\IV r=true)∨l=[.type "Exception",.type "BaseException",.type "object"]
 | []=>@fun e=> nomatch e
 |a::r=>@fun e=> by
  cases a with
  |ref c=> exact .inl ⟨c,r,rfl,e⟩
  |_=> exact .inr (eq_of_beq (show((_::r:List R5)==[.type "Exception",.type "BaseException",.type "object"])=true from e))
theorem Vc(self:R5):∀(n:Nat) {l:List R5},l.length=n->IV l=true->refuseLoop self "__setattr__" l=pure ()
 |0,l,hn,e=> by cases xy.mp hn;cases e
 |n+1,l,hn,e=> by
  rcases Vb e with⟨c,r,rfl,e'⟩ |rfl
  . rw [refuseLoop_ref];exact Vc self n (Nat.succ.inj hn) e'
  . exact jx self
theorem Vd:∀(n:Nat) {l:List R5},l.length=n->IV l=true->l.contains (.type "object")=true
 |0,l,hn,e=> by cases xy.mp hn;cases e
 |n+1,l,hn,e=> by
  rcases Vb e with⟨c,r,rfl,e'⟩ |rfl
  . rw [xD,Vd n (Nat.succ.inj hn) e',Bool.or_true]
  . decide+kernel
abbrev FO(C t dx:Addr):Obj:={cls:=.ref C,dict:=some dx,data:=.fields #[.ref t,.none,.none,.none,.bool false,.none]}
section
variable{prog:wR}{w:wU}{A:v7}{K:Frag}{C x t:Addr}{s:vy}{h₀:Heap}{L:Addr}{m:vz->Option R5}{R:Result->vy->Prop}{name:vz}{tk:Tok}{v:R5}
theorem Ve{ox:Obj}{od:Option Obj}{r:Option R5}(X:K.In s.heap)(I:xq s.heap x ox C od)(hp:HV K C=true)(ht:takerIn K C name=some r)
 (h:∀b,wpAny (model prog w) A.in1 (match r with |some a=> setByDescriptor a (.ref x) v |none=> storeInOwnDict (.ref x) (.ref C) (.str name tk) name v b)
   (fun fin s'=> match fin with | .done f=> R (.ok f) s' | .again c'=> c'.quiet=true/\codeAny (model prog w) A c' R s') (fun e s'=> R (.error e) s') s):
 codeAny (model prog w) A (.call (.builtin "object.__setattr__") ⟨[.ref x,.str name tk,v],[]⟩) R s:=by
 have SF:=PySem.F.store_object;obtain⟨cd,hc,ho⟩:=any_some hp;have ne:cd.mro.isEmpty=false:=by cases q:cd.mro with |nil=> rw [q]at ho;cases ho |cons _ _=> rfl
 have sub:wZ (model prog w) s.heap (isInstance (.ref x) (.type "object")) true:=I.type.andThen (xi X (by unfold mroIn;rw [hc,Option.bind_some,if_neg (by rw [ne];decide),Vd _ rfl ho]));refine codeAny_call_builtin SF.slot.plain SF.entry (@check_slot (model prog w) _ _ s "object.__setattr__" "object" "__setattr__" (.ref x) [.str name tk,v] [] _ SF.kind SF.split sub (SF.args (.ref x) (.str name tk) v) ?_);refine AR ht fun attr ha hr=> ?_;have hm:wZ (model prog w) s.heap (mroOf (.ref C)) cd.mro:=(looks_clsIn X hc).andThen .now;have L3:wZ (model prog w) s.heap (storeTaker? attr) r:=by
  cases attr with
  |none=> cases hr;exact .now
  |some a=> obtain⟨b,hb,rfl⟩:=wK.mp hr;refine(looks_takesIn X hb).andThen ?_;cases b<;>exact .now
 rw [osa_eq,refuse_eq];refine v5 (v5 (I.type.here (v5 (hm.here ?_))));rw [Vc _ _ rfl ho];refine v8 (v5 (I.type.here (v5 ((zV X ha).here (v5 (L3.here ?_))))));exact h _
theorem Vf{es:List wQ}{k dx:Addr}{news news':Led}{Q:PySem.Fin->vy->Prop}{E:R5->vy->Prop}(F:Fr h₀ L s.heap m)(N:News h₀ L s.heap news)
 (hl:(getL name es).isSome=true) (U:Upd dx (dictOf es k) (dictOf (putL name (xF w.params name) (.str name s.toks) v es) (zY name es k)) news news')
 (hz:(putL name (xF w.params name) (.str name s.toks) v es).length<=1000)
 (h:∀h',Fr h₀ L h' m->News h₀ L h' news'->Q (.done (.ret .none)) {s with heap:=h',toks:=s.toks+1}):wpAny (model prog w) A (storeInDict dx (.str name tk) name v) Q E s:=by
 refine cps fun P1_ k1_=> ?_;obtain⟨pre,post,rfl,rfl,h1,h2⟩:=U.split;obtain⟨U1,U2⟩:=news_upd (f:=Obj.putName name (xF w.params name) (.str name s.toks) v) F N h1 h2 (putName_dict _ _ _ _ _ _) rfl;refine k1_ ?_;have D:=(N (dx,dictOf es k) (wH _ (.head _))).1;have D':=(U2 (dx,dictOf (putL name (xF w.params name) (.str name s.toks) v es) (zY name es k)) (wH _ (.head _))).1;unfold storeInDict;refine v5 (v8 (v5 ?_));unfold nsSet;refine v5 (v5 (wpAny_askSetting (v8 (v5 (wpAny_mkText (v5 (zR D ?_)))))));have c:(!es.toArray.any (·.key.isStr name)&&es.toArray.any (·.refKey))=false:=by
  rw [<-Array.any_toList,<-Array.any_toList];unfold getL at hl;show(!es.any (·.key.isStr name)&&es.any (·.refKey))=false;cases q:es.find? (·.key.isStr name)with
  |some en=> rw [List.any_eq_true.mpr ⟨en,List.mem_of_find?_eq_some q,List.find?_some q⟩];rfl
  |none=>
   rw [q]at hl;by_cases z:es.any (·.refKey)=true
   . rw [if_pos z]at hl;cases hl
   . rw [Bool.not_eq_true]at z;rw [z,yP]
 dsimp only;rw [aRefKeyMayBeTheName_at,c];refine wpAny_updatePart D ?_;refine v5 (wpAny_lookBehind D' (pastItsLine_dict (by rw [w3,sizeLine_eq];exact C8)) ?_);exact v8 (h _ U1 U2)
end
end
section
open PySem PySem.W PyProof.Rows PySem.Calls Builtin Builtin.ObjectAttr Builtin.Getset_descriptor
section
variable{prog:wR}{w:wU}{A:v7}{K:Frag}{C x t:Addr}{s:vy}{h₀:Heap}{L:Addr}{m:vz->Option R5}{name:vz}{v:R5}{Q:Unit->vy->Prop}{E:R5->vy->Prop}{news:Led}
theorem jy{h:Heap}{t:Addr}(hx:h.get? x=some (CB C t)):xq h x (CB C t) C none:=⟨hx,rfl,rfl,trivial⟩
theorem jz{h:Heap}{t dx:Addr}{od:Obj}(hx:h.get? x=some (FO C t dx))(hd:h.get? dx=some od):xq h x (FO C t dx) C (some od):=⟨hx,rfl,rfl,hd⟩
theorem j0{es:List wQ}{k dx:Addr}{news':Led}(F:Fr h₀ L s.heap m)(N:News h₀ L s.heap news)(X:K.In s.heap)(hx:(x,FO C t dx)∈news)(hdx:(dx,dictOf es k)∈news)
 (hs:findIn K (.ref C) "__setattr__"=some (some (.builtin "object.__setattr__"))) (hp:HV K C=true) (ht:takerIn K C name=some none) (hh:hasDictIn K C=true) (hl:(getL name es).isSome=true)
 (U:Upd dx (dictOf es k) (dictOf (putL name (xF w.params name) (.str name (s.toks+1)) v es) (zY name es k)) news news')
 (hz:(putL name (xF w.params name) (.str name (s.toks+1)) v es).length<=1000)
 (h:∀h',Fr h₀ L h' m->News h₀ L h' news'->Q () {s with heap:=h',toks:=s.toks+2}):wpAny (model prog w) A (setAttr (.ref x) name v) Q E s:=by
 obtain⟨cd,hc,hd'⟩:=any_some hh;have I:=jz (N _ hx).1 (N _ hdx).1;refine set_plain X I hs (Ve (s:={s with toks:=s.toks+1}) X I hp ht fun b=> ?_);refine v5 (v8 (v5 (v5 (zR (N _ hx).1 (v5 (Looks.here (s:={s with toks:=s.toks+1}) (looks_clsIn X hc) ?_))))));rw [hd'];refine v8 (a:=some dx) ?_;exact Vf (s:={s with toks:=s.toks+1}) F N hl U hz fun h' F' N'=> h h' F' N'
theorem j1{pre post:Led}(F:Fr h₀ L s.heap m)(N:News h₀ L s.heap (pre++(x,CB C t)::post))(X:K.In s.heap)(h1:∀p∈pre,p.1≠x)(h2:∀p∈post,p.1≠x)
 (hs:findIn K (.ref C) "__setattr__"=some (some (.builtin "object.__setattr__"))) (hp:HV K C=true) (ht:takerIn K C name=some none) (hh:hasDictIn K C=true)
 (h:∀h' dx,Fr h₀ L h' m->News h₀ L h' ((dx,dictOf [⟨xF w.params name,.str name (s.toks+1),v⟩] 1)::(pre++(x,FO C t dx)::post))->(∀p∈pre++(x,CB C t)::post,p.1<dx)->Q () {s with heap:=h',toks:=s.toks+2}):
 wpAny (model prog w) A (setAttr (.ref x) name v) Q E s:=by
 obtain⟨cd,hc,hd'⟩:=any_some hh;have hx:=(N (x,CB C t) (wH _ (.head _))).1;have I:=jy hx;refine set_plain X I hs (Ve (s:={s with toks:=s.toks+1}) X I hp ht fun b=> ?_);refine v5 (v8 (v5 (v5 (zR hx (v5 (Looks.here (s:={s with toks:=s.toks+1}) (looks_clsIn X hc) ?_))))));rw [hd'];have lt:∀p∈pre++(x,CB C t)::post,p.1<s.heap.objs.size:=fun p hp=> wk (N p hp).1;have hxl:=lt (x,CB C t) (wH _ (.head _));have F1:=F.push emptyDict;have N1:News h₀ L (s.heap.push emptyDict) (((s.heap.objs.size,emptyDict)::pre)++(x,CB C t)::post):=N.push F emptyDict;obtain⟨U1,U2⟩:=news_upd (f:=fun o=> {o with dict:=some s.heap.objs.size}) (o':=FO C t s.heap.objs.size) F1 N1 (fun p hp=> (wM.mp hp).elim (fun e=> e▸xN hxl) (h1 p)) h2 rfl rfl;refine v5 (wpAny_alloc (v5 (wpAny_update (o:=CB C t) (N1 (x,CB C t) (wH _ (.head _))).1 (v5 (v8 (v8 ?_))))));refine Vf (s:=⟨_,s.gens,s.drawn,s.toks+1,s.os⟩) (es:=[]) (k:=0) U1 U2 rfl (.head fun p hp=> ?_) (show 1<=1000 by decide) fun h' F' N'=> h h' _ F' N' lt;rcases wV.mp hp with hp |hp
 . exact wt (lt p (wO _ hp))
 . rcases wM.mp hp with rfl |hp
   . exact wt hxl
   . exact wt (lt p (wH _ (.tail _ hp)))
end
end
end Internal
section
namespace Internal
open PySem.Sem (wp)
def f2:Data->Option R5
 | .fields vs=> vs[2]?
 |_=> none
def MZ(o o':Obj):Prop:=o'.dict=o.dict/\f2 o'.data=f2 o.data
def DK(h h':Heap):Prop:=∀b o,h.get? b=some o->∃o',h'.get? b=some o'/\MZ o o'
theorem DK.rfl'{h:Heap}:DK h h:=fun _ o e=> ⟨o,e,rfl,rfl⟩
theorem DK.trans{h₁ h₂ h₃:Heap}(x:DK h₁ h₂)(y:DK h₂ h₃):DK h₁ h₃:=fun b o e=> let⟨_,e1,q1⟩:=x b o e;let⟨o2,e2,q2⟩:=y b _ e1;⟨o2,e2,q2.1.trans q1.1,q2.2.trans q1.2⟩
theorem DK.push{h:Heap}(o:Obj):DK h (h.push o):=fun _ o e=> ⟨o,xb _ e,rfl,rfl⟩
theorem j2{o:Obj}(h:o.alive=true):o.isFreed=false:=by obtain⟨c,d,dt,sl⟩:=o;cases dt<;>first |rfl |cases h
theorem DK.update{h:Heap}{a:Addr}{f:Obj->Obj}(hf:∀o,MZ o (f o)/\((f o).isFreed=o.isFreed)):DK h (h.update a f):=fun b o e=> by
 by_cases q:a=b
 . subst q;exact⟨_,zl _ e (by rw [(hf o).2];exact j2 ((Heap.get?_eq_some _ _ _).1 e).2),(hf o).1⟩
 . exact⟨o,(zi _ _ q).trans e,rfl,rfl⟩
structure KD{α:Type}(t:Sem α):Prop where
 out:∀(M:wq) (Γ:Ctx) (P:α->Pos->vy->Prop) (Ee:R5->Pos->vy->Prop) (p:Pos) (s:vy),wp M Γ t P Ee p s->wp M Γ t (fun a p' s'=> P a p' s'/\DK s.heap s'.heap) Ee p s
namespace KD
variable{α β:Type}
theorem pure(a:α):KD (Pure.pure a:Sem α):=⟨fun _ _ _ _ _ _ h=> ⟨h,DK.rfl'⟩⟩
theorem unsupported(w:String):KD (PySem.unsupported w:Sem α):=⟨fun _ _ _ _ _ _ h=> h.elim⟩
theorem bind{m:Sem α}{f:α->Sem β}(hm:KD m)(hf:∀a,KD (f a)):KD (m >>=f):=⟨fun M Γ P Ee p s h=> by rw [Sem.wp_bind']at h⊢;exact Sem.wp_mono M Γ m (fun a p' s' h'=> Sem.wp_mono M Γ (f a) (fun b p'' s'' h''=> ⟨h''.1,h'.2.trans h''.2⟩) (fun _ _ _ x=> x) p' s' ((hf a).out M Γ P Ee p' s' h'.1)) (fun _ _ _ x=> x) p s (hm.out M Γ _ Ee p s h)⟩
theorem ite{c:Prop} [Decidable c]{t u:Sem α}(ht:KD t)(hu:KD u):KD (if c then t else u):=by split<;>assumption
theorem load(a:Addr):KD (PySem.load a):=⟨fun _ _ _ _ _ _ ⟨o,ho,h⟩=> ⟨o,ho,h,DK.rfl'⟩⟩
theorem update(a:Addr)(f:Obj->Obj)(hf:∀o,MZ o (f o)/\((f o).isFreed=o.isFreed)):KD (PySem.update a f):=⟨fun M Γ P Ee p s h=> by have h:=(Sem.wp_cmd_update M Γ _ p s a f _).mp h;exact(Sem.wp_cmd_update M Γ _ p s a f _).mpr ⟨h.1,h.2,DK.update hf⟩⟩
theorem stack:KD PySem.stack:=⟨fun M Γ P Ee p s h=> by unfold PySem.stack at h⊢;rw [Sem.wp_stack]at h⊢;exact⟨h,DK.rfl'⟩⟩
theorem alloc(o:Obj):KD (PySem.alloc o):=⟨fun M Γ P Ee p s h=> by unfold PySem.alloc at h⊢;rw [Sem.wp_alloc]at h⊢;exact⟨h,DK.push o⟩⟩
theorem field(v:R5)(i:Nat):KD (PySem.field v i):=⟨fun M Γ P Ee p s h=> by obtain⟨a,o,vs,x,e,ho,hd,hx,h⟩:=(wp_field_iff Γ v i P Ee p s).mp h;exact(wp_field_iff Γ v i _ Ee p s).mpr ⟨a,o,vs,x,e,ho,hd,hx,h,DK.rfl'⟩⟩
theorem j3{i:Nat}(hi:i≠2)(x:R5)(o:Obj):MZ o (yo (·.setIfInBounds i x) o)/\(yo (·.setIfInBounds i x) o).isFreed=o.isFreed:=by
 obtain⟨c,d,dt,sl⟩:=o;cases dt with
 |fields vs=> exact⟨⟨rfl,Array.getElem?_setIfInBounds_ne hi⟩,rfl⟩
 |_=> exact⟨⟨rfl,rfl⟩,rfl⟩
theorem setField(v:R5){i:Nat}(hn:i≠2)(x:R5):KD (PySem.setField v i x):=⟨fun M Γ P Ee p s h=> by obtain⟨a,o,vs,e,ho,hd,hi,h⟩:=(wp_setField_iff Γ v i x P Ee p s).mp h;exact(wp_setField_iff Γ v i x _ Ee p s).mpr ⟨a,o,vs,e,ho,hd,hi,h,DK.update (j3 hn x)⟩⟩
end KD
theorem KD.keptBack(env:Env)(i:Bool)(l:List Env):KD (keptBack env i l):=by
 cases l with
 |nil=> unfold PySem.keptBack;refine KD.ite (KD.pure _) (KD.bind ?_ fun _=> KD.pure _);unfold underTheClaimsCaller;exact KD.bind KD.stack fun _=> KD.pure _
 |cons c r=> exact KD.pure _
theorem KD.readyFrames:∀l:List Env,KD (readyFrames l)
 | []=> KD.pure _
 |env::outer=> by
  have ih:=KD.readyFrames outer;unfold PySem.readyFrames;cases env.frame with
  |none=> exact KD.unsupported _
  |some f=> refine KD.bind (KD.load f) fun o=> KD.ite (KD.pure _) (KD.bind ?_ fun i=> KD.bind (KD.keptBack env i outer) fun b=> KD.bind (KD.update f _ fun o=> by obtain⟨c,d,dt,sl⟩:=o;cases dt<;>exact⟨⟨rfl,rfl⟩,rfl⟩) fun _=> ih);unfold behindIsImport;exact KD.ite (KD.pure _) (KD.ite (KD.pure _) (KD.bind (KD.field _ _) fun _=> KD.pure _))
theorem KD.frameOf(env:Env):KD (frameOf env):=by
 unfold PySem.frameOf frameEnvs;refine KD.bind (KD.bind KD.stack fun _=> KD.pure _) fun l=> KD.bind ?_ fun r=> ?_
 . generalize List.dropWhile (fun x=> x.frame !=env.frame) l=l';cases l' with
   |nil=> exact KD.pure _
   |cons e r=> unfold frameObject;exact KD.bind (KD.readyFrames _) fun _=> KD.pure _
 . cases r with
   |none=> exact KD.unsupported _
   |some f=> exact KD.pure _
theorem KD.entryPlaceOf(f:Addr)(b:Bool):KD (entryPlaceOf f b):=by
 unfold PySem.entryPlaceOf;refine KD.bind KD.stack fun ADe=> ?_;cases ADe.find? (fun x=> x.1.env?.bind (·.frame)==some f)with
 |none=> exact KD.pure _
 |some p=> exact KD.pure _
theorem KD.newEntry(a b c d e:R5)(l:List R5):KD (zu a b c d e l):=by unfold zu newFields newObj newObjAsIs;exact KD.ite (KD.bind (KD.unsupported _) fun _=> KD.bind (KD.alloc _) fun _=> KD.pure _) (KD.bind (KD.alloc _) fun _=> KD.pure _)
theorem KD.noteFrame(e:R5)(env:Env):KD (noteFrame e env):=by
 unfold PySem.noteFrame;cases env.frame with
 |none=> exact KD.unsupported _
 |some f=>
  have tail:∀hd:R5,KD (do PySem.setField e 1 (<-zu hd (<-PySem.frameOf env) .none (rawInt f) .none (<-PySem.entryPlaceOf f (hd != .none)))):=fun hd=>
   KD.bind (KD.frameOf env) fun _=> KD.bind (KD.entryPlaceOf f _) fun _=> KD.bind (KD.newEntry _ _ _ _ _ _) fun _=> KD.setField _ (by decide) _
  exact KD.bind (KD.field _ _) fun hd=> KD.ite (KD.bind (KD.field _ _) fun _=> KD.ite (KD.pure _) (KD.bind (KD.setField _ (by decide) _) fun _=> tail hd)) (tail hd)
theorem KD.setFlight(e:R5)(f:Option Addr):KD (setFlight e f):=by unfold PySem.setFlight;exact KD.bind (KD.field _ _) fun _=> KD.ite (KD.setField _ (by decide) _) (KD.pure _)
theorem KD.leaving(env:Env)(e:R5):KD (leaving env e):=by unfold PySem.leaving;exact KD.bind (KD.noteFrame e env) fun _=> KD.setFlight e none
theorem KD.any{α:Type}{M:wq}{A:v7}{t:Sem α}{Q:α->vy->Prop}{E:R5->vy->Prop}{s:vy}(k:KD t)(h:wpAny M A t Q E s):wpAny M A t (fun a s'=> Q a s'/\DK s.heap s'.heap) E s:=
 fun Γ p hΓ=> k.out M Γ _ _ p s (h Γ p hΓ)
end Internal
end
namespace Internal
section
def j4(G:Gx)(outer:List Env)(g:Heap)(W:Wd)(x:AV)(hp:Hp)(ea c t dx k:Nat)(fs:List (N×AV))(es:List wQ)(M:Led)(ow:Addr->Nat)(s:vy):Prop:=
 x= .obj c fs/\(∃B,G.B.StaysIn B/\(∀q∈(dx,dictOf es k)::(M++W.fz),B.get? q.1=some q.2/\G.B.get? q.1=none)/\zZ B outer ea (.ref c) (.ref t) s.heap)/\g.UpToSlots s.heap/\
  (∃oe,s.heap.get? ea=some oe/\oe.dict=some dx/\f2 oe.data=some .none)/\Au G.B W fs es/\Cy G.prog G.w G.B W M ow hp/\(∀q∈M,q.1≠dx)/\s.gens= #[]/\s.os=G.os
inductive Arr(G:Gx)(outer:List Env)(g:Heap)(W:Wd)(x:AV)(hp:Hp)(e:R5)(s:vy):Prop
 |mk (ea:_) (c:_) (t:_) (dx:_) (k:_) (fs:_) (es:_) (M:_) (ow:_) (h0_:e= .ref ea) (h1_:j4 G outer g W x hp ea c t dx k fs es M ow s)
def Fx.A0(f:Fx):v7:=f.A₀.deeper f.env
def XA(G:Gx)(f:Fx):XP:=fun W x _ hp e s=> wpAny (mo G) f.A0 (leaving f.env e) (fun _ s'=> Arr G f.outer f.g W x hp e s') (fun _ _=> False) s
section
variable{G:Gx}{f:Fx}{W:Wd}{l:List (N×AV)}{hp:Hp}{M:Led}{ow:Addr->Nat}{m:vz->Option R5}{s:vy}
theorem j5(O:AN G f)(F:Fr f.g f.L s.heap m){ea c t dx k:Nat}{fs:List (N×AV)}{es:List wQ}(N:News f.g f.L s.heap ((ea,FO c t dx)::(dx,dictOf es k)::(M++W.fz)))
 (ne:∀q∈(dx,dictOf es k)::(M++W.fz),q.1≠ea) (nd:∀q∈M,q.1≠dx) (R:Au G.B W fs es) (H:Cy G.prog G.w G.B W M ow hp) (hg:s.gens= #[]) (hos:s.os=G.os):XA G f W (.obj c fs) l hp (.ref ea) s:=by
 have K':=pushX (env:=f.env) O.below F rfl O.fn;let as:List Addr:=ea::(f.env::f.outer).filterMap (·.frame);have hea:=N _ (.head _);have hin:∀env∈(f.env::f.outer),∀b,env.frame=some b->b∈as:=fun env he b hb=>.tail _ (zE.mpr ⟨env,he,hb⟩);have gB:∀b o,G.B.get? b=some o->b≠ea:=fun b o q z=> by have:=fresh_of_stays O.below.stays hea.2.2;rw [<-z,q]at this;cases this
 have st:G.B.StaysIn (hideAll s.heap as):=fun b o q=> hideAll_get _ (K'.stays b o q) fun hm=> by
  rcases wM.mp hm with h |h
  . exact gB b o q h
  . rw [(K'.frames.mem h).1]at q;cases q
 have hl:∀q∈(dx,dictOf es k)::(M++W.fz),(hideAll s.heap as).get? q.1=some q.2/\G.B.get? q.1=none:=fun q hq=> by
  have z:=N q (.tail _ hq);refine⟨hideAll_get _ z.1 fun hm=> ?_,fresh_of_stays O.below.stays z.2.2⟩;rcases wM.mp hm with h |h
  . exact ne q hq h
  . refine cps fun P1_ k1_=> ?_;obtain⟨env,he,hf⟩:=zE.mp h;refine k1_ ?_;rcases wM.mp he with rfl |he
    . exact z.2.1 (wb hf).symm
    . refine cps fun P2_ k2_=> ?_;obtain⟨o,ho,_⟩:=(O.below.frames.mem (zE.mpr ⟨env,he,hf⟩)).2;refine k2_ ?_;rw [z.2.2]at ho;cases ho
 have hen:(hideAll s.heap as).get? ea=none:=hideAll_none _ (.head _);refine wL (KD.any (KD.leaving _ _) (wpAny_leaving_firstW (Q:=fun _ s'=> Heap.LeftW (hideAll s.heap as) (f.env::f.outer) ea (.ref c) (.ref t) s.heap s'.heap/\s'.gens=s.gens/\s'.os=s.os) (a0:=.ref t) (base:=hideAll s.heap as) K'.stack (funFrames_hide K'.frames hin) rfl hea.1 (fun b o q=> of_hideAll _ q) hen rfl rfl rfl fun h' hL=> ⟨hL,rfl,rfl⟩)) (fun _ s' h=> ?_) fun _ _ x=> x;refine cps fun P3_ k3_=> ?_;obtain⟨⟨⟨k1,⟨_,_,k2⟩,k3,k4⟩,hg',ACJ⟩,D⟩:=h;obtain⟨oe,he1,he2⟩:=D _ _ hea.1;refine k3_ ?_;exact⟨ea,c,t,dx,k,fs,es,M,ow,rfl,rfl,⟨_,st,hl,k1,hen,k2,k3⟩,(AAU F.keep).trans k4,⟨oe,he1,he2.1,he2.2⟩,R,H,nd,hg'.trans hg,ACJ.trans hos⟩
theorem j6(O:AN G f){g:Heap}(F:Fr f.g f.L g m){x:AV}{e:R5}(R:Arr G (f.env::f.outer) g W x hp e s):XA G f W x l hp e s:=by refine cps fun P1_ k1_=> ?_;obtain⟨ea,c,t,dx,k,fs,es,M,ow,rfl,rfl,⟨B,b1,b2,b3⟩,up,⟨oe,he1,he2,he3⟩,fr,H,nd,hg,hos⟩:=R;refine k1_ ?_;refine wL (KD.any (KD.leaving _ _) (wpAny_leaves_onW (Q:=fun _ s'=> zZ B f.outer ea (.ref c) (.ref t) s'.heap/\s.heap.UpToSlots s'.heap/\s'.gens=s.gens/\s'.os=s.os) (yz O.below.stack) (env:=f.env) (L:=f.L) rfl b3 fun h' x1 x2=> ⟨x1,x2,rfl,rfl⟩)) (fun _ s' h=> ?_) fun _ _ x=> x;refine cps fun P2_ k2_=> ?_;obtain⟨⟨x1,x2,hg',ACJ⟩,D⟩:=h;obtain⟨oe',AC4,ACL⟩:=D _ _ he1;refine k2_ ?_;exact⟨ea,c,t,dx,k,fs,es,M,ow,rfl,rfl,⟨B,b1,b2,x1⟩,(AAU F.keep).trans (up.trans x2),⟨oe',AC4,ACL.1.trans he2,ACL.2.trans he3⟩,fr,H,nd,hg'.trans hg,ACJ.trans hos⟩
theorem Vg{M:wq}{A:v7}{env:Env}{E E':R5->vy->Prop}{e:R5}{s:vy}(hE:∀e s,E e s->E' e s)(h:cameBackBy M A env E e s):cameBackBy M A env E' e s:=wL h (fun _ _ q=> hE _ _ q) hE
theorem Vh{M:wq}{A:v7}{env:Env}{E E':R5->vy->Prop}{e:R5}{s:vy}(h:notedBy M A env (cameBackBy M A env E) e s)(hE:∀e s,E e s->E' e s):notedBy M A env (cameBackBy M A env E') e s:=
 wL h (fun _ _ q=> Vg hE q) fun _ _ q=> Vg hE q
theorem j7:Gy G f f.A0 (XA G f):=fun W r e s h=> by obtain⟨x,σ,W',h1,h2,h3⟩:=h;exact Vh (PassesOwn.leaving e s h3) fun e s q=> ⟨x,σ,W',h1,h2,q⟩
end
end
section
def Ma(sc:xC):List (N×N)->List Stmt->Prop
 | [],b=> b=[]
 |p::fs,b=> ∃tp p1 p2 pos r,b= .Assign [.Attribute (.Name (nm N.self) p1) (nm p.1) tp] (.Name (nm p.2) p2) pos::r/\sc.names.lookup (nm N.self)=some .local/\(nm N.self==("__debug__":vz))=false/\
   sc.names.lookup (nm p.2)=some .local/\(nm p.2==("__debug__":vz))=false/\Ma sc fs r
structure G0(G:Gx)(P:Prog):Prop where
 made:∀c cl,P.cls c=some cl->cl.exc=true->excIn G.K c=true/\keepIn G.K (.ref c)=true/\typeIn G.K (.ref c)=some (.type "type")/\hasDictIn G.K c=true
 set:∀c cl,P.cls c=some cl->cl.exc=true->findIn G.K (.ref c) "__setattr__"=some (some (.builtin "object.__setattr__"))/\HV G.K c=true/\mroIn G.K c (.type "BaseException")=some true
 up:∀c cl b,P.cls c=some cl->cl.exc=true->cl.mro.contains b=true->mroIn G.K c (.ref b)=some true
 BH:∀c cl fi fs,P.cls c=some cl->cl.exc=true->cl.init= .BH fi fs->findIn G.K (.ref c) "__init__"=some (some (.ref fi))/\typeIn G.K (.ref fi)=some (.type "function")/\
  ∃fn ps,P.fns fi=some fn/\fn.ps= .self::ps/\fs≠[]/\(fs.map (·.1)).Nodup/\fs.length<100/\(∀p∈fs,p.2≠ .self)/\(∀p∈fs,takerIn G.K c (nm p.1)=some none)/\
   ∃qual scope body cdv cl',FnShape G fi fn qual scope body cdv cl'/\Ma scope fs body
section
variable{G:Gx}{f:Fx}{A:v7}{W:Wd}{l:List (N×AV)}{m:vz->Option R5}{s:vy}
def Mb(c t x:Nat)(es:List wQ)(E:Led):Prop:=(es=[]/\E=[(x,CB c t)])∨∃dx k,E=[(dx,dictOf es k),(x,FO c t dx)]/\x<dx
theorem j8(O:AN G f){c t x:Nat}{p:N×N}{tp p1 p2 pos:Pos}{fs0:List (N×AV)}{v:AV}{es:List wQ}{E rest:Led}(g1:findIn G.K (.ref c) "__setattr__"=some (some (.builtin "object.__setattr__")))(g2:HV G.K c=true)(g3:takerIn G.K c (nm p.1)=some none)(g4:hasDictIn G.K c=true)
 (h1:f.cs.names.lookup (nm N.self)=some .local) (h2:(nm N.self==("__debug__":vz))=false) (h3:f.cs.names.lookup (nm p.2)=some .local) (h4:(nm p.2==("__debug__":vz))=false)
 (F:Fr f.g f.L s.heap m) (N':News f.g f.L s.heap (E++rest)) (lt:∀q∈rest,q.1<x) (L:Ct G.B W l m) (hs:look N.self l=some (.fn x)) (hv:look p.2 l=some v) (X:Mb c t x es E) (R:Au G.B W fs0 es) (hz:fs0.length<100):
 wpAny (mo G) A (exec (.Assign [.Attribute (.Name (nm N.self) p1) (nm p.1) tp] (.Name (nm p.2) p2) pos) f.env)
  (fun fl s'=> fl= .next/\∃E' es',Fr f.g f.L s'.heap m/\News f.g f.L s'.heap (E'++rest)/\Mb c t x es' E'/\es'≠[]/\Au G.B W (put p.1 v fs0) es'/\s'.gens=s.gens/\s'.os=s.os) (fun _ _=> False) s:=by
 obtain(⟨us,e1,(r1:us= .ref x)⟩):=L _ _ hs;subst r1;obtain(⟨u,e2,r2⟩):=L _ _ hv;refine zA (zK F e2 ?_ O.fn h3 h4) (show swapsWith (.Name (nm p.2) p2) (some (.Attribute (.Name (nm N.self) p1) (nm p.1) tp)) pos.line f.env=pure false from Gw (e:=.Name (nm p.2) p2) rfl) (PF (t:=.Attribute (.Name (nm N.self) p1) (nm p.1) tp) rfl);rw [Ul rfl];show wpAny (mo G) A (assign (.Attribute (.Name (nm N.self) p1) (nm p.1) tp) f.env u) _ _ _;refine v5 (wJ (zK F e1 ?_ O.fn h1 h2));refine v5 (wa (v5 (wJ ?_)));have XK:=O.X.keeps F.keep;rcases X with⟨rfl,rfl⟩ |⟨dx,k,rfl,lx⟩
 . have ADf:fs0=[]:=xy.mp R.len;subst ADf;refine j1 (pre:=[]) F N' XK (fun _ h=> nomatch h) (fun q hq=> wt (lt q hq)) g1 g2 g3 g4 fun h' dx F' N2 l2=> x8 ⟨rfl,_,_,F',N2,.inr ⟨dx,1,rfl,l2 _ (.head _)⟩,nofun,?_,rfl,rfl⟩;exact⟨⟨⟨_,rfl⟩,r2⟩,trivial⟩
 . have F2:=Au.put (a:=p.1) r2 (xF G.w.params (nm p.1)) (s.toks+1) R;have hsh:(getL (nm p.1) es).isSome=true:=by
    cases hl:look p.1 fs0 with
    |none=> rw [R.miss hl];rfl
    |some x=> obtain(⟨v,h1,_⟩):=R.look hl;rw [h1];rfl
   have hz':(putL (nm p.1) (xF G.w.params (nm p.1)) (.str (nm p.1) (s.toks+1)) u es).length<=1000:=by rw [<-F2.len];exact wC (O7 p.1 v fs0) (wC hz (by decide))
   refine j0 F N' XK (.tail _ (.head _)) (.head _) g1 g2 g3 g4 hsh (news':=(dx,dictOf (putL (nm p.1) (xF G.w.params (nm p.1)) (.str (nm p.1) (s.toks+1)) u es) (zY (nm p.1) es k))::(x,FO c t dx)::rest) (.head fun q hq=> ?_) hz' fun h' F' N2=> x8 ⟨rfl,_,_,F',N2,.inr ⟨dx,_,rfl,lx⟩,?_,F2,rfl,rfl⟩
   . rcases wM.mp hq with rfl |hq
     . exact wt lx
     . exact wt (Nat.lt_trans (lt q hq) lx)
   . intro z;have:=F2.len;rw [z]at this;cases fs0 with
     |nil=> cases this
     |cons a r=> unfold put at this;split at this<;>cases this
theorem Vi(O:AN G f){c t x:Nat}{rest:Led}(g1:findIn G.K (.ref c) "__setattr__"=some (some (.builtin "object.__setattr__")))(g2:HV G.K c=true)(g4:hasDictIn G.K c=true)(lt:∀q∈rest,q.1<x)(L:Ct G.B W l m)(hs:look N.self l=some (.fn x)):
 ∀{fs:List (N×N)} {body:List Stmt} {fs0 r:List (N×AV)} {es:List wQ} {E:Led} {s:vy},Ma f.cs fs body->(∀p∈fs,takerIn G.K c (nm p.1)=some none)->EE l fs=some r->(fs.map (·.1)).Nodup->(∀p∈fs,look p.1 fs0=none)->fs0.length+fs.length<100->
  Fr f.g f.L s.heap m->News f.g f.L s.heap (E++rest)->Mb c t x es E->Au G.B W fs0 es->(fs≠[]∨es≠[])->
  wpAny (mo G) A (execs body f.env) (fun fl s'=> fl= .next/\∃E' es',Fr f.g f.L s'.heap m/\News f.g f.L s'.heap (E'++rest)/\Mb c t x es' E'/\es'≠[]/\Au G.B W (fs0++r) es'/\s'.gens=s.gens/\s'.os=s.os) (fun _ _=> False) s
 | [],body,fs0,r,es,E,s,T,_,hr,_,_,_,F,N',X,R,hne=> by cases(show body=[]from T);cases hr;rw [wY];exact xV ⟨rfl,E,es,F,N',X,hne.resolve_left (· rfl),R,rfl,rfl⟩
 |p::fs,body,fs0,r,es,E,s,T,g3,hr,nd,hl,hz,F,N',X,R,_=> by
  obtain⟨tp,p1,p2,pos,b,rfl,h1,h2,h3,h4,T⟩:=T;refine AR (show((look p.2 l).bind fun v=> (EE l fs).map ((p.1,v)::·))=some r from hr) fun v hv hr=> ?_;obtain⟨r',e1,rfl⟩:=wK.mp hr;rw [wj,xU]at nd;have hz':fs0.length+(fs.length+1)<100:=hz;refine zI (wL (j8 O g1 g2 (g3 p (.head _)) g4 h1 h2 h3 h4 F N' lt L hs hv X R (by exact BV hz')) (fun fl s' q=> ?_) fun _ _ x=> x);obtain⟨rfl,E',es',F',N2,X',ne',R',hg,ho⟩:=q;rw [Pd (hl p (.head _))]at R';have ih:=Vi O g1 g2 g4 lt L hs T (fun q hq=> g3 q (.tail _ hq)) e1 nd.2 (fun q hq=> Pe (hl q (.tail _ hq)) (by show(if p.1=q.1 then some v else none)=none;rw [if_neg];intro z;exact nd.1 (by rw [z];exact xl (f:=fun(p:N×N)=> p.1) hq))) (by rw [v9];show fs0.length+1+fs.length<100;exact BV hz') F' N2 X' R' (.inr ne')
  rw [wF]at ih;exact wL ih (fun fl s'' q=> by obtain⟨rfl,E2,es2,q1,q2,q3,q4,q5,q6,q7⟩:=q;exact⟨rfl,E2,es2,q1,q2,q3,q4,q5,q6.trans hg,q7.trans ho⟩) fun _ _ x=> x
end
end
section
abbrev j9(t:Addr):Data:=.fields #[.ref t,.none,.none,.none,.bool false,.none]
theorem kA{prog:wR}{w:wU}{A:v7}{E:R5->vy->Prop}{s:vy}{env:Env}{K:Frag}{C:Addr}{x:Sem R5}{Q:wx->vy->Prop}(hh:A.handled=none)(hm:mroIn K C (.type "BaseException")=some true)(ht:typeIn K (.ref C)=some (.type "type"))
 (h:wpAny (model prog w) A x (fun v s₁=> ∃e oe t,v= .ref e/\s₁.heap.get? e=some oe/\oe.cls= .ref C/\oe.data=j9 t/\K.In s₁.heap/\E (.ref e) s₁) E s):
 wpAny (model prog w) A (raiseStmt env (some x) none) Q E s:=by
 unfold raiseStmt;refine v5 (wL h (fun v s₁ h₁=> ?_) fun _ _ x=> x);obtain⟨e,oe,t,rfl,he,hc,hd,X,hE⟩:=h₁;have T1:wZ (model prog w) s₁.heap (typeOf (.ref e)) (.ref C):=hc▸(Looks.ld he).andThen .now;have T2:wZ (model prog w) s₁.heap (isInstance (.ref e) (.type "BaseException")) true:=T1.andThen (xi X hm);have T4:wZ (model prog w) s₁.heap (typeOf (.ref C)) (.type "type"):=looks_typeIn X ht;have nc:∀c,oe.data≠ .cls c:=fun c z=> by rw [hd]at z;cases z
 obtain⟨hp,g,d,tk,os⟩:=s₁;refine v5 (v8 ?_);refine v5 (wJ ?_)
 . unfold excFromValue isExcClass;refine v5 (v5 (ks_wpAny_isType_inst he nc ?_));simp only [wz,if_false];refine v8 ?_;simp only [wz,if_false];refine v5 (T2.here ?_);simp only [if_true];refine v8 ?_;refine v5 (ks_wpAny_isType_inst he nc ?_);simp only [wz,if_false];refine v5 ?_;unfold raisedInstance;refine v5 (T1.here (v5 (T4.here ?_)));rw [if_pos (by rfl)];refine v8 ?_;refine v5 ?_;unfold setFlight;refine v5 (wpAny_field he hd (x:=.none) rfl ?_);rw [if_neg (by decide)];refine v8 ?_;exact wpAny_raiseNew_none hh hE
section
variable{G:Gx}{f:Fx}{A:v7}{P:Prog}{X:XP}{W:Wd}{l:List (N×AV)}{hp:Hp}{M:Led}{ow:Addr->Nat}{m:vz->Option R5}{s:vy}
theorem kB{fn:Fn}{ps:List N}{v v':AV}{as:List AV}{b:List (N×AV)}{fs:List (N×N)}{r:List (N×AV)}(hps:fn.ps= .self::ps)(h:EW fn (v::as) []=some b)(hr:EE b fs=some r)(hn:∀p∈fs,p.2≠N.self):
 ∃b',EW fn (v'::as) []=some b'/\EE b' fs=some r/\look N.self b'=some v':=by
 obtain⟨as',h1,h2,h3⟩:=PD h;cases h1;rw [hps]at h3 h2;obtain⟨b0,h4,rfl⟩:=wK.mp (show(DY ps as fn.Ay).map ((N.self,v)::·)=some b from h3);refine⟨(N.self,v')::b0,?_,?_,if_pos rfl⟩
 . show(some (v'::as)).bind _=_;show(if fn.ps.length<=(v'::as).length+fn.Ay.length then DY fn.ps (v'::as) fn.Ay else none)=_;rw [hps,if_pos (show(N.self::ps).length<=(v'::as).length+fn.Ay.length from h2)];show(DY ps as fn.Ay).map _=_;rw [h4];rfl
 . have key:∀u,EE ((N.self,u)::b0) fs=EE b0 fs:=fun u=> by
    clear hr
    induction fs with
    |nil=> rfl
    |cons p q ih=> show((if N.self=p.2 then some u else look p.2 b0).bind fun v=> (EE _ q).map _)=_;rw [if_neg (xZ (hn p (.head _))),ih fun p hp=> hn p (.tail _ hp)];rfl
   rw [key v'];rw [key v]at hr;exact hr
theorem kC(EO:G0 G P)(O:AN G f){d c:Nat}{cl:Cl}(HA:Bc f (d+1) A)(I:Inv G f W l hp M ow m s)(hc:P.cls c=some cl)(he:cl.exc=true){as:List AV}{vs:List R5}{r:List (N×AV)}{self:AV}{R:Result->vy->Prop}(R0:AQ G.B W as vs)(hr:excOf P c self as=some r)(h30:vs.length<=1000)
 (ret:∀t x dx k es s',Fr f.g f.L s'.heap m->News f.g f.L s'.heap ((dx,dictOf es k)::(x,FO c t dx)::(M++W.fz))->(∀q∈M++W.fz,q.1<x)->x<dx->Au G.B W r es->s'.gens=s.gens->s'.os=s.os->R (.ok (.ret (.ref x))) s'):
 codeAny (mo G) A (.call (.ref c) ⟨vs,[]⟩) R s:=by
 refine cps fun P1_ k1_=> ?_;refine AR hr fun cl' hc' hr=> ?_;refine k1_ ?_;cases hc.symm.trans hc';rw [if_pos he]at hr;unfold IP at hr;cases hi:cl.init with
 |run _=> rw [hi]at hr;cases hr
 |BH fi fs=>
  refine cps fun P2_ k2_=> ?_;rw [hi]at hr;dsimp only at hr;obtain⟨q1,q2,fn,ps,q3,q4,q5,q6,q7,q8,q9,qual,scope,body,cdv,cl',S,T⟩:=EO.BH c cl fi fs hc he hi;rw [q3]at hr;refine AR (show((EW fn (self::as) []).bind fun b=> EE b fs)=some r from hr) fun b hb hrf=> ?_;obtain⟨p1,p2,p3,p4⟩:=EO.made c cl hc he;obtain⟨p5,p6,p7⟩:=EO.set c cl hc he;obtain⟨heap,gens,drawn,toks,os⟩:=s;refine k2_ ?_;have XK:G.K.In heap:=I.X O;have lt:∀q∈M++W.fz,q.1<heap.objs.size:=fun q hq=> wk (I.nw q hq).1;let x:=heap.objs.size+1;have F1:=(I.fr.push (Ek vs)).push (CB c heap.objs.size);have N1:News f.g f.L ((heap.push (Ek vs)).push (CB c heap.objs.size)) ((x,CB c heap.objs.size)::(M++W.fz)):=by have N2:=(News.push I.fr I.nw (Ek vs)).push (I.fr.push (Ek vs)) (CB c heap.objs.size);rw [Heap.size_push]at N2;exact News.sub N2 fun p hp=> (wM.mp hp).elim (fun e=> e▸ .head _) fun h=>.tail _ (.tail _ h)
  have XK1:G.K.In ((heap.push (Ek vs)).push (CB c heap.objs.size)):=O.X.keeps F1.keep;refine jw (ju XK p1) (wC h30 (by rw [sizeLine_eq];decide)) (zV XK q1) (fun self=> bind_fn XK self q2) ?_;refine cps fun P3_ k3_=> ?_;have HA':=HA.type c vs [];obtain⟨b',hb',ADg,ACG⟩:=kB (v':=.fn x) q4 hb hrf q8;obtain⟨name,params,dV,kV,doc,pm,ct,oc,an,od,osl,binds,ho,hbd,ABX,hL⟩:=S.binds (s:=⟨(heap.push (Ek vs)).push (CB c heap.objs.size),gens,drawn,toks,os⟩) XK1 (as:=.fn x::as) (vs:=.ref x::vs) ⟨rfl,R0⟩ (ks:=[]) (kv:=[]) trivial hb';refine k3_ ?_;refine Ue O.below F1 N1 O.T.nolimit HA'.fr rfl O.fn ho rfl (codeRec_of XK1 S.code) (zC (wC (xK _ _) (xK _ _)) HA'.dp) hbd ABX ?_ S.cell S.co S.gen S.kind;intro g L' h₁ Fg F2 N2 Bg st _;let f':Fx:=⟨qual,scope,L',fi,cdv,g,f.env::f.outer,A.under (.builtin "type.__call__" ⟨.ref c::vs,[]⟩),cl'⟩;have O':AN G f':=⟨Bg,O.X.keeps st,O.T.keeps st,S.kind⟩;refine PySem.wpAt_of_wpAny (wL (Vi (f:=f') (rest:=M++W.fz) (fs0:=[]) (W:=W) O' p5 p6 p4 (fun q hq=> xI (lt q hq)) hL ACG T q9 ADg q6 (fun _ _=> rfl) (xB _▸q7) F2 N2 (.inl ⟨rfl,rfl⟩) trivial (.inl q5)) (fun fl s' q=> ?_) fun _ _ z=> z.elim);refine cps fun P4_ k4_=> ?_;obtain⟨rfl,E',es',z1,z2,z3,z4,z5,z6,z7⟩:=q;refine k4_ ?_;rcases z3 with⟨rfl,_⟩ |⟨dx,k,rfl,lx⟩
  . exact absurd rfl z4
  . exact⟨L',_,_,z1,z2,fun F3 N3=> ⟨rfl,ret _ x dx k es' s' F3 N3 (fun q hq=> xI (lt q hq)) lx z5 z6 z7⟩⟩
def Mc(G:Gx)(f:Fx)(X:XP):Prop:=∀{W l hp M ow m s} {ea c t dx k:Nat} {fs:List (N×AV)} {es:List wQ},Fr f.g f.L s.heap m->News f.g f.L s.heap ((ea,FO c t dx)::(dx,dictOf es k)::(M++W.fz))->
 (∀q∈(dx,dictOf es k)::(M++W.fz),q.1≠ea)->(∀q∈M,q.1≠dx)->Au G.B W fs es->Cy G.prog G.w G.B W M ow hp->s.gens= #[]->s.os=G.os->X W (.obj c fs) l hp (.ref ea) s
theorem kD(O:AN G f):Mc G f (XA G f):=fun F N' ne nd R H hg ho=> j5 O F N' ne nd R H hg ho
theorem kE(EO:G0 G P)(O:AN G f){d c:Nat}(HA:Bc f (d+1) A)(TR:Mc G f X){y:vz}{np pos ADQ:Pos}{args:List Expr}{eas:St->Out (List AV)}{cl:Cl}(hc:P.cls c=some cl)(he:cl.exc=true)
 (hs:args.all noStar=true) (h30:args.length<=1000) (hf:AP G f A X (eval (.Name y np) f.env) fun s=>.ok (.cls c) s) (ha:CP G f A X (evalEach args f.env) eas) (hlen:∀s vs s',eas s= .ok vs s'->vs.length<=1000):
 Av G f A X (exec (.Raise (some (.Call (.Name y np) args [] pos)) none ADQ) f.env) fun s=> (eas s).bind fun vs s=> AO (excOf P c (.ref s.hp.n) vs) fun r=>.exc (.obj c r) s:=fun W l hp M ow m s Z eR I ne=> by
 obtain⟨p1,p2,p3,p4⟩:=EO.made c cl hc he;obtain⟨p5,p6,p7⟩:=EO.set c cl hc he;rw [arm_exec_Raise];refine v5 (wa ?_);show wpAny (mo G) A (raiseStmt f.env (some (do let v<-eval (.Call (.Name y np) args [] pos) f.env;standAt ADQ;pure v)) none) _ _ _;refine kA (K:=G.K) (C:=c) HA.hd p7 p3 (v5 (xo (VQ (r:=.ok (.cls c) ⟨l,hp⟩) (k:=fun _ s=> (eas s).bind fun vs s=> AO (excOf P c (.ref s.hp.n) vs) fun r=> (.exc (.obj c r) s:Out Flow)) eR W.le_rfl (fun q=> hf W l hp M ow m _ _ rfl (I.tok _) q) ne fun a σ V L ow m u s' e0 eR h1 h2 I hu=> ?_)));cases e0;cases(hu:u= .ref c);rw [DJ _ _ _ hs];refine yV (P:=KS G (.ref c)) (by rw [plain_any];rfl) (fun h p=> p) (EM (Ol eR h1 (fun q=> ha V _ _ L ow m s' _ rfl I q) ne fun as σ' V' L ow m vs s' e1 eR h1 h2' I hv=> ⟨keeps_K p2 _ (I.X O),?_⟩));obtain⟨r,hr,eR⟩:=Az eR ne;refine xv (kC EO O HA I hc he hv hr (hv.length▸hlen _ _ _ e1) fun t x dx k es s'' F N' lt lx R hg ho=> ?_);refine v5 (wa (v8 ?_));refine⟨x,_,t,rfl,(N' _ (.tail _ (.head _))).1,rfl,rfl,O.X.keeps F.keep,_,_,V',eR.symm,h1,?_⟩;refine TR (M:=L) (ow:=ow) (m:=m) (t:=t) (k:=k) F (News.sub N' fun p hp=> ?_) (fun q hq=> ?_) (fun q hq=> wt (Nat.lt_trans (lt q (wO _ hq)) lx)) R I.hi (hg.trans I.gn) (ho.trans I.os)
 . rcases wM.mp hp with rfl |hp
   . exact .tail _ (.head _)
   . rcases wM.mp hp with rfl |hp
     . exact .head _
     . exact .tail _ (.tail _ hp)
 . rcases wM.mp hq with rfl |hq
   . exact xN lx
   . exact wt (lt q hq)
end
end
section
inductive Vj(G:Gx)(f:Fx)(W:Wd)(x:AV)(l:List (N×AV))(hp:Hp)(e:R5)(s:vy):Prop
 |mk (ea:_) (c:_) (t:_) (dx:_) (k:_) (fs:_) (es:_) (M:_) (ow:_) (m:_) (g:_) (h0_:e= .ref ea) (h1_:x= .obj c fs) (h2_:(∃B,G.B.StaysIn B/\(∀q∈(dx,dictOf es k)::(M++W.fz),B.get? q.1=some q.2/\G.B.get? q.1=none)/\Heap.HeldW B (f.env::f.outer) ea (.ref c) (.ref t) f.L s.heap)) (h3_:Fr f.g f.L g m) (h4_:g.UpToSlots s.heap) (h5_:(∃oe,s.heap.get? ea=some oe/\oe.dict=some dx/\f2 oe.data=some .none)) (h6_:Au G.B W fs es) (h7_:Cy G.prog G.w G.B W M ow hp) (h8_:(∀q∈M,q.1≠dx)) (h9_:Ct G.B W l m) (h10_:s.gens= #[]) (h11_:s.os=G.os)
def XL(G:Gx)(f:Fx):XP:=fun W x l hp e s=> wpAny (mo G) f.A0 (noteFrame e f.env) (fun _ s'=> Vj G f W x l hp e s') (fun _ _=> False) s
section
variable{G:Gx}{f:Fx}{W:Wd}{l:List (N×AV)}{hp:Hp}{M:Led}{ow:Addr->Nat}{m:vz->Option R5}{s:vy}
theorem kF(O:AN G f){g:Heap}(F:Fr f.g f.L g m)(Lr:Ct G.B W l m){x:AV}{e:R5}(R:Arr G (f.env::f.outer) g W x hp e s):XL G f W x l hp e s:=by refine cps fun P1_ k1_=> ?_;obtain⟨ea,c,t,dx,k,fs,es,M,ow,rfl,rfl,⟨B,b1,b2,b3⟩,up,⟨oe,he1,he2,he3⟩,fr,H,nd,hg,hos⟩:=R;refine k1_ ?_;refine wL (KD.any (KD.noteFrame _ _) (wpAny_looks_onW (Q:=fun _ s'=> Heap.HeldW B (f.env::f.outer) ea (.ref c) (.ref t) f.L s'.heap/\s.heap.UpToSlots s'.heap/\s'.gens=s.gens/\s'.os=s.os) (yz O.below.stack) (env:=f.env) (L:=f.L) rfl b3 fun h' x1 x2=> ⟨x1,x2,rfl,rfl⟩)) (fun _ s' h=> ?_) fun _ _ x=> x;refine cps fun P2_ k2_=> ?_;obtain⟨⟨x1,x2,hg',ACJ⟩,D⟩:=h;obtain⟨oe',AC4,ACL⟩:=D _ _ he1;refine k2_ ?_;exact⟨ea,c,t,dx,k,fs,es,M,ow,m,g,rfl,rfl,⟨B,b1,b2,x1⟩,F,up.trans x2,⟨oe',AC4,ACL.1.trans he2,ACL.2.trans he3⟩,fr,H,nd,Lr,hg'.trans hg,ACJ.trans hos⟩
theorem kG:Gy G f f.A0 (XL G f):=fun W r e s h=> by obtain⟨x,σ,W',h1,h2,h3⟩:=h;exact Vh (PassesOwn.looking (K:=fun e s'=> Vj G f W' x σ.loc σ.hp e s') e s h3) fun e s q=> ⟨x,σ,W',h1,h2,q⟩
theorem kH{M:wq}{A:v7}{K:Frag}{e c C:Nat}{oe:Obj}{Q:Bool->vy->Prop}{E:R5->vy->Prop}(X:K.In s.heap)(he:s.heap.get? e=some oe)(hc:oe.cls= .ref c)(h1:(clsIn K C).isSome=true)(h2:typeIn K (.ref C)=some (.type "type"))
 (h3:mroIn K C (.type "BaseException")=some true) (h4:mroIn K c (.ref C)=some true) (h:Q true s):wpAny M A (excMatches (.ref e) (.ref C)) Q E s:=by
 have L1:wZ M s.heap (typeOf (.ref e)) (.ref c):=hc▸(Looks.ld he).andThen .now;have L2:=looks_typeIn (M:=M) X h2;have L3:=xi (M:=M) X h3;have L4:=xi (M:=M) X h4;have L5:wZ M s.heap (isSubtype (.type "type") (.type "tuple")) false:=Looks.of_pure tc_notTuple;obtain⟨cd,hcd⟩:=yc.mp h1;have L7:wZ M s.heap (isType (.ref C)) true:=by
  unfold clsIn at hcd;cases ho:K.lookup C with
  |none=> rw [ho]at hcd;cases hcd
  |some o=>
   obtain⟨oc,od,dat,sl⟩:=o;rw [ho]at hcd;cases dat with
   |cls cd=> exact(Looks.ld (X _ _ ho)).andThen .now
   |_=> cases hcd
 obtain⟨hp,g,d,t,os⟩:=s;unfold excMatches isExcClass isInstance
 repeat(first |simp only [zT,wz,if_false,if_true,yO,List.forIn_nil] |lk)
 exact h
def XN:XP:=fun _ _ _ _ _ _=> False
theorem Pl{n y:N}{a:AV}:∀{l:List (N×AV)},look y (DZ n l)=some a->y≠n/\look y l=some a
 |(z,w)::r,h=> by
  rw [Zt]at h;by_cases q:z=n
  . rw [if_pos q]at h;obtain⟨h1,h2⟩:=Pl h;refine⟨h1,?_⟩;show(if z=y then some w else look y r)=some a;rw [if_neg (fun e=> h1 (e.symm.trans q)),h2]
  . rw [if_neg q]at h;by_cases e:z=y
    . have h:(if z=y then some w else look y (DZ n r))=some a:=h;rw [if_pos e]at h;refine⟨fun z'=> q (e.trans z'),?_⟩;show(if z=y then some w else look y r)=some a;rw [if_pos e];exact h
    . have h:(if z=y then some w else look y (DZ n r))=some a:=h;rw [if_neg e]at h;obtain⟨h1,h2⟩:=Pl h;refine⟨h1,?_⟩;show(if z=y then some w else look y r)=some a;rw [if_neg e,h2]
theorem kI{P:Prog}{X:XP}(EO:G0 G P)(O:AN G f)(hgB:f.g=G.B){C:Nat}{clC:Cl}(hC:P.cls C=some clC)(hCe:clC.exc=true)(hCc:(clsIn G.K C).isSome=true){b ADR:List Stmt}{b₀:Stmt}{rest:List ym}{y:vz}{n:N}{np ADh pos:Pos}{eb eh:St->Out Flow}
 (hB:Av G f f.A0 (XL G f) (execs b f.env) eb) (hy:nsIn G.K mainGlobals y=some (some (.ref C))) (hyg:f.cs.names.lookup y=some .globalImplicit) (hyd:(y==("__debug__":vz))=false) (hn:f.cs.names.lookup (nm n)=some .local)
 (hH:∀(ea:Nat) (oe:Obj) (ws:Array R5),oe.data= .fields ws->ws[2]? =some .none->∀W l hp M ow m s Z,(ea,oe)∈W.fz->eh ⟨l,hp⟩=Z->Inv G f W l hp M ow m s->Z≠ .bad->He G f (f.A0.mark (some (.ref ea))) XN W (execs (b₀::ADR) f.env) Z s):
 Av G f f.A0 X (exec (.Try b (.ExceptHandler (some (.Name y np)) (some (nm n)) (b₀::ADR) ADh::rest) [] [] pos) f.env) fun s=> match eb s with
  | .ok f s=>.ok f s
  | .exc e s=> if Gd P e C=true then(eh ⟨put n e s.loc,s.hp⟩).bind fun f s=>.ok f ⟨DZ n s.loc,s.hp⟩else .bad
  | .bad=>.bad:=fun W l hp M ow m s Z eR I ne=> by
 dsimp only at eR;cases hr:eb ⟨l,hp⟩with
 |bad=> rw [hr]at eR;exact absurd eR.symm ne
 |ok a σ=>
  rw [hr]at eR;dsimp only at eR;refine z9 (wL (hB W l hp M ow m s _ hr I nofun) (fun v s' q=> ?_) fun e s' q=> ?_)
  . refine cps fun P1_ k1_=> ?_;obtain⟨a',σ',V,L,ow',m',h1,h2,h3,h4⟩:=q;refine k1_ ?_;cases(h1);cases(a)<;>cases(v)<;>first |exact h4.elim |skip
    . exact xV (h3.F eR h2 trivial)
    . exact h3.F eR h2 trivial
    . exact h3.F eR h2 trivial
    . exact h3.F eR h2 h4
  . refine cps fun P2_ k2_=> ?_;obtain⟨_,_,_,z,_⟩:=q;refine k2_ ?_;cases(z)
 |exc x σ=>
  rw [hr]at eR;dsimp only at eR;refine z9 (wL (hB W l hp M ow m s _ hr I nofun) (fun v s' q=> ?_) fun e s' q=> ?_)
  . refine cps fun P3_ k3_=> ?_;obtain⟨_,_,_,_,_,_,z,_⟩:=q;refine k3_ ?_;cases(z)
  . refine cps fun P4_ k4_=> ?_;obtain⟨x',σ',V,z,le,q⟩:=q;refine k4_ ?_;cases(z);by_cases hx:Gd P x C=true
    . rw [if_pos hx]at eR;refine wL q (fun _ s2 q2=> ?_) fun _ _ z=> z.elim;refine cps fun P5_ k5_=> ?_;obtain⟨ea,c,t,dx,k,fs,es,M2,ow2,m2,g,rfl,rfl,⟨B,b1,b2,b3⟩,F,up,hd,fr,H,nd,Lr,hg,hos⟩:=q2;obtain⟨cl,hc,hcx⟩:=any_some (show(P.cls c).any (fun cl=> cl.exc&&cl.mro.contains C)=true from hx);have hcx:=wD.mp hcx;have hup:=EO.up c cl C hc hcx.1 hcx.2;obtain⟨p1,p2,p3,p4⟩:=EO.made C clC hC hCe;obtain⟨p5,p6,p7⟩:=EO.set C clC hC hCe;refine k5_ ?_;refine wL (KD.any (KD.setFlight _ _) (wpAny_landsW (Q:=fun _ s'=> zZ B (f.env::f.outer) ea (.ref c) (.ref t) s'.heap/\s2.heap.UpToSlots s'.heap/\s'.gens=s2.gens/\s'.os=s2.os) b3 fun h' x1 x2=> ⟨x1,x2,rfl,rfl⟩)) (fun _ s3 q3=> ?_) fun _ _ z=> z;refine cps fun P6_ k6_=> ?_;obtain⟨⟨x1,x2,hg3,ADi⟩,D3⟩:=q3;obtain⟨oe,CZ,hd2,hd6⟩:=hd;obtain⟨oe3,hd3,hd4⟩:=D3 _ _ CZ;have hLB:B.get? f.L=none:=by
       obtain⟨_,⟨L',_,hf,hn',_⟩,_⟩:=x1.2.2.1;obtain rfl:f.L=L':=wb hf;exact hn'
      have x1':=flyingW_base b1 x1;have F3:Fr f.g f.L s3.heap m2:=F.of_stays (hgB▸x1'.1) (up.trans x2);obtain⟨oe3',hoe,C1⟩:=x1.there;refine k6_ ?_;cases hd3.symm.trans hoe;refine wpAny_handleBy_cons (codeAny_handlers_test ?_) (by intro q;cases(q));refine PySem.W.nameX_K F3 O.X (topRead_of O.T) hy ?_ O.fn hyg hyd;refine kH (O.X.keeps F3.keep) hoe C1 hCc p3 p7 hup ?_;refine codeAny_handlers_suite_as ?_;refine wL (KD.any (KD.setFlight _ _) (lands_againW (Q:=fun _ s'=> zZ B (f.env::f.outer) ea (.ref c) (.ref t) s'.heap/\s3.heap.UpToSlots s'.heap/\s'.gens=s3.gens/\s'.os=s3.os) x1 fun h' x1 x2=> ⟨x1,x2,rfl,rfl⟩)) (fun _ s4 q4=> ?_) fun _ _ z=> z;refine cps fun P7_ k7_=> ?_;obtain⟨⟨y1,y2,hg4,ADj⟩,D4⟩:=q4;obtain⟨oe4,he4,hd5⟩:=D4 _ _ hoe;have y1':=flyingW_base b1 y1;have F4:Fr f.g f.L s4.heap m2:=F3.of_stays (hgB▸y1'.1) y2;obtain⟨oe4',ws,hf1,hf2,hf3,_⟩:=y1'.first
      refine k7_ ?_;cases he4.symm.trans hf1;have ndx:dx≠ea:=fun z=> by have:=(b2 (dx,dictOf es k) (.head _)).1;dsimp only at this;rw [z,y1.2.1]at this;cases(this)
      have nea:∀q∈M2++V.fz,q.1≠ea:=fun q hq z=> by have:=(b2 q (.tail _ hq)).1;rw [z,y1.2.1]at this;cases(this)
      let Ice:Led:=[(ea,oe4),(dx,dictOf es k)];have N4:News f.g f.L s4.heap (M2++(V.Bw Ice).fz):=fun q hq=> by
       have old:∀q∈(dx,dictOf es k)::(M2++V.fz),s4.heap.get? q.1=some q.2/\q.1≠f.L/\f.g.get? q.1=none:=fun q hq=>
        ⟨y1.1 _ _ (b2 q hq).1,fun z=> (by have:=(b2 q hq).1;rw [z,hLB]at this;cases(this)),hgB▸(b2 q hq).2⟩
       rcases wV.mp hq with h |h
       . exact old q (.tail _ (wO _ h))
       . rcases wV.mp h with h |h
         . rcases wM.mp h with rfl |h
           . refine⟨he4,fun z=> ?_,hgB▸y1'.2.1⟩;refine cps fun P8_ k8_=> ?_;obtain⟨o,es9,ep9,ho,hod,_⟩:=F4.ns;refine k8_ ?_;rw [<-show ea=f.L from z,he4]at ho;cases(ho);rw [hf3]at hod;cases(hod)
           . rcases wM.mp h with rfl |h
             . exact old _ (.head _)
             . cases(h)
         . exact old q (.tail _ (wH _ h))
      have I4:Inv G f (V.Bw Ice) σ.loc σ.hp M2 ow2 m2 s4:=⟨F4,N4,H.Bw (fun q hq p hp=> by
       rcases wM.mp hq with rfl |hq
       . exact xZ (nea p (wO _ hp))
       . rcases wM.mp hq with rfl |hq
         . exact xZ (nd p hp)
         . cases(hq)),Lr.mono (V.CN _),(hg4.trans (hg3.trans hg)),(ADj.trans (ADi.trans hos))⟩
      have v4:AG G.B (V.Bw Ice) (.obj c fs) (.ref ea):=⟨ea,oe4,dx,es,k,rfl,.inl (wO _ (.head _)),hf2,hd5.1.trans (hd4.1.trans hd2),by refine cps fun P9_ k9_=> ?_;obtain⟨c',d',dt',sl'⟩:=oe4;refine k9_ ?_;cases(hf3);rfl,.inl (wO _ (.tail _ (.head _))),fr.mono (V.CN _)⟩
      refine FL O.fn hn I4 v4 fun m5 s5 I5=> ?_;have hw2:ws[2]? =some .none:=by have:=hd5.2.trans (hd4.2.trans hd6);rw [hf3]at this;exact this
      refine wL (hH ea oe4 ws hf3 hw2 _ _ _ _ _ _ _ _ (wO _ (.head _)) rfl I5 (Bm (eR▸ne))) (fun fl s6 q6=> ?_) fun _ _ q=> ?_
      . refine cps fun P10_ ADk=> ?_;obtain⟨a,σ6,V6,M6,ow6,m6,z1,z2,z3,z4⟩:=q6;refine ADk ?_;refine wpAny_nameGoes_keeps (env:=f.env) hn z3.fr.ns (by show(f.cs.kind==.class||(f.cs.kind==.module&&f.L !=mainGlobals))=false;rw [O.fn];rfl) fun h' v hns hs=> ?_;have Z:Inv G f V6 (DZ n σ6.loc) σ6.hp M6 ow6 (fun x=> if x=nm n then v else m6 x) {s6 with heap:=h',toks:=s6.toks+1}:=⟨z3.fr.set hns hs,z3.nw.set hs,z3.hi,fun y a e=> by
         refine cps fun P11_ ADl=> ?_;obtain⟨e1,e2⟩:=Pl e;obtain⟨u,w1,w2⟩:=z3.lr y a e2;refine ADl ?_;exact⟨u,(if_neg fun q=> e1 (IT q)).trans w1,w2⟩,z3.gn,z3.os⟩
        exact⟨a,_,V6,M6,ow6,_,eR.symm.trans (Bp z1),le.trans ((V.CN _).trans z2),Z,z4⟩
      . refine cps fun P12_ ADm=> ?_;obtain⟨_,_,_,_,_,z⟩:=q;refine ADm ?_;exact z.elim
    . rw [if_neg hx]at eR;exact absurd eR.symm ne
end
end
section
theorem kJ:entryFor table "proto.unchain"=some Builtin.«proto.unchain»:=entryFor_of_tree (by kernel_rfl)
section
variable{prog:wR}{w:wU}{A:v7}{E:R5->vy->Prop}{s:vy}{ea:Addr}{oe:Obj}{ws:Array R5}
theorem kK{α:Type}{a:Addr}{oa:Obj}{vs:Array R5}{Q:α->vy->Prop}(hh:A.handled=some (.ref ea))(he:s.heap.get? ea=some oe)(hd:oe.data= .fields ws)(h2:ws[2]? =some .none)(ne:ea≠a)
 (ha:s.heap.get? a=some oa) (hda:oa.data= .fields vs) (hz:2<vs.size) (h:E (.ref a) {s with heap:=s.heap.update a (yo (·.setIfInBounds 2 (.ref ea)))}):wpAny (model prog w) A (raiseNew (.ref a):Sem α) Q E s:=by
 unfold raiseNew;refine v5 (wpAny_handled ?_);rw [hh];dsimp only;rw [if_pos (show(xw ea !=xw a)=true from by simpa using ne)];refine v5 (wJ (wpAny_runValue (codeAny_builtin kJ ?_)));show wpAny _ _ (field (.ref ea) 2 >>=_) _ _ s;refine v5 (wpAny_field he hd h2 ?_);rw [if_pos (show(yC==yC)=true from rfl)];refine v5 (v8 (v8 ?_));show wpAny _ _ (updateField a 2 (.ref ea) >>=_) _ _ _;unfold updateField;refine v5 (v5 (wpAny_load ha ?_));rw [hda];dsimp only;rw [if_pos hz];exact wpAny_update ha (wpAny_throw h)
theorem kL{it t:Addr}{i:Nat}{items:Array R5}{Q:Option R5->vy->Prop}(hh:A.handled=some (.ref ea))(he:s.heap.get? ea=some oe)(hd:oe.data= .fields ws)(h2:ws[2]? =some .none)(ne:ea≠it)
 (hit:IsTupIter s.heap it t i) (ht:IsTup s.heap t items) (hx:items[i]? =none) (hQ:∀h',Heap.ExtBut it s.heap h'->Q none {s with heap:=h'}):wpAny (model prog w) A (pyNext (.ref it)) Q E s:=by
 refine cps fun P1_ k1_=> ?_;obtain⟨o,ho,hc,hdd⟩:=id hit;obtain⟨ol,JY,_,nl,hdl⟩:=ht;refine k1_ ?_;unfold pyNext;refine v5 (wpAny_attempt (AAT (name:=PySem.Str.ofString "__next__") hit.typeIs slot_tupleiter_next (wpAny_call_entry slot_tupleiter_next hit.typeIs entry_tupleiter_next ?_ (args_tupleiter_next _))));show wpAny _ _ (field (.ref it) 0 >>=_) _ _ s;refine v5 (wpAny_field ho hdd (x:=.ref t) rfl ?_);show wpAny _ _ (if(xw t==yC)=true then _ else _) _ _ s;rw [if_neg (show¬((xw t==yC)=true)from xm)];show wpAny _ _ (field (.ref it) 1 >>=_) _ _ s;refine v5 (wpAny_field ho hdd (x:=.int i 0) rfl ?_);show wpAny _ _ (seqItems? (.ref t) >>=_) _ _ s;refine v5 (wpAny_seqItems JY hdl ?_);simp only [yi,hx];refine v5 (wpAny_rule (v5 (wpAny_setField ho hdd (by simp) ?_)));show wpAny _ _ (newExc (.type "StopIteration") [] >>=_) _ _ _;refine v5 ?_;simp only [newExc,newTuple];refine v5 (wpAny_newObj_type ?_ (by size_fits));refine v5 (m:=firstArgMember _ _) (wpAny_of_eq (a:=yC) (by first |rfl |(simp only [firstArgMember];rfl)) ?_);refine wpAny_newObj_type ?_ (by size_fits);have el:=wk he;have keep:∀(o2 o3:Obj) b o,b≠it->s.heap.get? b=some o->(((s.heap.update it (yo fun x=> x.setIfInBounds 0 yC)).push o2).push o3).get? b=some o:=fun o2 o3 b o hb e=>
  xb _ (xb _ ((zi _ _ (xZ hb)).trans e))
 have sz:∀o2:Obj,((s.heap.update it (yo fun x=> x.setIfInBounds 0 yC)).push o2).objs.size=s.heap.objs.size+1:=fun o2=> by rw [Heap.size_push,Heap.size_update]
 refine kK (A:=A.in1) hh (keep _ _ _ _ ne he) hd h2 (by dsimp only;rw [sz];exact wt (xI el)) (zB _ rfl) rfl (by simp;exact K5) ?_;refine v5 (z8 (T:="StopIteration") (b:=true) ⟨_,zl _ (zB _ rfl) rfl,rfl⟩ isSubtype_stop ?_);refine v8 (hQ _ fun b o hb e=> ?_);have bl:=wk e;exact(zi _ _ (by dsimp only;rw [sz];exact xN (xI bl))).trans (keep _ _ _ _ hb e)
theorem kM{n:Nat}{t:Addr}{items:Array R5}{Q:List R5->vy->Prop}(hh:A.handled=some (.ref ea))(he:s.heap.get? ea=some oe)(hd:oe.data= .fields ws)(h2:ws[2]? =some .none)(ht:IsTup s.heap t items)(hn:n=items.size)
 (hQ:∀h',Heap.ExtBut s.heap.objs.size s.heap h'->Q items.toList {s with heap:=h'}):wpAny (model prog w) A (unpackItems (.ref t) n none) Q E s:=by
 subst hn;have hlt:t≠s.heap.objs.size:=by obtain⟨o,ho,_⟩:=ht;exact wt (wk ho)
 have hle:ea≠s.heap.objs.size:=wt (wk he);unfold unpackItems notIterableAtAll;refine v5 (v5 (wpAny_specialOf ht.typeIs slot_tuple_iter.lookup (v8 ?_)));simp only [wz,if_false];refine v5 (wJ (iter_tuple ht ?_));refine v5 (wJ (draw_tuple hlt items.size 0 _ _ ⟨_,zB _ rfl,rfl,rfl⟩ (ht.push _) (w5 (xB _)) fun h₁ ADn hs₁=> ?_));rw [zQ,yH (by simp)];rw [if_neg (by simp)];have he₁:h₁.get? ea=some oe:=hs₁.extBut _ _ hle (xb _ he);refine v5 (wJ (kL hh he₁ hd h2 hle ADn ((ht.push _).extBut hs₁.extBut hlt) (by simp) fun h₂ he₂=> ?_));simp only [Option.isSome_none,wz,if_false];exact v8 (hQ h₂ fun b o hb e=> he₂ b o hb (hs₁.extBut b o hb (xb _ e)))
end
end
section
theorem Ht:∀{a b:List Nat},Cd a b=true->a=b
 | [],b,h=> (xR.mp h).symm
 |a::r,[],h=> nomatch h
 |a::r,c::t,h=> by have h:=wD.mp h;rw [wy h.1,Ht h.2]
theorem Md:∀a:List Nat,Cd a a=true
 | []=> rfl
 |a::r=> wD.mpr ⟨Nat.beq_refl a,Md r⟩
theorem str_of_list{x:vz}{l:List Nat}(h:x.cps.toList=l):x=⟨l.toArray⟩:=h▸rfl
theorem Vk{x:vz}{n:N}(h:isNm x n=true):x=nm n:=str_of_list (Ht h)
theorem Me{x:vz}:∀l:List (vz×yE),IW l x.cps.toList=l.lookup x
 | []=> rfl
 |(y,k)::r=> by
  rw [wm,<-Me r];show(match Cd y.cps.toList x.cps.toList with |true=> some k |false=> IW r x.cps.toList)=_;cases h:Cd y.cps.toList x.cps.toList with
  |true=> rw [str_of_list (Ht h),show(x==(⟨x.cps.toList.toArray⟩:vz))=true from beq_self_eq_true x]
  |false=> rw [show(x==y)=false from beq_eq_false_iff_ne.mpr fun e=> by rw [e,Md]at h;cases h]
theorem Vl{x:vz}(h:Cd x.cps.toList LR=false):(x==("__debug__":vz))=false:=
 beq_eq_false_iff_ne.mpr fun e=> by rw [e,show Cd (("__debug__":vz)).cps.toList LR=true by decide+kernel]at h;cases h
theorem Vm{l:List Nat}(h:N6 l=true):A3 l:=
 have h:=wD.mp h
 ⟨wA h.1,fun c hc=> wA (wi.mp h.2 c hc)⟩
theorem KU{α:Type}{b:Bool}{o:Option α}{a:α}(h:Gh b o=some a):b=true/\o=some a:=by
 cases b
 . cases h
 . exact⟨rfl,h⟩
theorem GC{α:Type}{a:α}{q:Prop}(h:(none:Option α)=some a):q:=nomatch h
variable{G:Gx}{f:Fx}{A:v7}{X:XP}{P:Prog}{cf:Nat->List AV->List (N×AV)->Hp->COut}{gl:vz->Option (Option R5)}{OT:Nat->Bool}
structure Bh(G:Gx)(f:Fx)(A:v7)(X:XP)(P:Prog)(cf:Nat->List AV->List (N×AV)->Hp->COut)(gl:vz->Option (Option R5)):Prop where
 O:AN G f
 CE:Gz G f A X P cf
 IS:Pb G P
 DN:∀y r,gl y=some r->nsIn G.K mainGlobals y=some r
theorem Bh.HA(H:Bh G f A X P cf gl):∃d,Bc f d A:=let⟨d,h,_⟩:=H.CE.ex;⟨_,h⟩
theorem Vn{k:Option yE}(h:N7 k=true):k=some .local:=by
 cases k with
 |none=> cases h
 |some k=> cases k<;>first |rfl |cases h
theorem kN{k:Option yE}(h:SG k=true):k=some .globalImplicit:=by
 cases k with
 |none=> cases h
 |some k=> cases k<;>first |rfl |cases h
theorem kO{k:Option (Option R5)}(h:SH k=true):k=some none:=by
 cases k with
 |none=> cases h
 |some k=> cases k<;>first |rfl |cases h
theorem Pm{k:Option (Option R5)}{a:Nat}(h:N9 k a=true):k=some (some (.ref a)):=by
 cases k with
 |none=> exact cFT h
 |some k=> cases k with
  |none=> exact cFT h
  |some v=> cases v with
   |ref b=> rw [wy h]
   |_=> exact cFT h
theorem GD{b:Bool}(h:(!b)=true):b=false:=by cases b;rfl;exact cFT h
theorem C2{x:N}(h:DE f.cs x=true):f.cs.names.lookup (nm x)=some .local:=Me f.cs.names▸Vn (wD.mp h).1
theorem GF{x:N}(h:DE f.cs x=true):(nm x==("__debug__":vz))=false:=Vl (GD (wD.mp h).2)
theorem Pn{y:vz}(h:LS f.cs y.cps.toList=true):f.cs.names.lookup y=some .globalImplicit:=Me f.cs.names▸kN (wD.mp h).1
theorem Po{y:vz}(h:LS f.cs y.cps.toList=true):(y==("__debug__":vz))=false:=Vl (GD (wD.mp h).2)
theorem JB(H:Bh G f A X P cf gl){y:vz}{b:Nat}{pos:Pos}{a:AV}(hv:∀W,AG G.B W a (.ref b))(h:FD f.cs gl y b=true):AP G f A X (eval (.Name y pos) f.env) fun s=>.ok a s:=
 AS h fun h1 h2=> dP H.O (H.DN _ _ (Pm h2)) hv (Pn h1) (Po h1)
theorem G1(H:Bh G f A X P cf gl){l:List Nat}{v:R5}(h:Fw f.cs gl l=true)(hv:bootBuiltins ⟨l.toArray⟩=some v)(hn:Cd l (("__name__":vz)).cps.toList=false):Built G f ⟨l.toArray⟩ v:=
 AS h fun h1 h2=> ⟨H.DN _ _ (kO h2),hv,fun z=> by
  have e:l=(("__name__":vz)).cps.toList:=by rw [<-z]
  rw [e,Md]at hn;exact cTF hn,Po (y:=⟨l.toArray⟩) h1,Pn (y:=⟨l.toArray⟩) h1⟩
theorem boot_len:bootBuiltins ⟨OA.toArray⟩=some (.builtin "len"):=by decide+kernel
theorem boot_int:bootBuiltins ⟨OB.toArray⟩=some (.type "int"):=by decide+kernel
theorem boot_list:bootBuiltins ⟨OC.toArray⟩=some (.type "list"):=by decide+kernel
theorem boot_str:bootBuiltins ⟨OD.toArray⟩=some (.type "str"):=by decide+kernel
theorem Vo:bootBuiltins ⟨Jm.toArray⟩=some (.builtin "isinstance"):=by decide+kernel
theorem boot_range:bootBuiltins ⟨OE.toArray⟩=some (.type "range"):=by decide+kernel
theorem kP:bootBuiltins ⟨OF.toArray⟩=some (.type "enumerate"):=by decide+kernel
theorem Vp{t:Sem R5}:AP G f A X t (Ad P cf .BZ):=fun W l hp M ow m s Z eR I ne=> absurd eR.symm ne
def KV(G:Gx)(f:Fx)(A:v7)(X:XP)(P:Prog)(cf:Nat->List AV->List (N×AV)->Hp->COut)(e:Expr)(c:CE):Prop:=
 AP G f A X (eval e f.env) (Ad P cf c)/\Bl G f A X (isTrue e f.env (eval e f.env)) (An P cf c)
theorem Vq{t:Sem Bool}{c:CE}(h:∀s,An P cf c s= .bad):Bl G f A X t (An P cf c):=fun W l hp M ow m s Z eR I ne=> absurd (eR.symm.trans (h _)) ne
theorem G2(O:AN G f){e:Expr}{c:CE}(hs:∀s,An P cf c s=A5 (Ad P cf c s))(hv:isTrue e f.env (eval e f.env)=(do let v<-eval e f.env;standAt e.pos;holding [v] (yA v)))(h:AP G f A X (eval e f.env) (Ad P cf c)):KV G f A X P cf e c:=
 ⟨h,fun W l hp M ow m s Z eR I ne=> dg O h hv W l hp M ow m s Z ((hs _).symm.trans eR) I ne⟩
theorem FP{e:Expr}{c:CE}(hb:∀s,An P cf c s= .bad)(h:AP G f A X (eval e f.env) (Ad P cf c)):KV G f A X P cf e c:=⟨h,Vq hb⟩
theorem Mf{n:Nat}(h:wX n 1000=true):n<=lim:=wC (wA h) (by decide)
theorem JC:∀{cs:List CE} {s s':St} {vs:List AV},Be P cf cs s= .ok vs s'->vs.length=cs.length
 | [],s,s',vs,e=> by cases e;rfl
 |c::cs,s,s',vs,e=> by
  replace e:((Ad P cf c s).bind fun v s=> (Be P cf cs s).bind fun vs s=> Out.ok (v::vs) s)= .ok vs s':=e;cases h1:Ad P cf c s with
  |bad=> rw [h1]at e;cases e
  |exc _ _=> rw [h1]at e;cases e
  |ok v σ=>
   rw [h1]at e;replace e:((Be P cf cs σ).bind fun vs s=> Out.ok (v::vs) s)= .ok vs s':=e;cases h2:Be P cf cs σ with
   |bad=> rw [h2]at e;cases e
   |exc _ _=> rw [h2]at e;cases e
   |ok us σ'=> rw [h2]at e;cases e;exact congrArg (· +1) (JC h2)
end
section
variable{G:Gx}{f:Fx}{A:v7}{X:XP}{P:Prog}{cf:Nat->List AV->List (N×AV)->Hp->COut}{gl:vz->Option (Option R5)}
theorem Mg{v:AV}{t:PT}(h:Gi v=true):AP G f A X (eval (Jn v t) f.env) fun s=>.ok v s:=by
 cases v with
 |none=> exact dK
 |bool b=> exact dM
 |int i=> exact dN
 |str s=> exact dO rfl (Vm h)
 |_=> exact cFT h
theorem kQ(H:Bh G f A X P cf gl){v:AV}{t:PT}(h:OI f.cs gl v t=true):AP G f A X (eval (Jn v t) f.env) fun s=>.ok v s:=by
 cases v with
 |cls b=> exact JB H (fun W=> rfl) h
 |fn b=> exact JB H (fun W=> rfl) h
 |_=> exact Mg h
theorem kR(H:Bh G f A X P cf gl){v:AV}{t:PT}(h:OI f.cs gl v t=true):KV G f A X P cf (Jn v t) (.cst v):=
 G2 H.O (fun _=> rfl) (by cases v<;>rfl) (kQ H h)
theorem Vr(H:Bh G f A X P cf gl){g:CE}{t:PT}(h:OJ f.cs gl g t=true):AP G f A X (eval (.Name (OG g t) t.p) f.env) (Ad P cf g):=by
 cases g with
 |var x=> exact Im H.O.fn (C2 h) (GF h)
 |cst v=> cases v with
  |fn b=> exact JB H (fun W=> rfl) h
  |cls b=> exact JB H (fun W=> rfl) h
  |_=> exact cFT h
 |BZ=> exact Vp
 |_=> exact cFT h
inductive BL(G:Gx)(f:Fx)(A:v7)(X:XP)(P:Prog)(cf:Nat->List AV->List (N×AV)->Hp->COut):List Expr->List CE->Prop
 |nil:BL G f A X P cf [] []
 |cons {e:Expr} {c:CE} {es:List Expr} {cs:List CE} (h:KV G f A X P cf e c) (r:BL G f A X P cf es cs):BL G f A X P cf (e::es) (c::cs)
theorem BL.L{es:List Expr}{cs:List CE}(h:BL G f A X P cf es cs):CP G f A X (evalEach es f.env) (Be P cf cs):=by
 induction h with
 |nil=> exact UC
 |cons h _ ih=> exact UD h.1 ih
theorem BL.A1(O:AN G f){pos:Pos}{es:List Expr}{cs:List CE}(h:BL G f A X P cf es cs):AP G f A X (boolOp pos .And (evalEach es f.env)) (LJ P cf cs):=by
 induction h with
 |nil=> exact fun W l hp M ow m s Z eR I ne=> absurd eR.symm ne
 |cons h r ih=> cases r with
  |nil=> exact eO h.1
  |cons _ _=> exact eQ O h.1 ih
theorem BL.BY(O:AN G f){pos:Pos}{es:List Expr}{cs:List CE}(h:BL G f A X P cf es cs):AP G f A X (boolOp pos .Or (evalEach es f.env)) (LK P cf cs):=by
 induction h with
 |nil=> exact fun W l hp M ow m s Z eR I ne=> absurd eR.symm ne
 |cons h r ih=> cases r with
  |nil=> exact eP h.1
  |cons _ _=> exact eS O h.1 ih
theorem BL.kS{es:List Expr}{cs:List CE}(h:BL G f A X P cf es cs):Bl G f A X (allTrue .And es f.env) (LN P cf cs):=by
 induction h with
 |nil=> exact eT
 |cons h _ ih=> exact eV h.2 ih
theorem BL.IF{es:List Expr}{cs:List CE}(h:BL G f A X P cf es cs):Bl G f A X (allTrue .Or es f.env) (LO P cf cs):=by
 induction h with
 |nil=> exact eU
 |cons h _ ih=> exact eW h.2 ih
inductive RL(G:Gx)(f:Fx)(A:v7)(X:XP)(P:Prog)(cf:Nat->List AV->List (N×AV)->Hp->COut):List Expr->List (COp×CE)->Prop
 |nil:RL G f A X P cf [] []
 |cons {e:Expr} {c:CE} {o:COp} {es:List Expr} {cs:List (COp×CE)} (h:AP G f A X (eval e f.env) (Ad P cf c)) (r:RL G f A X P cf es cs):RL G f A X P cf (e::es) ((o,c)::cs)
theorem RL.ok(O:AN G f)(HA:A.units+200<cLine){es:List Expr}{cs:List (COp×CE)}(h:RL G f A X P cf es cs)(ne:cs≠[]):It G f A X (cs.map fun p=> Gg p.1) (evalEach es f.env) (fun a s=> Ji P cf a cs s):=by
 induction h with
 |nil=> exact absurd rfl ne
 |cons h r ih=> cases r with
  |nil=> exact UB O HA h
  |cons _ _=> exact eY O HA h (ih nofun)
inductive DL(G:Gx)(f:Fx)(A:v7)(X:XP)(P:Prog)(cf:Nat->List AV->List (N×AV)->Hp->COut):List Expr->List (AV×CE)->Prop
 |nil:DL G f A X P cf [] []
 |cons {e:Expr} {c:CE} {v:AV} {es:List Expr} {cs:List (AV×CE)} (h:AP G f A X (eval e f.env) (Ad P cf c)) (r:DL G f A X P cf es cs):DL G f A X P cf (e::es) ((v,c)::cs)
inductive kT(G:Gx)(f:Fx)(A:v7)(X:XP)(P:Prog)(cf:Nat->List AV->List (N×AV)->Hp->COut)(pos:Pos)(xs:List (Option Expr))(ys:List Expr)(ks:List (AV×CE)):Prop
 |mk (kvs:List (Expr×Expr)) (h1:xs=kvs.map fun p=> some p.1) (h2:ys=kvs.map (·.2)) (h3:kvs.length=ks.length) (h4:KR G f A X kvs pos (LL P cf ks))
theorem DL.ok{t:PT}{pos:Pos}{ys:List Expr}{ks:List (AV×CE)}(h:DL G f A X P cf ys ks):∀{i:Nat},(ks.all fun p=> Gi p.1)=true->kT G f A X P cf pos (LV ks t i) ys ks:=by
 induction h with
 |nil=> exact fun _=> ⟨[],rfl,rfl,rfl,jT⟩
 |cons h r ih=> exact fun z=> AS (show(Gi _&&List.all _ _)=true from z) fun z1 z2=> match ih z2 with
  |⟨kvs,h1,h2,h3,h4⟩=> ⟨(_,_)::kvs,congrArg (_::·) h1,congrArg (_::·) h2,congrArg (· +1) h3,jU (Mg z1) h h4⟩
theorem kU(O:AN G f){pos:Pos}{ks:List (AV×CE)}{ys:List Expr}{t:PT}{i:Nat}(h:DL G f A X P cf ys ks)(hl:wX ks.length 15=true)(z:(ks.all fun p=> Gi p.1)=true):AP G f A X (eval (.Dict (LV ks t i) ys pos) f.env) (Ad P cf (.Ap ks)):=by
 obtain⟨kvs,h1,h2,h3,h4⟩:=h.ok (pos:=pos) (t:=t) (i:=i) z;rw [h1,h2];cases kvs with
 |nil=> cases xy.mp h3.symm;exact jS O
 |cons p r=> exact jW O (h3▸wA hl) nofun h4
theorem kW(H:Bh G f A X P cf gl){b:BI}{as:List Expr}{ea:St->Out (List AV)}{np pos:Pos}(h:SJ f.cs gl b=true)(hs:as.all noStar=true)(hl:CP G f A X (evalEach as f.env) ea):
 AP G f A X (eval (.Call (HW (SI b) np) as [] pos) f.env) fun s=> (ea s).bind fun vs s=> AO (E6 s.hp b vs) fun v=>.ok v s:=by
 cases b with
 |len=> exact iJ H.O (G1 H h boot_len (by decide+kernel)) hs hl
 |int=> exact VM H.O (G1 H h boot_int (by decide+kernel)) hs hl fun I hu e eR hU=> jR I hu e eR hU
 |list=> obtain⟨d,HA⟩:=H.HA;exact VM H.O (G1 H h boot_list (by decide+kernel)) hs hl fun I hu e eR hU=> jP H.O HA I hu e eR hU
 |_=> exact cFT h
mutual
theorem TE(H:Bh G f A X P cf gl):∀(c:CE) (t:PT),Aq f.cs gl c t=true->KV G f A X P cf (Ag c t) c
 | .cst v=>@fun t h=> kR H h
 | .var x=>@fun t h=> G2 H.O (fun _=> rfl) rfl (Im H.O.fn (C2 h) (GF h))
 | .AD e a=>@fun t h=> G2 H.O (fun _=> rfl) rfl (Te H.CE.C H.O (AH h) (TE H e _ (Ac h)).1)
 | .app g as=>@fun t h=> G2 H.O (fun _=> rfl) rfl (jr H.CE H.O (AH (AH h)) (Vr H (Ac (AH h))) (DO H as t 1 (Ac h)).L)
 | .E1 g as n k=>@fun t h=> FP (fun _=> rfl) (jt H.CE H.O (AH (AH (AH h))) (Vr H (Ac (AH (AH h)))) (DO H as t 1 (Ac h)).L (TE H k _ (Ac (AH h))).1)
 | .AE e a as=>@fun t h=> G2 H.O (fun _=> rfl) rfl (iQ H.CE.C H.O H.CE.Pj (iq H.O) (Ac (AH (AH h))) (Ac (AH (AH (AH h)))) (Ac (AH (AH (AH (AH h))))) (yh (wA (AH (AH (AH (AH (AH h))))))) (TE H e _ (Ac (AH h))).1 (DO H as t 1 (Ac h)).L)
 | .E3 e a as n k=>@fun t h=> FP (fun _=> rfl) (iS H.CE.C H.O H.CE.Pj (Ac (AH (AH (AH h)))) (Ac (AH (AH (AH (AH h))))) (Ac (AH (AH (AH (AH (AH h)))))) (yh (wA (AH (AH (AH (AH (AH (AH h)))))))) (TE H e _ (Ac (AH (AH h)))).1 (DO H as t 1 (Ac (AH h))).L (TE H k _ (Ac h)).1)
 | .sup _ _ _=>@fun _ h=> cFT h
 | .bi b as=>@fun t h=> FP (fun _=> rfl) (kW H (Ac (AH h)) (AH (AH h)) (DO H as t 1 (Ac h)).L)
 | .CL e c=>@fun t h=> G2 H.O (fun _=> rfl) rfl (jY H.O H.IS (G1 H (Ac (AH h)) Vo (by decide+kernel)) (Ac (AH (AH h))) (TE H e _ (Ac h)).1 (JB H (fun W=> rfl) (AH (AH (AH h)))))
 | .isStr e=>@fun t h=> G2 H.O (fun _=> rfl) rfl (jX H.O (G1 H (Ac (AH h)) Vo (by decide+kernel)) (G1 H (AH (AH (AH h))) boot_str (by decide+kernel)) (Ac (AH (AH h))) (TE H e _ (Ac h)).1)
 | .bin op l r=>@fun t h=> FP (fun _=> rfl) (eN H.O (TE H l _ (Ac h)).1 (TE H r _ (AH h)).1)
 | .fmt l r=>@fun t h=> FP (fun _=> rfl) (jf (TE H l _ (Ac h)).1 (TE H r _ (AH h)).1)
 | .neg e=>@fun t h=> FP (fun _=> rfl) (dZ (TE H e _ h).1)
 | .nt e=>@fun t h=> ⟨dY H.O (TE H e _ h).1,dd (TE H e _ h).2⟩
 | .A1 es=>@fun t h=> ⟨(DO H es t 0 h).A1 H.O,UA (DO H es t 0 h).kS⟩
 | .BY es=>@fun t h=> ⟨(DO H es t 0 h).BY H.O,UA (DO H es t 0 h).IF⟩
 | .cmp l rs=>@fun t h=> match H.HA with
   |⟨d,HA⟩=>
    have h3:=Ac (AH (AH h));have q:=(Vt H rs t 1 (Ac (AH h))).ok H.O HA.room fun z=> by rw [z]at h3;exact cFT h3
    have h4:=GD (AH (AH (AH h)))
    ⟨eZ h4 (TE H l _ (Ac h)).1 q,cmp_T h4 (TE H l _ (Ac h)).1 q⟩
 | .ite c b o=>@fun t h=> ⟨Tf (TE H c _ (Ac h)).2 (TE H b _ (Ac (AH h))).1 (TE H o _ (AH (AH h))).1,dc (TE H c _ (Ac h)).2 (TE H b _ (Ac (AH h))).2 (TE H o _ (AH (AH h))).2⟩
 | .tup es=>@fun t h=> FP (fun _=> rfl) (UE (Ac (AH h)) (fun s vs s' e=> JC e▸Mf (AH (AH h))) (DO H es t 0 (Ac h)).L)
 | .lst fr es=>@fun t h=> FP (fun _=> rfl) (UH (Ac (AH h)) (fun s vs s' e=> JC e▸Mf (AH (AH h))) (DO H es t 0 (Ac h)).L)
 | .Ap ks=>@fun t h=> FP (fun _=> rfl) (kU H.O (Vu H ks _ 0 (Ac h)) (Ac (AH h)) (AH (AH h)))
 | .sub e i=>@fun t h=> G2 H.O (fun _=> rfl) rfl (ej H.O (AH (AH h)) (TE H e _ (Ac h)).1 (TE H i _ (Ac (AH h))).1)
 | .Bd fr e lo hi=>@fun t h=> FP (fun _=> rfl) (fH H.O (TE H e _ (Ac h)).1 (TO H lo _ (Ac (AH h))) (TO H hi _ (AH (AH h))))
 | .BZ=>@fun _ h=> ⟨Vp,Vq fun _=> rfl⟩
theorem DO(H:Bh G f A X P cf gl):∀(cs:List CE) (t:PT) (i:Nat),Cw f.cs gl cs t i=true->BL G f A X P cf (BN cs t i) cs
 | []=>@fun _ _ _=>.nil
 |c::r=>@fun t i h=>.cons (TE H c _ (Ac h)) (DO H r t (i+1) (AH h))
theorem Vt(H:Bh G f A X P cf gl):∀(cs:List (COp×CE)) (t:PT) (i:Nat),OL f.cs gl cs t i=true->RL G f A X P cf (LW cs t i) cs
 | []=>@fun _ _ _=>.nil
 |(_,c)::r=>@fun t i h=>.cons (TE H c _ (Ac h)).1 (Vt H r t (i+1) (AH h))
theorem Vu(H:Bh G f A X P cf gl):∀(cs:List (AV×CE)) (t:PT) (i:Nat),OM f.cs gl cs t i=true->DL G f A X P cf (OH cs t i) cs
 | []=>@fun _ _ _=>.nil
 |(_,c)::r=>@fun t i h=>.cons (TE H c _ (Ac h)).1 (Vu H r t (i+1) (AH h))
theorem TO(H:Bh G f A X P cf gl):∀(o:Option CE) (t:PT),LY f.cs gl o t=true->KG G f A X (LX o t) (LM P cf o)
 |none=>@fun _ _=> fD
 |some c=>@fun t h=> fE (TE H c t h).1
end
end
section
theorem Vv:∀(xs:List N) (t:PT) (i:Nat),(IY xs t i).map (·.1)=xs
 | []=>@fun _ _=> rfl
 |x::r=>@fun t i=> congrArg (x::·) (Vv r t (i+1))
theorem Vw{c l r:CE}{o:COp}(h:OO c=some (l,o,r)):c= .cmp l [(o,r)]:=by
 cases c with
 |cmp l rs=> cases rs with
  |nil=> exact cNS h
  |cons p rs=> cases rs with
   |nil=> cases h;rfl
   |cons _ _=> exact cNS h
 |_=> exact cNS h
theorem kX{c a b:CE}(h:SN c=some (a,b)):c= .BY [a,b]:=by
 cases c with
 |BY rs=> cases rs with
  |nil=> exact cNS h
  |cons p rs=> cases rs with
   |nil=> exact cNS h
   |cons q rs=> cases rs with
    |nil=> cases h;rfl
    |cons _ _=> exact cNS h
 |_=> exact cNS h
theorem kY{c:CE}{x:N}(h:SP c=some x):c= .var x:=by
 cases c with
 |var x=> cases h;rfl
 |_=> exact cNS h
theorem kZ{c:CE}{x:AV}(h:SQ c=some x):c= .cst x:=by
 cases c with
 |cst x=> cases h;rfl
 |_=> exact cNS h
theorem kc{c:CE}{x:List CE}(h:SR c=some x):c= .tup x:=by
 cases c with
 |tup x=> cases h;rfl
 |_=> exact cNS h
theorem Vx{c:CS}{g:CT}{e:CE}(h:OP c=some (g,e)):c= .asg g e:=by
 cases c with
 |asg g e=> cases h;rfl
 |_=> exact cNS h
theorem kf{c:CS}{e:CE}(h:OQ c=some e):c= .ret (some e):=by
 cases c with
 |ret o=> rw [show o=some e from h]
 |_=> exact cNS h
theorem Vy{g:CT}{x:N}(h:LZ g=some x):g= .name x:=by
 cases g with
 |name x=> cases h;rfl
 |_=> exact cNS h
theorem kg{g:CT}{x:List N}(h:SS g=some x):g= .tup x:=by
 cases g with
 |tup x=> cases h;rfl
 |_=> exact cNS h
theorem kh{α:Type}{l:List α}{x y:α}(h:two l=some (x,y)):l=[x,y]:=by
 cases l with
 |nil=> exact cNS h
 |cons a l=> cases l with
  |nil=> exact cNS h
  |cons b l=> cases l with
   |nil=> cases h;rfl
   |cons _ _=> exact cNS h
theorem GG{α:Type}{o:Option α}{k:α->Bool}{G:Prop}(h:EZ o k=true)(f:∀a,o=some a->k a=true->G):G:=match o,h,f with
 |some a,h,f=> f a rfl h
 |none,h,_=> cFT h
variable{G:Gx}{f:Fx}{A:v7}{X:XP}{P:Prog}{cf:Nat->List AV->List (N×AV)->Hp->COut}{gl:vz->Option (Option R5)}{exC:Nat->Bool}{fu:Nat}{ea:Nat}{oe:Obj}
theorem Mh:∀{xs:List N} {t:PT} {i:Nat},(xs.all (DE f.cs))=true->∀p∈IY xs t i,f.cs.names.lookup (nm p.1)=some .local
 | [],_,_,_=> fun _ h=> nomatch h
 |x::r,t,i,h=> AS (show(DE f.cs x&&List.all _ _)=true from h) fun h1 h2 p hp=> by
  cases hp with
  |head=> exact C2 h1
  |tail _ hp=> exact Mh h2 p hp
theorem TT(H:Bh G f A X P cf gl)(S:Ef G P){g:CT}{t:PT}(h:Jo f.cs gl g t=true):GA G f A X (toT g t) (fun v s=> E9 P cf g v s):=by
 cases g with
 |name x=> exact Uh H.O.fn (C2 h)
 |AD e a=> exact Ui H.CE.C S H.O (TE H e _ h).1
 |sub e i=> exact AS h fun h1 h2=> gT H.O (TE H e _ h1).1 (TE H i _ h2).1
 |tup xs=> obtain⟨d,HA⟩:=H.HA;have q:=ix (X:=X) (k:=t.k) (pos:=t.p) H.O HA.hd (Mh (t:=t) (i:=0) h);rw [Vv]at q;exact q
def By(G:Gx)(f:Fx)(A:v7)(P:Prog)(cf:Nat->List AV->List (N×AV)->Hp->COut)(gl:vz->Option (Option R5))(c:CE):Prop:=∀t,pE c=true->Aq f.cs gl c t=true->Ej G f A (eval (Ag c t) f.env) (Ad P cf c)
theorem By.of{c:CE}(h:pE c=false):By G f A P cf gl c:=fun _ z=> cFT (h▸z)
theorem JD(H:Bh G f A X P cf gl):∀c:CE,By G f A P cf gl c
 | .cst v=> fun t h _=> by
   cases v with
   |none=> exact jB
   |_=> exact cFT h
 | .var x=> fun t _ h=> jC H.O.fn (C2 h) (GF h)
 | .AD e a=> fun t h h'=> AS h' fun h1 h2=> jD H.CE.C H.O h2 (JD H e _ h h1)
 | .sub e i=> fun t h h'=> AS h' fun h3 h4=> AS h4 fun h4 h5=> jE H.O h5 (JD H e _ (Ac h) h3) (JD H i _ (AH h) h4)
 | .app _ _=> By.of rfl
 | .E1 _ _ _ _=> By.of rfl
 | .AE _ _ _=> By.of rfl
 | .E3 _ _ _ _ _=> By.of rfl
 | .sup _ _ _=> By.of rfl
 | .bi _ _=> By.of rfl
 | .CL _ _=> By.of rfl
 | .isStr _=> By.of rfl
 | .bin _ _ _=> By.of rfl
 | .fmt _ _=> By.of rfl
 | .neg _=> By.of rfl
 | .nt _=> By.of rfl
 | .A1 _=> By.of rfl
 | .BY _=> By.of rfl
 | .cmp _ _=> By.of rfl
 | .ite _ _ _=> By.of rfl
 | .tup _=> By.of rfl
 | .lst _ _=> By.of rfl
 | .Ap _=> By.of rfl
 | .Bd _ _ _ _=> By.of rfl
 | .BZ=> By.of rfl
theorem Vz(H:Bh G f A X P cf gl){c:CE}{t:PT}(h:pC c=true)(h':Aq f.cs gl c t=true):Hq G f A (isTrue (Ag c t) f.env (eval (Ag c t) f.env)) (An P cf c):=
 GG h fun⟨l,o,r⟩ e h=> by cases Vw e;obtain⟨d,HA⟩:=H.HA;exact AS h fun h1 h2=> AS h' fun h3 h4=> AS h4 fun h4 h5=> AS h5 fun _ h6=> jF H.O HA.room (GD h6) (JD H l _ h1 h3) (JD H r _ h2 (AS h4 fun h _=> h))
theorem ki(H:Bh G f A X P cf gl){c:CE}{t:PT}(h:pT c=true)(h':Aq f.cs gl c t=true):Hq G f A (isTrue (Ag c t) f.env (eval (Ag c t) f.env)) (An P cf c):=
 GG h fun⟨a,b⟩ e h=> by cases kX e;exact AS h fun h1 h2=> AS h' fun h3 h4=> AS h4 fun h4 _=> jG (Vz H h1 h3) (Vz H h2 h4)
theorem V0{α:Type}{o:Option α}(h:o.isSome=true){G:Prop}(f:∀a,o=some a->G):G:=match o,h,f with
 |some a,_,f=> f a rfl
 |none,h,_=> cFT h
theorem V3(H:Bh G f A X P cf gl){c:CS}{t:PS}{md:Nat}(h:pA c=true)(h':Jp f.cs gl exC c md t=true):EN G f A (exec (toS c t) f.env) (As P fu cf c):=
 GG h fun⟨g,e⟩ hc h=> AS h fun h1 h2=> V0 h1 fun x hx=> by cases Vx hc;cases Vy hx;exact AS h' fun h3 h4=> AS h4 fun h4 h5=> AS h5 fun h5 _=> jH H.O (C2 h3) h5 (JD H e _ h2 h4)
theorem Pp{p:CS->Bool}{md:Nat}(hp:∀c t,p c=true->Jp f.cs gl exC c md t=true->EN G f A (exec (toS c t) f.env) (As P fu cf c)):∀{cs:List CS} {ts:List PS},cs.all p=true->DF f.cs gl exC cs md ts=true->EN G f A (execs (Ce cs ts) f.env) (AU P fu cf cs)
 | [],_,_,_=> jJ
 |c::cs,ts,h,h'=> AS (show(p c&&List.all _ _)=true from h) fun h1 h2=> AS h' fun h3 h4=> jK (hp _ _ h1 h3) (Pp hp h2 h4)
theorem kj(H:Bh G f A X P cf gl){md:Nat}(c:CS)(t:PS)(h:pS c=true)(h':Jp f.cs gl exC c md t=true):EN G f A (exec (toS c t) f.env) (As P fu cf c):=by
 cases c with
 |ifs c b o=> refine AS h fun h1 h2=> AS h2 fun h2 h3=> ?_;cases xR.mp h2;exact AS h' fun h4 h5=> AS h5 fun h5 _=> jI (ki H h1 h4) (Pp (fun c t=> V3 H) h3 h5)
 |asg g e=> exact V3 H h h'
 |_=> exact cFT h
theorem kl(O:AN G f)(hu:A.units+200<cLine){c:CE}{t:PT}(h:hC c=true)(h':Aq f.cs gl c t=true):Bl G f A X (isTrue (Ag c t) f.env (eval (Ag c t) f.env)) (An P cf c):=
 GG h fun⟨l,o,r⟩ e h=> AS h fun h1 h2=> V0 h1 fun x hx=> GG h2 fun v hv h2=> by cases Vw e;cases kY hx;cases kZ hv;exact AS h' fun h3 h4=> AS h4 fun _ h5=> AS h5 fun _ h6=> cmp_T (GD h6) (Im O.fn (C2 h3) (GF h3)) (UB (op:=o) O hu (Mg h2))
def CI(G:Gx)(f:Fx)(A:v7)(X:XP)(P:Prog)(cf:Nat->List AV->List (N×AV)->Hp->COut)(gl:vz->Option (Option R5))(c:CE):Prop:=∀t,hE c=true->Aq f.cs gl c t=true->AP G f A X (eval (Ag c t) f.env) (Ad P cf c)
theorem CI.of{c:CE}(h:hE c=false):CI G f A X P cf gl c:=fun _ z=> cFT (h▸z)
mutual
theorem JE(C:CH G P)(O:AN G f)(hu:A.units+200<cLine):∀c:CE,CI G f A X P cf gl c
 | .cst v=> fun t h _=> Mg h
 | .var x=> fun t _ h=> Im O.fn (C2 h) (GF h)
 | .AD e a=> fun t h h'=> AS h' fun h1 h2=> Te C O h2 (JE C O hu e _ h h1)
 | .tup es=> fun t h h'=> AS h' fun h1 h2=> AS h2 fun h2 h3=> UE h2 (fun s vs s' e=> JC e▸Mf h3) (Pq C O hu es t 0 h h1)
 | .lst _ es=> fun t h h'=> AS h' fun h1 h2=> AS h2 fun h2 h3=> UH h2 (fun s vs s' e=> JC e▸Mf h3) (Pq C O hu es t 0 h h1)
 | .ite c b e=> fun t h h'=> AS h' fun h4 h5=> AS h5 fun h5 h6=> Tf (kl O hu (Ac h) h4) (JE C O hu b _ (Ac (AH h)) h5) (JE C O hu e _ (AH (AH h)) h6)
 | .app _ _=> CI.of rfl
 | .E1 _ _ _ _=> CI.of rfl
 | .AE _ _ _=> CI.of rfl
 | .E3 _ _ _ _ _=> CI.of rfl
 | .sup _ _ _=> CI.of rfl
 | .bi _ _=> CI.of rfl
 | .CL _ _=> CI.of rfl
 | .isStr _=> CI.of rfl
 | .bin _ _ _=> CI.of rfl
 | .fmt _ _=> CI.of rfl
 | .neg _=> CI.of rfl
 | .nt _=> CI.of rfl
 | .A1 _=> CI.of rfl
 | .BY _=> CI.of rfl
 | .cmp _ _=> CI.of rfl
 | .Ap _=> CI.of rfl
 | .sub _ _=> CI.of rfl
 | .Bd _ _ _ _=> CI.of rfl
 | .BZ=> CI.of rfl
theorem Pq(C:CH G P)(O:AN G f)(hu:A.units+200<cLine):∀(cs:List CE) (t:PT) (i:Nat),La cs=true->Cw f.cs gl cs t i=true->CP G f A X (evalEach (BN cs t i) f.env) (Be P cf cs)
 | []=>@fun _ _ _ _=> UC
 |c::r=>@fun t i h h'=> AS h' fun h3 h4=> UD (JE C O hu c _ (Ac h) h3) (Pq C O hu r t (i+1) (AH h) h4)
end
def Mi(G:Gx)(f:Fx)(A:v7)(X:XP)(ea:Nat)(oe:Obj)(t:Sem wx)(ev:St->Out Flow):Prop:=
 ∀W l hp M ow m s Z,(ea,oe)∈W.fz->ev ⟨l,hp⟩=Z->Inv G f W l hp M ow m s->Z≠ .bad->He G f A X W t Z s
theorem Pr{t:Sem wx}{ev:St->Out Flow}(h:Av G f A X t ev):Mi G f A X ea oe t ev:=fun W l hp M ow m s Z _=> h W l hp M ow m s Z
theorem km{ws:Array R5}{x y:N}{p q AAu AA3 pos:Pos}{k n:Nat}{vs:List Expr}{ev:St->Out AV}(O:AN G f)(hh:A.handled=some (.ref ea))(hd:oe.data= .fields ws)(h2:ws[2]? =some .none)(hlx:f.cs.names.lookup (nm x)=some .local)(hly:f.cs.names.lookup (nm y)=some .local)
 (hw:IU [.Name (nm x) p,.Name (nm y) q] (.Tuple vs n AA3)=true) (hc:EY (.Tuple vs n AA3)=true) (hv:AP G f A X (eval (.Tuple vs n AA3) f.env) ev):
 Mi G f A X ea oe (exec (.Assign [.Tuple [.Name (nm x) p,.Name (nm y) q] k AAu] (.Tuple vs n AA3) pos) f.env) fun s=> (ev s).bind fun v s=> (AO (ED v) fun vs=> AO (putAll [x,y] vs s.loc) fun l=> Out.ok () (⟨l,s.hp⟩:St)).bind fun _ s=>.ok .next s:=fun W l hp M ow m s Z hm eR I ne=> by
 refine Assign_Tuple_swapped (names:=[nm x,nm y]) (Am eR W.le_rfl (fun q=> hv W l hp M ow m s _ rfl I q) ne fun a σ V L ow m u s' eR h1 h2' I hu ne=> ?_) (show swapsWith (.Tuple vs n AA3) (some (.Tuple [.Name (nm x) p,.Name (nm y) q] k AAu)) pos.line f.env=pure false from Gw hc)
  (VC hw (show(if f.cs.kind.isAnnotationScope then _ else f.cs.kind)=_ by rw [O.fn];rfl) hlx hly)
 refine cps fun P1_ k1_=> ?_;obtain⟨as,h3,eR⟩:=Gr eR ne;obtain⟨l',h4,eR⟩:=Gr eR ne;rw [Hh h3]at hu;obtain⟨⟨t,us,n,rfl,q1,q2⟩,q3⟩:=hu;refine k1_ ?_;have hea:=(I.nw _ (wH _ (h2'.fz _ hm))).1;obtain⟨a,b,u1,u2,rfl,rfl,r1,r2,rfl⟩:=VF q2 h4;refine kM hh hea hd h2 (Eh (I.kn O q1)) (by rfl) fun h' he=> ?_;have F':=I.fr.extBut he (wW _);have N':=I.nw.extBut he (wW _);have I':Inv G f V σ.loc σ.hp L ow m ⟨h',s'.gens,s'.drawn,s'.toks,s'.os⟩:=⟨F',N',I.hi,I.lr,I.gn,I.os⟩;refine yf (bindName_ (FL O.fn hly I' r2 fun m' s' I'=> ?_));refine yf (bindName_ (FL O.fn hlx I' r1 fun m' s' I'=> zy ?_));exact Inv.F ⟨I'.fr,I'.nw,I'.hi,I'.lr.ext (VD (VE hw)),I'.gn,I'.os⟩ eR h1 trivial
inductive kq(xs:List N)(e:CE)(t:PS):Prop
 |mk (x y:N) (es:List CE) (h1:xs=[x,y]) (h2:e= .tup es) (h:IU (FC (IY [x,y] (t.e 0) 0)) (Ag (.tup es) (t.e 1))=true)
theorem V4{xs:List N}{e:CE}{t:PS}(h:OR xs e t=true):kq xs e t:=GG h fun⟨x,y⟩ h1 h=> GG h fun es h2 h=> ⟨x,y,es,kh h1,kc h2,h⟩
theorem ku(C:CH G P)(O:AN G f)(hu:A.units+200<cLine){ws:Array R5}(hh:A.handled=some (.ref ea))(hd:oe.data= .fields ws)(h2:ws[2]? =some .none){c:CS}{t:PS}(h:hS f.cs gl c t=true):Mi G f A X ea oe (exec (toS c t) f.env) (As P fu cf c):=by
 unfold hS at h;cases hr:OQ c with
 |some e=> rw [hr]at h;cases kf hr;exact AS h fun h1 h2=> Pr (Uj (JE C O hu e _ h1 h2))
 |none=>
  rw [hr]at h;refine GG h fun⟨g,e⟩ hc z=> AS z fun h1 z=> AS z fun h2' z=> AS z fun h3 z=> ?_;clear h;cases Vx hc;have hv:=JE (X:=X) (cf:=cf) C O hu e _ h1 h2';unfold hA at z;cases hx:LZ g with
  |some x=> rw [hx]at z;cases Vy hx;exact Pr (KH rfl h3 hv (Uh O.fn (C2 z)))
  |none=> rw [hx]at z;refine GG z fun xs hx z=> AS z fun h4 h5=> ?_;cases kg hx;obtain⟨x,y,es,rfl,rfl,h5⟩:=V4 h5;have q:=Mh (t:=t.e 0) (i:=0) h4;exact km O hh hd h2 (q _ (.head _)) (q _ (.tail _ (.head _))) h5 h3 hv
theorem V5(C:CH G P)(O:AN G f)(hu:A.units+200<cLine){ws:Array R5}(hh:A.handled=some (.ref ea))(hd:oe.data= .fields ws)(h2:ws[2]? =some .none):∀(cs:List CS) (ts:List PS),Lb f.cs gl cs ts=true->Mi G f A X ea oe (execs (Ce cs ts) f.env) (AU P fu cf cs)
 | []=>@fun _ _=> Pr MN
 |c::r=>@fun ts h=> AS h fun g1 g2=> fun W l hp M ow m s Z hm eR I ne=> by
  refine zI (L9 eR W.le_rfl (fun q=> ku C O hu hh hd h2 g1 W l hp M ow m s _ hm rfl I q) ne fun a σ V L ow m v s' eR h1 h2' I hv ne=> ?_);cases a<;>cases v<;>first |exact hv.elim |skip
  . exact J7 h1 (V5 C O hu hh hd h2 r _ g2 V _ _ _ _ _ _ _ (h2'.fz _ hm) eR I ne)
  . exact(I.F eR h1 trivial)
  . exact(I.F eR h1 trivial)
  . exact(I.F eR h1 hv)
theorem kx{b:List Stmt}{h₀:ym}{hs:List ym}{pos:Pos}{eb:St->Out Flow}(hb:Av G f A X (execs b f.env) eb):
 Av G f A X (exec (.Try b (h₀::hs) [] [] pos) f.env) fun s=> match eb s with | .ok f s=>.ok f s |_=>.bad:=fun W l hp M ow m s Z eR I ne=> by
 subst eR;dsimp only at ne⊢;cases hr:eb ⟨l,hp⟩with
 |bad=> rw [hr]at ne;exact absurd rfl ne
 |exc _ _=> rw [hr]at ne;exact absurd rfl ne
 |ok a σ=>
  refine z9 (wL (hb W l hp M ow m s _ hr I nofun) (fun v s' q=> ?_) fun e s' q=> ?_)
  . obtain⟨a',σ',V,L,ow',m',h1,h2,h3,h4⟩:=q;cases(h1);cases(a)<;>cases(v)<;>first |exact h4.elim |skip
    . exact xV (h3.F rfl h2 trivial)
    . exact h3.F rfl h2 trivial
    . exact h3.F rfl h2 trivial
    . exact h3.F rfl h2 h4
  . obtain⟨_,_,_,z,_⟩:=q;cases(z)
def KW(G:Gx)(P:Prog)(exC:Nat->Bool):Prop:=∀b,exC b=true->(∃cl,P.cls b=some cl/\cl.exc=true)/\(clsIn G.K b).isSome=true
structure V7(G:Gx)(f:Fx)(A:v7)(X:XP)(P:Prog)(cf:Nat->List AV->List (N×AV)->Hp->COut)(gl:vz->Option (Option R5))(md:Nat):Prop where
 m0:md=0->Mc G f X
 m1:md=1->A=f.A0/\f.g=G.B/\Bh G f A (XL G f) P cf gl
theorem kz(H:Bh G f A X P cf gl)(I:Ef G P){g:CT}{e:CE}{t:PS}{pos:Pos}(h1:Jo f.cs gl g (t.e 0)=true)(hv:AP G f A X (eval (Ag e (t.e 1)) f.env) (Ad P cf e))(h3:EY (Ag e (t.e 1))=true)(h4:SU g e t=true):
 Av G f A X (exec (.Assign [toT g (t.e 0)] (Ag e (t.e 1)) pos) f.env) (As P fu cf (.asg g e)):=by
 cases g with
 |tup xs=>
  cases yL.mp h4 with
  |inl h4=> exact iz h4 h3 hv (TT H I h1)
  |inr h4=> obtain⟨x,y,es,rfl,rfl,h4⟩:=V4 h4;obtain⟨d,HA⟩:=H.HA;have q:=Mh (t:=t.e 0) (i:=0) h1;exact i5 H.O HA.hd (q _ (.head _)) (q _ (.tail _ (.head _))) h4 h3 hv
 |name x=> exact KH h4 h3 hv (TT H I h1)
 |AD o a=> exact KH h4 h3 hv (TT H I h1)
 |sub o i=> exact KH h4 h3 hv (TT H I h1)
theorem lA(H:Bh G f A X P cf gl)(I:Ef G P){g:CT}{op:BOp}{e:CE}{t:PS}{pos:Pos}(hv:AP G f A X (eval (Ag e (t.e 1)) f.env) (Ad P cf e))(h:SV f.cs gl g (t.e 0)=true):
 Av G f A X (exec (.AugAssign (toT g (t.e 0)) (Fv op) (Ag e (t.e 1)) pos) f.env) (As P fu cf (.aug g op e)):=by
 cases g with
 |name x=> exact gZ H.O (C2 h) hv
 |AD b a=> exact gb H.CE.C I H.O (TE H b _ h).1 hv
 |sub b i=> exact AS h fun h1 h2=> AS h2 fun h2 h3=> gf H.O h3 (TE H b _ h1).1 (TE H i _ h2).1 hv
 |tup _=> exact cFT h
theorem lB(H:Bh G f A X P cf gl)(I:Ef G P)(hX:Gy G f A X){g:CT}{src:CSrc}{b:List CS}{t:PS}{md:Nat}(hb:Av G f A X (execs (Ce b t.b) f.env) (AU P fu cf b))(hp:DF f.cs gl exC b md t.b=true)(h:SW f.cs gl g src b t=true):
 Av G f A X (exec (.For (toT g (t.e 0)) (SK src (t.e 1)) (Ce b t.b) [] t.p) f.env) (As P fu cf (.CV g src b)):=by
 obtain⟨d,HA⟩:=H.HA;cases src with
 |it e=> exact Ur (Pu:=False) hX (Ac (AH (AH h))) (iC H.O HA (AH (AH (AH h))) (TE H e _ (Ac (AH h))).1) (TT H I (Ac h)) hb (fun z=> z.elim) fun z=> z.elim
 |keys e=>
   refine AS h fun h1 z=> AS z fun h2 z=> AS z fun h3 z=> ?_;cases g with
   |name x=> exact jM H.O HA (C2 h1) h3 (TE H e _ h2).1 (Pp (fun c t=> kj H c t) z hp)
   |_=> exact cFT h1
 |Fm as=> exact Ur (Pu:=False) hX rfl (iB H.O HA (Ac (AH (AH (AH h)))) (G1 H (Ac (AH (AH h))) boot_range (by decide+kernel)) (AH (AH (AH (AH h)))) (DO H as _ 1 (Ac (AH h))).L) (TT H I (Ac h)) hb (fun z=> z.elim) fun z=> z.elim
 |enum e=>
   refine AS h fun h1 z=> AS z fun h2 z=> AS z fun h3 z=> ?_;cases g with
   |tup xs=> exact jA H.O HA hX (G1 H h3 kP (by decide+kernel)) z (TE H e _ h2).1 (TT (g:=.tup xs) (t:=t.e 0) H I h1) hb
   |_=> exact cFT h1
theorem lC(H:Bh G f A X P cf gl)(EO:G0 G P)(XH:KW G P exC)(TR:Mc G f X){c:Nat}{as:List CE}{t:PT}{np cp pos:Pos}{y:vz}(h1:Cw f.cs gl as t 1=true)(h2:exC c=true)(h3:FD f.cs gl y c=true)(h4:(BN as t 1).all noStar=true)(h5:wX (BN as t 1).length 1000=true)(h6:wX as.length 1000=true):
 Av G f A X (exec (.Raise (some (.Call (.Name y np) (BN as t 1) [] cp)) none pos) f.env) (As P fu cf (.HO c as)):=by
 obtain⟨⟨cl,hc,he⟩,_⟩:=XH c h2;obtain⟨d,HA,_⟩:=H.CE.ex;exact kE EO H.O HA TR hc he h4 (wA h5) (JB H (a:=.cls c) (fun W=> rfl) h3) (DO H as t 1 h1).L fun s vs s' e=> JC e▸wA h6
theorem lD(C:CH G P)(O:AN G f)(EO:G0 G P)(XH:KW G P exC)(DN:∀y r,gl y=some r->nsIn G.K mainGlobals y=some r)(hA:A=f.A0)(hg:f.g=G.B)(hu:A.units+200<cLine){b h:List CS}{c:Nat}{x:N}{t:PS}(hB:Av G f A (XL G f) (execs (Ce b t.b) f.env) (AU P fu cf b))
 (h1:exC c=true) (h2:FD f.cs gl (t.e 0).y c=true) (h3:DE f.cs x=true) (h4:(!h.isEmpty)=true) (h5:Lb f.cs gl h t.o=true):Av G f A X (exec (toS (.Ga b c x h) t) f.env) (As P fu cf (.Ga b c x h)):=by
 subst hA;obtain⟨⟨cl,hcl,he⟩,hcs⟩:=XH c h1;cases h with
 |nil=> exact cFT h4
 |cons h₀ hr=> exact AS h2 fun g1 g2=> kI EO O hg hcl he hcs hB (DN _ _ (Pm g2)) (Pn g1) (Po g1) (C2 h3) fun ea oe ws hd h2 W l hp M ow m s Z hm eR I ne=> V5 (A:=f.A0.mark (some (.ref ea))) C O hu rfl hd h2 (h₀::hr) t.o h5 W l hp M ow m s Z hm eR I ne
mutual
theorem TS(J:Ef G P)(EO:G0 G P)(XH:KW G P exC)(hi:interactive f.env=false):∀(c:CS) (t:PS) {X:XP} {md:Nat},Bh G f A X P cf gl->Gy G f A X->V7 G f A X P cf gl md->Jp f.cs gl exC c md t=true->Av G f A X (exec (toS c t) f.env) (As P fu cf c)
 | .expr e=>@fun t _ _ H hX MO h=> gU (AH h) hi (TE H e _ (Ac h)).1
 | .asg g e=>@fun t _ _ H hX MO h=> kz H J (Ac h) (TE H e _ (Ac (AH h))).1 (Ac (AH (AH h))) (AH (AH (AH h)))
 | .aug g op e=>@fun t _ _ H hX MO h=> lA H J (TE H e _ (Ac h)).1 (AH h)
 | .ret none=>@fun t _ _ H hX MO h=> gV
 | .ret (some e)=>@fun t _ _ H hX MO h=> Uj (TE H e _ h).1
 | .ifs c b o=>@fun t _ _ H hX MO h=> gW (TE H c _ (Ac h)).2 (G3 J EO XH hi b _ H hX MO (Ac (AH h))) (G3 J EO XH hi o _ H hX MO (AH (AH h)))
 | .BW c b=>@fun t _ _ H hX MO h=> gh fu hX (TE H c _ (Ac h)).2 (G3 J EO XH hi b _ H hX MO (AH h))
 | .CV g src b=>@fun t _ _ H hX MO h=> lB H J hX (G3 J EO XH hi b _ H hX MO (Ac h)) (Ac h) (AH h)
 | .HO c as=>@fun t _ _ H hX MO h=> lC H EO XH (MO.m0 (wy (Ac h))) (Ac (AH h)) (Ac (AH (AH h))) (Ac (AH (AH (AH h)))) (Ac (AH (AH (AH (AH h))))) (Ac (AH (AH (AH (AH (AH h)))))) (AH (AH (AH (AH (AH (AH h))))))
 | .Ga b c x h'=>@fun t _ _ H hX MO h=> AS h fun h0 h=> AS h fun h1 h=> AS h fun h2 h=> AS h fun h3 h=> AS h fun h4 h=> AS h fun h5 h6=>
     match MO.m1 (wy h0),H.HA with
     |⟨m1,m2,m3⟩,⟨d,HA⟩=> lD H.CE.C H.O EO XH H.DN m1 m2 HA.room (G3 J EO XH hi b _ (md:=2) m3 (m1▸kG) ⟨fun z=> (nomatch z),fun z=> (nomatch z)⟩ h1) h2 h3 h4 h5 h6
 | .HP b=>@fun t _ _ H hX MO h=> AS h fun h0 h=> AS h fun h1 h=> match t,h1,h with
   | .nd p es (h₀::hs) b' o x,h1,_=> kx (G3 J EO XH hi b _ H hX MO h1)
   | .nd p es [] b' o x,_,h=> cFT h
 | .del e i=>@fun t _ _ H hX MO h=> gg H.O (TE H e _ (Ac h)).1 (TE H i _ (AH h)).1
 | .pass=>@fun t _ _ H hX MO h=> pass_S
 | .brk=>@fun t _ _ H hX MO h=> gX
 | .cont=>@fun t _ _ H hX MO h=> gY
 | .BZ=>@fun t _ _ H hX MO h=> fun W l hp M ow m s Z eR I ne=> absurd eR.symm ne
theorem G3(J:Ef G P)(EO:G0 G P)(XH:KW G P exC)(hi:interactive f.env=false):∀(cs:List CS) (ts:List PS) {X:XP} {md:Nat},Bh G f A X P cf gl->Gy G f A X->V7 G f A X P cf gl md->DF f.cs gl exC cs md ts=true->Av G f A X (execs (Ce cs ts) f.env) (AU P fu cf cs)
 | []=>@fun _ _ _ H hX MO h=> MN
 |c::r=>@fun ts _ _ H hX MO h=> Uk (TS J EO XH hi c _ H hX MO (Ac h)) (G3 J EO XH hi r _ H hX MO (AH h))
end
end
section
variable{G:Gx}{f:Fx}{A:v7}{X:XP}{P:Prog}{cf:Nat->List AV->List (N×AV)->Hp->COut}{fu:Nat}
theorem KX{K:Frag}{a:Nat}{d:Data}(h:Dy K a=some d):∃c di sl,K.lookup a=some ⟨c,di,d,sl⟩:=by obtain⟨⟨c,di,d',sl⟩,h1,rfl⟩:=wK.mp h;exact⟨c,di,sl,h1⟩
structure V8(G:Gx)(a:Nat)(fd:w8)(q:Lc)(g c:Nat)(mn:N):Prop where
 func:Dy G.K a=some (.func fd)
 code:fd.code= .ref q.Gj
 vg:fd.closure=[(("__class__":vz),q.cc)]
 arg:(fd.params.posonlyargs++fd.params.args).head? =some q.ar
 self:q.ar.arg=nm N.self
 co:Dy G.K q.Gj=some (.fields q.vs)
 v2:q.vs[2]? =some (.str q.file q.tf)
 file:((G.prog.main.file:vz)==q.file)=true
 cell:Dy G.K q.cc=some (.cell (some (.ref q.D)))
 cls:clsIn G.K q.D=some q.Jq
 mro:mroIn G.K c (.ref q.D)=some true
 sup:ks_superIn G.K c q.D (nm mn)=some (some (.ref g))
 vi:nsIn G.K mainGlobals "super"=some none
 vj:nsIn G.K cStatics "thirdparty.any"=some none
 n1:fd.scope.names.lookup ("super":vz)=some .globalImplicit
 n2:fd.scope.names.lookup ("__class__":vz)=some .free
 n3:fd.scope.names.lookup (nm N.self)=some .local
 ty:typeIn G.K (.ref g)=some (.type "function")
 V9:fnIn G.K g=true
 top:(G.prog.main.scope.names.lookup ("super":vz)).isSome=false
 Hu:(nm mn==("__class__":vz))=false
theorem lE:bootBuiltins ("super":vz)=some (.type "super"):=by decide+kernel
theorem lF{α:Type}{p:Prop} [Decidable p]{a b:α}(h:(if p then some a else none)=some b):p/\a=b:=by
 by_cases q:p
 . rw [if_pos q]at h;exact⟨q,wb h⟩
 . rw [if_neg q]at h;cases h
theorem lG{g c:Nat}{mn:N}{fd:w8}{q:Lc}{body:List Stmt}{p0 p1 apos pos AB6:Pos}{args:List Expr}{eas:St->Out (List AV)}(O:AN G f)(CO:C0 G f A X P cf)(SO:V8 G f.ca fd q g c mn)
 (ed:f.cd=fd.code) (es:f.cs=fd.scope) (el:f.cl=fd.closure)
 (hl:(apos.endLine==pos.line)=true) (hs:args.all noStar=true) (h30:args.length<28) (hi:interactive f.env=false) (ha:CP G f A X (evalEach args f.env) eas)
 {W l hp M ow m s} (I:Inv G f W l hp M ow m s) {Z:Out Flow} (eR:((AO (Nt c ⟨l,hp⟩) fun o=> (eas ⟨l,hp⟩).bind fun vs s=> (cf g (o::vs) [] s.hp).bind s.loc fun v s=> Out.ok v s).bind fun _ s=> Out.ok Flow.next s)=Z) (ne:Z≠ .bad):
 PySem.wpAt (mo G) A (.func body f.env) (exec (.Expr (.Call (.Attribute (.Call (.Name "super" p0) [] [] p1) (nm mn) apos) args [] pos) AB6) f.env) (Gq G f W Z) (Aw X W Z) s:=by
 refine cps fun P1_ k1_=> ?_;obtain⟨Gj,cc,D,ar,vs0,file,tf,Jq⟩:=q;obtain⟨k0,e1,e2,k2,k3,k4,k5,k6,k7,k8,k9,k10,ADo,ADp,n1,n2,n3,ty,V9,top,Hu⟩:=SO;dsimp only at e1 e2 k2 k3 k4 k5 k6 k7 k8 k9 k10;obtain⟨oc,od,osl,k1⟩:=KX k0;obtain⟨ccl,cdd,ccs,k4⟩:=KX k4;obtain⟨clv,cld,csl,k7⟩:=KX k7;rw [<-es]at n1 n2 n3;obtain⟨o,h1,h2⟩:=dJ (Bm (eR▸ne));rw [h2]at eR;refine AR h1 fun o' ACG h1=> ?_;refine AR h1 fun i hr h1=> ?_;obtain⟨⟨d,fs⟩,hf,h1⟩:=yv.mp h1;obtain⟨hd,rfl⟩:=lF h1;refine k1_ ?_;cases(show d=c from hd);cases Hi hr;refine cps fun P2_ k2_=> ?_;have hf:=Oo hf;obtain⟨v,hv1,hv2⟩:=I.lr N.self _ ACG;obtain⟨rfl,hil⟩:=I.lt hv2;obtain⟨dx,es',n,H,_,_,_,F⟩:=I.J8 hil hf;refine k2_ ?_;have henv:f.env=ksEnv f.cn f.cs f.L f.ca (.ref Gj) cc:=by unfold Fx.env;rw [ed,el,e1,e2]
 refine ks_wpAt_Expr_any ?_ hi (Gw rfl);rw [arm_eval_Call,DJ _ _ _ hs];refine _root_.PySem.wpAt_bind ?_;rw [henv];refine ks_node I.fr O.X I.nw O.T k1 k2 (by rw [k3];exact hv1) H k4 k5 k6 k7 k8 k9 ADo Hu n1 n2 (by rw [k3];exact n3) O.fn top lE fun so h' F' N' lt=> ?_;have I1:=I.freeze (tk:=s.toks) F' N' lt;rw [<-henv];refine yn (v5 (wa ?_));show wpAny (mo G) A (methodCall (.Call (.Name "super" p0) [] [] p1) (nm mn) apos pos f.env (.ref so) (args.length+0) (EK (evalEach args f.env)) []) _ _ _;unfold methodCall;rw [KN rfl (xI (show args.length+0<28 from h30)),KO hl];refine cps fun P3_ k3_=> ?_;obtain⟨dx1,es1,n1',H1,_,_,_,F1⟩:=I1.J8 hil hf;refine k3_ ?_;refine v5 (wJ (ks_method I1.fr O.X I1.nw (wH _ (wO _ (.head _))) H1 ADp k10 ty Hu fun q h'' F'' N'' lt'=> v5 (v8 ?_)));have I2:=I1.freeze (tk:=s.toks+1) F'' N'' lt';have le2:W.le ((W.Bw [(so,ks_superObj D (W.r i) c)]).Bw [(q,methodObj (.ref g) (.ref (W.r i)))]):=(W.CN _).trans (Wd.CN _ _);have mq:(q,methodObj (.ref g) (.ref (W.r i)))∈((W.Bw [(so,ks_superObj D (W.r i) c)]).Bw [(q,methodObj (.ref g) (.ref (W.r i)))]).fz:=wO _ (.head _);generalize((W.Bw [(so,ks_superObj D (W.r i) c)]).Bw [(q,methodObj (.ref g) (.ref (W.r i)))])=W2 at I2 le2 mq;refine yV (P:=MethP G.K q g (.ref (W.r i))) (by rw [plain_any];rfl) (keeps_M V9) (EM ?_);have eR:((eas ⟨l,hp⟩).bind fun vs s=> ((cf g (.ref i::vs) [] s.hp).bind s.loc fun v s=> Out.ok v s).bind fun _ s=> Out.ok Flow.next s)=Z:=by rw [<-eR];exact(bind_assoc _ _ _).symm
 refine Ed eR le2 (fun z=> ha W2 l hp M ow m _ _ rfl I2 z) ne fun as σ V L ow' m' vs s' eR h3 h4 I3 hvs ne=> ?_;have R3:AQ G.B V (.ref i::as) (.ref (W.r i)::vs):=⟨hv2.mono h3,hvs⟩;have gq:s'.heap.get? q=some (methodObj (.ref g) (.ref (W.r i))):=(I3.nw _ (wH _ (h4.fz _ mq))).1;refine⟨⟨gq,I3.X O⟩,?_⟩;show wpAny (mo G) A (call (.ref q) ([]++vs) []) _ _ s';refine xv (ks_codeAny_call_bound gq ?_);refine CO g (.ref i::as) (.ref (W.r i)::vs) [] [] V _ _ _ _ _ _ _ I3 R3 trivial (fun z=> ne (by rw [<-eR,z];rfl)) (fun v s'' hc=> ?_) fun e s'' hx=> ?_
 . refine cps fun P4_ k4_=> ?_;obtain⟨b,hp',W',M',ow'',q1,q2,q3,q4⟩:=hc;refine k4_ ?_;exact q3.F (a:=.next) (by rw [<-eR,q1];rfl) (h3.trans q2) trivial
 . exact eR▸(hx.le h3).bind
end
theorem lH{d:Data}{fd:w8}(h:Ld d=some fd):d= .func fd:=by
 cases d with
 |func _=> cases h;rfl
 |_=> exact GC h
theorem WA{d:Data}{vs:Array R5}(h:Le d=some vs):d= .fields vs:=by
 cases d with
 |fields _=> cases h;rfl
 |_=> exact GC h
theorem Pt{v:R5}{a:Nat}(h:Jr v=some a):v= .ref a:=by
 cases v with
 |ref _=> cases h;rfl
 |_=> exact GC h
theorem lI{d:Data}{v:R5}(h:SY d=some v):d= .cell (some v):=by
 cases d with
 |cell _=> cases(show _=some v from h);rfl
 |_=> exact GC h
theorem WB{v:R5}{p:vz×Tok}(h:Lf v=some p):v= .str p.1 p.2:=by
 cases v with
 |str _ _=> cases h;rfl
 |_=> exact GC h
theorem lJ{l:List (vz×Addr)}{a:Addr}(h:Sa l=some a):l=[(("__class__":vz),a)]:=by
 cases l with
 |nil=> exact GC h
 |cons p r=> obtain⟨h1,h2⟩:=KU (show Gh (Cd p.1.cps.toList SX&&r.isEmpty) (some p.2)=some a from h);have h1:=wD.mp h1;cases h2;cases xR.mp h1.2;rw [<-show p.1=("__class__":vz)from(str_of_list (Ht h1.1)).trans (by decide+kernel)]
theorem lK{c:CS}{q:Nat×Nat×List CE}(h:Lg c=some q):c= .expr (.sup q.1 q.2.1 q.2.2):=by
 cases c with
 |expr e=> cases e with
  |sup g c as=> cases h;rfl
  |_=> exact cNS h
 |_=> exact cNS h
theorem lL{o:Option (Nat×Nat)}{g c:Nat}(h:Sd o g c=true):o=some (g,c):=by
 cases o with
 |none=> exact cFT h
 |some p=> exact AS h fun h1 h2=> by rw [<-wy h1,<-wy h2]
theorem lM{G:Gx}{a:Nat}{fd:w8}{p:Nat×Nat}(hf:Dy G.K a=some (.func fd))(h:Sb G.prog G.K fd=some p):∃q,V8 G a fd q p.1 p.2 N.K7:=by refine AR h fun q hq h=> ?_;refine AR h fun g hg h=> ?_;obtain⟨h1,h2⟩:=KU h;cases h2;refine AR hq fun Gj ADq hq=> ?_;refine AR hq fun cc BC hq=> ?_;refine AR hq fun ar har hq=> ?_;refine AR hq fun vs hvs hq=> ?_;refine AR hvs fun dt hdt hvs=> ?_;cases WA hvs;refine AR hq fun ft hft hq=> ?_;refine AR hft fun fv hfv hft=> ?_;cases WB hft;refine AR hq fun D hD hq=> ?_;refine AR hD fun cv hcv hD=> ?_;cases Pt hD;refine AR hcv fun ct hct hcv=> ?_;cases lI hcv;obtain⟨Jq,ADr,rfl⟩:=wK.mp hq;obtain⟨b1,h1⟩:=BX h1;obtain⟨b2,h1⟩:=BX h1;obtain⟨b3,h1⟩:=BX h1;obtain⟨b4,h1⟩:=BX h1;obtain⟨b5,h1⟩:=BX h1;obtain⟨b6,h1⟩:=BX h1;obtain⟨b7,h1⟩:=BX h1;obtain⟨b8,h1⟩:=BX h1;obtain⟨b9,h1⟩:=BX h1;obtain⟨b10,h1⟩:=BX h1;obtain⟨b11,h1⟩:=BX h1;exact⟨_,hf,Pt ADq,lJ BC,har,Vk b1,hdt,hfv,b2,hct,ADr,eq_of_beq b3,eq_of_beq b4,eq_of_beq b5,eq_of_beq b6,eq_of_beq b7,eq_of_beq b8,eq_of_beq b9,eq_of_beq b10,b11,Bool.not_eq_true' _▸(BX h1).1,by decide+kernel⟩
section
variable{G:Gx}{f:Fx}{A:v7}{X:XP}{P:Prog}{gl:vz->Option (Option R5)}{exC:Nat->Bool}{fu:Nat}
theorem WC(C:CH G P)(S:Ef G P)(O:AN G f){cf:Nat->List AV->List (N×AV)->Hp->COut}:∀{fs:List (N×N)} {ts:List PS} {md:Nat},DF f.cs gl exC (DB fs) md ts=true->Av G f A X (execs (Ce (DB fs) ts) f.env) (AU P fu cf (DB fs))
 | [],_,_,_=> MN
 |p::fs,ts,md,h=> AS h fun h1 h2=> AS h1 fun h3 h4=> AS h4 fun h4 _=> Uk (KH rfl rfl (Im O.fn (C2 h4) (GF h4)) (Ui C S O (Im O.fn (C2 h3) (GF h3)))) (WC C S O h2)
theorem WD{sc:xC}:∀{fs:List (N×N)} {ts:List PS} {md:Nat},DF sc gl exC (DB fs) md ts=true->Ma sc fs (Ce (DB fs) ts)
 | [],_,_,_=> rfl
 |p::fs,ts,md,h=> AS h fun h1 h2=> AS h1 fun h3 h4=> AS h4 fun h4 _=>
  ⟨_,_,_,_,_,rfl,C2 (f:=⟨"",sc,0,0,.none,default,[],callerA,[]⟩) h3,GF (f:=⟨"",sc,0,0,.none,default,[],callerA,[]⟩) h3,C2 (f:=⟨"",sc,0,0,.none,default,[],callerA,[]⟩) h4,GF (f:=⟨"",sc,0,0,.none,default,[],callerA,[]⟩) h4,WD h2⟩
structure FnAt(G:Gx)(gl:vz->Option (Option R5))(exC:Nat->Bool)(md:Nat)(a:Nat)(fn:Fn)(fd:w8)(ts:List PS):Prop where
 func:Dy G.K a=some (.func fd)
 shape:FnShape G a fn fd.qualname fd.scope (Ea fn.body ts) fd.code fd.closure
 ok:Lh G.prog G.K gl exC md fd fn.body ts=true
structure G4(G:Gx)(P:Prog)(gl:vz->Option (Option R5))(exC:Nat->Bool):Prop where
 C:CH G P
 S:Ef G P
 MK:JA G P
 IS:Pb G P
 EO:G0 G P
 XH:KW G P exC
 DN:∀y r,gl y=some r->nsIn G.K mainGlobals y=some r
 fns:∀a fn,P.fns a=some fn->∃fd ts,FnAt G gl exC 0 a fn fd ts
theorem inter{f:Fx}(h:f.cs.kind= .function):interactive f.env=false:=by unfold interactive;show(f.cs.kind==.module&&_)=false;rw [h];rfl
theorem Px{d a:Nat}{as:List AV}{ks:List (N×AV)}{h:Hp}(ne:AB P fu d a as ks h≠ .bad):(P.fns a).isSome=true:=by
 cases d with
 |zero=> exact absurd rfl ne
 |succ d=> obtain⟨fn,e,_⟩:=Hs (Z:=AB P fu (d+1) a as ks h) rfl ne;rw [e];rfl
theorem WE{G:Gx}{gl:vz->Option (Option R5)}{exC:Nat->Bool}{md:Nat}{fd:w8}{ts:List PS}:∀{fs:List (N×N)},Lh G.prog G.K gl exC md fd (DB fs) ts=true->Ea (DB fs) ts=Ce (DB fs) ts/\DF fd.scope gl exC (DB fs) md ts=true
 | []=>@fun _=> ⟨rfl,rfl⟩
 |_::_=>@fun h=> ⟨rfl,h⟩
theorem Py(H:G4 G P gl exC):MY G P:=by intro c cl fi fs fn hc he hi hf;obtain⟨fd,ts,F⟩:=H.fns fi fn hf;refine⟨_,_,_,_,_,F.shape,fun f' A' X' e1 e2 O HA=> ?_⟩;obtain⟨_,_,fn',_,g1,g2,gr⟩:=H.MK.BH c cl fi fs hc he hi;cases hf.symm.trans g1;have q:=F.ok;rw [g2]at q⊢;obtain⟨q1,q2⟩:=WE q;rw [q1];exact WC H.C H.S O (e1▸q2)
theorem WG(H:G4 G P gl exC){cf:Nat->List AV->List (N×AV)->Hp->COut}{fn:Fn}{fd:w8}{ts:List PS}{f':Fx}{md:Nat}(F:FnAt G gl exC md f'.ca fn fd ts)(ed:f'.cd=fd.code)(es:f'.cs=fd.scope)(el:f'.cl=fd.closure)
 (O:AN G f') (CE:Gz G f' f'.A0 (XA G f') P cf) (top:md=1->f'.g=G.B/\Gz G f' f'.A0 (XL G f') P cf) {W l hp M ow m s} (I:Inv G f' W l hp M ow m s) {Z:Out Flow} (eR:AU P fu cf fn.body ⟨l,hp⟩=Z) (ne:Z≠ .bad):
 PySem.wpAt (mo G) f'.A0 (.func (Ea fn.body ts) f'.env) (execs (Ea fn.body ts) f'.env) (Gq G f' W Z) (Aw (XA G f') W Z) s:=by
 have H':Bh G f' f'.A0 (XA G f') P cf gl:=⟨O,CE,H.IS,H.DN⟩;have hi:=inter O.fn;have sem:=fun cs ts=> G3 (fu:=fu) H.S H.EO H.XH hi cs ts H' j7 (md:=md) ⟨fun _=> kD O,fun e=> ⟨rfl,(top e).1,O,(top e).2,H.IS,H.DN⟩⟩;have ok:=F.ok;generalize fn.body=cs at ok eR⊢;cases cs with
 |nil=> exact yn (MN W l hp M ow m s Z eR I ne)
 |cons c r=>
  unfold Lh Ea at *;dsimp only at ok⊢;cases hc:Lg c with
  |none=> rw [hc]at ok;dsimp only at ok⊢;exact yn (sem (c::r) ts (es▸ok) W l hp M ow m s Z eR I ne)
  |some q=>
   rw [hc]at ok;cases lK hc;dsimp only at ok⊢;refine AS ok fun h1 ok=> AS ok fun h2 ok=> AS ok fun h3 ok=> AS ok fun h4 ok=> AS ok fun h5 h6=> ?_;obtain⟨sd,SO⟩:=lM F.func (lL h1);refine ks_wpAt_execs_cons (zW (lG O CE.Pj SO ed es el h3 h4 (yh (wA h5)) hi (DO H' q.2.2 _ 1 (es▸h2)).L I rfl (Bm (eR▸ne))) (fun v s'' hq=> ?_) fun e s'' hx=> eR▸hx.bind);obtain⟨a0,σ,V,L,ow',m'',z1,z2,z3,z4⟩:=hq;replace eR:=(Bp z1).symm.trans eR;cases a0<;>cases v<;>first |exact z4.elim |skip
   . exact yn (J7 z2 (sem r ts.tail (es▸h6) V _ _ _ _ _ _ Z eR z3 ne))
   . exact z3.F eR z2 trivial
   . exact z3.F eR z2 trivial
   . exact z3.F eR z2 z4
theorem lN{r:Out Flow}{x:AV}{σ:St}(h:r= .exc x σ):Dw r= .exc x σ.hp:=by rw [h];rfl
theorem WH{X:Fx->XP}(hX:∀(f:Fx) {g:Heap} {m W l x hp e s},AN G f->Fr f.g f.L g m->Ct G.B W l m->Arr G (f.env::f.outer) g W x hp e s->X f W x l hp e s)(H:G4 G P gl exC){d:Nat}
 (ih:∀(f:Fx) (A:v7),AN G f->EG f (d+2) A->C0 G f A (XA G f) P (AB P fu d)) (f:Fx) (A:v7) (O:AN G f) (HA:EG f (d+3) A):C0 G f A (X f) P (AB P fu (d+1)):=fun a as vs ks kv W l hp M ow m s R I Rv Kv ne ret exc=> by
 obtain⟨fn,hf,eR⟩:=Hs (Z:=AB P fu (d+1) a as ks hp) rfl ne;obtain⟨loc,he,eR⟩:=Hs eR ne;rw [<-eR]at ne ret exc;obtain⟨fd,ts,F⟩:=H.fns a fn hf;refine Ug (d:=d+2) (X':=fun f'=> XA G f') F.shape O HA I Rv Kv he (fun f' m' s' e0 e1 e2 e3 ea eb O' HA' I'=> ?_) ret fun f' e s' e1 e0 Fg O' h=> ?_
 . subst ea;have hA:A.deeper f'.env=f'.A0:=by unfold Fx.A0;rw [e0]
   rw [hA]at HA'⊢;exact WG H F eb e1 e3 O' ⟨H.C,H.MK,Py H,⟨d+1,HA',fun A' h=> ih f' A' O' h⟩,fun a as ks h=> Px⟩ nofun I' rfl fun z=> ne (by rw [z];rfl)
 . obtain⟨x,σ,W',h1,h2,h3⟩:=h;have hA:A.deeper f'.env=f'.A0:=by unfold Fx.A0;rw [e0]
   rw [hA];refine wL h3 (fun _ s'' h4=> exc e s'' ?_) fun _ _ z=> z.elim;exact⟨x,⟨l,σ.hp⟩,W',by rw [lN h1];rfl,h2,hX f O Fg (I.lr.mono h2) (e1▸h4)⟩
theorem main(H:G4 G P gl exC):∀d (f:Fx) (A:v7),AN G f->EG f (d+2) A->C0 G f A (XA G f) P (AB P fu d)
 |0=>@fun f A O HA=> fun a as vs ks kv W l hp M ow m s R I Rv Kv ne ret exc=> absurd rfl ne
 |d+1=>@fun f A O HA=> WH (X:=XA G) (fun f=> fun O Fg _ h=> j6 O Fg h) H (fun f A O h=> main H d f A O h) f A O HA
theorem lO(H:G4 G P gl exC):∀d (f:Fx) (A:v7),AN G f->EG f (d+2) A->C0 G f A (XL G f) P (AB P fu d)
 |0=>@fun f A O HA=> fun a as vs ks kv W l hp M ow m s R I Rv Kv ne ret exc=> absurd rfl ne
 |d+1=>@fun f A O HA=> WH (X:=XL G) (fun f=> fun O Fg Lr h=> kF O Fg Lr h) H (fun f A O h=> main H d f A O h) f A O HA
end
section
variable{G:Gx}{P:Prog}{gl:vz->Option (Option R5)}{exC:Nat->Bool}{fu:Nat}
def DP:Hp:=⟨[],[]⟩
def W0:Wd:=⟨fun _=> 0,DP.lv,[]⟩
theorem lP(i:Nat):¬DP.lv i:=by unfold Hp.lv;cases i % 2<;>exact zP _
theorem lQ{B:Heap}{W:Wd}{vs:List R5}{ns:List Int}(h:IntsAre vs ns):AQ B W (ns.map AV.int) vs:=by
 induction h with
 |nil=> trivial
 |cons _ t _ ih=> exact⟨⟨t,rfl⟩,ih⟩
theorem lR{r:Out Flow}{c:Flow}{σ:St}{h:Hp}(h1:r= .ok c σ)(hr:Dw r= .ok (.bool true) h):c= .ret (.bool true):=by
 subst h1;cases c<;>cases hr
 rfl
def Pz(P:Prog)(fu d:Nat)(fn:Fn)(as:List AV):COut:=E7 (EW fn as []) fun loc=> Dw (AU P fu (AB P fu d) fn.body ⟨loc,DP⟩)
theorem enter(H:G4 G P gl exC){a:Nat}{fn:Fn}{fd:w8}{ts:List PS}(F:FnAt G gl exC 1 a fn fd ts){s:vy}(hB:G.B=s.heap)(X:G.K.In s.heap)(T:Top G.p G.loose G.TU G.mg G.mb s.heap)(hg:s.gens= #[])(hos:s.os=G.os)
 {l:Addr} {vs:List R5} {k:Nat} (hl:s.heap.get? l=some (listOf vs.toArray k)) {ns:List Int} (hv:IntsAre vs ns) (hn:ns.length<=lim) {d:Nat} (hd:d<=100) {h':Hp} (hr:Pz P fu d fn [.Ah (ns.map .int)]= .ok (.bool true) h'):
 wpAny (mo G) callerA (call (.ref a) [.ref l]) (fun v s'=> v= .bool true/\(∀b o,s.heap.get? b=some o->s'.heap.get? b=some o)/\s'.gens= #[]/\s'.os=s.os) (fun _ _=> False) s:=by
 obtain⟨loc,he,hr⟩:=Hs hr nofun;have S:=F.shape;have R0:AQ G.B W0 [.Ah (ns.map .int)] [.ref l]:=⟨⟨⟨l,vs,k,rfl,.inr (hB▸hl),lQ hv⟩,(wo (f:=AV.int) (as:=ns)).symm▸hn⟩,trivial⟩;obtain⟨name,params,dV,kV,doc,pm,ct,oc,an,od,osl,binds,ho,hb,ABX,hL⟩:=S.binds X R0 (ks:=[]) (kv:=[]) trivial he;refine xv (ks_codeAny_call_defAt (fd:=fnX name fd.qualname params (Ea fn.body ts) fd.scope fd.closure dV kV doc pm an fd.code ct) (body:=Ea fn.body ts) (binds:=binds) (by decide) ho rfl T.nolimit (codeRec_of X S.code) rfl hb S.cell ABX (fun h₁ hns hk₁=> ?_) S.co S.gen S.kind);let f':Fx:=⟨fd.qualname,fd.scope,s.heap.objs.size,a,fd.code,s.heap,[],callerA,fd.closure⟩;have O':AN G f':=⟨⟨rfl,fun b o e=> show s.heap.get? b=some o from hB▸e,trivial⟩,X,T,S.kind⟩;have HA':Bc f' (d+2) f'.A0:=⟨yz rfl,rfl,by show 1+300+1+3 * (d+2)+10<1000;lia,by show 4+3+30 * (d+2)+200<9900;lia⟩;have I':Inv G f' W0 loc DP [] (fun _=> 0) _ {s with heap:=h₁,toks:=s.toks+binds.length}:=
  ⟨⟨hns,hk₁,wW _⟩,fun p hp=> (by cases hp),⟨rfl,List.nodup_nil,fun p hp=> (by cases hp),fun i hi=> absurd hi (lP i)⟩,hL,hg,hos⟩
 refine zW (WG (fu:=fu) (cf:=AB P fu d) (f':=f') H F rfl rfl rfl O' ⟨H.C,H.MK,Py H,⟨d+1,HA',fun A' h=> main H d f' A' O' h⟩,fun a as ks h=> Px⟩ (fun _=> ⟨hB.symm,H.C,H.MK,Py H,⟨d+1,HA',fun A' h=> lO H d f' A' O' h⟩,fun a as ks h=> Px⟩) I' rfl fun z=> by rw [z]at hr;cases hr) (fun fl s' hq=> ?_) fun e s' hx=> ?_
 . obtain⟨c,σ,W',M',ow',m',h1,h2,h3,h4⟩:=hq;cases lR h1 hr;cases fl<;>first |exact h4.elim |exact⟨h4,h3.fr.keep,h3.gn,h3.os.trans hos.symm⟩
 . obtain⟨x,σ,W',h1,_⟩:=hx;rw [h1]at hr;cases hr
end
section
theorem WI{α:Type}{x:N}{v:α}:∀{l:List (N×α)},look x l=some v->(x,v)∈l
 |(y,w)::r,h=> by
  unfold look at h;by_cases e:y=x
  . rw [if_pos e]at h;cases h;subst e;exact .head _
  . rw [if_neg e]at h;exact .tail _ (WI h)
theorem WJ{B:Heap}{v:AV}{u:R5}(h:IZ u=some v)(W:Wd):AG B W v u:=by
 cases u with
 |str x t=> obtain⟨h1,h2⟩:=KU h;cases h2;exact⟨⟨_,rfl⟩,Vm h1⟩
 |int j t=> cases h;exact⟨_,rfl⟩
 |none=> cases h;rfl
 |bool b=> cases h;rfl
 |_=> exact GC h
theorem P0{B:Heap}:∀{us:List R5} {vs:List AV},Jt us=some vs->∀W,AQ B W vs us
 | [],_,h,_=> by cases h;trivial
 |u::r,_,h,W=> by refine AR (show((IZ u).bind fun v=> (Jt r).map (v::·))=some _ from h) fun v h1 h2=> ?_;obtain⟨vs,h3,rfl⟩:=wK.mp h2;exact⟨WJ h1 W,P0 h3 W⟩
theorem WK{a b:AV}(h:OS a b=true):a=b:=by
 cases a with
 |str s=> cases b with
  |str t=> rw [Ht h]
  |_=> cases h
 |int i=> cases b with
  |int j=> rw [of_decide_eq_true h]
  |_=> cases h
 |none=> cases b with
  |none=> rfl
  |_=> cases h
 |bool x=> cases b with
  |bool y=> rw [eq_of_beq h]
  |_=> cases h
 |_=> cases h
theorem lS{o:Obj}{vs:List R5}(h:isTup o=some vs):∃k,o=F7 vs k:=by
 obtain⟨c,d,dat,sl⟩:=o;cases dat with
 |seq us k=>
  obtain⟨h1,h2⟩:=KU (show Gh (c==.type "tuple"&&d.isNone&&sl.isEmpty) (some us.toList)=some vs from h);cases h2;have h1:=wD.mp h1;have h3:=wD.mp h1.1;rw [eq_of_beq h3.1];have e1:d=none:=by cases d with
   |none=> rfl
   |some _=> cases h3.2
  have e2:sl= #[]:=Array.isEmpty_iff.mp h1.2;rw [e1,e2];exact⟨k,rfl⟩
 |_=> exact GC h
theorem JF:∀{l:List Bool},allB l=true->∀i,l.getD i true=true
 | [],_,i=> by cases i<;>rfl
 |b::r,h,0=> (BX h).1
 |b::r,h,i+1=> JF (l:=r) (BX h).2 i
variable{G:Gx}{gl:vz->Option (Option R5)}{exC:Nat->Bool}{fnl:List (Nat×Fn)}{Al:List (Nat×Cl)}{BP:List Nat}
theorem WL:∀{as:List Arg} {ps:List N},OW as ps=true->as.map (·.arg)=ps.map nm
 | [],ps,h=> by rw [xR.mp h];rfl
 |a::r,[],h=> cFT h
 |a::r,n::t,h=> AS h fun h1 h2=> by show a.arg::r.map (·.arg)=nm n::_;rw [Vk h1,WL h2]
theorem WM:∀{a b:List (N×AV)},OX a b=true->a=b
 | [],b,h=> (xR.mp h).symm
 |p::r,[],h=> cFT h
 |(n,v)::r,(m,w)::t,h=> AS h fun h1 h=> AS h fun h2 h3=> by rw [show n=m from wy h1,show v=w from WK h2,WM h3]
theorem lT{o:Option (List (N×AV))}{b:List (N×AV)}(h:Sk o b=true):o=some b:=by
 cases o with
 |none=> exact cFT h
 |some d=> rw [WM h]
theorem lU{ps:List N}(h:ps.Nodup):(ps.map nm).Nodup:=by
 induction ps with
 |nil=> exact List.nodup_nil
 |cons p r ih=> rw [xU]at h;rw [wj,xU];refine⟨fun hm=> ?_,ih h.2⟩;obtain⟨q,hq,e⟩:=wu.mp hm;exact h.1 (IT e▸hq)
theorem WN{α:Type}{o:Option α}(h:o.isNone=true):o=none:=by cases o<;>first |rfl |cases h
theorem lV:∀{us:List R5} {vs:List AV},Jt us=some vs->us.length=vs.length
 |us,vs,h=> (P0 (B:=default) h W0).length.symm
theorem lW{ps:List N}{dV:R5}{Ay:List (N×AV)}(h:Sj G.K ps dV=some Ay):
 ∃dv,((dV= .none/\dv=[])∨∃T k,dV= .ref T/\G.K.lookup T=some (F7 dv k))/\(∀W,AQ G.B W (Ay.map (·.2)) dv)/\Ay.map (fun p=> nm p.1)=(ps.map nm).drop (ps.length - dv.length)/\dv.length<=ps.length:=by
 cases dV with
 |none=> cases h;exact⟨[],.inl ⟨rfl,rfl⟩,fun _=> trivial,(xa (w5 (wo ..))).symm,wN _⟩
 |ref T=>
  refine AR h fun o h1 h=> ?_;refine AR h fun us h2 h=> ?_;refine AR h fun vs h3 h=> ?_;obtain⟨h4,h5⟩:=KU h;cases h5;have h4:=wA h4;obtain⟨k,rfl⟩:=lS h2;have hl:=lV h3;have hz:(ps.drop (ps.length - vs.length)).length=vs.length:=by rw [xn];exact Nat.sub_sub_self h4
  refine⟨us,.inr ⟨T,k,rfl,h1⟩,fun W=> ?_,?_,hl▸h4⟩
  . rw [List.map_snd_zip (w5 hz.symm)];exact P0 h3 W
  . rw [show(fun p:N×AV=> nm p.1)=nm∘Prod.fst from rfl,<-yp,List.map_fst_zip (w5 hz),<-List.map_drop,hl]
 |_=> exact GC h
theorem lX{K:Frag}{cd:R5}{q:vz}(h:codeB K cd q=true):codeIn K cd q=true:=by
 unfold codeB at h;cases hq:((Jr cd).bind fun c=> (Dy K c).bind Le).bind fun vs=> (vs.toList[1]?).bind Lf with
 |none=> rw [hq]at h;exact cFT h
 |some p=>
 obtain⟨n,tk⟩:=p;rw [hq]at h;refine AR hq fun vs e e2=> ?_;refine AR e fun c e1 e=> ?_;refine AR e fun d e e3=> ?_;refine AR e2 fun v e2 e4=> ?_;cases Pt e1;cases WA e3;cases WB e4;obtain⟨oc,od,osl,k⟩:=KX e;unfold codeIn;dsimp only;rw [k];dsimp only
 match hl:vs.toList,e2 with
 | [],e2=> exact cNS e2
 | [_],e2=> exact cNS e2
 |_::w::r,e2=> cases ZX e2;exact beq_iff_eq.mpr ((str_of_list (Ht h)).trans (str_of_list rfl).symm)
inductive lY(G:Gx)(gl:vz->Option (Option R5))(exC:Nat->Bool)(md:Nat)(a:Nat)(fn:Fn)(ts:List PS):Prop
 |mk (fd:w8) (h:FnAt G gl exC md a fn fd ts)
theorem P1{md a:Nat}{fn:Fn}{ts:List PS}(h:HY G.prog G.K gl exC md a fn ts=true)(hb:Jw G.K a=some (Ea fn.body ts)):lY G gl exC md a fn ts:=by
 refine AS h fun _ h=> ?_;unfold Jw at hb;cases hf:(Dy G.K a).bind Ld with
 |none=> rw [hf]at h;exact cFT h
 |some fd=>
  rw [hf]at h hb;refine AR hf fun da hd hda=> ?_;cases lH hda;clear hda hf;have q:=JF h;clear h;obtain⟨oc,od,osl,hl⟩:=KX hd;obtain⟨name,qual,params,fb,scope,glb,cl,dV,kV,doc,pm,anA,cdv,ct,blt⟩:=fd;cases fb with
  |stmts body=> cases hb;cases wy (q 0);cases wy (q 1);obtain⟨dv,k1,k2,k3,k4⟩:=lW (G:=G) (lT (q 14));exact⟨_,hd,⟨⟨name,params,dV,kV,doc,pm,ct,oc,_,od,osl,dv,hl,xR.mp (q 2),WL (q 3),WN (q 4),xR.mp (q 5),WN (q 6),k1,k2,k3,k4⟩,lX (q 7),lU (of_decide_eq_true (q 8)),fun p hp=> Me scope.names▸Vn (wi.mp (q 9) p hp),GD (q 10),GD (q 11),eq_of_beq (q 12),fun x hx=> bne_iff_ne.mp (wi.mp (q 13) x hx)⟩,q 15⟩
  |_=> exact cNS hb
theorem lZ{c:CS}{s x q:N}(h:Lk c=some (s,x,q)):c= .asg (.AD (.var s) x) (.var q):=by
 cases c with
 |asg g e=> cases g with
  |AD o x=> cases o with
   |var s=> cases e with
    |var q=> cases h;rfl
    |_=> exact cNS h
   |_=> exact cNS h
  |_=> exact cNS h
 |_=> exact cNS h
theorem la{c:CS}{p:N×N}(h:Si (Lk c) p=true):c= .asg (.AD (.var N.self) p.1) (.var p.2):=by
 cases hq:Lk c with
 |none=> rw [hq]at h;exact cFT h
 |some t=> rw [hq]at h;obtain⟨s,x,q⟩:=t;rw [lZ hq];exact AS h fun h1 h=> AS h fun h2 h3=> by rw [show s=N.self from wy h1,show x=p.1 from wy h2,show q=p.2 from wy h3]
theorem WO:∀{fs:List (N×N)} {b:List CS},OV fs b=true->b=DB fs
 | [],b,h=> xR.mp h
 |p::fs,[],h=> cFT h
 |p::fs,c::r,h=> AS h fun h1 h2=> by rw [la h1,WO h2];rfl
theorem WQ{P:Prog}{c:Nat}{cl:Cl}{fi:Nat}{fs:List (N×N)}(h:Jv P (c,cl)=true)(hi:cl.init= .BH fi fs):
 ∃fn ps,P.fns fi=some fn/\fn.body=DB fs/\fn.ps= .self::ps/\(∀p∈fs,cl.fields.contains p.1=true)/\(fs.map (·.1)).Nodup/\fs.length<100/\(∀p∈fs,p.2≠ .self)/\(cl.exc=true->fs≠[]):=by
 unfold Jv at h;dsimp only at h;rw [hi]at h;dsimp only at h;cases hf:P.fns fi with
 |none=> rw [hf]at h;cases h
 |some fn=>
  rw [hf]at h;obtain⟨k1,h⟩:=BX h;obtain⟨k2,h⟩:=BX h;obtain⟨k3,h⟩:=BX h;obtain⟨k4,h⟩:=BX h;obtain⟨k5,h⟩:=BX h;obtain⟨k6,h⟩:=BX h;have k7:=(BX h).1;have hp:∃ps,fn.ps= .self::ps:=by
   cases hps:fn.ps with
   |nil=> rw [hps]at k5;cases k5
   |cons x r=> rw [hps]at k5;exact⟨r,by rw [wy k5]⟩
  obtain⟨ps,hps⟩:=hp;exact⟨fn,ps,rfl,WO k6,hps,fun p hp=> wi.mp k1 p hp,of_decide_eq_true k2,yh (wA k3),(fun p hp z=> by have:=wi.mp k4 p hp;rw [z]at this;cases this),fun z1 z2=> by subst z2;rw [z1]at k7;cases k7⟩
inductive lg(Al:List (Nat×Cl))(b:Nat):Prop
 |mk (cl:Cl) (h:Cj Al b=some cl) (he:cl.exc=true)
theorem lh{Al:List (Nat×Cl)}{b:Nat}(h:Fy Al b=true):lg Al b:=by
 unfold Fy at h;cases hq:Cj Al b with
 |none=> rw [hq]at h;exact cFT h
 |some cl=> rw [hq]at h;exact⟨cl,hq,h⟩
theorem lj{c:Nat}{cl:Cl}(h:Ib G.K (c,cl)=true)(he:cl.exc=false):∀i,(Sh G.K (c,cl)).getD i true=true:=by unfold Ib at h;rw [he]at h;exact JF h
theorem ll{c:Nat}{cl:Cl}(h:Ib G.K (c,cl)=true)(he:cl.exc=true):∀i,(Sg G.K (c,cl)).getD i true=true:=by unfold Ib at h;rw [he]at h;exact JF h
theorem WR{c fi:Nat}{cl:Cl}{fs:List (N×N)}(h:Ia G.K (c,cl)=true)(hi:cl.init= .BH fi fs):Ju G.K c fi=true:=by unfold Ia at h;rw [hi]at h;exact h
theorem lp{c i:Nat}{cl:Cl}(h:Ia G.K (c,cl)=true)(hi:cl.init= .run i):Ju G.K c i=true:=by unfold Ia at h;rw [hi]at h;exact h
theorem P2{c i:Nat}(h:Ju G.K c i=true):findIn G.K (.ref c) "__init__"=some (some (.ref i))/\typeIn G.K (.ref i)=some (.type "function"):=AS h fun h1 h2=> ⟨eq_of_beq h1,eq_of_beq h2⟩
theorem P4{c:Nat}{a:N}(h:Li G.K c a=true):(∃attr,findIn G.K (.ref c) (nm a)=some attr/\noGet G.K attr=true)/\takerIn G.K c (nm a)=some none:=by
 refine AS h fun h1 h2=> ⟨?_,eq_of_beq h2⟩;cases hq:findIn G.K (.ref c) (nm a)with
 |none=> rw [hq]at h1;exact cFT h1
 |some attr=> rw [hq]at h1;exact⟨attr,rfl,h1⟩
theorem lq{B:Heap}{u:R5}{v:AV}(h:OT (IZ u) v=true)(W:Wd):AG B W v u:=by
 cases hc:IZ u with
 |none=> rw [hc]at h;exact cFT h
 |some v'=> rw [hc]at h;rw [<-WK h];exact WJ hc W
theorem lu{c:Nat}{a:N}{v:AV}(h:OU G.K c a v=true):∃u,findIn G.K (.ref c) (nm a)=some (some u)/\specialIn G.K u "__get__"=some none/\copiedNames.contains (nm a)=false/\∀W,AG G.B W v u:=by
 unfold OU at h;cases hq:findIn G.K (.ref c) (nm a)with
 |none=> rw [hq]at h;exact cFT h
 |some o=> cases o with
  |none=> rw [hq]at h;exact cFT h
  |some u=> rw [hq]at h;exact AS h fun h1 h2=> AS h2 fun h2 h3=> ⟨u,rfl,eq_of_beq h2,GD h3,fun W=> lq h1 W⟩
theorem ly{c g:Nat}{a:N}(h:Se G.K c a g=true):findIn G.K (.ref c) (nm a)=some (some (.ref g))/\isFn G.K (.ref g)=true/\keepIn G.K (.ref g)=true:=AS h fun h1 h2=> AS h2 fun h2 h3=> ⟨Pm h1,h2,h3⟩
theorem l0{A8:Nat->List PS}(hf:∀a fn,Cj fnl a=some fn->HY G.prog G.K gl (Fy Al) 0 a fn (A8 a)=true/\Jw G.K a=some (Ea fn.body (A8 a)))(hh:Sl G.K Al BP=true)(hr:Al.all (Jv (progOf fnl Al BP))=true)(DN:∀y r,gl y=some r->nsIn G.K mainGlobals y=some r):G4 G (progOf fnl Al BP) gl (Fy Al):=by
 have hh:=JF hh;have C:∀{c cl},Cj Al c=some cl->Ib G.K (c,cl)=true:=fun e=> wi.mp (hh 0) _ (Js e);have R:∀{c cl},Cj Al c=some cl->Jv (progOf fnl Al BP) (c,cl)=true:=fun e=> wi.mp hr _ (Js e);have D:=fun{c cl} (e:Cj Al c=some cl) he=> lj (C e) he;have DX:=fun{c cl} (e:Cj Al c=some cl) he=> ll (C e) he;have AD:∀{c cl},Cj Al c=some cl->∀{a g},look a cl.attrs=some g->Sf G.K c cl (a,g)=true:=fun{c cl} e {a g} hg=> by
  cases he:cl.exc with
  |true=> rw [xR.mp (DX e he 7)]at hg;exact cNS hg
  |false=> exact wi.mp (D e he 3) _ (WI hg)
 have fld:∀{c cl a},Cj Al c=some cl->cl.fields.contains a=true->Li G.K c a=true:=fun{c cl a} e ha=> by
  refine wi.mp ?_ a (yy.mp ha);cases he:cl.exc with
  |true=> exact DX e he 8
  |false=> exact D e he 2
 have CL:∀{d cl c},Cj Al d=some cl->cl.exc=false->BP.contains c=true->Lj G.K (d,cl) c=true:=fun{d cl c} e he hc=> by have:=wi.mp (hh 1) _ (Js e);dsimp only at this;rw [he,yR]at this;exact wi.mp this _ (yy.mp hc)
 exact⟨⟨fun c cl e he=> D e he 0,fun c cl e he=> ⟨eq_of_beq (DX e he 4),eq_of_beq (DX e he 5),eq_of_beq (DX e he 6),xR.mp (DX e he 7)⟩,fun c cl e=> (by
  cases he:cl.exc with
  |true=> exact DX e he 3
  |false=> exact D e he 1),fun c cl a e ha=> (P4 (fld e ha)).1,fun c cl a v e hv=> AS (AD e hv) fun _ h=> lu h,fun c cl a g e hg=> AS (AD e hg) fun _ h=> ly h,fun c cl a g e hg=> AS (AD e hg) fun h _=> GD h⟩,
  ⟨fun c cl a e he ha=> (P4 (fld e ha)).2,fun c cl e he=> ⟨eq_of_beq (D e he 4),D e he 5⟩⟩,
  ⟨fun a fn e=> AS (hf a fn e).1 fun h _=> h,fun c cl e he=> D e he 6,fun c cl e he=> D e he 7,fun c cl fi fs e he hi=> (by obtain⟨fn,ps,q1,q2,q3,q4,q5,q6,q7,_⟩:=WQ (R e) hi;have z:=P2 (WR (D e he 10) hi);exact⟨z.1,z.2,fn,ps,q1,q2,q3,q4,q5,q6,q7⟩),fun c cl i e he hi=> P2 (lp (D e he 10) hi)⟩,
  ⟨fun d cl c e he hc hm=> (by have z:=CL e he hc;unfold Lj at z;rw [hm]at z;exact z),fun d cl c e he hc hm=> (by have z:=CL e he hc;unfold Lj at z;rw [hm]at z;exact z),fun d cl e he=> ⟨D e he 0,D e he 1,eq_of_beq (D e he 8),eq_of_beq (D e he 9)⟩,eq_of_beq (hh 2),eq_of_beq (hh 3)⟩,
  ⟨fun c cl e he=> ⟨DX e he 0,DX e he 1,eq_of_beq (DX e he 2),DX e he 3⟩,fun c cl e he=> ⟨eq_of_beq (DX e he 9),DX e he 10,eq_of_beq (DX e he 6)⟩,fun c cl b e he hb=> eq_of_beq (wi.mp (DX e he 11) b (yy.mp hb)),fun c cl fi fs e he hi=> (by obtain⟨fn,ps,q1,q2,q3,q4,q5,q6,q7,q8⟩:=WQ (R e) hi;have z:=P2 (WR (DX e he 12) hi);obtain⟨fd,F⟩:=P1 (hf fi fn q1).1 (hf fi fn q1).2;have ok:=F.ok;have sh:=F.shape;rw [q2]at ok sh;obtain⟨g1,g2⟩:=WE ok;rw [g1]at sh;exact⟨z.1,z.2,fn,ps,q1,q3,q8 he,q5,q6,q7,fun p hp=> (P4 (fld e (q4 p hp))).2,_,_,_,_,_,sh,WD g2⟩)⟩,
  fun b hb=> (by
   obtain⟨cl,h1,h2⟩:=lh hb;exact⟨⟨cl,h1,h2⟩,DX h1 h2 13⟩),DN,fun a fn e=> (by
   obtain⟨fd,F⟩:=P1 (hf a fn e).1 (hf a fn e).2;exact⟨fd,_,F⟩)⟩
end
theorem WS{y:vz}:∀es:List wQ,Ic es y.cps.toList=(es.find? (·.key.isStr y)).map (·.val)
 | []=> rfl
 |e::r=> by
  have ih:=WS (y:=y) r;obtain⟨hsh,key,val⟩:=e;cases key with
  |str x t=>
   show(if Cd x.cps.toList y.cps.toList=true then some val else Ic r y.cps.toList)=_;have hk:(yY x t).isStr y=(x==y):=rfl;by_cases h:Cd x.cps.toList y.cps.toList=true
   . have:x=y:=by rw [str_of_list (Ht h)]
     rw [if_pos h,zM];have hk2:(yY x t).isStr y=true:=by rw [hk,this];simp
     show some val=Option.map (·.val) (match(yY x t).isStr y with |true=> some (⟨hsh,.str x t,val⟩:wQ) |false=> r.find? (·.key.isStr y));rw [hk2];rfl
   . have:(x==y)=false:=by
      rw [beq_eq_false_iff_ne];rintro rfl;exact h (Md _)
     rw [if_neg h,zM];have hk2:(yY x t).isStr y=false:=by rw [hk,this]
     show Ic r y.cps.toList=Option.map (·.val) (match(yY x t).isStr y with |true=> some (⟨hsh,.str x t,val⟩:wQ) |false=> r.find? (·.key.isStr y));rw [hk2];exact ih
  |_=> rw [zM];exact ih
set_option tactic.hygienic true in
theorem l4{K:Frag}(h:(K.lookup mainGlobals).any (fun o=> match o.data with | .dict _ _=> true |_=> false)=true):∀y r,Fz (F0 K) y=some r->nsIn K mainGlobals y=some r:=by
 intro y r e;unfold Fz F0 at e;unfold nsIn;cases hk:K.lookup mainGlobals with
 |none=> rw [hk]at h;cases h
 |some o=>
  rw [hk]at h e;obtain⟨oc,od,dat,sl⟩:=o;cases dat<;>first |cases h |skip
  rename_i es ep;dsimp only at e⊢;rw [WS]at e;cases hf:es.toList.find? (·.key.isStr y)with
  |none=> rw [hf]at e;exact e
  |some en=> rw [hf]at e;exact e
section
inductive Key where
 |call (f:Nat) (as:List AV) (ks:List (N×AV)) (h:Hp)
 |cmp (op:COp) (a b:AV)
 |get (o i:AV)
 |Bd (o l u:AV)
 |A6 (h:Hp) (o:AV) (m:N) (as:List AV)
 |bin (op:BOp) (a b:AV)
 |Ao (c:CS) (s:St)
 |A5 (h:Hp) (v:AV)
 |met (h:Hp) (o:AV) (m:N)
 |El (h:Hp) (op:COp) (a b:AV)
 |FQ (h:Hp) (o i:AV)
 |aug (h:Hp) (op:BOp) (a b:AV)
 |GH (h:Hp) (op:BOp) (a b:AV)
 |skip
def Key.V:Key->Type
 | .call .. => COut×Nat
 | .cmp .. => Bool
 | .El .. => Bool
 | .A5 .. => Bool
 | .A6 .. => AV×Hp
 | .aug .. => AV×Hp
 | .Ao .. => Out Flow×Nat
 | .met .. => Option Nat
 | .skip=> Unit
 |_=> AV
section
variable(P:Prog)(fu:Nat)
def Key.Ask:(k:Key)->k.V->Prop
 | .call f as ks h,v=> ∀d,AB P fu (d+v.2) f as ks h=v.1
 | .cmp op a b,c=> ∀h,BK h op a b=some c
 | .get o i,v=> ∀h,Cr h o i=some v
 | .Bd o l u,v=> ∀h,E4 h o l u=some v
 | .A6 h o m as,v=> Bv h o m as=some v
 | .bin op a b,v=> ∀h,binOp h op a b=some v
 | .Ao c s,v=> ∀d,As P fu (AB P fu (d+v.2)) c s=v.1
 | .A5 h v,b=> truthy h v=some b
 | .met h o m,k=> E8 P h o m=some k
 | .El h op a b,c=> BK h op a b=some c
 | .FQ h o i,v=> Cr h o i=some v
 | .aug h op a b,v=> DC h op a b=some v
 | .GH h op a b,v=> binOp h op a b=some v
 | .skip,_=> True
structure Ent where
 key:Key
 v:key.V
 ok:key.Ask P fu v
abbrev Tr:=List (Ent P fu)
structure Rn(α:Type)where
 r:α
 t:Tr P fu
 ps:List (Key×Key)
end
variable{P:Prog}{fu:Nat}{α β:Type}
def Ent.call(f:Nat)(as:List AV)(ks:List (N×AV))(h:Hp)(r:COut)(n:Nat)(ok:∀d,AB P fu (d+n) f as ks h=r):Ent P fu:=⟨.call f as ks h,(r,n),ok⟩
def Ent.cmp(op:COp)(a b:AV)(c:Bool)(ok:∀h,BK h op a b=some c):Ent P fu:=⟨.cmp op a b,c,ok⟩
def Ent.get(o i v:AV)(ok:∀h,Cr h o i=some v):Ent P fu:=⟨.get o i,v,ok⟩
def Ent.Bd(o l u v:AV)(ok:∀h,E4 h o l u=some v):Ent P fu:=⟨.Bd o l u,v,ok⟩
def Ent.A6(h:Hp)(o:AV)(m:N)(as:List AV)(v:AV)(h':Hp)(ok:Bv h o m as=some (v,h')):Ent P fu:=⟨.A6 h o m as,(v,h'),ok⟩
def Ent.bin(op:BOp)(a b v:AV)(ok:∀h,binOp h op a b=some v):Ent P fu:=⟨.bin op a b,v,ok⟩
def Ent.Ao(c:CS)(s:St)(r:Out Flow)(n:Nat)(ok:∀d,As P fu (AB P fu (d+n)) c s=r):Ent P fu:=⟨.Ao c s,(r,n),ok⟩
def Ent.A5(h:Hp)(v:AV)(b:Bool)(ok:truthy h v=some b):Ent P fu:=⟨.A5 h v,b,ok⟩
def Ent.met(h:Hp)(o:AV)(m:N)(k:Option Nat)(ok:E8 P h o m=some k):Ent P fu:=⟨.met h o m,k,ok⟩
def Ent.El(h:Hp)(op:COp)(a b:AV)(c:Bool)(ok:BK h op a b=some c):Ent P fu:=⟨.El h op a b,c,ok⟩
def Ent.FQ(h:Hp)(o i v:AV)(ok:Cr h o i=some v):Ent P fu:=⟨.FQ h o i,v,ok⟩
def Ent.aug(h:Hp)(op:BOp)(a b v:AV)(h':Hp)(ok:DC h op a b=some (v,h')):Ent P fu:=⟨.aug h op a b,(v,h'),ok⟩
def Ent.GH(h:Hp)(op:BOp)(a b v:AV)(ok:binOp h op a b=some v):Ent P fu:=⟨.GH h op a b,v,ok⟩
def Ent.skip:Ent P fu:=⟨.skip,(),trivial⟩
def Rn.fit(R:Rn P fu α):Prop:=∀p∈R.ps,p.1=p.2
def rX(a:α)(t:Tr P fu):Option (Rn P fu α):=some ⟨a,t,[]⟩
def GI(ps:List (Key×Key)):Option (Rn P fu α)->Option (Rn P fu α)
 |none=> none
 |some ⟨r,t,qs⟩=> some ⟨r,t,ps++qs⟩
def tick(q q':Key)(m:Option (Rn P fu α)):Option (Rn P fu α):=GI [(q,q')] m
def bX(m:Option (Rn P fu (Out α)))(f:α->St->Tr P fu->Option (Rn P fu (Out β))):Option (Rn P fu (Out β)):=match m with
 |none=> none
 |some ⟨.ok a s,t,ps⟩=> GI ps (f a s t)
 |some ⟨.exc e s,t,ps⟩=> some ⟨.exc e s,t,ps⟩
 |some ⟨.bad,_,_⟩=> none
def cX(m:Option (Rn P fu COut))(l:List (N×AV))(f:AV->St->Tr P fu->Option (Rn P fu (Out β))):Option (Rn P fu (Out β)):=match m with
 |none=> none
 |some ⟨.ok a h,t,ps⟩=> GI ps (f a ⟨l,h⟩ t)
 |some ⟨.exc e h,t,ps⟩=> some ⟨.exc e ⟨l,h⟩,t,ps⟩
 |some ⟨.bad,_,_⟩=> none
def oX(o:Option α)(f:α->Option (Rn P fu β)):Option (Rn P fu β):=match o with
 |none=> none
 |some a=> f a
def mX(f:α->β):Option (Rn P fu α)->Option (Rn P fu β)
 |none=> none
 |some ⟨r,t,ps⟩=> some ⟨f r,t,ps⟩
def AA(m:Option (Rn P fu α))(o:α):Prop:=∀R,m=some R->R.fit->o=R.r
theorem AA.none(o:α):AA (P:=P) (fu:=fu) none o:=fun _ h=> by cases h
theorem AA.r(a:α)(t:Tr P fu):AA (rX a t) a:=fun _ h _=> by cases h;rfl
theorem Mj{ps:List (Key×Key)}{m:Option (Rn P fu α)}{R:Rn P fu α}(h:GI ps m=some R)(hf:R.fit):∃R',m=some R'/\R'.fit/\R'.r=R.r/\∀p∈ps,p.1=p.2:=by
 cases m with
 |none=> cases h
 |some Q=> cases h;exact⟨Q,rfl,fun p hp=> hf p (wV.mpr (.inr hp)),rfl,fun p hp=> hf p (wV.mpr (.inl hp))⟩
theorem AA.add{ps:List (Key×Key)}{m:Option (Rn P fu α)}{o:α}(h:(∀p∈ps,p.1=p.2)->AA m o):AA (GI ps m) o:=fun R e hf=> by obtain⟨R',h1,h2,h3,h4⟩:=Mj e hf;rw [<-h3];exact h h4 R' h1 h2
theorem AA.tick{q q':Key}{m:Option (Rn P fu α)}{o:α}(h:q=q'->AA m o):AA (Internal.tick q q' m) o:=AA.add fun hp=> h (hp _ (.head _))
theorem AA.b{m:Option (Rn P fu (Out α))}{f:α->St->Tr P fu->Option (Rn P fu (Out β))}{o:Out α}{g:α->St->Out β}(hm:AA m o)(hf:∀a s t,AA (f a s t) (g a s)):AA (bX m f) (o.bind g):=fun R e hR=> by
 cases m with
 |none=> cases e
 |some Q=>
  obtain⟨r,t,ps⟩:=Q;cases r with
  |ok a s=> obtain⟨R',h1,h2,h3,h4⟩:=Mj (show GI ps (f a s t)=some R from e) hR;rw [hm _ rfl h4,<-h3];exact hf a s t R' h1 h2
  |exc x s=> cases e;rw [hm _ rfl hR];rfl
  |bad=> cases e
theorem AA.c{m:Option (Rn P fu COut)}{l:List (N×AV)}{f:AV->St->Tr P fu->Option (Rn P fu (Out β))}{o:COut}{g:AV->St->Out β}(hm:AA m o)(hf:∀a s t,AA (f a s t) (g a s)):AA (cX m l f) (o.bind l g):=fun R e hR=> by
 cases m with
 |none=> cases e
 |some Q=>
  obtain⟨r,t,ps⟩:=Q;cases r with
  |ok a s=> obtain⟨R',h1,h2,h3,h4⟩:=Mj (show GI ps (f a ⟨l,s⟩ t)=some R from e) hR;rw [hm _ rfl h4,<-h3];exact hf a _ t R' h1 h2
  |exc x s=> cases e;rw [hm _ rfl hR];rfl
  |bad=> cases e
theorem AA.o{x:Option α}{f:α->Option (Rn P fu (Out β))}{g:α->Out β}(hf:∀a,AA (f a) (g a)):AA (oX x f) (AO x g):=by
 cases x with
 |none=> exact AA.none _
 |some a=> exact hf a
theorem AA.oc{x:Option α}{f:α->Option (Rn P fu COut)}{g:α->COut}(hf:∀a,AA (f a) (g a)):AA (oX x f) (E7 x g):=by
 cases x with
 |none=> exact AA.none _
 |some a=> exact hf a
theorem AA.m{m:Option (Rn P fu α)}{o:α}(f:α->β)(hm:AA m o):AA (mX f m) (f o):=fun R e hR=> by
 cases m with
 |none=> cases e
 |some Q=> obtain⟨r,t,ps⟩:=Q;cases e;rw [hm _ rfl hR]
def EP{γ:Type}(b:Bool)(x:γ):Option γ:=match b with
 |true=> some x
 |false=> none
def DQ{γ:Type}(x:Option γ):Option (Key×Key×γ)->Prop
 |none=> True
 |some p=> p.1=p.2.1->x=some p.2.2
theorem G5{γ:Type}{x:Option γ}{b:Bool}{p:Key×Key×γ}(h:p.1=p.2.1->x=some p.2.2):DQ x (EP b p):=by
 cases b
 . trivial
 . exact h
def P5{γ δ:Type}(x:Option γ)(f:γ->Tr P fu->Option (Rn P fu δ))(e:Ent P fu)(t:Tr P fu):Option (Key×Key×γ)->Option (Rn P fu δ)
 |some p=> tick p.1 p.2.1 (f p.2.2 t)
 |none=> oX x fun c=> f c (e::t)
def FR{γ δ:Type}(x:Option γ)(ans:Ent P fu->Option (Key×Key×γ))(f:γ->Tr P fu->Option (Rn P fu δ)):Tr P fu->Option (Rn P fu δ)
 | []=> oX x fun c=> f c []
 |e::t=> P5 x f e t (ans e)
theorem AA.pl{γ:Type}{x:Option γ}{ans:Ent P fu->Option (Key×Key×γ)}(ha:∀e,DQ x (ans e)){t:Tr P fu}{f:γ->Tr P fu->Option (Rn P fu (Out β))}{g:γ->Out β}(hf:∀c t,AA (f c t) (g c)):AA (FR x ans f t) (AO x g):=by
 cases t with
 |nil=> exact AA.o fun c=> hf c _
 |cons e t=>
  have h:=ha e;show AA (P5 x f e t (ans e)) _;cases hq:ans e with
  |none=> exact AA.o fun c=> hf c _
  |some p=> rw [hq]at h;exact AA.tick fun z=> by rw [h z];exact hf _ _
theorem AA.l5{γ:Type}{x:Option γ}{ans:Ent P fu->Option (Key×Key×γ)}(ha:∀e,DQ x (ans e)){t:Tr P fu}{f:γ->Tr P fu->Option (Rn P fu COut)}{g:γ->COut}(hf:∀c t,AA (f c t) (g c)):AA (FR x ans f t) (E7 x g):=by
 cases t with
 |nil=> exact AA.oc fun c=> hf c _
 |cons e t=>
  have h:=ha e;show AA (P5 x f e t (ans e)) _;cases hq:ans e with
  |none=> exact AA.oc fun c=> hf c _
  |some p=> rw [hq]at h;exact AA.tick fun z=> by rw [h z];exact hf _ _
def WT(h:Hp)(op:COp)(a b:AV)(e:Ent P fu):Option (Key×Key×Bool):=match e with
 |⟨.cmp op' a' b',c,_⟩=> EP (decide (op=op')) (.cmp op a b,.cmp op' a' b',c)
 |⟨.El h' op' a' b',c,_⟩=> EP (decide (op=op')) (.El h op a b,.El h' op' a' b',c)
 |⟨.skip,_,_⟩=> (BK h op a b).map fun c=> (.skip,.skip,c)
 |_=> none
theorem l6{h:Hp}{op:COp}{a b:AV}(e:Ent P fu):DQ (BK h op a b) (WT h op a b e):=by
 obtain⟨k,c,ok⟩:=e;cases(k)with
 |cmp op' a' b'=> exact G5 fun(q:(Key.cmp op a b)= .cmp op' a' b')=> by cases(q);exact ok h
 |El h' op' a' b'=> exact G5 fun(q:Key.El h op a b= .El h' op' a' b')=> by cases(q);exact ok
 |skip=>
  show DQ (BK h op a b) ((BK h op a b).map fun c=> (.skip,.skip,c));cases BK h op a b
  . trivial
  . exact fun _=> rfl
 |_=> trivial
def P6(h:Hp)(op:COp)(a b:AV)(t:Tr P fu)(f:Bool->Tr P fu->Option (Rn P fu (Out β))):Option (Rn P fu (Out β)):=FR (BK h op a b) (WT h op a b) f t
theorem AA.cmp{h:Hp}{op:COp}{a b:AV}{t:Tr P fu}{f:Bool->Tr P fu->Option (Rn P fu (Out β))}{g:Bool->Out β}(hf:∀c t,AA (f c t) (g c)):AA (P6 h op a b t f) (AO (BK h op a b) g):=AA.pl l6 hf
def tA(h:Hp)(v:AV)(e:Ent P fu):Option (Key×Key×Bool):=match e with
 |⟨.A5 h' v',b,_⟩=> EP (EV v).isSome (.A5 h v,.A5 h' v',b)
 |_=> none
theorem l7{h:Hp}{v:AV}(e:Ent P fu):DQ (truthy h v) (tA h v e):=by
 obtain⟨k,c,ok⟩:=e;cases(k)with
 |A5 h' v'=> exact G5 fun(q:Key.A5 h v= .A5 h' v')=> by cases(q);exact ok
 |_=> trivial
def KY(h:Hp)(v:AV)(t:Tr P fu)(f:Bool->Tr P fu->Option (Rn P fu (Out β))):Option (Rn P fu (Out β)):=FR (truthy h v) (tA h v) f t
theorem AA.t{h:Hp}{v:AV}{t:Tr P fu}{f:Bool->Tr P fu->Option (Rn P fu (Out β))}{g:Bool->Out β}(hf:∀c t,AA (f c t) (g c)):AA (KY h v t f) (AO (truthy h v) g):=AA.pl l7 hf
def WU(h:Hp)(o:AV)(m:N)(e:Ent P fu):Option (Key×Key×(Option Nat)):=match e with
 |⟨.met h' o' m',k,_⟩=> EP (wh m m') (.met h o m,.met h' o' m',k)
 |_=> none
theorem l8{h:Hp}{o:AV}{m:N}(e:Ent P fu):DQ (E8 P h o m) (WU h o m e):=by
 obtain⟨k,c,ok⟩:=e;cases(k)with
 |met h' o' m'=> exact G5 fun(q:Key.met h o m= .met h' o' m')=> by cases(q);exact ok
 |_=> trivial
def P7(h:Hp)(o:AV)(m:N)(t:Tr P fu)(f:(Option Nat)->Tr P fu->Option (Rn P fu (Out β))):Option (Rn P fu (Out β)):=FR (E8 P h o m) (WU h o m) f t
theorem AA.met{h:Hp}{o:AV}{m:N}{t:Tr P fu}{f:(Option Nat)->Tr P fu->Option (Rn P fu (Out β))}{g:(Option Nat)->Out β}(hf:∀c t,AA (f c t) (g c)):AA (P7 h o m t f) (AO (E8 P h o m) g):=AA.pl l8 hf
def WV(h:Hp)(o i:AV)(e:Ent P fu):Option (Key×Key×AV):=match e with
 |⟨.get o' i',c,_⟩=> some (.get o i,.get o' i',c)
 |⟨.FQ h' o' i',c,_⟩=> EP (EV o).isSome (.FQ h o i,.FQ h' o' i',c)
 |_=> none
theorem l9{h:Hp}{o i:AV}(e:Ent P fu):DQ (Cr h o i) (WV h o i e):=by
 obtain⟨k,c,ok⟩:=e;cases(k)with
 |get o' i'=> exact fun(q:Key.get o i= .get o' i')=> by cases(q);exact ok h
 |FQ h' o' i'=> exact G5 fun(q:Key.FQ h o i= .FQ h' o' i')=> by cases(q);exact ok
 |_=> trivial
def P8(h:Hp)(o i:AV)(t:Tr P fu)(f:AV->Tr P fu->Option (Rn P fu (Out β))):Option (Rn P fu (Out β)):=FR (Cr h o i) (WV h o i) f t
theorem AA.get{h:Hp}{o i:AV}{t:Tr P fu}{f:AV->Tr P fu->Option (Rn P fu (Out β))}{g:AV->Out β}(hf:∀c t,AA (f c t) (g c)):AA (P8 h o i t f) (AO (Cr h o i) g):=AA.pl l9 hf
def WW(h:Hp)(op:BOp)(a b:AV)(e:Ent P fu):Option (Key×Key×(AV×Hp)):=match e with
 |⟨.aug h' op' a' b',v,_⟩=> some (.aug h op a b,.aug h' op' a' b',v)
 |_=> none
theorem mA{h:Hp}{op:BOp}{a b:AV}(e:Ent P fu):DQ (DC h op a b) (WW h op a b e):=by
 obtain⟨k,c,ok⟩:=e;cases(k)with
 |aug h' op' a' b'=> exact fun(q:Key.aug h op a b= .aug h' op' a' b')=> by cases(q);exact ok
 |_=> trivial
def P9(h:Hp)(op:BOp)(a b:AV)(t:Tr P fu)(f:(AV×Hp)->Tr P fu->Option (Rn P fu (Out β))):Option (Rn P fu (Out β)):=FR (DC h op a b) (WW h op a b) f t
theorem AA.aug{h:Hp}{op:BOp}{a b:AV}{t:Tr P fu}{f:(AV×Hp)->Tr P fu->Option (Rn P fu (Out β))}{g:(AV×Hp)->Out β}(hf:∀c t,AA (f c t) (g c)):AA (P9 h op a b t f) (AO (DC h op a b) g):=AA.pl mA hf
def WX(h:Hp)(o l u:AV)(e:Ent P fu):Option (Key×Key×AV):=match e with
 |⟨.Bd o' l' u',c,_⟩=> some (.Bd o l u,.Bd o' l' u',c)
 |_=> none
theorem mB{h:Hp}{o l u:AV}(e:Ent P fu):DQ (E4 h o l u) (WX h o l u e):=by
 obtain⟨k,c,ok⟩:=e;cases(k)with
 |Bd o' l' u'=> exact fun(q:Key.Bd o l u= .Bd o' l' u')=> by cases(q);exact ok h
 |_=> trivial
def WY(h:Hp)(o l u:AV)(t:Tr P fu)(f:AV->Tr P fu->Option (Rn P fu (Out β))):Option (Rn P fu (Out β)):=FR (E4 h o l u) (WX h o l u) f t
theorem AA.Bd{h:Hp}{o l u:AV}{t:Tr P fu}{f:AV->Tr P fu->Option (Rn P fu (Out β))}{g:AV->Out β}(hf:∀c t,AA (f c t) (g c)):AA (WY h o l u t f) (AO (E4 h o l u) g):=AA.pl mB hf
def WZ(h:Hp)(op:BOp)(a b:AV)(e:Ent P fu):Option (Key×Key×AV):=match e with
 |⟨.bin op' a' b',c,_⟩=> EP ((ED a).isNone&&decide (op=op')) (.bin op a b,.bin op' a' b',c)
 |⟨.GH h' op' a' b',c,_⟩=> EP ((ED a).isNone&&decide (op=op')) (.GH h op a b,.GH h' op' a' b',c)
 |_=> none
theorem mC{h:Hp}{op:BOp}{a b:AV}(e:Ent P fu):DQ (binOp h op a b) (WZ h op a b e):=by
 obtain⟨k,c,ok⟩:=e;cases(k)with
 |bin op' a' b'=> exact G5 fun(q:Key.bin op a b= .bin op' a' b')=> by cases(q);exact ok h
 |GH h' op' a' b'=> exact G5 fun(q:Key.GH h op a b= .GH h' op' a' b')=> by cases(q);exact ok
 |_=> trivial
def Wa(h:Hp)(op:BOp)(a b:AV)(t:Tr P fu)(f:AV->Tr P fu->Option (Rn P fu (Out β))):Option (Rn P fu (Out β)):=FR (binOp h op a b) (WZ h op a b) f t
theorem AA.bin{h:Hp}{op:BOp}{a b:AV}{t:Tr P fu}{f:AV->Tr P fu->Option (Rn P fu (Out β))}{g:AV->Out β}(hf:∀c t,AA (f c t) (g c)):AA (Wa h op a b t f) (AO (binOp h op a b) g):=AA.pl mC hf
def Wb(h:Hp)(o:AV)(m:N)(as:List AV)(e:Ent P fu):Option (Key×Key×(AV×Hp)):=match e with
 |⟨.A6 h' o' m' as',v,_⟩=> EP (wh m m') (.A6 h o m as,.A6 h' o' m' as',v)
 |_=> none
theorem mD{h:Hp}{o:AV}{m:N}{as:List AV}(e:Ent P fu):DQ (Bv h o m as) (Wb h o m as e):=by
 obtain⟨k,c,ok⟩:=e;cases(k)with
 |A6 h' o' m' as'=> exact G5 fun(q:Key.A6 h o m as= .A6 h' o' m' as')=> by cases(q);exact ok
 |_=> trivial
def Wc(h:Hp)(o:AV)(m:N)(as:List AV)(t:Tr P fu):Option (Rn P fu COut):=FR (Bv h o m as) (Wb h o m as) (fun p t=> rX (.ok p.1 p.2) t) t
theorem AA.A6{h:Hp}{o:AV}{m:N}{as:List AV}{t:Tr P fu}:AA (Wc h o m as t) (E7 (Bv h o m as) fun p=>.ok p.1 p.2):=AA.l5 mD fun p t=> AA.r _ _
end
section
section
variable{P:Prog}{fu:Nat}
abbrev CX(P:Prog)(fu:Nat):=Nat->List AV->List (N×AV)->Hp->Tr P fu->Option (Rn P fu COut)
def D8(b:Bool){α:Type}(x y:Option (Rn P fu α)):Option (Rn P fu α):=match b with
 |true=> x
 |false=> y
theorem AA.p{c:Bool}{α:Type}{x y:Option (Rn P fu α)}{a b:α}(h1:AA x a)(h2:AA y b):AA (D8 c x y) (if c=true then a else b):=by
 cases c
 . exact h2
 . exact h1
def newX(cx:CX P fu)(cl:Cl)(c:Nat)(as:List AV)(ks:List (N×AV))(h:Hp)(t:Tr P fu):Option (Rn P fu COut):=match cl.exc,cl.init with
 |true,_=> none
 |false,.BH _ _=> oX (IP P cl (.ref h.n) as ks) fun r=> rX (.ok (.obj c r) h) t
 |false,.run i=> mX (endRun h.nI) (cx i (.ref h.nI::as) ks (h.IH (.ins c [])) t)
def Ml(cx:CX P fu)(f:AV)(as:List AV)(ks:List (N×AV))(h:Hp)(t:Tr P fu):Option (Rn P fu COut):=match f with
 | .fn a=> cx a as ks h t
 | .cls c=> oX (P.cls c) fun cl=> newX cx cl c as ks h t
 |_=> none
def QA(cx:CX P fu)(k:Option Nat)(o:AV)(m:N)(as:List AV)(h:Hp)(t:Tr P fu):Option (Rn P fu COut):=match k with
 |some f=> cx f (o::as) [] h t
 |none=> Wc h o m as t
def GJ(m:Option (Rn P fu (Out AV))):Option (Rn P fu (Out Bool)):=bX m fun v s t=> KY s.hp v t fun b t=> rX (.ok b s) t
variable(cx:CX P fu)
mutual
noncomputable def xE:CE->St->Tr P fu->Option (Rn P fu (Out AV))
 | .cst v,s,t=> rX (.ok v s) t
 | .var x,s,t=> oX (look x s.loc) fun v=> rX (.ok v s) t
 | .AD e a,s,t=> bX (xE e s t) fun o s t=> oX (E5 P s.hp o a) fun v=> rX (.ok v s) t
 | .app f as,s,t=> bX (xE f s t) fun fv s t=> bX (DR as s t) fun vs s t=> cX (Ml cx fv vs [] s.hp t) s.loc fun v s t=> rX (.ok v s) t
 | .E1 f as n k,s,t=> bX (xE f s t) fun fv s t=> bX (DR as s t) fun vs s t=> bX (xE k s t) fun kv s t=> cX (Ml cx fv vs [(n,kv)] s.hp t) s.loc fun v s t=> rX (.ok v s) t
 | .AE e a as,s,t=> bX (xE e s t) fun o s t=> P7 s.hp o a t fun k t=> bX (DR as s t) fun vs s t=> cX (QA cx k o a vs s.hp t) s.loc fun v s t=> rX (.ok v s) t
 | .E3 e a as n x,s,t=> bX (xE e s t) fun o s t=> oX (LI P s.hp o a) fun k=> bX (DR as s t) fun vs s t=> bX (xE x s t) fun kv s t=> cX (cx k (o::vs) [(n,kv)] s.hp t) s.loc fun v s t=> rX (.ok v s) t
 | .sup f c as,s,t=> oX (Nt c s) fun o=> bX (DR as s t) fun vs s t=> cX (cx f (o::vs) [] s.hp t) s.loc fun v s t=> rX (.ok v s) t
 | .bi b as,s,t=> bX (DR as s t) fun vs s t=> oX (E6 s.hp b vs) fun v=> rX (.ok v s) t
 | .CL e c,s,t=> bX (xE e s t) fun v s t=> oX (Jg P v c) fun b=> rX (.ok (.bool b) s) t
 | .isStr e,s,t=> bX (xE e s t) fun v s t=> oX (BJ v) fun _=> rX (.ok (.bool true) s) t
 | .bin op l r,s,t=> bX (xE l s t) fun a s t=> bX (xE r s t) fun b s t=> Wa s.hp op a b t fun v t=> rX (.ok v s) t
 | .fmt l r,s,t=> bX (xE l s t) fun a s t=> bX (xE r s t) fun b s t=> oX (Nr a b) fun v=> rX (.ok v s) t
 | .neg e,s,t=> bX (xE e s t) fun v s t=> oX (A4 v) fun i=> rX (.ok (.int (-i)) s) t
 | .nt e,s,t=> bX (xE e s t) fun v s t=> KY s.hp v t fun b t=> rX (.ok (.bool (!b)) s) t
 | .A1 es,s,t=> QB es s t
 | .BY es,s,t=> QC es s t
 | .cmp l rs,s,t=> bX (xE l s t) fun a s t=> bX (Mm a rs s t) fun b s t=> rX (.ok (.bool b) s) t
 | .ite c b o,s,t=> bX (xT c s t) fun v s t=> D8 v (xE b s t) (xE o s t)
 | .tup es,s,t=> bX (DR es s t) fun vs s t=> rX (.ok (.tup vs) s) t
 | .lst AAq es,s,t=> bX (DR es s t) fun vs s t=> D8 AAq (rX (.ok (.ref s.hp.n) ⟨s.loc,s.hp.add (.lst vs)⟩) t) (rX (.ok (.Ah vs) s) t)
 | .Ap ks,s,t=> bX (QD ks ⟨s.loc,s.hp.add (.Ap [])⟩ t) fun es s' t=> oX (Je s'.hp s.hp.n es) fun h=> rX (.ok (.ref s.hp.n) ⟨s'.loc,h⟩) t
 | .sub e i,s,t=> bX (xE e s t) fun o s t=> bX (xE i s t) fun k s t=> P8 s.hp o k t fun v t=> rX (.ok v s) t
 | .Bd AAq e lo hi,s,t=> bX (xE e s t) fun o s t=> bX (xO lo s t) fun l s t=> bX (xO hi s t) fun u s t=> WY s.hp o l u t fun v t=> rX (freshen AAq v s) t
 | .BZ,_,_=> none
noncomputable def DR:List CE->St->Tr P fu->Option (Rn P fu (Out (List AV)))
 | [],s,t=> rX (.ok [] s) t
 |e::r,s,t=> bX (xE e s t) fun v s t=> bX (DR r s t) fun vs s t=> rX (.ok (v::vs) s) t
noncomputable def QD:List (AV×CE)->St->Tr P fu->Option (Rn P fu (Out (List (AV×AV))))
 | [],s,t=> rX (.ok [] s) t
 |(n,e)::r,s,t=> bX (xE e s t) fun v s t=> bX (QD r s t) fun vs s t=> rX (.ok ((n,v)::vs) s) t
noncomputable def xO:Option CE->St->Tr P fu->Option (Rn P fu (Out AV))
 |none,s,t=> rX (.ok .none s) t
 |some e,s,t=> xE e s t
noncomputable def QB:List CE->St->Tr P fu->Option (Rn P fu (Out AV))
 | [],_,_=> none
 | [e],s,t=> xE e s t
 |e::e'::r,s,t=> bX (xE e s t) fun v s t=> KY s.hp v t fun b t=> D8 b (QB (e'::r) s t) (rX (.ok v s) t)
noncomputable def QC:List CE->St->Tr P fu->Option (Rn P fu (Out AV))
 | [],_,_=> none
 | [e],s,t=> xE e s t
 |e::e'::r,s,t=> bX (xE e s t) fun v s t=> KY s.hp v t fun b t=> D8 b (rX (.ok v s) t) (QC (e'::r) s t)
noncomputable def Mm(a:AV):List (COp×CE)->St->Tr P fu->Option (Rn P fu (Out Bool))
 | [],_,_=> none
 | [(op,e)],s,t=> bX (xE e s t) fun b s t=> P6 s.hp op a b t fun c t=> rX (.ok c s) t
 |(op,e)::x::r,s,t=> bX (xE e s t) fun b s t=> P6 s.hp op a b t fun c t=> D8 c (Mm b (x::r) s t) (rX (.ok false s) t)
noncomputable def xT:CE->St->Tr P fu->Option (Rn P fu (Out Bool))
 | .nt e,s,t=> bX (xT e s t) fun b s t=> rX (.ok (!b) s) t
 | .A1 es,s,t=> QE es s t
 | .BY es,s,t=> QF es s t
 | .ite c b o,s,t=> bX (xT c s t) fun v s t=> D8 v (xT b s t) (xT o s t)
 | .cmp l rs,s,t=> bX (xE l s t) fun a s t=> Mm a rs s t
 | .cst v,s,t=> GJ (rX (.ok v s) t)
 | .var x,s,t=> GJ (oX (look x s.loc) fun v=> rX (.ok v s) t)
 | .AD e a,s,t=> GJ (bX (xE e s t) fun o s t=> oX (E5 P s.hp o a) fun v=> rX (.ok v s) t)
 | .AE e a as,s,t=> GJ (bX (xE e s t) fun o s t=> P7 s.hp o a t fun k t=> bX (DR as s t) fun vs s t=> cX (QA cx k o a vs s.hp t) s.loc fun v s t=> rX (.ok v s) t)
 | .app f as,s,t=> GJ (bX (xE f s t) fun fv s t=> bX (DR as s t) fun vs s t=> cX (Ml cx fv vs [] s.hp t) s.loc fun v s t=> rX (.ok v s) t)
 | .CL e c,s,t=> GJ (bX (xE e s t) fun v s t=> oX (Jg P v c) fun b=> rX (.ok (.bool b) s) t)
 | .isStr e,s,t=> GJ (bX (xE e s t) fun v s t=> oX (BJ v) fun _=> rX (.ok (.bool true) s) t)
 | .sub e i,s,t=> GJ (bX (xE e s t) fun o s t=> bX (xE i s t) fun k s t=> P8 s.hp o k t fun v t=> rX (.ok v s) t)
 |_,_,_=> none
noncomputable def QE:List CE->St->Tr P fu->Option (Rn P fu (Out Bool))
 | [],s,t=> rX (.ok true s) t
 |e::r,s,t=> bX (xT e s t) fun b s t=> D8 b (QE r s t) (rX (.ok false s) t)
noncomputable def QF:List CE->St->Tr P fu->Option (Rn P fu (Out Bool))
 | [],s,t=> rX (.ok false s) t
 |e::r,s,t=> bX (xT e s t) fun b s t=> D8 b (rX (.ok true s) t) (QF r s t)
end
variable{cf:Nat->List AV->List (N×AV)->Hp->COut}{cx}
theorem mE(H:∀f as ks h t,AA (cx f as ks h t) (cf f as ks h))(cl:Cl)(c:Nat)(as:List AV)(ks:List (N×AV))(h:Hp)(t:Tr P fu):AA (newX cx cl c as ks h t) (LG P cf cl c as ks h):=by
 obtain⟨a,fs,m,x,i⟩:=cl;cases x with
 |true=> exact AA.none _
 |false=> cases i with
  |BH _ _=> exact AA.oc fun r=> AA.r _ _
  |run i=> exact AA.m _ (H _ _ _ _ _)
theorem QG(H:∀f as ks h t,AA (cx f as ks h t) (cf f as ks h))(f:AV)(as:List AV)(ks:List (N×AV))(h:Hp)(t:Tr P fu):AA (Ml cx f as ks h t) (EF P cf f as ks h):=by
 cases f with
 |fn a=> exact H _ _ _ _ _
 |cls c=> exact AA.oc fun cl=> mE H _ _ _ _ _ _
 |_=> exact AA.none _
theorem We(H:∀f as ks h t,AA (cx f as ks h t) (cf f as ks h))(k:Option Nat)(o:AV)(m:N)(as:List AV)(h:Hp)(t:Tr P fu):AA (QA cx k o m as h t) (Fu cf k o m as h):=by
 cases k with
 |some f=> exact H _ _ _ _ _
 |none=> exact AA.A6
theorem G6{m:Option (Rn P fu (Out AV))}{o:Out AV}(h:AA m o):AA (GJ m) (A5 o):=h.b fun v s t=> AA.t fun b t=> AA.r _ _
section
variable(H:∀f as ks h t,AA (cx f as ks h t) (cf f as ks h))
include H
mutual
theorem sE:∀(e:CE) (s:St) (t:Tr P fu),AA (xE cx e s t) (Ad P cf e s)
 | .cst v=>@fun s t=> AA.r _ _
 | .var x=>@fun s t=> AA.o fun v=> AA.r _ _
 | .AD e a=>@fun s t=> (sE e s t).b fun o s t=> AA.o fun v=> AA.r _ _
 | .app f as=>@fun s t=> (sE f s t).b fun fv s t=> (Df as s t).b fun vs s t=> (QG H _ _ _ _ _).c fun v s t=> AA.r _ _
 | .E1 f as n k=>@fun s t=> (sE f s t).b fun fv s t=> (Df as s t).b fun vs s t=> (sE k s t).b fun kv s t=> (QG H _ _ _ _ _).c fun v s t=> AA.r _ _
 | .AE e a as=>@fun s t=> (sE e s t).b fun o s t=> AA.met fun k t=> (Df as s t).b fun vs s t=> (We H _ _ _ _ _ _).c fun v s t=> AA.r _ _
 | .E3 e a as n x=>@fun s t=> (sE e s t).b fun o s t=> AA.o fun k=> (Df as s t).b fun vs s t=> (sE x s t).b fun kv s t=> (H _ _ _ _ _).c fun v s t=> AA.r _ _
 | .sup f c as=>@fun s t=> AA.o fun o=> (Df as s t).b fun vs s t=> (H _ _ _ _ _).c fun v s t=> AA.r _ _
 | .bi b as=>@fun s t=> (Df as s t).b fun vs s t=> AA.o fun v=> AA.r _ _
 | .CL e c=>@fun s t=> (sE e s t).b fun v s t=> AA.o fun v=> AA.r _ _
 | .isStr e=>@fun s t=> (sE e s t).b fun v s t=> AA.o fun v=> AA.r _ _
 | .bin op l r=>@fun s t=> (sE l s t).b fun a s t=> (sE r s t).b fun b s t=> AA.bin fun v t=> AA.r _ _
 | .fmt l r=>@fun s t=> (sE l s t).b fun a s t=> (sE r s t).b fun b s t=> AA.o fun v=> AA.r _ _
 | .neg e=>@fun s t=> (sE e s t).b fun v s t=> AA.o fun i=> AA.r _ _
 | .nt e=>@fun s t=> (sE e s t).b fun v s t=> AA.t fun i t=> AA.r _ _
 | .A1 es=>@fun s t=> Wf es s t
 | .BY es=>@fun s t=> Wg es s t
 | .cmp l rs=>@fun s t=> (sE l s t).b fun a s t=> (QH a rs s t).b fun b s t=> AA.r _ _
 | .ite c b o=>@fun s t=> (sT c s t).b fun v s t=> AA.p (sE b s t) (sE o s t)
 | .tup es=>@fun s t=> (Df es s t).b fun v s t=> AA.r _ _
 | .lst AAq es=>@fun s t=> (Df es s t).b fun v s t=> AA.p (AA.r _ _) (AA.r _ _)
 | .Ap ks=>@fun s t=> (Wh ks _ t).b fun v s t=> AA.o fun h=> AA.r _ _
 | .sub e i=>@fun s t=> (sE e s t).b fun o s t=> (sE i s t).b fun k s t=> AA.get fun v t=> AA.r _ _
 | .Bd AAq e lo hi=>@fun s t=> (sE e s t).b fun o s t=> (sO lo s t).b fun l s t=> (sO hi s t).b fun u s t=> AA.Bd fun v t=> AA.r _ _
 | .BZ=>@fun _ _=> AA.none _
theorem Df:∀(e:List CE) (s:St) (t:Tr P fu),AA (DR cx e s t) (Be P cf e s)
 | []=>@fun s t=> AA.r _ _
 |e::r=>@fun s t=> (sE e s t).b fun v s t=> (Df r s t).b fun vs s t=> AA.r _ _
theorem Wh:∀(e:List (AV×CE)) (s:St) (t:Tr P fu),AA (QD cx e s t) (LL P cf e s)
 | []=>@fun s t=> AA.r _ _
 |(n,e)::r=>@fun s t=> (sE e s t).b fun v s t=> (Wh r s t).b fun vs s t=> AA.r _ _
theorem sO:∀(e:Option CE) (s:St) (t:Tr P fu),AA (xO cx e s t) (LM P cf e s)
 |none=>@fun s t=> AA.r _ _
 |some e=>@fun s t=> sE e s t
theorem Wf:∀(e:List CE) (s:St) (t:Tr P fu),AA (QB cx e s t) (LJ P cf e s)
 | []=>@fun s t=> AA.none _
 | [e]=>@fun s t=> sE e s t
 |e::e'::r=>@fun s t=> (sE e s t).b fun v s t=> AA.t fun b t=> AA.p (Wf (e'::r) s t) (AA.r _ _)
theorem Wg:∀(e:List CE) (s:St) (t:Tr P fu),AA (QC cx e s t) (LK P cf e s)
 | []=>@fun s t=> AA.none _
 | [e]=>@fun s t=> sE e s t
 |e::e'::r=>@fun s t=> (sE e s t).b fun v s t=> AA.t fun b t=> AA.p (AA.r _ _) (Wg (e'::r) s t)
theorem QH(a:AV):∀(e:List (COp×CE)) (s:St) (t:Tr P fu),AA (Mm cx a e s t) (Ji P cf a e s)
 | []=>@fun s t=> AA.none _
 | [(op,e)]=>@fun s t=> (sE e s t).b fun b s t=> AA.cmp fun c t=> AA.r _ _
 |(op,e)::x::r=>@fun s t=> (sE e s t).b fun b s t=> AA.cmp fun c t=> AA.p (QH b (x::r) s t) (AA.r _ _)
theorem sT:∀(e:CE) (s:St) (t:Tr P fu),AA (xT cx e s t) (An P cf e s)
 | .nt e=>@fun s t=> (sT e s t).b fun b s t=> AA.r _ _
 | .A1 es=>@fun s t=> Wi es s t
 | .BY es=>@fun s t=> Wj es s t
 | .ite c b o=>@fun s t=> (sT c s t).b fun v s t=> AA.p (sT b s t) (sT o s t)
 | .cmp l rs=>@fun s t=> (sE l s t).b fun a s t=> QH a rs s t
 | .cst v=>@fun s t=> G6 (AA.r _ _)
 | .var x=>@fun s t=> G6 (AA.o fun v=> AA.r _ _)
 | .AD e a=>@fun s t=> G6 ((sE e s t).b fun o s t=> AA.o fun v=> AA.r _ _)
 | .AE e a as=>@fun s t=> G6 ((sE e s t).b fun o s t=> AA.met fun k t=> (Df as s t).b fun vs s t=> (We H _ _ _ _ _ _).c fun v s t=> AA.r _ _)
 | .app f as=>@fun s t=> G6 ((sE f s t).b fun fv s t=> (Df as s t).b fun vs s t=> (QG H _ _ _ _ _).c fun v s t=> AA.r _ _)
 | .CL e c=>@fun s t=> G6 ((sE e s t).b fun v s t=> AA.o fun v=> AA.r _ _)
 | .isStr e=>@fun s t=> G6 ((sE e s t).b fun v s t=> AA.o fun v=> AA.r _ _)
 | .sub e i=>@fun s t=> G6 ((sE e s t).b fun o s t=> (sE i s t).b fun k s t=> AA.get fun v t=> AA.r _ _)
 | .E1 _ _ _ _=>@fun _ _=> AA.none _
 | .E3 _ _ _ _ _=>@fun _ _=> AA.none _
 | .sup _ _ _=>@fun _ _=> AA.none _
 | .bi _ _=>@fun _ _=> AA.none _
 | .bin _ _ _=>@fun _ _=> AA.none _
 | .fmt _ _=>@fun _ _=> AA.none _
 | .neg _=>@fun _ _=> AA.none _
 | .tup _=>@fun _ _=> AA.none _
 | .lst _ _=>@fun _ _=> AA.none _
 | .Ap _=>@fun _ _=> AA.none _
 | .Bd _ _ _ _=>@fun _ _=> AA.none _
 | .BZ=>@fun _ _=> AA.none _
theorem Wi:∀(e:List CE) (s:St) (t:Tr P fu),AA (QE cx e s t) (LN P cf e s)
 | []=>@fun s t=> AA.r _ _
 |e::r=>@fun s t=> (sT e s t).b fun b s t=> AA.p (Wi r s t) (AA.r _ _)
theorem Wj:∀(e:List CE) (s:St) (t:Tr P fu),AA (QF cx e s t) (LO P cf e s)
 | []=>@fun s t=> AA.r _ _
 |e::r=>@fun s t=> (sT e s t).b fun b s t=> AA.p (AA.r _ _) (Wj r s t)
end
end
end
end
section
section
variable{P:Prog}{fu:Nat}
def Wk(f:Flow)(s:St)(t:Tr P fu)(again:Option (Rn P fu (Out Flow))):Option (Rn P fu (Out Flow)):=match f with
 | .next=> again
 | .cont=> again
 | .brk=> rX (.ok .next s) t
 | .ret v=> rX (.ok (.ret v) s) t
def QI(test:St->Tr P fu->Option (Rn P fu (Out Bool)))(body:St->Tr P fu->Option (Rn P fu (Out Flow))):Nat->St->Tr P fu->Option (Rn P fu (Out Flow))
 |0,_,_=> none
 |n+1,s,t=> bX (test s t) fun b s t=> D8 b (bX (body s t) fun f s t=> Wk f s t (QI test body n s t)) (rX (.ok .next s) t)
def QJ(asg:AV->St->Tr P fu->Option (Rn P fu (Out Unit)))(body:St->Tr P fu->Option (Rn P fu (Out Flow))):List AV->St->Tr P fu->Option (Rn P fu (Out Flow))
 | [],s,t=> rX (.ok .next s) t
 |v::r,s,t=> bX (asg v s t) fun _ s t=> bX (body s t) fun f s t=> Wk f s t (QJ asg body r s t)
theorem QK{test:St->Tr P fu->Option (Rn P fu (Out Bool))}{body:St->Tr P fu->Option (Rn P fu (Out Flow))}{te:St->Out Bool}{bo:St->Out Flow}(h1:∀s t,AA (test s t) (te s))(h2:∀s t,AA (body s t) (bo s)):
 ∀n s t,AA (QI test body n s t) (Bb te bo n s)
 |0=>@fun _ _=> AA.none _
 |n+1=>@fun s t=> (h1 s t).b fun b s t=> AA.p ((h2 s t).b fun f s t=> by
   cases f with
   |next=> exact QK h1 h2 n s t
   |cont=> exact QK h1 h2 n s t
   |brk=> exact AA.r _ _
   |ret v=> exact AA.r _ _) (AA.r _ _)
theorem QL{asg:AV->St->Tr P fu->Option (Rn P fu (Out Unit))}{body:St->Tr P fu->Option (Rn P fu (Out Flow))}{te:AV->St->Out Unit}{bo:St->Out Flow}(h1:∀v s t,AA (asg v s t) (te v s))(h2:∀s t,AA (body s t) (bo s)):
 ∀l s t,AA (QJ asg body l s t) (Bf te bo l s)
 | []=>@fun _ _=> AA.r _ _
 |v::r=>@fun s t=> (h1 v s t).b fun _ s t=> (h2 s t).b fun f s t=> by
   cases f with
   |next=> exact QL h1 h2 r s t
   |cont=> exact QL h1 h2 r s t
   |brk=> exact AA.r _ _
   |ret v=> exact AA.r _ _
variable(k:Nat)(cx:CX P fu)
def Mn(g:CT)(v:AV)(s:St)(t:Tr P fu):Option (Rn P fu (Out Unit)):=match g with
 | .name x=> rX (.ok () ⟨put x v s.loc,s.hp⟩) t
 | .AD e a=> bX (xE cx e s t) fun o s t=> oX (setAt P s.hp o a v) fun h=> rX (.ok () ⟨s.loc,h⟩) t
 | .sub e i=> bX (xE cx e s t) fun o s t=> bX (xE cx i s t) fun k s t=> oX (HT s.hp o k v) fun h=> rX (.ok () ⟨s.loc,h⟩) t
 | .tup xs=> oX (ED v) fun vs=> oX (putAll xs vs s.loc) fun l=> rX (.ok () ⟨l,s.hp⟩) t
def Wl(g:CT)(op:BOp)(e:CE)(s:St)(t:Tr P fu):Option (Rn P fu (Out Flow)):=match g with
 | .name x=> oX (look x s.loc) fun old=> bX (xE cx e s t) fun v s t=> P9 s.hp op old v t fun r t=> rX (.ok .next ⟨put x r.1 s.loc,r.2⟩) t
 | .AD o a=> bX (xE cx o s t) fun ov s t=> oX (E5 P s.hp ov a) fun old=> bX (xE cx e s t) fun v s t=>
     oX (DC s.hp op old v) fun r=> oX (setAt P r.2 ov a r.1) fun h=> rX (.ok .next ⟨s.loc,h⟩) t
 | .sub o i=> bX (xE cx o s t) fun ov s t=> bX (xE cx i s t) fun k s t=> oX (Cr s.hp ov k) fun old=> bX (xE cx e s t) fun v s t=>
     P9 s.hp op old v t fun r t=> oX (HT r.2 ov k r.1) fun h=> rX (.ok .next ⟨s.loc,h⟩) t
 | .tup _=> none
def QM(src:CSrc)(s:St)(t:Tr P fu):Option (Rn P fu (Out (List AV))):=match src with
 | .it e=> bX (xE cx e s t) fun v s t=> oX (Nv v) fun xs=> rX (.ok xs s) t
 | .keys e=> bX (xE cx e s t) fun v s t=> oX (keysOf s.hp v) fun xs=> rX (.ok xs s) t
 | .Fm as=> bX (DR cx as s t) fun vs s t=> oX (LF vs) fun xs=> rX (.ok xs s) t
 | .enum e=> bX (xE cx e s t) fun v s t=> oX (BJ v) fun u=> rX (.ok (EX u) s) t
def CS.same:CS->CS->Bool
 | .BW _ _,.BW _ _=> true
 | .CV _ _ _,.CV _ _ _=> true
 |_,_=> false
def Wm{δ:Type}(m:Option (Rn P fu δ))(t:Tr P fu):Option (Key×Key×δ)->Option (Rn P fu δ)
 |some p=> tick p.1 p.2.1 (rX p.2.2 t)
 |none=> m
def G7{δ:Type}(m:Option (Rn P fu δ))(ans:Ent P fu->Option (Key×Key×δ)):Tr P fu->Option (Rn P fu δ)
 | []=> m
 |e::t=> Wm m t (ans e)
def mF(c:CS)(s:St)(e:Ent P fu):Option (Key×Key×Out Flow):=match e with
 |⟨.Ao c' s',(r,n),_⟩=> EP (wX n k&&CS.same c c') (.Ao c s,.Ao c' s',r)
 |_=> none
def QN(c:CS)(s:St)(t:Tr P fu)(m:Option (Rn P fu (Out Flow))):Option (Rn P fu (Out Flow)):=G7 m (mF k c s) t
def QO(x:N)(r:Option (Rn P fu (Out Flow))):Option (Rn P fu (Out Flow)):=bX r fun f s t=> rX (.ok f ⟨s.loc |> DZ x,s.hp⟩) t
def Wn(m:Option (Rn P fu (Out Flow)))(c:Nat)(x:N)(h:St->Tr P fu->Option (Rn P fu (Out Flow))):Option (Rn P fu (Out Flow)):=match m with
 |none=> none
 |some ⟨.ok f s,t,ps⟩=> some ⟨.ok f s,t,ps⟩
 |some ⟨.exc e s,t,ps⟩=> D8 (Gd P e c) (GI ps (QO x (h ⟨put x e s.loc,s.hp⟩ t))) none
 |some ⟨.bad,_,_⟩=> none
def Wo(m:Option (Rn P fu (Out Flow))):Option (Rn P fu (Out Flow)):=match m with
 |some ⟨.ok f s,t,ps⟩=> some ⟨.ok f s,t,ps⟩
 |_=> none
mutual
noncomputable def xS:CS->St->Tr P fu->Option (Rn P fu (Out Flow))
 | .expr e,s,t=> bX (xE cx e s t) fun _ s t=> rX (.ok .next s) t
 | .asg g e,s,t=> bX (xE cx e s t) fun v s t=> bX (Mn cx g v s t) fun _ s t=> rX (.ok .next s) t
 | .aug g op e,s,t=> Wl cx g op e s t
 | .ret none,s,t=> rX (.ok (.ret .none) s) t
 | .ret (some e),s,t=> bX (xE cx e s t) fun v s t=> rX (.ok (.ret v) s) t
 | .ifs c b o,s,t=> bX (xT cx c s t) fun v s t=> D8 v (Em b s t) (Em o s t)
 | .BW c b,s,t=> QN k (.BW c b) s t (QI (fun s t=> xT cx c s t) (fun s t=> Em b s t) fu s t)
 | .CV g src b,s,t=> QN k (.CV g src b) s t (bX (QM cx src s t) fun xs s t=> QJ (fun v s t=> Mn cx g v s t) (fun s t=> Em b s t) xs s t)
 | .HO c as,s,t=> bX (DR cx as s t) fun vs s t=> oX (excOf P c (.ref s.hp.n) vs) fun r=> rX (.exc (.obj c r) s) t
 | .Ga b c x h,s,t=> Wn (Em b s t) c x (fun s t=> Em h s t)
 | .HP b,s,t=> Wo (Em b s t)
 | .del e i,s,t=> bX (xE cx e s t) fun o s t=> bX (xE cx i s t) fun k s t=> oX (LB s.hp o k) fun h=> rX (.ok .next ⟨s.loc,h⟩) t
 | .BZ,_,_=> none
 | .pass,s,t=> rX (.ok .next s) t
 | .brk,s,t=> rX (.ok .brk s) t
 | .cont,s,t=> rX (.ok .cont s) t
noncomputable def Em:List CS->St->Tr P fu->Option (Rn P fu (Out Flow))
 | [],s,t=> rX (.ok .next s) t
 |c::r,s,t=> bX (xS c s t) fun f s t=> match f with
  | .next=> Em r s t
  | .brk=> rX (.ok .brk s) t
  | .cont=> rX (.ok .cont s) t
  | .ret v=> rX (.ok (.ret v) s) t
end
section
variable{k}{cx}{d:Nat}
variable(H:∀f as ks h t,AA (cx f as ks h t) (AB P fu (d+k) f as ks h))
include H
theorem QP(g:CT)(v:AV)(s:St)(t:Tr P fu):AA (Mn cx g v s t) (E9 P (AB P fu (d+k)) g v s):=by
 cases g with
 |name x=> exact AA.r _ _
 |AD e a=> exact(sE H e s t).b fun o s t=> AA.o fun h=> AA.r _ _
 |sub e i=> exact(sE H e s t).b fun o s t=> (sE H i s t).b fun k s t=> AA.o fun h=> AA.r _ _
 |tup xs=> exact AA.o fun vs=> AA.o fun l=> AA.r _ _
theorem mG(g:CT)(op:BOp)(e:CE)(s:St)(t:Tr P fu):AA (Wl cx g op e s t) (R7 P (AB P fu (d+k)) g op e s):=by
 cases g with
 |name x=> exact AA.o fun old=> (sE H e s t).b fun v s t=> AA.aug fun r t=> AA.r _ _
 |AD o a=> exact(sE H o s t).b fun ov s t=> AA.o fun old=> (sE H e s t).b fun v s t=> AA.o fun r=> AA.o fun h=> AA.r _ _
 |sub o i=> exact(sE H o s t).b fun ov s t=> (sE H i s t).b fun k s t=> AA.o fun old=> (sE H e s t).b fun v s t=> AA.aug fun r t=> AA.o fun h=> AA.r _ _
 |tup xs=> exact AA.none _
theorem Wq(src:CSrc)(s:St)(t:Tr P fu):AA (QM cx src s t) (IQ P (AB P fu (d+k)) src s):=by
 cases src with
 |it e=> exact(sE H e s t).b fun v s t=> AA.o fun xs=> AA.r _ _
 |keys e=> exact(sE H e s t).b fun v s t=> AA.o fun xs=> AA.r _ _
 |Fm e=> exact(Df H e s t).b fun v s t=> AA.o fun xs=> AA.r _ _
 |enum e=> exact(sE H e s t).b fun v s t=> AA.o fun xs=> AA.r _ _
omit H in
theorem AA.G7{δ:Type}{o:δ}{m:Option (Rn P fu δ)}{ans:Ent P fu->Option (Key×Key×δ)}(ha:∀e,DQ (some o) (ans e))(hm:AA m o){t:Tr P fu}:AA (Internal.G7 m ans t) o:=by
 cases t with
 |nil=> exact hm
 |cons e t=>
  have h:=ha e;show AA (Wm m t (ans e)) _;cases hq:ans e with
  |none=> exact hm
  |some p=> rw [hq]at h;exact AA.tick fun z=> by cases(h z);exact AA.r _ _
omit H in
theorem Wr{α:Type}{n k:Nat}{g:Nat->α}{r:α}{b:Bool}(hb:(wX n k&&b)=true)(ok:∀d,g (d+n)=r):g (d+k)=r:=by have hn:=wA (wD.mp hb).1;rw [<-ok (d+(k - n)),xX,ye hn]
omit H in
theorem Ws{γ:Type}{x:Option γ}{b:Bool}{p:Key×Key×γ}(h:b=true->p.1=p.2.1->x=some p.2.2):DQ x (EP b p):=by
 cases b
 . trivial
 . exact h rfl
omit H in
theorem Wt{c:CS}{s:St}{t:Tr P fu}{m:Option (Rn P fu (Out Flow))}(h:AA m (As P fu (AB P fu (d+k)) c s)):AA (QN k c s t m) (As P fu (AB P fu (d+k)) c s):=AA.G7 (fun e=> by
 obtain⟨k',c0,ok⟩:=e;cases(k')with
 |Ao c' s'=> exact Ws fun hb (q:Key.Ao c s= .Ao c' s')=> by cases(q);exact congrArg some (Wr (g:=fun j=> As P fu (AB P fu j) c s) hb ok)
 |_=> trivial) h
omit H in
theorem mH{m:Option (Rn P fu (Out Flow))}{o:Out Flow}(hb:AA m o){c:Nat}{x:N}{h:St->Tr P fu->Option (Rn P fu (Out Flow))}{g:St->Out Flow}(hh:∀s t,AA (h s t) (g s)):
 AA (Wn m c x h) (match(generalizing:=false) o with
  | .ok f s=>.ok f s
  | .exc e s=> if Gd P e c=true then(g ⟨put x e s.loc,s.hp⟩).bind fun f s=>.ok f ⟨DZ x s.loc,s.hp⟩else .bad
  | .bad=>.bad):=fun R e hR=> by
 cases m with
 |none=> exact cNS e
 |some Q=>
  obtain⟨r,t',ps⟩:=Q;cases r with
  |ok f s'=> cases e;rw [hb _ rfl hR]
  |bad=> exact cNS e
  |exc x' s'=>
   replace e:D8 (Gd P x' c) (GI ps (QO x (h ⟨put x x' s'.loc,s'.hp⟩ t'))) none=some R:=e;cases hx:Gd P x' c with
   |false=> rw [hx]at e;exact cNS e
   |true=> rw [hx]at e;obtain⟨R',h1,h2,h3,h4⟩:=Mj e hR;rw [hb _ rfl h4,<-h3];show(if Gd P x' c=true then _ else _)=_;rw [if_pos hx];have h5:AA (QO x (h ⟨put x x' s'.loc,s'.hp⟩ t')) ((g ⟨put x x' s'.loc,s'.hp⟩).bind fun f s=>.ok f ⟨DZ x s.loc,s.hp⟩):=(hh _ t').b fun f s t=> AA.r _ _;exact h5 R' h1 h2
omit H in
theorem mI{m:Option (Rn P fu (Out Flow))}{o:Out Flow}(hb:AA m o):AA (Wo m) (match(generalizing:=false) o with | .ok f s=>.ok f s |_=>.bad):=fun R e hR=> by
 cases m with
 |none=> exact cNS e
 |some Q=>
  obtain⟨r,t',ps⟩:=Q;cases r with
  |ok f s'=> cases e;rw [hb _ rfl hR]
  |bad=> exact cNS e
  |exc x' s'=> exact cNS e
mutual
theorem sS:∀(c:CS) (s:St) (t:Tr P fu),AA (xS k cx c s t) (As P fu (AB P fu (d+k)) c s)
 | .expr e=>@fun s t=> (sE H e s t).b fun _ s t=> AA.r _ _
 | .asg g e=>@fun s t=> (sE H e s t).b fun v s t=> (QP H g v s t).b fun _ s t=> AA.r _ _
 | .aug g op e=>@fun s t=> mG H g op e s t
 | .ret none=>@fun s t=> AA.r _ _
 | .ret (some e)=>@fun s t=> (sE H e s t).b fun v s t=> AA.r _ _
 | .ifs c b o=>@fun s t=> (sT H c s t).b fun v s t=> AA.p (FT b s t) (FT o s t)
 | .BW c b=>@fun s t=> Wt (c:=.BW c b) (QK (fun s t=> sT H c s t) (fun s t=> FT b s t) fu s t)
 | .CV g src b=>@fun s t=> Wt (c:=.CV g src b) ((Wq H src s t).b fun xs s t=> QL (fun v s t=> QP H g v s t) (fun s t=> FT b s t) xs s t)
 | .HO c as=>@fun s t=> (Df H as s t).b fun vs s t=> AA.o fun r=> AA.r _ _
 | .Ga b c x h=>@fun s t=> mH (FT b s t) fun s t=> FT h s t
 | .HP b=>@fun s t=> mI (FT b s t)
 | .del e i=>@fun s t=> (sE H e s t).b fun o s t=> (sE H i s t).b fun k s t=> AA.o fun h=> AA.r _ _
 | .BZ=>@fun _ _=> AA.none _
 | .pass=>@fun s t=> AA.r _ _
 | .brk=>@fun s t=> AA.r _ _
 | .cont=>@fun s t=> AA.r _ _
theorem FT:∀(c:List CS) (s:St) (t:Tr P fu),AA (Em k cx c s t) (AU P fu (AB P fu (d+k)) c s)
 | []=>@fun s t=> AA.r _ _
 |c::r=>@fun s t=> (sS c s t).b fun f s t=> match f with
  | .next=> FT r s t
  | .brk=> AA.r _ _
  | .cont=> AA.r _ _
  | .ret v=> AA.r _ _
end
end
end
variable{P:Prog}{fu:Nat}
def QQ(k:Nat)(cx:CX P fu)(f:Nat)(as:List AV)(ks:List (N×AV))(h:Hp)(t:Tr P fu):Option (Rn P fu COut):=
 oX (P.fns f) fun fn=> oX (EW fn as ks) fun loc=> mX Dw (Em k cx fn.body ⟨loc,h⟩ t)
def QR(k:Nat)(f:Nat)(as:List AV)(ks:List (N×AV))(h:Hp)(e:Ent P fu):Option (Key×Key×COut):=match e with
 |⟨.call f' as' ks' h',(r,n),_⟩=> EP (wX n k&&wh f f') (.call f as ks h,.call f' as' ks' h',r)
 |_=> none
def GK:Nat->CX P fu
 |0,f,as,ks,h,t=> G7 none (QR 0 f as ks h) t
 |k+1,f,as,ks,h,t=> G7 (QQ k (GK k) f as ks h t) (QR (k+1) f as ks h) t
theorem Wu{d k:Nat}{cx:CX P fu}(H:∀f as ks h t,AA (cx f as ks h t) (AB P fu (d+k) f as ks h))(f:Nat)(as:List AV)(ks:List (N×AV))(h:Hp)(t:Tr P fu):AA (QQ k cx f as ks h t) (AB P fu (d+(k+1)) f as ks h):=
 AA.oc fun fn=> AA.oc fun loc=> AA.m _ (FT H fn.body _ t)
theorem Wv{d k:Nat}{f:Nat}{as:List AV}{ks:List (N×AV)}{h:Hp}(e:Ent P fu):DQ (some (AB P fu (d+k) f as ks h)) (QR k f as ks h e):=by
 obtain⟨k',c0,ok⟩:=e;cases(k')with
 |call f' as' ks' h'=> exact Ws fun hb (q:Key.call f as ks h= .call f' as' ks' h')=> by cases(q);exact congrArg some (Wr (g:=fun j=> AB P fu j f as ks h) hb ok)
 |_=> trivial
theorem G8(d:Nat):∀(k:Nat) (f:Nat) (as:List AV) (ks:List (N×AV)) (h:Hp) (t:Tr P fu),AA (GK k f as ks h t) (AB P fu (d+k) f as ks h)
 |0=>@fun f as ks h t=> AA.G7 Wv (AA.none _)
 |k+1=>@fun f as ks h t=> AA.G7 Wv (Wu (fun f as ks h t=> G8 d k f as ks h t) f as ks h t)
def dup(e:Ent P fu):Key×Key:=(e.key,e.key)
theorem cert{k:Nat}{f:Nat}{as:List AV}{ks:List (N×AV)}{h:Hp}{r:COut}(tr:Tr P fu)(e:QQ k (GK k) f as ks h tr=some ⟨r,[],tr.map dup⟩:=by kernel_rfl!):∀d,AB P fu (d+(k+1)) f as ks h=r:=fun d=>
 Wu (fun f as ks h t=> G8 d k f as ks h t) f as ks h tr _ e fun p hp=> by obtain⟨q,_,rfl⟩:=wu.mp hp;rfl
theorem vk{k:Nat}{c:CS}{s:St}{r:Out Flow}(tr:Tr P fu)(e:xS k (GK k) c s tr=some ⟨r,[],tr.map dup⟩:=by kernel_rfl!):∀d,As P fu (AB P fu (d+k)) c s=r:=fun d=>
 sS (fun f as ks h t=> G8 d k f as ks h t) c s tr _ e fun p hp=> by obtain⟨q,_,rfl⟩:=wu.mp hp;rfl
theorem Aa{k:Nat}{c:List CS}{s:St}{r:Out Flow}(tr:Tr P fu)(e:Em k (GK k) c s tr=some ⟨r,[],tr.map dup⟩:=by kernel_rfl!):∀d,AU P fu (AB P fu (d+k)) c s=r:=fun d=>
 FT (fun f as ks h t=> G8 d k f as ks h t) c s tr _ e fun p hp=> by obtain⟨q,_,rfl⟩:=wu.mp hp;rfl
theorem Br{k:Nat}{c:CE}{s:St}{r:Out Bool}(tr:Tr P fu)(e:xT (GK k) c s tr=some ⟨r,[],tr.map dup⟩:=by kernel_rfl!):∀d,An P (AB P fu (d+k)) c s=r:=fun d=>
 sT (fun f as ks h t=> G8 d k f as ks h t) c s tr _ e fun p hp=> by obtain⟨q,_,rfl⟩:=wu.mp hp;rfl
end
end Internal
section
namespace Internal
abbrev N.name:N:=1851878757
abbrev N.stream:N:=126943972647277
abbrev N.QS:N:=2341702975124311297391685803468146
abbrev N.eof:N:=6647654
abbrev N.buffer:N:=108256368682354
abbrev N.Mo:N:=31647696006964594
abbrev N.QT:N:=540147714924359050487154
abbrev N.QU:N:=540147714926489304523877
abbrev N.encoding:N:=7308888575346044519
abbrev N.index:N:=452823639416
abbrev N.line:N:=1818848869
abbrev N.column:N:=109330212154734
abbrev N.Ww:N:=1685024357
abbrev N.Wx:N:=483681661606044045305196
abbrev N.tokens:N:=128021892001395
abbrev N.Wy:N:=36034959069546880227118638446
abbrev N.indent:N:=115922851688052
abbrev N.Wz:N:=29676250032141427
abbrev N.W3:N:=129498082983365943657840870465989207417
abbrev N.W4:N:=641892406234741257400485027431320278878166284659
abbrev N.mJ:N:=36034959069541267224754546034
abbrev N.required:N:=8243119442065778020
abbrev N.mark:N:=1835102827
abbrev N.Hv:N:=545218989645281737405035
abbrev N.JG:N:=7308889606288667243
abbrev N.value:N:=508440638821
abbrev N.plain:N:=482854660462
abbrev N.QV:N:=495875353701
abbrev N.length:N:=119182899770472
abbrev N.ch:N:=25448
abbrev N.context:N:=27988542884247668
abbrev N.vm:N:=30773728345737535801669022315
abbrev N.problem:N:=31651020109800813
abbrev N.vn:N:=34800664641698002562615177835
abbrev N.note:N:=1852798053
namespace L4
def PP:Prog:=progOf DD Al BP
structure Ky where
 tn:Nat
 req:Bool
 ptr:Nat
 line:Nat
 col:Nat
structure Sc where
 buf:List Nat
 ptr:Nat
 line:Nat
 col:Nat
 toks:List AV
 taken:Nat
 st:List Int
 allow:Bool
 key:Option Ky
def Mp:List Nat:=[60,117,110,105,99,111,100,101,32,115,116,114,105,110,103,62]
def AY(buf:List Nat)(ptr line col:Nat):AV:=.obj 53 [(N.name,.str Mp),(N.index,.int ptr),(N.line,.int line),(N.column,.int col),(N.buffer,.str buf),(N.Mo,.int ptr)]
def Ky.v(b:List Nat)(k:Ky):AV:=.obj 530 [(N.mJ,.int k.tn),(N.required,.bool k.req),(N.index,.int k.ptr),(N.line,.int k.line),(N.column,.int k.col),(N.mark,AY b k.ptr k.line k.col)]
def W5(b:List Nat):Option Ky->List (AV×AV)
 |none=>[]
 |some k=>[(.int 0,k.v b)]
def Sc.mK(s:Sc):List (N×AV):=[(N.name,.str Mp),(N.stream,.none),(N.QS,.int 0),(N.eof,.bool true),(N.buffer,.str s.buf),(N.Mo,.int s.ptr),(N.QT,.none),(N.QU,.none),
 (N.encoding,.none),(N.index,.int s.ptr),(N.line,.int s.line),(N.column,.int s.col),(N.Ww,.bool false),(N.Wx,.int 0),(N.tokens,.ref 3),(N.Wy,.int s.taken),(N.indent,.int (s.st.headD 0)),(N.Wz,.ref 5),(N.W3,.bool s.allow),
 (N.W4,.ref 7)]
def Sc.hp(s:Sc)(lo g:List AObj):Hp:=⟨lo,.ins 1048 s.mK::.lst s.toks::.lst (s.st.tail.reverse.map .int)::.Ap (W5 s.buf s.key)::g⟩
def Sc.mark(s:Sc):AV:=AY s.buf s.ptr s.line s.col
abbrev fu:Nat:=5000
abbrev me:AV:=.ref 1
variable{s:Sc}{lo g:List AObj}
theorem mL{n p:Nat}(h:p<n):Du n (p:Int)=some p:=by unfold Du;rw [if_pos (by exact xc _),if_pos (by lia)];rfl
theorem De{b:List Nat}{p c:Nat}(k:Int)(hk:k=(p:Int))(h:b[p]? =some c)(hp:Hp):Cr hp (.str b) (.int k)=some (.str [c]):=by
 have hl:p<b.length:=by
  rcases xt p b.length with q |q
  . exact q
  . rw [yI q]at h;cases h
 subst hk;show(Du b.length (p:Int)).bind (fun j=> b[j]?.map fun c=> AV.str [c])=_;rw [mL hl];show b[p]?.map _=_;rw [h];rfl
theorem mM{k c:Nat}(h:s.buf[s.ptr+k]? =some c):∀d,AB PP fu (d+1) Cs [me,.int k] [] (s.hp lo g)= .ok (.str [c]) (s.hp lo g):=
 cert [.get (.str s.buf) (.int ((s.ptr:Int)+k)) (.str [c]) (De _ (by rfl) h)]
theorem Dg{c:Nat}(h:s.buf[s.ptr]? =some c):∀d,AB PP fu (d+1) Cs [me] [] (s.hp lo g)= .ok (.str [c]) (s.hp lo g):=
 cert [.get (.str s.buf) (.int ((s.ptr:Int)+0)) (.str [c]) (De _ (by exact Int.add_zero _) h)]
end L4
end Internal
end
namespace Internal
namespace L4
section
variable{s:Sc}{lo g:List AObj}
def Bs:CS->CE
 | .BW t _=> t
 |_=>.BZ
def BQ:CS->List CS
 | .BW _ b=> b
 | .CV _ _ b=> b
 |_=>[]
def DS:List CS->Nat->CS
 | [],_=>.pass
 |c::_,0=> c
 |_::r,n+1=> DS r n
section
variable{te:St->Out Bool}{bo:St->Out Flow}{n:Nat}{a b c:St}
theorem FU(h1:te a= .ok true b)(h2:bo b= .ok .next c):Bb te bo (n+1) a=Bb te bo n c:=by show(te a).bind _=_;rw [h1];show(bo b).bind _=_;rw [h2];rfl
theorem G9(h1:te a= .ok false b):Bb te bo (n+1) a= .ok .next b:=by show(te a).bind _=_;rw [h1];rfl
theorem W6(h1:te a= .ok true b)(h2:bo b= .ok .brk c):Bb te bo (n+1) a= .ok .next c:=by show(te a).bind _=_;rw [h1];show(bo b).bind _=_;rw [h2];rfl
theorem vo{e:AV}(h1:te a= .ok true b)(h2:bo b= .exc e c):Bb te bo (n+1) a= .exc e c:=by show(te a).bind _=_;rw [h1];show(bo b).bind _=_;rw [h2];rfl
end
section
variable{k:Nat}{c:CS}{S:Nat->St}{m:Nat}
theorem W7{te:St->Out Bool}{bo:St->Out Flow}{r:Out Flow}:∀(m i n:Nat),(∀j,i<=j->j<i+m->te (S j)= .ok true (S j)/\bo (S j)= .ok .next (S (j+1)))->(∀n,Bb te bo (n+2) (S (i+m))=r)->m+1<n->Bb te bo n (S i)=r
 |m,i,0,_,_,h=> absurd h (zP _)
 |m,i,1,_,_,h=> absurd h (by lia)
 |0,i,n+2,_,h,_=> h n
 |m+1,i,n+1,hs,h,hm=> by have h0:=hs i (wW _) (by exact Zd);refine(FU h0.1 h0.2).trans (W7 m (i+1) n (fun j h1 h2=> hs j (by exact AI h1) (by exact BV h2)) (fun n=> ?_) (by exact BV hm));rw [show i+1+m=i+(m+1) by exact xp (EA) (EA)];exact h n
theorem QW{r:Out Flow}(hc:c= .BW (Bs c) (BQ c))(ht:∀i,i<m->∀d,An PP (AB PP fu (d+k)) (Bs c) (S i)= .ok true (S i))(hb:∀i,i<m->∀d,AU PP fu (AB PP fu (d+k)) (BQ c) (S i)= .ok .next (S (i+1)))
 (he:∀d n,Bb (fun s=> An PP (AB PP fu (d+k)) (Bs c) s) (fun s=> AU PP fu (AB PP fu (d+k)) (BQ c) s) (n+2) (S m)=r) (hm:m+1<fu):∀d,As PP fu (AB PP fu (d+k)) c (S 0)=r:=fun d=> by
 rw [hc];show Bb (fun s=> An PP (AB PP fu (d+k)) (Bs c) s) (fun s=> AU PP fu (AB PP fu (d+k)) (BQ c) s) fu (S 0)=_;exact W7 m 0 fu (fun j _ h=> ⟨ht j (by exact BV h) d,hb j (by exact BV h) d⟩) (fun n=> by rw [xB];exact he d n) hm
theorem QX(hc:c= .BW (Bs c) (BQ c))(ht:∀i,i<m->∀d,An PP (AB PP fu (d+k)) (Bs c) (S i)= .ok true (S i))(hb:∀i,i<m->∀d,AU PP fu (AB PP fu (d+k)) (BQ c) (S i)= .ok .next (S (i+1)))
 (he:∀d,An PP (AB PP fu (d+k)) (Bs c) (S m)= .ok false (S m)) (hm:m+1<fu):∀d,As PP fu (AB PP fu (d+k)) c (S 0)= .ok .next (S m):=QW hc ht hb (fun d n=> G9 (he d)) hm
end
section
variable(hp:Hp)
theorem in1{c:Nat}{l:List Nat}{b:Bool}(h:l.contains c=b):BK hp .A9 (.str [c]) (.str l)=some b:=congrArg some h
theorem QY{c:Nat}{l:List Nat}{b:Bool}(h:(!l.contains c)=b):BK hp .EB (.str [c]) (.str l)=some b:=congrArg some h
theorem QZ{x y:List Nat}{b:Bool}(h:(x==y)=b):BK hp .eq (.str x) (.str y)=some b:=congrArg some h
theorem mN{x y:List Nat}{b:Bool}(h:(x !=y)=b):BK hp .ne (.str x) (.str y)=some b:=congrArg some h
theorem En{x y:Int}{b:Bool}(h:(x==y)=b):BK hp .eq (.int x) (.int y)=some b:=congrArg some h
theorem W8{x y:Int}{b:Bool}(h:(x !=y)=b):BK hp .ne (.int x) (.int y)=some b:=congrArg some h
theorem ltI{x y:Int}{b:Bool}(h:decide (x<y)=b):BK hp .lt (.int x) (.int y)=some b:=congrArg some h
theorem KZ{x y:Int}{b:Bool}(h:decide (x>y)=b):BK hp .gt (.int x) (.int y)=some b:=congrArg some h
theorem Hw{x y:Nat}{b:Bool}(h:(x==y)=b):BK hp .eq (.str [x]) (.str [y])=some b:=QZ _ (by rw [<-h];show([x]==[y])=_;simp)
theorem W9{x y:Nat}{b:Bool}(h:(x !=y)=b):BK hp .ne (.str [x]) (.str [y])=some b:=mN _ (by rw [<-h];show([x] !=[y])=_;simp [bne])
end
def Co(c:Nat):Bool:= !([10,133,8232,8233].contains c)&&(c !=13&&c !=65279)
def XB(c:Nat):Bool:=[10,133,8232,8233].contains c
theorem XC{c:Nat}(h:Co c=true):[10,133,8232,8233].contains c=false:=by have:=(wD.mp h).1;simpa using this
theorem XD{c:Nat}(h:Co c=true):(c==13)=false:=by have:=(wD.mp (wD.mp h).2).1;simpa using this
theorem XE{c:Nat}(h:Co c=true):(c !=65279)=true:=(wD.mp (wD.mp h).2).2
def AJ(b:List Nat)(p:Nat)(w:List Nat):Prop:=∀i c,w[i]? =some c->b[p+i]? =some c
theorem AJ.head{b:List Nat}{p c:Nat}{w:List Nat}(h:AJ b p (c::w)):b[p]? =some c:=h 0 c rfl
theorem AJ.tail{b:List Nat}{p c:Nat}{w:List Nat}(h:AJ b p (c::w)):AJ b (p+1) w:=fun i x e=> by have:=h (i+1) x e;rw [<-xX,zw]at this;exact this
theorem AJ.drop{b:List Nat}{p:Nat}:∀{u w:List Nat},AJ b p (u++w)->AJ b (p+u.length) w
 | [],w,h=> h
 |c::u,w,h=> by have:=AJ.drop (u:=u) (w:=w) h.tail;rw [xX,Nat.add_comm 1]at this;exact this
theorem AJ.left{b:List Nat}{p:Nat}{u w:List Nat}(h:AJ b p (u++w)):AJ b p u:=fun i c e=> h i c (by
 have:i<u.length:=by
  rcases xt i u.length with q |q
  . exact q
  . rw [yI q]at e;cases e
 rw [yu this];exact e)
def Qa:CS:=DS Sm 1
def Sc.on(s:Sc)(n:Nat):Sc:={s with ptr:=s.ptr+n,col:=s.col+n}
def JH(w:List Nat)(i:Nat):List (N×AV):=match i with
 |0=>[(N.self,me),(N.length,.int w.length)]
 |i+1=>[(N.self,me),(N.length,.int ((w.length:Int) - (i+1:Nat))),(N.ch,.str [w.getD i 0])]
theorem Sc.GL(s:Sc)(a b:Nat):(s.on a).on b=s.on (a+b):=by unfold Sc.on;simp only [xX]
theorem AJ.at{b:List Nat}{p:Nat}{w:List Nat}(h:AJ b p w){i:Nat}(hi:i<w.length):b[p+i]? =some (w.getD i 0):=h i _ (by rw [yr,xG hi];rfl)
theorem Mq{w:List Nat}{f:Nat->Bool}(h:w.all f=true){i:Nat}(hi:i<w.length):f (w.getD i 0)=true:=by rw [yr,xG hi];exact wi.mp h _ (List.getElem_mem hi)
def Eo(s:Sc)(lo g:List AObj)(w:List Nat)(i:Nat):St:=⟨JH w i,(s.on i).hp lo g⟩
theorem mO{a b:Nat}(h:b<a):∃n:Nat,(a:Int) - (b:Nat)=(n+1:Nat):=by obtain⟨k,hk⟩:=Nat.exists_eq_add_of_lt h;exact⟨k,by rw [hk,xX,Int.natCast_add,Int.add_comm,Int.add_sub_cancel]⟩
theorem XF{w:List Nat}(hh:AJ s.buf s.ptr w)(hw:w.all Co=true)(hn:w.length+1<fu):∀d,As PP fu (AB PP fu (d+0)) Qa (Eo s lo g w 0)= .ok .next (Eo s lo g w w.length):=by
 refine QX rfl (fun i hi=> ?_) (fun i hi=> ?_) ?_ hn
 . cases i with
   |zero=> obtain⟨n,hn⟩:∃n,w.length=n+1:=⟨w.length - 1,by exact ZY⟩;unfold Eo JH;rw [hn];exact Br []
   |succ i=> obtain⟨n,hn⟩:∃n:Nat,(w.length:Int) - (i+1:Nat)=(n+1:Nat):=mO hi;unfold Eo JH;dsimp only;rw [hn];exact Br []
 . have h:=hh.at hi;have hc:=Mq hw hi;cases i with
   |zero=> exact Aa [.get (.str s.buf) (.int s.ptr) (.str [w.getD 0 0]) (De _ rfl h),.cmp .A9 (.str [w.getD 0 0]) (.str [10,133,8232,8233]) false (fun _=> in1 _ (XC hc)),.cmp .eq (.str [w.getD 0 0]) (.str [13]) false (fun _=> Hw _ (XD hc)),.cmp .ne (.str [w.getD 0 0]) (.str [65279]) true (fun _=> W9 _ (XE hc))]
   |succ i=> have e:((w.length:Int) - (i+1:Nat)) - 1=(w.length:Int) - (i+1+1:Nat):=Int.sub_sub ..;unfold Eo JH;dsimp only;rw [<-e,<-Sc.GL];generalize w.getD i 0=c';generalize w.getD (i+1) 0=c at h hc;generalize(w.length:Int) - (i+1:Nat)=n;exact Aa [.get (.str s.buf) (.int (s.ptr+(i+1):Nat)) (.str [c]) (De _ rfl h),.cmp .A9 (.str [c]) (.str [10,133,8232,8233]) false (fun _=> in1 _ (XC hc)),.cmp .eq (.str [c]) (.str [13]) false (fun _=> Hw _ (XD hc)),.cmp .ne (.str [c]) (.str [65279]) true (fun _=> W9 _ (XE hc))]
 . generalize hm:w.length=m;cases m with
   |zero=> unfold Eo JH;rw [hm];exact Br []
   |succ i=> unfold Eo JH;dsimp only;rw [hm,show((i+1:Nat):Int) - (i+1:Nat)=0 from Int.sub_self _];exact Br []
theorem Mr{x y:Int}:∃b,∀h,BK h .ge (.int x) (.int y)=some b:=⟨_,fun _=> rfl⟩
theorem XG{w:List Nat}(hh:AJ s.buf s.ptr w)(hw:w.all Co=true)(hn:w.length+1<fu):∀d,AB PP fu (d+2) D5 [me,.int w.length] [] (s.hp lo g)= .ok .none ((s.on w.length).hp lo g):=by
 obtain⟨b,hb⟩:=Mr (x:=(s.ptr:Int)+(w.length:Int)+1) (y:=s.buf.length);cases b
 . exact cert [.cmp .ge (.int ((s.ptr:Int)+(w.length:Int)+1)) (.int s.buf.length) false hb,.Ao Qa (Eo s lo g w 0) (.ok .next (Eo s lo g w w.length)) 0 (XF hh hw hn)]
 . exact cert [.cmp .ge (.int ((s.ptr:Int)+(w.length:Int)+1)) (.int s.buf.length) true hb,.Ao Qa (Eo s lo g w 0) (.ok .next (Eo s lo g w w.length)) 0 (XF hh hw hn)]
theorem Ms{c:Nat}(h:s.buf[s.ptr]? =some c)(hc:Co c=true):∀d,AB PP fu (d+2) D5 [me] [] (s.hp lo g)= .ok .none ((s.on 1).hp lo g):=by
 have h1:=XG (s:=s) (lo:=lo) (g:=g) (w:=[c]) (fun i x e=> by
  cases i with
  |zero=> cases e;exact h
  |succ i=> cases e) (by rw [xW,hc];rfl) (by show 1+1<5000;decide)
 exact fun d=> (show AB PP fu (d+2) D5 [me] [] (s.hp lo g)=AB PP fu (d+2) D5 [me,.int 1] [] (s.hp lo g)from rfl).trans (h1 d)
def Sc.nl(s:Sc)(n:Nat):Sc:={s with ptr:=s.ptr+n,line:=s.line+1,col:=0}
theorem XI{c:Nat}(h:s.buf[s.ptr]? =some c)(hc:XB c=true):∀d,AB PP fu (d+2) D5 [me] [] (s.hp lo g)= .ok .none ((s.nl 1).hp lo g):=by
 obtain⟨b,hb⟩:=Mr (x:=(s.ptr:Int)+1+1) (y:=s.buf.length);cases b
 . exact cert [.cmp .ge (.int ((s.ptr:Int)+1+1)) (.int s.buf.length) false hb,.get (.str s.buf) (.int s.ptr) (.str [c]) (De _ rfl h),.cmp .A9 (.str [c]) (.str [10,133,8232,8233]) true (fun _=> in1 _ hc)]
 . exact cert [.cmp .ge (.int ((s.ptr:Int)+1+1)) (.int s.buf.length) true hb,.get (.str s.buf) (.int s.ptr) (.str [c]) (De _ rfl h),.cmp .A9 (.str [c]) (.str [10,133,8232,8233]) true (fun _=> in1 _ hc)]
theorem mP(h:s.buf[s.ptr]? =some 13)(h':s.buf[s.ptr+1]? =some 10):∀d,AB PP fu (d+2) D5 [me,.int 2] [] (s.hp lo g)= .ok .none ((s.nl 2).hp lo g):=by
 obtain⟨b,hb⟩:=Mr (x:=(s.ptr:Int)+2+1) (y:=s.buf.length);cases b
 . exact cert [.cmp .ge (.int ((s.ptr:Int)+2+1)) (.int s.buf.length) false hb,.get (.str s.buf) (.int s.ptr) (.str [13]) (De _ rfl h),.get (.str s.buf) (.int ((s.ptr:Int)+1)) (.str [10]) (De _ rfl h'),.get (.str s.buf) (.int ((s.ptr:Int)+1)) (.str [10]) (De _ rfl h')]
 . exact cert [.cmp .ge (.int ((s.ptr:Int)+2+1)) (.int s.buf.length) true hb,.get (.str s.buf) (.int s.ptr) (.str [13]) (De _ rfl h),.get (.str s.buf) (.int ((s.ptr:Int)+1)) (.str [10]) (De _ rfl h'),.get (.str s.buf) (.int ((s.ptr:Int)+1)) (.str [10]) (De _ rfl h')]
theorem Qb(l n:Nat):DV l (n:Int)=min n l:=by
 show(max 0 (min (if(n:Int)<0 then(n:Int)+l else n) l)).toNat=_;rw [if_neg (yW.mpr (xc n))];rcases Nat.le_total n l with h |h
 . rw [Int.min_eq_left (x9.mpr h),z0 (xc _),yi,yk h]
 . rw [Int.min_eq_right (x9.mpr h),z0 (xc _),yi,AAA h]
theorem mQ{b:List Nat}{p q:Nat}{x:Int}(hx:x=(q:Int))(hp:p<=b.length)(h:Hp):E4 h (.str b) (.int p) (.int x)=some (.str ((b.drop p).take (q - p))):=by
 subst hx;show some (AV.str ((b.drop (DV b.length p)).take (DV b.length q - DV b.length p)))=_;rw [Qb,Qb,yk hp];rcases Nat.le_total q b.length with h |h
 . rw [yk h]
 . rw [AAA h,yH (w5 xn),yH (wC (w5 xn) (Nat.sub_le_sub_right h p))]
def Sc.pre(s:Sc)(n:Nat):List Nat:=(s.buf.drop s.ptr).take n
theorem FV{n:Nat}(hp:s.ptr<=s.buf.length):∀d,AB PP fu (d+2) D0 [me,.int n] [] (s.hp lo g)= .ok (.str (s.pre n)) (s.hp lo g):=by
 obtain⟨b,hb⟩:=Mr (x:=(s.ptr:Int)+n) (y:=s.buf.length);have hs:=fun h=> mQ (b:=s.buf) (p:=s.ptr) (q:=s.ptr+n) (x:=(s.ptr:Int)+n) rfl hp h;rw [AAV]at hs;cases b
 . exact cert [.cmp .ge (.int ((s.ptr:Int)+n)) (.int s.buf.length) false hb,.Bd (.str s.buf) (.int s.ptr) (.int ((s.ptr:Int)+n)) (.str (s.pre n)) hs]
 . exact cert [.cmp .ge (.int ((s.ptr:Int)+n)) (.int s.buf.length) true hb,.Bd (.str s.buf) (.int s.ptr) (.int ((s.ptr:Int)+n)) (.str (s.pre n)) hs]
theorem AJ.take{b w:List Nat}{p:Nat}(h:AJ b p w):(b.drop p).take w.length=w:=by
 apply List.ext_getElem?;intro i;rw [List.getElem?_take];rcases xt i w.length with q |q
 . rw [if_pos q,List.getElem?_drop,xG q];exact h i _ (xG q)
 . rw [if_neg (by exact JX),yI q]
theorem AJ.le{b w:List Nat}{p:Nat}(h:AJ b p w)(hw:w≠[]):p+w.length<=b.length:=by
 have hl:0<w.length:=zv.mpr hw;have:=h (w.length - 1) _ (xG (by lia));rcases xt (p+(w.length - 1)) b.length with q |q
 . lia
 . rw [yI q]at this;cases this
theorem XJ{w:List Nat}(h:AJ s.buf s.ptr w)(hw:w≠[]):∀d,AB PP fu (d+2) D0 [me,.int w.length] [] (s.hp lo g)= .ok (.str w) (s.hp lo g):=fun d=> by have h1:=FV (s:=s) (lo:=lo) (g:=g) (n:=w.length) (by have:=h.le hw;exact AI this) d;rw [h1];unfold Sc.pre;rw [h.take]
end
end L4
end Internal
section
namespace Internal
abbrev N.found:N:=439956631140
namespace L4
variable{s:Sc}{lo g:List AObj}
def isLE(l:List Nat):Bool:=[[10],[13,10],[133],[8232]].contains l
def BA(l:List Nat):List Nat:=if l==[8232]then [8232]else [10]
theorem HB{l:List Nat}(h:isLE l=true):l=[10]∨l=[13,10]∨l=[133]∨l=[8232]:=by unfold isLE at h;simpa using h
theorem Qc{n c:Nat}(h:s.buf[s.ptr]? =some c):∃u,s.pre (n+1)=c::u:=by
 have hl:s.ptr<s.buf.length:=by
  rcases xt s.ptr s.buf.length with q |q
  . exact q
  . rw [yI q]at h;cases h
 rw [xG hl]at h;cases h;exact⟨_,by unfold Sc.pre;rw [w9 hl];rfl⟩
theorem JI{c k:Nat}(h:s.buf[s.ptr+k]? =some c):s.ptr<=s.buf.length:=by
 rcases xt (s.ptr+k) s.buf.length with q |q
 . exact AI q
 . rw [yI q]at h;cases h
theorem XM{c:Nat}(h:s.buf[s.ptr]? =some c)(hc:[13,10,133,8232,8233].contains c=false):∀d,AB PP fu (d+4) Hb [me] [] (s.hp lo g)= .ok (.str []) (s.hp lo g):=by
 have h1:[13,10,133].contains c=false:=by simp only [xD,zp]at hc⊢;exact⟨hc.1,hc.2.1,hc.2.2.1,rfl⟩
 have h2:[8232,8233].contains c=false:=by simp only [xD,zp]at hc⊢;exact hc.2.2.2
 exact cert [.call Cs [me] [] (s.hp lo g) (.ok (.str [c]) (s.hp lo g)) 1 (Dg h),.cmp .A9 (.str [c]) (.str [13,10,133]) false (fun _=> in1 _ h1),.cmp .A9 (.str [c]) (.str [8232,8233]) false (fun _=> in1 _ h2)]
theorem Hx{l:List Nat}(hl:isLE l=true)(h:AJ s.buf s.ptr l):∀d,AB PP fu (d+4) Hb [me] [] (s.hp lo g)= .ok (.str (BA l)) ((s.nl l.length).hp lo g):=by
 have one:∀c,(c==13)=false->XB c=true->s.buf[s.ptr]? =some c->[13,10,133].contains c=true->∀d,AB PP fu (d+4) Hb [me] [] (s.hp lo g)= .ok (.str [10]) ((s.nl 1).hp lo g):=fun c h13 hb h hc=> by
  obtain⟨u,hu⟩:=Qc (n:=1) h;have hp:(s.pre 2==[13,10])=false:=by rw [hu];show(c==13&&_)=false;rw [h13];rfl
  exact cert [.call Cs [me] [] (s.hp lo g) (.ok (.str [c]) (s.hp lo g)) 1 (Dg h),.cmp .A9 (.str [c]) (.str [13,10,133]) true (fun _=> in1 _ hc),
   .call D0 [me,.int 2] [] (s.hp lo g) (.ok (.str (s.pre 2)) (s.hp lo g)) 2 (FV (n:=2) (JI (k:=0) h)),.cmp .eq (.str (s.pre 2)) (.str [13,10]) false (fun _=> QZ _ hp),
   .call D5 [me] [] (s.hp lo g) (.ok .none ((s.nl 1).hp lo g)) 2 (XI h hb)]
 rcases HB hl with rfl |rfl |rfl |rfl
 . exact one 10 rfl rfl h.head rfl
 . exact cert [.call Cs [me] [] (s.hp lo g) (.ok (.str [13]) (s.hp lo g)) 1 (Dg h.head),
    .call D0 [me,.int 2] [] (s.hp lo g) (.ok (.str [13,10]) (s.hp lo g)) 2 (XJ h nofun),
    .call D5 [me,.int 2] [] (s.hp lo g) (.ok .none ((s.nl 2).hp lo g)) 2 (mP h.head h.tail.head)]
 . exact one 133 rfl rfl h.head rfl
 . exact cert [.call Cs [me] [] (s.hp lo g) (.ok (.str [8232]) (s.hp lo g)) 1 (Dg h.head),
    .call D5 [me] [] (s.hp lo g) (.ok .none ((s.nl 1).hp lo g)) 2 (XI h.head rfl)]
def Qd(c:Nat):Bool:=[0,13,10,133,8232,8233].contains c
def JJ(c:Nat):Bool:=Co c&& !Qd c
def Ka:CS:=.BW (.cmp (.AE (.var N.self) 1885693291 []) [(.eq,.cst (.str [32]))]) [.expr (.AE (.var N.self) 28832985044316772 [])]
def Kb:CS:=.BW (.cmp (.AE (.var N.self) 1885693291 []) [(.EB,.cst (.str [0,13,10,133,8232,8233]))]) [.expr (.AE (.var N.self) 28832985044316772 [])]
def Cp(s:Sc)(lo g:List AObj)(x:List (N×AV))(i:Nat):St:=⟨(N.self,me)::x,(s.on i).hp lo g⟩
theorem AJ.on{w:List Nat}(h:AJ s.buf s.ptr w){i:Nat}(hi:i<w.length):(s.on i).buf[(s.on i).ptr]? =some (w.getD i 0):=h.at hi
theorem Mt{x:List (N×AV)}{n c:Nat}(h:AJ s.buf s.ptr (wB n 32++[c]))(hc:(c==32)=false)(hn:n+1<fu):∀d,As PP fu (AB PP fu (d+2)) Ka (Cp s lo g x 0)= .ok .next (Cp s lo g x n):=by
 have h32:∀i,i<n->(s.on i).buf[(s.on i).ptr]? =some 32:=fun i hi=> by have:=h.left.on (i:=i) (by rw [wc];exact hi);rw [this,yr,List.getElem?_replicate,if_pos hi];rfl
 have hz:(s.on n).buf[(s.on n).ptr]? =some c:=by have:=h.drop.head;rw [wc]at this;exact this
 refine QX rfl (fun i hi=> ?_) (fun i hi=> ?_) ?_ hn
 . exact Br [.call Cs [me] [] ((s.on i).hp lo g) (.ok (.str [32]) ((s.on i).hp lo g)) 1 (Dg (h32 i hi))]
 . unfold Cp;rw [<-Sc.GL s i 1];exact Aa [.call D5 [me] [] ((s.on i).hp lo g) (.ok .none (((s.on i).on 1).hp lo g)) 2 (Ms (h32 i hi) rfl)]
 . exact Br [.call Cs [me] [] ((s.on n).hp lo g) (.ok (.str [c]) ((s.on n).hp lo g)) 1 (Dg hz),.cmp .eq (.str [c]) (.str [32]) false (fun _=> Hw _ hc)]
theorem XO{x:List (N×AV)}{w:List Nat}{c:Nat}(h:AJ s.buf s.ptr (w++[c]))(hw:w.all JJ=true)(hc:Qd c=true)(hn:w.length+1<fu):∀d,As PP fu (AB PP fu (d+2)) Kb (Cp s lo g x 0)= .ok .next (Cp s lo g x w.length):=by
 have hz:(s.on w.length).buf[(s.on w.length).ptr]? =some c:=h.drop.head;refine QX rfl (fun i hi=> ?_) (fun i hi=> ?_) ?_ hn
 . have hr:=wD.mp (Mq hw hi);exact Br [.call Cs [me] [] ((s.on i).hp lo g) (.ok (.str [w.getD i 0]) ((s.on i).hp lo g)) 1 (Dg (h.left.on hi)),.cmp .EB (.str [w.getD i 0]) (.str [0,13,10,133,8232,8233]) true (fun _=> QY _ hr.2)]
 . have hr:=wD.mp (Mq hw hi);unfold Cp;rw [<-Sc.GL s i 1];exact Aa [.call D5 [me] [] ((s.on i).hp lo g) (.ok .none (((s.on i).on 1).hp lo g)) 2 (Ms (h.left.on hi) hr.1)]
 . exact Br [.call Cs [me] [] ((s.on w.length).hp lo g) (.ok (.str [c]) ((s.on w.length).hp lo g)) 1 (Dg hz),.cmp .EB (.str [c]) (.str [0,13,10,133,8232,8233]) false (fun _=> QY _ (by rw [show [0,13,10,133,8232,8233].contains c=true from hc];rfl))]
end L4
end Internal
end
namespace Internal
namespace L4
section
variable{s:Sc}{lo g:List AObj}
def Ep(w:List Nat):Bool:=match w with
 | []=> true
 |c::u=> c==35&&u.all JJ
structure Gp where
 k:Nat
 w:List Nat
 l:List Nat
def Gp.ok(p:Gp):Bool:=Ep p.w&&isLE p.l&&wX (p.k+p.w.length) 2000
def Gp.txt(p:Gp):List Nat:=wB p.k 32++(p.w++p.l)
def Gp.go(p:Gp)(s:Sc):Sc:={s.on (p.k+p.w.length)with ptr:=s.ptr+(p.k+p.w.length)+p.l.length,line:=s.line+1,col:=0,allow:=true}
def GN:CS:=DS Sq 2
def Dh(s:Sc)(lo g:List AObj)(b:Bool):St:=⟨[(N.self,me),(N.found,.bool b)],s.hp lo g⟩
theorem mR{l:List Nat}(h:isLE l=true):∃c u,l=c::u/\[13,10,133,8232,8233].contains c=true/\(c==32)=false/\(c==35)=false/\Qd c=true:=by rcases HB h with rfl |rfl |rfl |rfl<;>exact⟨_,_,rfl,rfl,rfl,rfl,rfl⟩
theorem XQ{u:List Nat}(h:u.all JJ=true):(35::u).all JJ=true:=by rw [xW,h];rfl
theorem AJ.snoc{b:List Nat}{p:Nat}{u v:List Nat}{c:Nat}{t:List Nat}(h:AJ b p (u++v))(e:v=c::t):AJ b p (u++[c]):=by subst e;refine AJ.left (w:=t) ?_;rw [wF];exact h
theorem mS{p:Gp}(hp:p.ok=true)(h:AJ s.buf s.ptr p.txt):∀d,AU PP fu (AB PP fu (d+4)) (BQ GN) (Dh s lo g false)= .ok .next (Dh (p.go s) lo g false):=by
 obtain⟨k,w,l⟩:=p;have hp:=wD.mp hp;have hp1:=wD.mp hp.1;have hk:k+w.length<=2000:=wA hp.2;have h:AJ s.buf s.ptr (wB k 32++(w++l)):=h;obtain⟨c,u,rfl,c1,c2,c3,c4⟩:=mR hp1.2;have hk2:k+1<fu:=by show k+1<5000;exact BV hk
 have h2:=h.drop;rw [wc]at h2;cases w with
 |nil=>
  have hz:(s.on k).buf[(s.on k).ptr]? =some c:=h2.head;have h3:AJ (s.on k).buf (s.on k).ptr (c::u):=h2;obtain⟨y,hy⟩:∃y,BA (c::u)=10::y∨BA (c::u)=8232::y:=by unfold BA;cases(c::u==[8232])<;>exact⟨[],by simp⟩
  rcases hy with hy |hy
  all_goals
   have hb:=Hx (s:=s.on k) (lo:=lo) (g:=g) hp1.2 h3;rw [hy]at hb;exact Aa [.Ao Ka (Cp s lo g [(N.found,.bool false)] 0) (.ok .next (Cp s lo g [(N.found,.bool false)] k)) 2 (Mt (h.snoc rfl) c2 hk2),
    .call Cs [me] [] ((s.on k).hp lo g) (.ok (.str [c]) ((s.on k).hp lo g)) 1 (Dg hz),.cmp .eq (.str [c]) (.str [35]) false (fun _=> Hw _ c3),
    .call Hb [me] [] ((s.on k).hp lo g) _ 4 hb]
 |cons x w=>
  have hx:=wD.mp (show(x==35&&w.all JJ)=true from hp1.1);obtain rfl:x=35:=by simpa using hx.1
  have hz:(s.on k).buf[(s.on k).ptr]? =some 35:=h2.head;have hrm:AJ (s.on k).buf (s.on k).ptr ((35::w)++[c]):=h2.snoc rfl;have h4:AJ ((s.on k).on (35::w).length).buf ((s.on k).on (35::w).length).ptr (c::u):=h2.drop;have hl:(35::w).length+1<fu:=by have:(35::w).length=w.length+1:=rfl;show(35::w).length+1<5000;exact BV hk
  have hb:=Hx (s:=(s.on k).on (35::w).length) (lo:=lo) (g:=g) hp1.2 h4;have hr:∀d,As PP fu (AB PP fu (d+2)) Kb (Cp (s.on k) lo g [(N.found,.bool false)] 0)= .ok .next ⟨[(N.self,me),(N.found,.bool false)],((s.on k).on (35::w).length).hp lo g⟩:=XO hrm (XQ hx.2) c4 hl
  have ego:Gp.go ⟨k,35::w,c::u⟩ s={((s.on k).on (35::w).length).nl (c::u).length with allow:=true}:=by rw [Sc.GL];rfl
  rw [ego];generalize(s.on k).on (35::w).length=s2 at hb hr;obtain⟨y,hy⟩:∃y,BA (c::u)=10::y∨BA (c::u)=8232::y:=by unfold BA;cases(c::u==[8232])<;>exact⟨[],by simp⟩
  rcases hy with hy |hy
  all_goals
   rw [hy]at hb;exact Aa [.Ao Ka (Cp s lo g [(N.found,.bool false)] 0) (.ok .next (Cp s lo g [(N.found,.bool false)] k)) 2 (Mt (h.snoc rfl) rfl hk2),
    .call Cs [me] [] ((s.on k).hp lo g) (.ok (.str [35]) ((s.on k).hp lo g)) 1 (Dg hz),.Ao Kb (Cp (s.on k) lo g [(N.found,.bool false)] 0) _ 2 hr,
    .call Hb [me] [] (s2.hp lo g) _ 4 hb]
structure Gl where
 k:Nat
 w:List Nat
def Gl.ok(p:Gl)(c:Nat):Bool:=Ep p.w&&wX (p.k+p.w.length) 2000&& !([13,10,133,8232,8233].contains c)&&c !=32&&(match p.w with
 | []=> c !=35
 |_::_=> c==0)
def Gl.txt(p:Gl):List Nat:=wB p.k 32++p.w
def Gl.go(p:Gl)(s:Sc):Sc:=s.on (p.k+p.w.length)
theorem mT{p:Gl}{c:Nat}(hp:p.ok c=true)(h:AJ s.buf s.ptr (p.txt++[c])):∀d,AU PP fu (AB PP fu (d+4)) (BQ GN) (Dh s lo g false)= .ok .next (Dh (p.go s) lo g true):=by
 obtain⟨k,w⟩:=p;have hp:=wD.mp hp;have hp1:=wD.mp hp.1;have hp2:=wD.mp hp1.1;have hp3:=wD.mp hp2.1;have hk:k+w.length<=2000:=wA hp3.2;have hb:[13,10,133,8232,8233].contains c=false:=by simpa using hp2.2
 have hc:(c==32)=false:=by simpa using hp1.2
 have h:AJ s.buf s.ptr ((wB k 32++w)++[c]):=h;rw [wF]at h;have hk2:k+1<fu:=by show k+1<5000;exact BV hk
 have h2:=h.drop;rw [wc]at h2;cases w with
 |nil=>
  have hz:(s.on k).buf[(s.on k).ptr]? =some c:=h2.head;have h35:(c==35)=false:=by have:=hp.2;simpa using this
  exact Aa [.Ao Ka (Cp s lo g [(N.found,.bool false)] 0) (.ok .next (Cp s lo g [(N.found,.bool false)] k)) 2 (Mt h hc hk2),
   .call Cs [me] [] ((s.on k).hp lo g) (.ok (.str [c]) ((s.on k).hp lo g)) 1 (Dg hz),.cmp .eq (.str [c]) (.str [35]) false (fun _=> Hw _ h35),
   .call Hb [me] [] ((s.on k).hp lo g) _ 4 (XM hz hb)]
 |cons x w=>
  have hx:=wD.mp (show(x==35&&w.all JJ)=true from hp3.1);obtain rfl:x=35:=by simpa using hx.1
  obtain rfl:c=0:=by have:=hp.2;simpa using this
  have hz:(s.on k).buf[(s.on k).ptr]? =some 35:=h2.head;have hrm:AJ (s.on k).buf (s.on k).ptr ((35::w)++[0]):=h2;have h4:((s.on k).on (35::w).length).buf[((s.on k).on (35::w).length).ptr]? =some 0:=(h2.drop (u:=35::w)).head;have hl:(35::w).length+1<fu:=by have:(35::w).length=w.length+1:=rfl;show(35::w).length+1<5000;exact BV hk
  have hr:∀d,As PP fu (AB PP fu (d+2)) Kb (Cp (s.on k) lo g [(N.found,.bool false)] 0)= .ok .next ⟨[(N.self,me),(N.found,.bool false)],((s.on k).on (35::w).length).hp lo g⟩:=XO hrm (XQ hx.2) rfl hl
  have hb:=XM (lo:=lo) (g:=g) h4 rfl;have ego:Gl.go ⟨k,35::w⟩ s=(s.on k).on (35::w).length:=by rw [Sc.GL];rfl
  rw [ego];generalize(s.on k).on (35::w).length=s2 at hb hr;exact Aa [.Ao Ka (Cp s lo g [(N.found,.bool false)] 0) (.ok .next (Cp s lo g [(N.found,.bool false)] k)) 2 (Mt (h.snoc rfl) rfl hk2),
   .call Cs [me] [] ((s.on k).hp lo g) (.ok (.str [35]) ((s.on k).hp lo g)) 1 (Dg hz),.Ao Kb (Cp (s.on k) lo g [(N.found,.bool false)] 0) _ 2 hr,
   .call Hb [me] [] (s2.hp lo g) _ 4 hb]
def BR(l:List Gp)(s:Sc):Sc:=l.foldl (fun s p=> p.go s) s
def CQ:List Gp->List Nat
 | []=>[]
 |p::r=> p.txt++CQ r
theorem Gp.XR(p:Gp)(s:Sc):(p.go s).ptr=s.ptr+p.txt.length:=by show s.ptr+(p.k+p.w.length)+p.l.length=s.ptr+(wB p.k 32++(p.w++p.l)).length;rw [v9,wc,v9];exact xp (EA) (EA)
theorem XS:∀d,An PP (AB PP fu (d+4)) (Bs GN) (Dh s lo g false)= .ok true (Dh s lo g false):=Br []
theorem mU:∀d,An PP (AB PP fu (d+4)) (Bs GN) (Dh s lo g true)= .ok false (Dh s lo g true):=Br []
theorem XT{p:Gl}{c:Nat}(hp:p.ok c=true):∀(l:List Gp) (s:Sc) (n:Nat),l.all Gp.ok=true->AJ s.buf s.ptr (CQ l++(p.txt++[c]))->l.length+2<=n->
 ∀d,Bb (fun s=> An PP (AB PP fu (d+4)) (Bs GN) s) (fun s=> AU PP fu (AB PP fu (d+4)) (BQ GN) s) n (Dh s lo g false)= .ok .next (Dh (p.go (BR l s)) lo g true)
 | []=>@fun s n _ h hn d=> by obtain⟨m,rfl⟩:∃m,n=m+2:=⟨n - 2,by have:([]:List Gp).length=0:=rfl;exact Za⟩;exact(FU (XS d) (mT (lo:=lo) (g:=g) hp h d)).trans (G9 (mU d))
 |q::l=>@fun s n hl h hn d=> by have hl:=wD.mp (show(q.ok&&l.all Gp.ok)=true from hl);have hn:l.length+1+2<=n:=hn;obtain⟨m,rfl⟩:∃m,n=m+1:=⟨n - 1,by exact Nc⟩;have h:AJ s.buf s.ptr ((q.txt++CQ l)++(p.txt++[c])):=h;rw [wF]at h;refine(FU (XS d) (mS (lo:=lo) (g:=g) hl.1 h.left d)).trans (XT hp l (q.go s) m hl.2 ?_ (by exact AI hn) d);rw [Gp.XR];exact h.drop
theorem mV{l:List Gp}{p:Gl}{c:Nat}(hl:l.all Gp.ok=true)(hp:p.ok c=true)(hn:l.length<=2000)(h:AJ s.buf s.ptr (CQ l++(p.txt++[c])))(hu:∀c,s.buf[s.ptr]? =some c->(c==65279)=false):
 ∀d,AB PP fu (d+5) S6 [me] [] (s.hp lo g)= .ok .none ((p.go (BR l s)).hp lo g):=by
 refine cps fun P1_ k1_=> ?_;have hw:∀d,As PP fu (AB PP fu (d+4)) GN (Dh s lo g false)= .ok .next (Dh (p.go (BR l s)) lo g true):=fun d=> XT hp l s fu hl h (by show l.length+2<=5000;exact AI hn) d
 obtain⟨b,hb⟩:∃b,(((s.ptr:Int))==0)=b:=⟨_,rfl⟩;obtain⟨c0,h0⟩:∃c0,s.buf[s.ptr]? =some c0:=by obtain⟨x,y,e⟩:∃x y,CQ l++(p.txt++[c])=x::y:=AAO (by simp);rw [e]at h;exact⟨x,h.head⟩
 refine k1_ ?_;generalize p.go (BR l s)=s2 at hw;cases(b)
 . exact cert [.cmp .eq (.int s.ptr) (.int 0) false (fun _=> En _ hb),.Ao GN (Dh s lo g false) _ 4 hw]
 . exact cert [.cmp .eq (.int s.ptr) (.int 0) true (fun _=> En _ hb),.call Cs [me] [] (s.hp lo g) (.ok (.str [c0]) (s.hp lo g)) 1 (Dg h0),.cmp .eq (.str [c0]) (.str [65279]) false (fun _=> Hw _ (hu _ h0)),.Ao GN (Dh s lo g false) _ 4 hw]
end
section
variable{s:Sc}{lo g:List AObj}
theorem Hz{h:Hp}{r:Nat}{xs:List AV}{v:AV}(e:h.f r= .lst xs)(hl:xs.length<lim):Bv h (.ref r) N.append [v]=some (.none,h.set r (.lst (xs++[v]))):=by show((CY (h.f r)).bind fun xs=> (Jf h xs N.append [v]).map fun p=> (p.1,h.set r (.lst p.2)))=_;rw [e];show((ck (xs.length+1) ((AV.none,xs++[v]):AV×List AV)).map fun p=> (p.1,h.set r (.lst p.2)))=_;unfold ck;rw [if_pos (show xs.length+1<=lim from hl)];rfl
theorem XU{h:Hp}{r:Nat}{xs:List AV}{v:AV}(e:h.f r= .lst (xs++[v])):Bv h (.ref r) N.pop []=some (v,h.set r (.lst xs)):=by show((CY (h.f r)).bind fun xs=> (Jf h xs N.pop []).map fun p=> (p.1,h.set r (.lst p.2)))=_;rw [e];show((Nn (xs++[v]) []).map fun p=> (p.1,h.set r (.lst p.2)))=_;show(((xs++[v]).getLast?.map fun v'=> (v',(xs++[v]).dropLast)).map fun p=> (p.1,h.set r (.lst p.2)))=_;rw [List.getLast?_concat,List.dropLast_concat];rfl
def Sc.add(s:Sc)(v:AV):Sc:={s with toks:=s.toks++[v]}
def C3(s:Sc)(lo g:List AObj)(v:AV)(hl:s.toks.length<lim):Ent PP fu:=.A6 (s.hp lo g) (.ref 3) N.append [v] .none ((s.add v).hp lo g) (Hz rfl hl)
def Ar(c:Nat)(a b:AV):AV:=.obj c [(N.Hv,a),(N.JG,b)]
abbrev BE(m:AV):AV:=Ar 326 m m
theorem mW(hk:s.key=none):∀d,AB PP fu (d+2) Ie [me] [] (s.hp lo g)= .ok .none (s.hp lo g):=by obtain⟨bf,p,l,c,ts,tk,st,al,ky⟩:=s;obtain rfl:ky=none:=hk;exact cert []
theorem Qe{k:Ky}(hk:s.key=some k)(h1:k.line=s.line)(h2:s.ptr<=k.ptr+1024):∀d,AB PP fu (d+2) Ie [me] [] (s.hp lo g)= .ok .none (s.hp lo g):=by obtain⟨bf,p,l,c,ts,tk,st,al,ky⟩:=s;obtain rfl:ky=some k:=hk;exact cert [.cmp .ne (.int k.line) (.int l) false (fun _=> W8 _ (by rw [h1];exact bne_self_eq_false _)),.cmp .gt (.int ((p:Int) - k.ptr)) (.int 1024) false (fun _=> KZ _ (by have h2:p<=k.ptr+1024:=h2;exact decide_eq_false (by lia)))]
theorem mY{x y:Nat}(h:x≠y):(((x:Int)) !=(y:Int))=true:=by rw [bne_iff_ne];lia
theorem XW{k:Ky}(hk:s.key=some k)(h1:k.line≠s.line)(h2:k.req=false):∀d,AB PP fu (d+2) Ie [me] [] (s.hp lo g)= .ok .none ({s with key:=none}.hp lo g):=by obtain⟨bf,p,l,c,ts,tk,st,al,ky⟩:=s;obtain rfl:ky=some k:=hk;obtain⟨a1,a2,a3,a4,a5⟩:=k;obtain rfl:a2=false:=h2;exact cert [.cmp .ne (.int a4) (.int l) true (fun _=> W8 _ (mY h1))]
theorem mZ(hk:s.key=none):∀d,AB PP fu (d+2) OY [me] [] (s.hp lo g)= .ok .none (s.hp lo g):=by obtain⟨bf,p,l,c,ts,tk,st,al,ky⟩:=s;obtain rfl:ky=none:=hk;exact cert []
theorem ma{k:Ky}(hk:s.key=some k)(h2:k.req=false):∀d,AB PP fu (d+2) OY [me] [] (s.hp lo g)= .ok .none ({s with key:=none}.hp lo g):=by obtain⟨bf,p,l,c,ts,tk,st,al,ky⟩:=s;obtain rfl:ky=some k:=hk;obtain⟨a1,a2,a3,a4,a5⟩:=k;obtain rfl:a2=false:=h2;exact cert []
def Sc.XX(s:Sc):Ky:=⟨s.taken+s.toks.length,s.st.headD 0==(s.col:Int),s.ptr,s.line,s.col⟩
theorem XY{x y:Int}:∀h,BK h .eq (.int x) (.int y)=some (x==y):=fun _=> rfl
theorem mc(ha:s.allow=false):∀d,AB PP fu (d+3) Ig [me] [] (s.hp lo g)= .ok .none (s.hp lo g):=by obtain⟨bf,p,l,c,ts,tk,st,al,ky⟩:=s;obtain rfl:al=false:=ha;exact cert [.cmp .eq (.int (st.headD 0)) (.int c) (st.headD 0==(c:Int)) XY]
theorem mh(ha:s.allow=true)(hk:s.key=none):∀d,AB PP fu (d+3) Ig [me] [] (s.hp lo g)= .ok .none ({s with key:=some s.XX}.hp lo g):=by obtain⟨bf,p,l,c,ts,tk,st,al,ky⟩:=s;obtain rfl:al=true:=ha;obtain rfl:ky=none:=hk;exact cert [.cmp .eq (.int (st.headD 0)) (.int c) (st.headD 0==(c:Int)) XY]
def H0:CS:=DS Sp 1
def ER(s:Sc)(lo g:List AObj)(col:Int)(x:List (N×AV)):St:=⟨(N.self,me)::(N.column,.int col)::x,s.hp lo g⟩
theorem mi{a b col:Int}{r:List Int}(hs:s.st=a::b::r)(hl:s.toks.length<lim):
 ∀d,AU PP fu (AB PP fu (d+2)) (BQ H0) (ER s lo g col [])= .ok .next (ER {s with st:=b::r,toks:=s.toks++[BE s.mark]} lo g col [(N.mark,s.mark)]):=by
 obtain⟨bf,p,l,c,ts,tk,st,al,ky⟩:=s;obtain rfl:st=a::b::r:=hs;exact Aa [.A6 (Sc.hp ⟨bf,p,l,c,ts,tk,a::b::r,al,ky⟩ lo g) (.ref 5) N.pop [] (.int b) ((Sc.hp ⟨bf,p,l,c,ts,tk,a::b::r,al,ky⟩ lo g).set 5 (.lst (r.reverse.map .int))) (XU (by show AObj.lst ((b::r).reverse.map .int)=_;rw [zG,w4];rfl)),
  C3 ⟨bf,p,l,c,ts,tk,b::r,al,ky⟩ lo g (BE (AY bf p l c)) hl]
theorem mj{a b col:Int}{r:List Int}{v:AV}(hs:s.st=a::b::r)(hl:s.toks.length<lim):
 ∀d,AU PP fu (AB PP fu (d+2)) (BQ H0) (ER s lo g col [(N.mark,v)])= .ok .next (ER {s with st:=b::r,toks:=s.toks++[BE s.mark]} lo g col [(N.mark,s.mark)]):=by
 obtain⟨bf,p,l,c,ts,tk,st,al,ky⟩:=s;obtain rfl:st=a::b::r:=hs;exact Aa [.A6 (Sc.hp ⟨bf,p,l,c,ts,tk,a::b::r,al,ky⟩ lo g) (.ref 5) N.pop [] (.int b) ((Sc.hp ⟨bf,p,l,c,ts,tk,a::b::r,al,ky⟩ lo g).set 5 (.lst (r.reverse.map .int))) (XU (by show AObj.lst ((b::r).reverse.map .int)=_;rw [zG,w4];rfl)),
  C3 ⟨bf,p,l,c,ts,tk,b::r,al,ky⟩ lo g (BE (AY bf p l c)) hl]
theorem XZ{a col:Int}{r:List Int}{x:List (N×AV)}(hs:s.st=a::r)(h:a>col):∀d,An PP (AB PP fu (d+2)) (Bs H0) (ER s lo g col x)= .ok true (ER s lo g col x):=by obtain⟨bf,p,l,c,ts,tk,st,al,ky⟩:=s;obtain rfl:st=a::r:=hs;exact Br [.cmp .gt (.int a) (.int col) true (fun _=> KZ _ (decide_eq_true h))]
theorem Xa{a col:Int}{r:List Int}{x:List (N×AV)}(hs:s.st=a::r)(h:¬a>col):∀d,An PP (AB PP fu (d+2)) (Bs H0) (ER s lo g col x)= .ok false (ER s lo g col x):=by obtain⟨bf,p,l,c,ts,tk,st,al,ky⟩:=s;obtain rfl:st=a::r:=hs;exact Br [.cmp .gt (.int a) (.int col) false (fun _=> KZ _ (decide_eq_false h))]
def AW(col:Int):List Int->Nat×List Int
 | []=> (0,[])
 | [a]=> (0,[a])
 |a::b::r=> if a>col then((AW col (b::r)).1+1,(AW col (b::r)).2)else(0,a::b::r)
theorem ml{col a b:Int}{r:List Int}:AW col (a::b::r)=if a>col then((AW col (b::r)).1+1,(AW col (b::r)).2)else(0,a::b::r):=rfl
def Sc.AW(s:Sc)(col:Int):Sc:={s with st:=(L4.AW col s.st).2,toks:=s.toks++wB (L4.AW col s.st).1 (BE s.mark)}
def low(col:Int)(st:List Int):Prop:=∃a∈st.getLast?,a<=col
theorem Xb{col:Int}:∀(st:List Int) (s:Sc) (x:List (N×AV)) (n:Nat),s.st=st->low col st->s.toks.length+st.length<lim->st.length+1<=n->(x=[]∨∃v,x=[(N.mark,v)])->
 ∃y,∀d,Bb (fun s=> An PP (AB PP fu (d+2)) (Bs H0) s) (fun s=> AU PP fu (AB PP fu (d+2)) (BQ H0) s) n (ER s lo g col x)= .ok .next (ER (s.AW col) lo g col y)
 | []=>@fun s x n hs hl _ _ _=> by obtain⟨a,h,_⟩:=hl;cases h
 | [a]=>@fun s x n hs hl _ hn hx=> by
   obtain⟨m,rfl⟩:∃m,n=m+1:=⟨n - 1,by exact Nc⟩;obtain⟨a',h,hle⟩:=hl;obtain rfl:a=a':=wb h;have e:s.AW col=s:=by unfold Sc.AW;rw [hs];show{s with st:=[a],toks:=s.toks++[]}=s;rw [wY,<-hs]
   rw [e];exact⟨x,fun d=> G9 (Xa hs (by exact Nb) d)⟩
 |a::b::r=>@fun s x n hs hl ht hn hx=> by
  have hn:r.length+1+1+1<=n:=hn;have ht:s.toks.length+(r.length+1+1)<lim:=ht;obtain⟨m,rfl⟩:∃m,n=m+1:=⟨n - 1,by exact Nc⟩;by_cases h:a>col
  . have hl2:low col (b::r):=hl;have hlen:(s.toks++[BE s.mark]).length=s.toks.length+1:=by rw [v9];rfl
    obtain⟨y,hy⟩:=Xb (b::r) {s with st:=b::r,toks:=s.toks++[BE s.mark]} [(N.mark,s.mark)] m rfl hl2 (by show(s.toks++[BE s.mark]).length+(r.length+1)<lim;rw [hlen];exact BV ht) (by show r.length+1+1<=m;exact AI hn) (.inr ⟨_,rfl⟩);have e:s.AW col=Sc.AW {s with st:=b::r,toks:=s.toks++[BE s.mark]} col:=by unfold Sc.AW;rw [hs];show _=({s with st:=(L4.AW col (b::r)).2,toks:=(s.toks++[BE s.mark])++wB (L4.AW col (b::r)).1 (BE s.mark)}:Sc);rw [show L4.AW col (a::b::r)=((L4.AW col (b::r)).1+1,(L4.AW col (b::r)).2)from if_pos h,wF];rfl
    rw [e];refine⟨y,fun d=> ?_⟩;rcases hx with rfl |⟨v,rfl⟩
    . exact(FU (XZ hs h d) (mi hs (by exact BV ht) d)).trans (hy d)
    . exact(FU (XZ hs h d) (mj hs (by exact BV ht) d)).trans (hy d)
  . have e:s.AW col=s:=by unfold Sc.AW;rw [hs,show L4.AW col (a::b::r)=(0,a::b::r)from if_neg h];show{s with st:=a::b::r,toks:=s.toks++[]}=s;rw [wY,<-hs]
    rw [e];exact⟨x,fun d=> G9 (Xa hs h d)⟩
theorem Mu{col:Int}(hl:low col s.st)(ht:s.toks.length+s.st.length<=2000):∀d,AB PP fu (d+3) OZ [me,.int col] [] (s.hp lo g)= .ok .none ((s.AW col).hp lo g):=by obtain⟨y,hy⟩:=Xb (lo:=lo) (g:=g) s.st s [] fu rfl hl (by show _<1000000;exact D9) (by show _<=5000;exact AI ht) (.inl rfl);generalize s.AW col=s2 at hy;exact cert [.Ao H0 (ER s lo g col []) (.ok .next (ER s2 lo g col y)) 2 (fun d=> hy d)]
theorem mu(h:s.toks=[]):∀d,AB PP fu (d+1) HZ [me] [] (s.hp lo g)= .ok (.bool true) (s.hp lo g):=by obtain⟨bf,p,l,c,ts,tk,st,al,ky⟩:=s;obtain rfl:ts=[]:=h;exact cert []
theorem mv{t:AV}{r:List AV}(h:s.toks=t::r)(hk:s.key=none):∀d,AB PP fu (d+3) HZ [me] [] (s.hp lo g)= .ok .none (s.hp lo g):=by obtain⟨bf,p,l,c,ts,tk,st,al,ky⟩:=s;obtain rfl:ts=t::r:=h;obtain rfl:ky=none:=hk;exact cert []
theorem mw{t:AV}{r:List AV}{k:Ky}(h:s.toks=t::r)(hk:s.key=some k)(h1:k.line=s.line)(h2:s.ptr<=k.ptr+1024)(h3:k.tn=s.taken):∀d,AB PP fu (d+3) HZ [me] [] (s.hp lo g)= .ok (.bool true) (s.hp lo g):=by have hs:=Qe (lo:=lo) (g:=g) hk h1 h2;obtain⟨bf,p,l,c,ts,tk,st,al,ky⟩:=s;obtain rfl:ts=t::r:=h;obtain rfl:ky=some k:=hk;exact cert [.call Ie [me] [] _ _ 2 hs,.cmp .eq (.int k.tn) (.int tk) true (fun _=> En _ (by have h3:k.tn=tk:=h3;rw [h3];exact beq_self_eq_true _))]
theorem mx{t:AV}{r:List AV}{k:Ky}(h:s.toks=t::r)(hk:s.key=some k)(h1:k.line=s.line)(h2:s.ptr<=k.ptr+1024)(h3:k.tn≠s.taken):∀d,AB PP fu (d+3) HZ [me] [] (s.hp lo g)= .ok .none (s.hp lo g):=by have hs:=Qe (lo:=lo) (g:=g) hk h1 h2;obtain⟨bf,p,l,c,ts,tk,st,al,ky⟩:=s;obtain rfl:ts=t::r:=h;obtain rfl:ky=some k:=hk;exact cert [.call Ie [me] [] _ _ 2 hs,.cmp .eq (.int k.tn) (.int tk) false (fun _=> En _ (by have h3:k.tn≠tk:=h3;rw [beq_eq_false_iff_ne];lia))]
end
section
variable{s:Sc}{lo g:List AObj}
def sn(g:List AObj)(o:AObj):List AObj:=g++[o]
def L1(xs:List AV):AObj:=.lst xs
def AZ(k:Nat):Nat:=2 * (k+4)+1
theorem Kc{G:List AObj}{k:Nat}:(s.hp lo G).f (AZ k)=CD G k:=by show CD ((s.hp lo G).row ((2 * (k+4)+1) % 2)) ((2 * (k+4)+1) / 2)=_;rw [show(2 * (k+4)+1) % 2=1 by exact Nd _,show(2 * (k+4)+1) / 2=k+4 by exact Nf _];rfl
theorem Qf{G:List AObj}{k:Nat}{o:AObj}:(s.hp lo G).set (AZ k) o=s.hp lo (Cu G k o):=by show(s.hp lo G).JZ ((2 * (k+4)+1) / 2) o ((2 * (k+4)+1) % 2)=_;rw [show(2 * (k+4)+1) % 2=1 by exact Nd _,show(2 * (k+4)+1) / 2=k+4 by exact Nf _];rfl
theorem FA:∀(g r:List AObj) (j:Nat),CD (g++r) (g.length+j)=CD r j
 | []=>@fun r j=> by rw [List.length_nil,xB];rfl
 |o::g=>@fun r j=> by rw [xd,zw];exact FA g r j
theorem Mv:∀(g r:List AObj) (j:Nat) (o:AObj),Cu (g++r) (g.length+j) o=g++Cu r j o
 | []=>@fun r j o=> by rw [List.length_nil,xB];rfl
 |x::g=>@fun r j o=> by rw [xd,zw];show x::Cu (g++r) (g.length+j) o=_;rw [Mv g r j o];rfl
theorem Mw{o:AObj}:(s.hp lo (sn g o)).f (AZ g.length)=o:=by rw [Kc];exact FA g [o] 0
theorem Mx{o x:AObj}:(s.hp lo (sn (sn g o) x)).f (AZ g.length)=o:=by rw [Kc,sn,sn,wF];exact FA g ([o]++[x]) 0
theorem my{o o':AObj}:(s.hp lo (sn g o)).set (AZ g.length) o'=s.hp lo (sn g o'):=by rw [Qf];exact congrArg _ (Mv g [o] 0 o')
theorem Xc{o x o':AObj}:(s.hp lo (sn (sn g o) x)).set (AZ g.length) o'=s.hp lo (sn (sn g o') x):=by rw [Qf,sn,sn,sn,sn,wF,wF];exact congrArg _ (Mv g ([o]++[x]) 0 o')
theorem Xd{h:Hp}{r q:Nat}{xs ys:List AV}(e:h.f r= .lst xs)(e':h.f q= .lst ys)(hl:xs.length+ys.length<=lim):Bv h (.ref r) N.extend [.ref q]=some (.none,h.set r (.lst (xs++ys))):=by show((CY (h.f r)).bind fun xs=> ((CY (h.f q)).bind fun ys=> ck (xs.length+ys.length) (AV.none,xs++ys)).map fun p=> (p.1,h.set r (.lst p.2)))=_;rw [e,e'];show((ck (xs.length+ys.length) ((AV.none,xs++ys):AV×List AV)).map fun p=> (p.1,h.set r (.lst p.2)))=_;unfold ck;rw [if_pos hl];rfl
theorem Xe{h:Hp}{r:Nat}{w:List Nat}(e:h.f r= .lst [.str w])(hl:w.length<=50000):Bv h (.str []) N.join [.ref r]=some (.str w,h):=by show((((CY (h.f r)).bind strs?).bind fun l=> if([]:List Nat).length<=16/\(l.map w7).sum+l.length<=60000 then some (AV.str (Ba [] l))else none).map fun v=> (v,h))=_;rw [e];show((if([]:List Nat).length<=16/\(([w]:List (List Nat)).map w7).sum+([w]:List (List Nat)).length<=60000 then some (AV.str w)else none).map fun v=> (v,h))=_;rw [if_pos ⟨by decide,by show w.length+0+1<=60000;exact D9⟩];rfl
theorem Qg{h:Hp}{r:Nat}{xs:List AV}{m:N}(e:h.f r= .lst xs)(hm:Ge m=true):E8 PP h (.ref r) m=some none:=by show LH PP m (h.f r)=_;rw [e];show(if Ge m=true then some none else none)=_;rw [if_pos hm]
section
variable(s lo g)
def Af{c:Nat}(h:s.buf[s.ptr]? =some c):Ent PP fu:=.call Cs [me] [] (s.hp lo g) (.ok (.str [c]) (s.hp lo g)) 1 (Dg h)
def pk(k:Nat){c:Nat}(h:s.buf[s.ptr+k]? =some c):Ent PP fu:=.call Cs [me,.int k] [] (s.hp lo g) (.ok (.str [c]) (s.hp lo g)) 1 (mM h)
def FW{c:Nat}(h:s.buf[s.ptr]? =some c)(hc:Co c=true):Ent PP fu:=.call D5 [me] [] (s.hp lo g) (.ok .none ((s.on 1).hp lo g)) 2 (Ms h hc)
def fw(w:List Nat)(h:AJ s.buf s.ptr w)(hw:w.all Co=true)(hn:w.length+1<fu):Ent PP fu:=.call D5 [me,.int w.length] [] (s.hp lo g) (.ok .none ((s.on w.length).hp lo g)) 2 (XG h hw hn)
def pf(w:List Nat)(h:AJ s.buf s.ptr w)(hw:w≠[]):Ent PP fu:=.call D0 [me,.int w.length] [] (s.hp lo g) (.ok (.str w) (s.hp lo g)) 2 (XJ h hw)
def My(xs:List AV)(m:N)(hm:Ge m=true):Ent PP fu:=.met (s.hp lo (sn g (L1 xs))) (.ref (AZ g.length)) m none (Qg (r:=AZ g.length) (xs:=xs) (Mw (s:=s) (lo:=lo) (g:=g) (o:=.lst xs)) hm)
def BS(xs:List AV)(o:AObj)(m:N)(hm:Ge m=true):Ent PP fu:=.met (s.hp lo (sn (sn g (L1 xs)) o)) (.ref (AZ g.length)) m none (Qg (r:=AZ g.length) (xs:=xs) (Mx (s:=s) (lo:=lo) (g:=g) (o:=.lst xs) (x:=o)) hm)
theorem mz(xs:List AV)(v:AV)(hl:xs.length<lim):Bv (s.hp lo (sn g (L1 xs))) (.ref (AZ g.length)) N.append [v]=some (.none,s.hp lo (sn g (L1 (xs++[v])))):=by rw [Hz (h:=s.hp lo (sn g (L1 xs))) (r:=AZ g.length) (xs:=xs) (Mw (s:=s) (lo:=lo) (g:=g) (o:=.lst xs)) hl,my];rfl
theorem Xf(xs ys:List AV)(hl:xs.length+ys.length<=lim):Bv (s.hp lo (sn (sn g (L1 xs)) (L1 ys))) (.ref (AZ g.length)) N.extend [.ref (AZ (sn g (L1 xs)).length)]=some (.none,s.hp lo (sn (sn g (L1 (xs++ys))) (L1 ys))):=by rw [Xd (h:=s.hp lo (sn (sn g (L1 xs)) (L1 ys))) (r:=AZ g.length) (q:=AZ (sn g (L1 xs)).length) (xs:=xs) (ys:=ys) (Mx (s:=s) (lo:=lo) (g:=g) (o:=.lst xs) (x:=.lst ys)) (Mw (s:=s) (lo:=lo) (g:=sn g (L1 xs)) (o:=.lst ys)) hl,Xc];rfl
def Qh(xs:List AV)(v:AV)(hl:xs.length<lim):Ent PP fu:=.A6 (s.hp lo (sn g (L1 xs))) (.ref (AZ g.length)) N.append [v] .none (s.hp lo (sn g (L1 (xs++[v])))) (mz s lo g xs v hl)
def Di(xs ys:List AV)(hl:xs.length+ys.length<=lim):Ent PP fu:=.A6 (s.hp lo (sn (sn g (L1 xs)) (L1 ys))) (.ref (AZ g.length)) N.extend [.ref (AZ (sn g (L1 xs)).length)] .none (s.hp lo (sn (sn g (L1 (xs++ys))) (L1 ys))) (Xf s lo g xs ys hl)
def m4(w:List Nat)(o:AObj)(hl:w.length<=50000):Ent PP fu:=.A6 (s.hp lo (sn (sn g (L1 [.str w])) o)) (.str []) N.join [.ref (AZ g.length)] (.str w) (s.hp lo (sn (sn g (L1 [.str w])) o)) (Xe (h:=s.hp lo (sn (sn g (L1 [.str w])) o)) (r:=AZ g.length) (w:=w) (Mx (s:=s) (lo:=lo) (g:=g) (o:=.lst [.str w]) (x:=o)) hl)
end
section
variable{c:Nat}{l x y:List Nat}{b:Bool}
def Ax(c:Nat)(l:List Nat)(h:l.contains c=b):Ent PP fu:=.cmp .A9 (.str [c]) (.str l) b (fun _=> in1 _ h)
def Mz(c:Nat)(l:List Nat)(h:(!l.contains c)=b):Ent PP fu:=.cmp .EB (.str [c]) (.str l) b (fun _=> QY _ h)
def BD(c e:Nat)(h:(c==e)=b):Ent PP fu:=.cmp .eq (.str [c]) (.str [e]) b (fun _=> Hw _ h)
def Er(x y:List Nat)(h:(x==y)=b):Ent PP fu:=.cmp .eq (.str x) (.str y) b (fun _=> QZ _ h)
def Bz(x y:Int)(h:(x==y)=b):Ent PP fu:=.cmp .eq (.int x) (.int y) b (fun _=> En _ h)
def Dj(x y:Int)(h:decide (x<y)=b):Ent PP fu:=.cmp .lt (.int x) (.int y) b (fun _=> ltI _ h)
end
def Qi(c:Nat):Bool:=[39,34,92,0,32,9,13,10,133,8232,8233].contains c
theorem m7{c x:Nat}{m:AV}(h:AJ s.buf s.ptr [c,39,x])(hc:Qi c=false)(hp:Co c=true)(hx:(x==39)=false):
 ∀d,AB PP fu (d+6) cm [me,.bool false,m] [] (s.hp lo g)= .ok (.ref (AZ g.length)) ((s.on 1).hp lo (sn g (L1 [.str [c]]))):=
 have h1:(s.on 1).buf[(s.on 1).ptr]? =some 39:=h.tail.head;have h2:(s.on 1).buf[(s.on 1).ptr+1]? =some x:=h.tail.tail.head
 cert [pk s lo (sn g (L1 [])) 0 h.head,Mz c [39,34,92,0,32,9,13,10,133,8232,8233] (b:=true) (congrArg not hc),pk s lo (sn g (L1 [])) 1 h.tail.head,
  My s lo g [] N.append rfl,pf s lo (sn g (L1 [])) [c] (h.left (u:=[c])) nofun,Qh s lo g [] (.str [c]) (Nat.lt_of_lt_of_le Nat.zero_lt_one (wA rfl)),
  fw s lo (sn g (L1 [.str [c]])) [c] (h.left (u:=[c])) (by rw [xW,hp];rfl) (wA rfl),Af (s.on 1) lo (sn g (L1 [.str [c]])) h1,.skip,pk (s.on 1) lo (sn g (L1 [.str [c]])) 1 h2,BD x 39 hx]
def Cf(w:List Nat)(plain:Bool)(a b QV:AV):AV:=.obj 499 [(N.value,.str w),(N.plain,.bool plain),(N.Hv,a),(N.JG,b),(N.QV,QV)]
theorem m8{c x:Nat}(h:AJ s.buf s.ptr [39,c,39,x])(hc:Qi c=false)(hp:Co c=true)(hx:(x==39)=false):
 ∀d,AB PP fu (d+7) cj [me,.str [39]] [] (s.hp lo g)= .ok (Cf [c] false s.mark (s.on 3).mark (.str [39])) ((s.on 3).hp lo (sn (sn g (L1 [.str [c]])) (L1 [.str [c]]))):=by
 have h1:AJ (s.on 1).buf (s.on 1).ptr [c,39,x]:=h.tail;have h2:(s.on 2).buf[(s.on 2).ptr]? =some 39:=h.tail.tail.head;have e2:(s.on 1).on 1=s.on 2:=Sc.GL s 1 1;have e3:(s.on 2).on 1=s.on 3:=Sc.GL s 2 1;have hn:=m7 (s:=s.on 1) (lo:=lo) (g:=sn g (L1 [])) (m:=s.mark) h1 hc hp hx;rw [e2]at hn;have hf:=Ms (s:=s.on 2) (lo:=lo) (g:=sn (sn g (L1 [.str [c]])) (L1 [.str [c]])) h2 rfl;rw [e3]at hf;exact cert [Af s lo (sn g (L1 [])) h.head,FW s lo (sn g (L1 [])) h.head rfl,My (s.on 1) lo g [] N.extend rfl,
  .call _ _ _ _ _ 6 hn,Di (s.on 2) lo g [] [.str [c]] (wA rfl),Af (s.on 2) lo (sn (sn g (L1 [.str [c]])) (L1 [.str [c]])) h2,.call _ _ _ _ _ 2 hf,
  m4 (s.on 3) lo g [c] (.lst [.str [c]]) (wA rfl)]
end
end L4
end Internal
section
namespace Internal
abbrev N.M0:N:=109300297919347
abbrev N.Qj:N:=126926507435379
namespace L4
variable{s:Sc}{lo g:List AObj}
def BO(c:Nat):Bool:=[0,32,9,13,10,133,8232,8233].contains c
def H3(c:Nat):Bool:= !BO c&&(c !=58&&Co c)
def Bi:CS:=DS (BQ (DS Sr 5)) 2
def Ke(s:Sc)(lo g:List AObj)(w:List Nat)(i:Nat):St:=
 ⟨[(N.self,me),(N.M0,.ref (AZ g.length)),(N.Hv,s.mark),(N.JG,s.mark),(N.indent,.int (s.st.headD 0+1)),(N.Qj,.ref (AZ (sn g (L1 [])).length)),(N.length,.int i)]++(match i with |0=>[] |i+1=>[(N.ch,.str [w.getD i 0])]),s.hp lo (sn (sn g (L1 [])) (L1 []))⟩
def M4(s:Sc)(lo g:List AObj)(w:List Nat):St:=
 ⟨[(N.self,me),(N.M0,.ref (AZ g.length)),(N.Hv,s.mark),(N.JG,s.mark),(N.indent,.int (s.st.headD 0+1)),(N.Qj,.ref (AZ (sn g (L1 [])).length)),(N.length,.int w.length),(N.ch,.str [58])],s.hp lo (sn (sn g (L1 [])) (L1 []))⟩
theorem Xg{c:Nat}(h:H3 c=true):[0,32,9,13,10,133,8232,8233].contains c=false:=by have:=(wD.mp h).1;simpa [BO]using this
theorem Xh{c:Nat}(h:H3 c=true):(c==58)=false:=by have:=(wD.mp (wD.mp h).2).1;simpa using this
theorem m9{c:Nat}(h:H3 c=true):Co c=true:=(wD.mp (wD.mp h).2).2
theorem Xi{w:List Nat}(h:w.all H3=true):w.all Co=true:=wi.mpr fun x hx=> m9 (wi.mp h x hx)
theorem nA{w:List Nat}{x:Nat}(h:AJ s.buf s.ptr (w++[58,x]))(hw:w.all H3=true)(hx:BO x=true)(hn:w.length+1<fu):
 ∀d,As PP fu (AB PP fu (d+1)) Bi (Ke s lo g w 0)= .ok .next (M4 s lo g w):=by
 refine QW rfl (m:=w.length) (fun i hi=> ?_) (fun i hi=> ?_) (fun d n=> ?_) hn
 . exact Br []
 . have h1:=h.left.at hi;have hc:=Mq hw hi;cases i with
   |zero=> exact Aa [pk s lo (sn (sn g (L1 [])) (L1 [])) 0 h1,Ax _ _ (Xg hc),BD _ _ (Xh hc)]
   |succ i=> exact Aa [pk s lo (sn (sn g (L1 [])) (L1 [])) (i+1) h1,Ax _ _ (Xg hc),BD _ _ (Xh hc)]
 . have h1:s.buf[s.ptr+w.length]? =some 58:=h.drop.head;have h2:s.buf[s.ptr+(w.length+1)]? =some x:=h.drop.tail.head;generalize hm:w.length=m at h1 h2;have ht:An PP (AB PP fu (d+1)) (Bs Bi) (Ke s lo g w m)= .ok true (Ke s lo g w m):=Br [] (by kernel_rfl!) d;have hb:AU PP fu (AB PP fu (d+1)) (BQ Bi) (Ke s lo g w m)= .ok .brk (M4 s lo g w):=by
    unfold M4;rw [hm];cases m with
    |zero=> exact Aa [pk s lo (sn (sn g (L1 [])) (L1 [])) 0 h1,.skip,.skip,pk s lo (sn (sn g (L1 [])) (L1 [])) (0+1) h2,Ax x _ hx] (by kernel_rfl!) d
    |succ m=> exact Aa [pk s lo (sn (sn g (L1 [])) (L1 [])) (m+1) h1,.skip,.skip,pk s lo (sn (sn g (L1 [])) (L1 [])) (m+1+1) h2,Ax x _ hx] (by kernel_rfl!) d
   exact W6 ht hb
def FX(c:Nat):Bool:=[13,10,133,8232,8233].contains c
theorem Xj{c:Nat}{a b:AV}(h:s.buf[s.ptr]? =some c)(h1:(c==32)=false)(h2:FX c=false):
 ∀d,AB PP fu (d+5) Ih [me,a,b] [] (s.hp lo g)= .ok (.ref (AZ g.length)) (s.hp lo (sn g (L1 []))):=
 cert [pk s lo (sn g (L1 [])) 0 h,Ax c [32] (b:=false) (by rw [xD,h1];rfl),.call D0 [me,.int 0] [] (s.hp lo (sn g (L1 []))) (.ok (.str (s.pre 0)) (s.hp lo (sn g (L1 [])))) 2 (FV (n:=0) (JI (k:=0) h)),
  fw s lo (sn g (L1 [])) [] (fun i c e=> by cases e) rfl (wA rfl),Af s lo (sn g (L1 [])) h,Ax c [13,10,133,8232,8233] h2]
theorem nC{o x y:AObj}:(s.hp lo (sn (sn (sn g o) x) y)).f (AZ g.length)=o:=by rw [Kc,sn,sn,sn,wF,wF];exact FA g ([o]++([x]++[y])) 0
section
variable(s lo g)
theorem nE(xs:List AV)(o:AObj)(v:AV)(hl:xs.length<lim):Bv (s.hp lo (sn (sn g (L1 xs)) o)) (.ref (AZ g.length)) N.append [v]=some (.none,s.hp lo (sn (sn g (L1 (xs++[v]))) o)):=by rw [Hz (h:=s.hp lo (sn (sn g (L1 xs)) o)) (r:=AZ g.length) (xs:=xs) (Mx (s:=s) (lo:=lo) (g:=g) (o:=L1 xs) (x:=o)) hl,Xc];rfl
def DT(xs:List AV)(o:AObj)(v:AV)(hl:xs.length<lim):Ent PP fu:=.A6 (s.hp lo (sn (sn g (L1 xs)) o)) (.ref (AZ g.length)) N.append [v] .none (s.hp lo (sn (sn g (L1 (xs++[v]))) o)) (nE s lo g xs o v hl)
def nG(w:List Nat)(o x:AObj)(hl:w.length<=50000):Ent PP fu:=.A6 (s.hp lo (sn (sn (sn g (L1 [.str w])) o) x)) (.str []) N.join [.ref (AZ g.length)] (.str w) (s.hp lo (sn (sn (sn g (L1 [.str w])) o) x)) (Xe (h:=s.hp lo (sn (sn (sn g (L1 [.str w])) o) x)) (r:=AZ g.length) (w:=w) (nC (s:=s) (lo:=lo) (g:=g) (o:=L1 [.str w]) (x:=o) (y:=x)) hl)
theorem nH(xs:List AV):truthy (s.hp lo (sn g (L1 xs))) (.ref (AZ g.length))=some (!xs.isEmpty):=by show Jc ((s.hp lo (sn g (L1 xs))).f (AZ g.length))=_;rw [Mw];rfl
def M5(xs:List AV):Ent PP fu:=.A5 (s.hp lo (sn g (L1 xs))) (.ref (AZ g.length)) (!xs.isEmpty) (nH s lo g xs)
end
def Sc.off(s:Sc):Sc:={s with allow:=false}
theorem nJ{c:Nat}{w:List Nat}{x:Nat}(h:AJ s.buf s.ptr ((c::w)++[58,x]))(hw:(c::w).all H3=true)(hx:BO x=true)(hc:(c==35)=false)(hn:w.length<=2000):
 ∀d,AB PP fu (d+6) Jx [me] [] (s.hp lo g)= .ok (Cf (c::w) true s.mark (s.on (c::w).length).mark .none) ((s.off.on (c::w).length).hp lo (sn (sn (sn g (L1 [.str (c::w)])) (L1 [])) (L1 []))):=by
 have hl:(c::w).length+1<fu:=by show w.length+1+1<5000;exact BV hn
 have h58:(s.off.on (c::w).length).buf[(s.off.on (c::w).length).ptr]? =some 58:=h.drop.head;have hf:=fw s.off lo (sn (sn g (L1 [.str (c::w)])) (L1 [])) (c::w) h.left (Xi hw) hl;have hsp:=Xj (s:=s.off.on (c::w).length) (lo:=lo) (g:=sn (sn g (L1 [.str (c::w)])) (L1 [])) (a:=.int (s.st.headD 0+1)) (b:=s.mark) h58 rfl rfl;exact cert [Af s lo (sn (sn g (L1 [])) (L1 [])) h.head,BD c 35 hc,.Ao Bi (Ke s lo g (c::w) 0) (.ok .next (M4 s lo g (c::w))) 1 (nA h hw hx hl),Bz ((c::w).length) 0 (b:=false) (by rw [beq_eq_false_iff_ne];simp;lia),
  BS s.off lo g [] (L1 []) N.extend rfl,Di s.off lo g [] [] (wA rfl),BS s.off lo g [] (L1 []) N.append rfl,pf s.off lo (sn (sn g (L1 [])) (L1 [])) (c::w) h.left nofun,DT s.off lo g [] (L1 []) (.str (c::w)) (wA rfl),
  fw s.off lo (sn (sn g (L1 [.str (c::w)])) (L1 [])) (c::w) h.left (Xi hw) hl,.call _ _ _ _ _ 5 hsp,M5 (s.off.on (c::w).length) lo (sn (sn g (L1 [.str (c::w)])) (L1 [])) [],
  nG (s.off.on (c::w).length) lo g (c::w) (L1 []) (L1 []) (by show w.length+1<=50000;exact D9)]
end L4
end Internal
end
namespace Internal
namespace L4
section
variable{s:Sc}{lo g:List AObj}
def Sc.Xk(s:Sc)(at_:Int):Sc:={s with st:=at_::s.st}
def Sc.CJ(s:Sc)(k:Nat)(at_:Nat):Sc:=if s.st.headD 0<(at_:Int)then(s.Xk at_).add (Ar k s.mark s.mark)else s
theorem nK{h:Hp}{r:Nat}{xs:List AV}{v:AV}{i:Int}(e:h.f r= .lst xs)(hi:i=0)(hl:xs.length<lim):Bv h (.ref r) N.insert [.int i,v]=some (.none,h.set r (.lst (v::xs))):=by subst hi;show((CY (h.f r)).bind fun xs=> (Jf h xs N.insert [.int 0,v]).map fun p=> (p.1,h.set r (.lst p.2)))=_;rw [e];show((if(0:Int)<=0/\(0:Int)<=(xs.length:Int)then ck (xs.length+1) ((AV.none,xs.take 0++v::xs.drop 0):AV×List AV)else none).map fun p=> (p.1,h.set r (.lst p.2)))=_;rw [if_pos ⟨xP _,by exact xc _⟩];unfold ck;rw [if_pos (show xs.length+1<=lim from hl)];rfl
theorem nL(s:Sc)(lo g:List AObj)(a:Int)(r:List Int)(hs:s.st=a::r)(hl:r.length<lim):Bv (s.hp lo g) (.ref 5) N.append [.int a]=some (.none,(s.hp lo g).set 5 (.lst ((a::r).reverse.map .int))):=by refine(Hz (h:=s.hp lo g) (r:=5) (xs:=r.reverse.map .int) (by show AObj.lst (s.st.tail.reverse.map .int)=_;rw [hs];rfl) (by rw [wo,List.length_reverse];exact hl)).trans ?_;rw [zG,w4];rfl
def nM(s:Sc)(lo g:List AObj)(a:Int)(r:List Int)(hs:s.st=a::r)(hl:r.length<lim):Ent PP fu:=.A6 (s.hp lo g) (.ref 5) N.append [.int a] .none ((s.hp lo g).set 5 (.lst ((a::r).reverse.map .int))) (nL s lo g a r hs hl)
theorem M7{at_:Int}(hs:s.st≠[])(hl:s.st.length<=1000)(h:s.st.headD 0<at_):∀d,AB PP fu (d+1) Sx [me,.int at_] [] (s.hp lo g)= .ok (.bool true) ((s.Xk at_).hp lo g):=by
 obtain⟨bf,p,l,c,ts,tk,sk,al,ky⟩:=s;cases sk with
 |nil=> exact absurd rfl hs
 |cons a r=> have hl:r.length+1<=1000:=hl;exact cert [Dj a at_ (decide_eq_true h),nM ⟨bf,p,l,c,ts,tk,a::r,al,ky⟩ lo g a r rfl (by show r.length<1000000;exact C8)]
theorem M8{at_:Int}(h:¬s.st.headD 0<at_):∀d,AB PP fu (d+1) Sx [me,.int at_] [] (s.hp lo g)= .ok (.bool false) (s.hp lo g):=
 cert [Dj (s.st.headD 0) at_ (decide_eq_false h)]
structure Sc.H4(s:Sc):Prop where
 st:s.st≠[]
 sl:s.st.length<=900
 tl:s.toks.length<=900
theorem FY{a:Nat}(h:a<=1000):a<lim:=by show a<1000000;exact D9
theorem nN(hF:s.H4)(ha:s.allow=true)(hk:s.key=none)(h:s.buf[s.ptr]? =some 45):
 ∀d,AB PP fu (d+3) S3 [me] [] (s.hp lo g)= .ok .none ((((s.CJ Ii s.col).on 1).add (Ar Lp s.mark (s.on 1).mark)).hp lo g):=by
 obtain⟨h1,h2,h3⟩:=hF;obtain⟨bf,p,l,c,ts,tk,sk,al,ky⟩:=s;obtain rfl:al=true:=ha;obtain rfl:ky=none:=hk;have h3:ts.length<=900:=h3;unfold Sc.CJ;by_cases q:sk.headD 0<(c:Int)
 . rw [if_pos q];have hlen:(ts++[Ar Ii (AY bf p l c) (AY bf p l c)]).length=ts.length+1:=by rw [v9];rfl
   exact cert [.call _ _ _ _ _ 1 (M7 (s:=⟨bf,p,l,c,ts,tk,sk,true,none⟩) (lo:=lo) (g:=g) (at_:=c) h1 (wC h2 (by decide)) q),
    C3 ⟨bf,p,l,c,ts,tk,(c:Int)::sk,true,none⟩ lo g (Ar Ii (AY bf p l c) (AY bf p l c)) (FY (by show ts.length<=1000;exact C8)),
    FW ⟨bf,p,l,c,ts++[Ar Ii (AY bf p l c) (AY bf p l c)],tk,(c:Int)::sk,true,none⟩ lo g h rfl,
    C3 ⟨bf,p+1,l,c+1,ts++[Ar Ii (AY bf p l c) (AY bf p l c)],tk,(c:Int)::sk,true,none⟩ lo g (Ar Lp (AY bf p l c) (AY bf (p+1) l (c+1))) (FY (by rw [hlen];exact D9))]
 . rw [if_neg q];exact cert [.call _ _ _ _ _ 1 (M8 (s:=⟨bf,p,l,c,ts,tk,sk,true,none⟩) (lo:=lo) (g:=g) (at_:=c) q),
    FW ⟨bf,p,l,c,ts,tk,sk,true,none⟩ lo g h rfl,
    C3 ⟨bf,p+1,l,c+1,ts,tk,sk,true,none⟩ lo g (Ar Lp (AY bf p l c) (AY bf (p+1) l (c+1))) (FY (by show ts.length<=1000;exact C8))]
theorem nO(hF:s.H4)(ha:s.allow=true)(hk:s.key=none)(h:s.buf[s.ptr]? =some 63):
 ∀d,AB PP fu (d+3) S4 [me] [] (s.hp lo g)= .ok .none ((((s.CJ DG s.col).on 1).add (Ar Dd s.mark (s.on 1).mark)).hp lo g):=by
 obtain⟨h1,h2,h3⟩:=hF;obtain⟨bf,p,l,c,ts,tk,sk,al,ky⟩:=s;obtain rfl:al=true:=ha;obtain rfl:ky=none:=hk;have h3:ts.length<=900:=h3;unfold Sc.CJ;by_cases q:sk.headD 0<(c:Int)
 . rw [if_pos q];have hlen:(ts++[Ar DG (AY bf p l c) (AY bf p l c)]).length=ts.length+1:=by rw [v9];rfl
   exact cert [.call _ _ _ _ _ 1 (M7 (s:=⟨bf,p,l,c,ts,tk,sk,true,none⟩) (lo:=lo) (g:=g) (at_:=c) h1 (wC h2 (by decide)) q),
    C3 ⟨bf,p,l,c,ts,tk,(c:Int)::sk,true,none⟩ lo g (Ar DG (AY bf p l c) (AY bf p l c)) (FY (by show ts.length<=1000;exact C8)),
    FW ⟨bf,p,l,c,ts++[Ar DG (AY bf p l c) (AY bf p l c)],tk,(c:Int)::sk,true,none⟩ lo g h rfl,
    C3 ⟨bf,p+1,l,c+1,ts++[Ar DG (AY bf p l c) (AY bf p l c)],tk,(c:Int)::sk,true,none⟩ lo g (Ar Dd (AY bf p l c) (AY bf (p+1) l (c+1))) (FY (by rw [hlen];exact D9))]
 . rw [if_neg q];exact cert [.call _ _ _ _ _ 1 (M8 (s:=⟨bf,p,l,c,ts,tk,sk,true,none⟩) (lo:=lo) (g:=g) (at_:=c) q),
    FW ⟨bf,p,l,c,ts,tk,sk,true,none⟩ lo g h rfl,
    C3 ⟨bf,p+1,l,c+1,ts,tk,sk,true,none⟩ lo g (Ar Dd (AY bf p l c) (AY bf (p+1) l (c+1))) (FY (by show ts.length<=1000;exact C8))]
theorem nP(hF:s.H4)(ha:s.allow=true)(hk:s.key=none)(h:s.buf[s.ptr]? =some 58):
 ∀d,AB PP fu (d+3) Oa [me] [] (s.hp lo g)= .ok .none ((((s.CJ DG s.col).on 1).add (Ar Hc s.mark (s.on 1).mark)).hp lo g):=by
 obtain⟨h1,h2,h3⟩:=hF;obtain⟨bf,p,l,c,ts,tk,sk,al,ky⟩:=s;obtain rfl:al=true:=ha;obtain rfl:ky=none:=hk;have h3:ts.length<=900:=h3;unfold Sc.CJ;by_cases q:sk.headD 0<(c:Int)
 . rw [if_pos q];have hlen:(ts++[Ar DG (AY bf p l c) (AY bf p l c)]).length=ts.length+1:=by rw [v9];rfl
   exact cert [.call _ _ _ _ _ 1 (M7 (s:=⟨bf,p,l,c,ts,tk,sk,true,none⟩) (lo:=lo) (g:=g) (at_:=c) h1 (wC h2 (by decide)) q),
    C3 ⟨bf,p,l,c,ts,tk,(c:Int)::sk,true,none⟩ lo g (Ar DG (AY bf p l c) (AY bf p l c)) (FY (by show ts.length<=1000;exact C8)),
    FW ⟨bf,p,l,c,ts++[Ar DG (AY bf p l c) (AY bf p l c)],tk,(c:Int)::sk,true,none⟩ lo g h rfl,
    C3 ⟨bf,p+1,l,c+1,ts++[Ar DG (AY bf p l c) (AY bf p l c)],tk,(c:Int)::sk,true,none⟩ lo g (Ar Hc (AY bf p l c) (AY bf (p+1) l (c+1))) (FY (by rw [hlen];exact D9))]
 . rw [if_neg q];exact cert [.call _ _ _ _ _ 1 (M8 (s:=⟨bf,p,l,c,ts,tk,sk,true,none⟩) (lo:=lo) (g:=g) (at_:=c) q),
    FW ⟨bf,p,l,c,ts,tk,sk,true,none⟩ lo g h rfl,
    C3 ⟨bf,p+1,l,c+1,ts,tk,sk,true,none⟩ lo g (Ar Hc (AY bf p l c) (AY bf (p+1) l (c+1))) (FY (by show ts.length<=1000;exact C8))]
def Sc.keyed(s:Sc)(k:Ky)(t:AV):Sc:=
 let m:=AY s.buf k.ptr k.line k.col;let s1:Sc:={s with toks:=[Ar Dd m m,t],allow:=false,key:=none};let s2:Sc:=if s.st.headD 0<(k.col:Int)then{s1 with st:=(k.col:Int)::s.st,toks:=Ar DG m m::s1.toks}else s1
 (s2.on 1).add (Ar Hc s.mark (s.on 1).mark)
theorem nQ{k:Ky}{t:AV}(hF:s.H4)(hk:s.key=some k)(htk:s.toks=[t])(hn:k.tn=s.taken)(h:s.buf[s.ptr]? =some 58):
 ∀d,AB PP fu (d+3) Oa [me] [] (s.hp lo g)= .ok .none ((s.keyed k t).hp lo g):=by
 obtain⟨h1,h2,h3⟩:=hF;obtain⟨bf,p,l,c,ts,tk,sk,al,ky⟩:=s;obtain rfl:ky=some k:=hk;obtain rfl:ts=[t]:=htk;have hz:(k.tn:Int) - (tk:Int)=0:=by have hn:k.tn=tk:=hn;lia
 have ei:∀(S:Sc) (xs:List AV) (v:AV) (hx:xs.length<=3),S.toks=xs->Bv (S.hp lo g) (.ref 3) N.insert [.int ((k.tn:Int) - (tk:Int)),v]=some (.none,{S with toks:=v::xs}.hp lo g):=fun S xs v hx e=>
  nK (h:=S.hp lo g) (r:=3) (xs:=xs) (by rw [<-e];rfl) hz (FY (by exact C8))
 by_cases q:sk.headD 0<(k.col:Int)
 . have e:Sc.keyed ⟨bf,p,l,c,[t],tk,sk,al,some k⟩ k t=Sc.add (Sc.on {(⟨bf,p,l,c,[t],tk,sk,al,some k⟩:Sc)with toks:=Ar DG (AY bf k.ptr k.line k.col) (AY bf k.ptr k.line k.col)::[Ar Dd (AY bf k.ptr k.line k.col) (AY bf k.ptr k.line k.col),t],allow:=false,key:=none,st:=(k.col:Int)::sk} 1) (Ar Hc (AY bf p l c) (AY bf (p+1) l (c+1))):=by
    unfold Sc.keyed;dsimp only;rw [if_pos q];rfl
   rw [e];exact cert [.A6 _ _ N.insert _ _ _ (ei ⟨bf,p,l,c,[t],tk,sk,al,none⟩ [t] (Ar Dd (AY bf k.ptr k.line k.col) (AY bf k.ptr k.line k.col)) (by show 1<=3;decide) rfl),
    .call _ _ _ _ _ 1 (M7 (s:=⟨bf,p,l,c,[Ar Dd (AY bf k.ptr k.line k.col) (AY bf k.ptr k.line k.col),t],tk,sk,al,none⟩) (lo:=lo) (g:=g) (at_:=k.col) h1 (wC h2 (by decide)) q),
    .A6 _ _ N.insert _ _ _ (ei ⟨bf,p,l,c,[Ar Dd (AY bf k.ptr k.line k.col) (AY bf k.ptr k.line k.col),t],tk,(k.col:Int)::sk,al,none⟩ _ (Ar DG (AY bf k.ptr k.line k.col) (AY bf k.ptr k.line k.col)) (by show 2<=3;decide) rfl),
    FW ⟨bf,p,l,c,Ar DG (AY bf k.ptr k.line k.col) (AY bf k.ptr k.line k.col)::[Ar Dd (AY bf k.ptr k.line k.col) (AY bf k.ptr k.line k.col),t],tk,(k.col:Int)::sk,false,none⟩ lo g h rfl]
 . have e:Sc.keyed ⟨bf,p,l,c,[t],tk,sk,al,some k⟩ k t=Sc.add (Sc.on {(⟨bf,p,l,c,[t],tk,sk,al,some k⟩:Sc)with toks:=[Ar Dd (AY bf k.ptr k.line k.col) (AY bf k.ptr k.line k.col),t],allow:=false,key:=none} 1) (Ar Hc (AY bf p l c) (AY bf (p+1) l (c+1))):=by
    unfold Sc.keyed;dsimp only;rw [if_neg q];rfl
   rw [e];exact cert [.A6 _ _ N.insert _ _ _ (ei ⟨bf,p,l,c,[t],tk,sk,al,none⟩ [t] (Ar Dd (AY bf k.ptr k.line k.col) (AY bf k.ptr k.line k.col)) (by show 1<=3;decide) rfl),
    .call _ _ _ _ _ 1 (M8 (s:=⟨bf,p,l,c,[Ar Dd (AY bf k.ptr k.line k.col) (AY bf k.ptr k.line k.col),t],tk,sk,al,none⟩) (lo:=lo) (g:=g) (at_:=k.col) q),
    FW ⟨bf,p,l,c,[Ar Dd (AY bf k.ptr k.line k.col) (AY bf k.ptr k.line k.col),t],tk,sk,false,none⟩ lo g h rfl]
end
section
variable{s:Sc}{lo g:List AObj}
def Sc.marked(s:Sc)(k:Nat):Sc:=(({s.AW (-1)with allow:=false,key:=none}).on 3).add (Ar k s.mark (s.on 3).mark)
theorem M9(col:Int):∀st:List Int,(AW col st).1<=st.length
 | []=> wN _
 | [a]=> wN _
 |a::b::r=> by
  rw [ml];by_cases h:a>col
  . rw [if_pos h];exact xJ (M9 col (b::r))
  . rw [if_neg h];exact wN _
theorem Xl(col:Int):(s.AW col).toks.length<=s.toks.length+s.st.length:=by show(s.toks++wB _ _).length<=_;rw [v9,wc];have:=M9 col s.st;exact AI this
theorem nR(hF:s.H4)(hl:low (-1) s.st)(hk:s.key=none)(h:AJ s.buf s.ptr [45,45,45]):
 ∀d,AB PP fu (d+5) Sz [me] [] (s.hp lo g)= .ok .none ((s.marked Jy).hp lo g):=by
 obtain⟨h1,h2,h3⟩:=hF;have hu:=Mu (lo:=lo) (g:=g) hl (show s.toks.length+s.st.length<=2000 by exact AI (wG h3 h2));have ht:=Xl (s:=s) (-1);have hmk:(s.AW (-1)).mark=s.mark:=rfl;have hky:(s.AW (-1)).key=none:=hk;have h':AJ (s.AW (-1)).buf (s.AW (-1)).ptr [45,45,45]:=h;have e:s.marked Jy=(({s.AW (-1)with allow:=false,key:=none}).on 3).add (Ar Jy (s.AW (-1)).mark ((s.AW (-1)).on 3).mark):=rfl;rw [e];generalize s.AW (-1)=u at hu ht hmk hky h';obtain⟨bf,p,l,c,ts,tk,sk,al,ky⟩:=u;obtain rfl:ky=none:=hky;exact cert [.call _ _ _ _ _ 3 hu,fw ⟨bf,p,l,c,ts,tk,sk,false,none⟩ lo g [45,45,45] h' rfl (wA rfl),
  C3 ⟨bf,p+3,l,c+3,ts,tk,sk,false,none⟩ lo g (Ar Jy (AY bf p l c) (AY bf (p+3) l (c+3))) (by show ts.length<1000000;have:ts.length<=s.toks.length+s.st.length:=ht;exact BV (wG this (wG h3 h2)))]
theorem nS(hF:s.H4)(hl:low (-1) s.st)(hk:s.key=none)(h:AJ s.buf s.ptr [46,46,46]):
 ∀d,AB PP fu (d+5) S0 [me] [] (s.hp lo g)= .ok .none ((s.marked Jz).hp lo g):=by
 obtain⟨h1,h2,h3⟩:=hF;have hu:=Mu (lo:=lo) (g:=g) hl (show s.toks.length+s.st.length<=2000 by exact AI (wG h3 h2));have ht:=Xl (s:=s) (-1);have hmk:(s.AW (-1)).mark=s.mark:=rfl;have hky:(s.AW (-1)).key=none:=hk;have h':AJ (s.AW (-1)).buf (s.AW (-1)).ptr [46,46,46]:=h;have e:s.marked Jz=(({s.AW (-1)with allow:=false,key:=none}).on 3).add (Ar Jz (s.AW (-1)).mark ((s.AW (-1)).on 3).mark):=rfl;rw [e];generalize s.AW (-1)=u at hu ht hmk hky h';obtain⟨bf,p,l,c,ts,tk,sk,al,ky⟩:=u;obtain rfl:ky=none:=hky;exact cert [.call _ _ _ _ _ 3 hu,fw ⟨bf,p,l,c,ts,tk,sk,false,none⟩ lo g [46,46,46] h' rfl (wA rfl),
  C3 ⟨bf,p+3,l,c+3,ts,tk,sk,false,none⟩ lo g (Ar Jz (AY bf p l c) (AY bf (p+3) l (c+3))) (by show ts.length<1000000;have:ts.length<=s.toks.length+s.st.length:=ht;exact BV (wG this (wG h3 h2)))]
theorem vp{c:Nat}{w:List Nat}{x:Nat}{s1:Sc}(hs:∀d,AB PP fu (d+3) Ig [me] [] (s.hp lo g)= .ok .none (s1.hp lo g))(he:s1.ptr=s.ptr/\s1.buf=s.buf/\s1.toks.length<=900)
 (h:AJ s.buf s.ptr ((c::w)++[58,x])) (hw:(c::w).all H3=true) (hx:BO x=true) (hc:(c==35)=false) (hn:w.length<=2000):
 ∃y,∀d,AB PP fu (d+7) F5 [me] [] (s.hp lo g)= .ok .none (((s1.off.on (c::w).length).add (Cf (c::w) true s1.mark (s1.on (c::w).length).mark .none)).hp lo (g++y)):=by
 have hp:=nJ (s:=s1.off) (lo:=lo) (g:=g) (by show AJ s1.buf s1.ptr _;rw [he.1,he.2.1];exact h) hw hx hc hn;refine⟨[L1 [.str (c::w)],L1 [],L1 []],?_⟩;rw [show g++[L1 [.str (c::w)],L1 [],L1 []]=sn (sn (sn g (L1 [.str (c::w)])) (L1 [])) (L1 []) by unfold sn;rw [wF,wF];rfl];exact cert [.call _ _ _ _ _ 3 hs,.call _ _ _ _ _ 6 hp,C3 (s1.off.on (c::w).length) lo (sn (sn (sn g (L1 [.str (c::w)])) (L1 [])) (L1 [])) (Cf (c::w) true s1.mark (s1.on (c::w).length).mark .none) (by show s1.toks.length<1000000;exact BV he.2.2)]
theorem nU{c x:Nat}{s1:Sc}(hs:∀d,AB PP fu (d+3) Ig [me] [] (s.hp lo g)= .ok .none (s1.hp lo g))(he:s1.ptr=s.ptr/\s1.buf=s.buf/\s1.toks.length<=900)
 (h:AJ s.buf s.ptr [39,c,39,x]) (hc:Qi c=false) (hp:Co c=true) (hx:(x==39)=false):
 ∃y,∀d,AB PP fu (d+9) S5 [me] [] (s.hp lo g)= .ok .none (((s1.off.on 3).add (Cf [c] false s1.mark (s1.on 3).mark (.str [39]))).hp lo (g++y)):=by
 have hp:=m8 (s:=s1.off) (lo:=lo) (g:=g) (by show AJ s1.buf s1.ptr _;rw [he.1,he.2.1];exact h) hc hp hx;refine⟨[L1 [.str [c]],L1 [.str [c]]],?_⟩;rw [show g++[L1 [.str [c]],L1 [.str [c]]]=sn (sn g (L1 [.str [c]])) (L1 [.str [c]]) by unfold sn;rw [wF];rfl];exact cert [.call _ _ _ _ _ 3 hs,.call _ _ _ _ _ 7 hp,C3 (s1.off.on 3) lo (sn (sn g (L1 [.str [c]])) (L1 [.str [c]])) (Cf [c] false s1.mark (s1.on 3).mark (.str [39])) (by show s1.toks.length<1000000;exact BV he.2.2)]
def Sc.H5(s:Sc):Sc:={s.AW (-1)with allow:=false,key:=none}
end
section
variable{s:Sc}{lo g:List AObj}
theorem nV(h:s.col≠0):∀d,AB PP fu (d+4) Ha [me] [] (s.hp lo g)= .ok .none (s.hp lo g):=
 cert [Bz s.col 0 (b:=false) (by rw [beq_eq_false_iff_ne];exact Rk)]
theorem nW(h:s.col=0)(hl:s.ptr<=s.buf.length)(hp:(s.pre 3==[45,45,45])=false):∀d,AB PP fu (d+4) Ha [me] [] (s.hp lo g)= .ok .none (s.hp lo g):=
 cert [Bz s.col 0 (b:=true) (by rw [h];rfl),.call D0 [me,.int 3] [] (s.hp lo g) (.ok (.str (s.pre 3)) (s.hp lo g)) 2 (FV (n:=3) hl),Er (s.pre 3) [45,45,45] hp]
theorem nX{x:Nat}{b:Bool}(h:s.col=0)(hh:AJ s.buf s.ptr [45,45,45,x])(hx:BO x=b):∀d,AB PP fu (d+4) Ha [me] [] (s.hp lo g)= .ok (if b=true then .bool true else .none) (s.hp lo g):=by
 cases(b)
 all_goals exact cert [Bz s.col 0 (b:=true) (by rw [h];rfl),pf s lo g [45,45,45] (hh.left (u:=[45,45,45])) nofun,pk s lo g 3 (hh.tail.tail.tail.head),Ax x _ hx]
theorem vq(h:s.col≠0):∀d,AB PP fu (d+4) Ll [me] [] (s.hp lo g)= .ok .none (s.hp lo g):=
 cert [Bz s.col 0 (b:=false) (by rw [beq_eq_false_iff_ne];exact Rk)]
theorem nY{x:Nat}{b:Bool}(h:s.col=0)(hh:AJ s.buf s.ptr [46,46,46,x])(hx:BO x=b):∀d,AB PP fu (d+4) Ll [me] [] (s.hp lo g)= .ok (if b=true then .bool true else .none) (s.hp lo g):=by
 cases(b)
 all_goals exact cert [Bz s.col 0 (b:=true) (by rw [h];rfl),pf s lo g [46,46,46] (hh.left (u:=[46,46,46])) nofun,pk s lo g 3 (hh.tail.tail.tail.head),Ax x _ hx]
structure Pre(s s3:Sc):Prop where
 ex:∃s1 s2:Sc,(∀lo g d,AB PP fu (d+5) S6 [me] [] (s.hp lo g)= .ok .none (s1.hp lo g))/\(∀lo g d,AB PP fu (d+2) Ie [me] [] (s1.hp lo g)= .ok .none (s2.hp lo g))/\
  ∀lo g d,AB PP fu (d+3) OZ [me,.int s2.col] [] (s2.hp lo g)= .ok .none (s3.hp lo g)
theorem nZ{s3:Sc}{v:AV}{h4:Hp}(hp:Pre s s3)(h:s3.buf[s3.ptr]? =some 0)(hf:∀d,AB PP fu (d+9) Sy [me] [] (s3.hp lo g)= .ok v h4):∀d,AB PP fu (d+12) Cm [me] [] (s.hp lo g)= .ok v h4:=by obtain⟨s1,s2,h1,h2,h3⟩:=hp.ex;exact cert [.call _ _ _ _ _ 5 (h1 lo g),.call _ _ _ _ _ 2 (h2 lo g),.call _ _ _ _ _ 3 (h3 lo g),Af s3 lo g h,.call _ _ _ _ _ 9 hf]
theorem nf{s3:Sc}{v:AV}{h4:Hp}(hp:Pre s s3)(h:s3.buf[s3.ptr]? =some 45)(hc:∀lo g d,AB PP fu (d+4) Ha [me] [] (s3.hp lo g)= .ok (.bool true) (s3.hp lo g))(hf:∀d,AB PP fu (d+9) Sz [me] [] (s3.hp lo g)= .ok v h4):∀d,AB PP fu (d+12) Cm [me] [] (s.hp lo g)= .ok v h4:=by obtain⟨s1,s2,h1,h2,h3⟩:=hp.ex;exact cert [.call _ _ _ _ _ 5 (h1 lo g),.call _ _ _ _ _ 2 (h2 lo g),.call _ _ _ _ _ 3 (h3 lo g),Af s3 lo g h,.call _ _ _ _ _ 4 (hc lo g),.call _ _ _ _ _ 9 hf]
theorem ng{s3:Sc}{v:AV}{h4:Hp}(hp:Pre s s3)(h:s3.buf[s3.ptr]? =some 46)(hc:∀lo g d,AB PP fu (d+4) Ll [me] [] (s3.hp lo g)= .ok (.bool true) (s3.hp lo g))(hf:∀d,AB PP fu (d+9) S0 [me] [] (s3.hp lo g)= .ok v h4):∀d,AB PP fu (d+12) Cm [me] [] (s.hp lo g)= .ok v h4:=by obtain⟨s1,s2,h1,h2,h3⟩:=hp.ex;exact cert [.call _ _ _ _ _ 5 (h1 lo g),.call _ _ _ _ _ 2 (h2 lo g),.call _ _ _ _ _ 3 (h3 lo g),Af s3 lo g h,.call _ _ _ _ _ 4 (hc lo g),.call _ _ _ _ _ 9 hf]
theorem nh{s3:Sc}{v:AV}{h4:Hp}(hp:Pre s s3)(h:s3.buf[s3.ptr]? =some 45)(hc:∀lo g d,AB PP fu (d+4) Ha [me] [] (s3.hp lo g)= .ok .none (s3.hp lo g)){x:Nat}(h':s3.buf[s3.ptr+1]? =some x)(hx:BO x=true)(hf:∀d,AB PP fu (d+9) S3 [me] [] (s3.hp lo g)= .ok v h4):∀d,AB PP fu (d+12) Cm [me] [] (s.hp lo g)= .ok v h4:=by obtain⟨s1,s2,h1,h2,h3⟩:=hp.ex;exact cert [.call _ _ _ _ _ 5 (h1 lo g),.call _ _ _ _ _ 2 (h2 lo g),.call _ _ _ _ _ 3 (h3 lo g),Af s3 lo g h,.call _ _ _ _ _ 4 (hc lo g),pk s3 lo g 1 h',Ax x _ hx,.call _ _ _ _ _ 9 hf]
theorem ni{s3:Sc}{v:AV}{h4:Hp}(hp:Pre s s3)(h:s3.buf[s3.ptr]? =some 63){x:Nat}(h':s3.buf[s3.ptr+1]? =some x)(hx:BO x=true)(hf:∀d,AB PP fu (d+9) S4 [me] [] (s3.hp lo g)= .ok v h4):∀d,AB PP fu (d+12) Cm [me] [] (s.hp lo g)= .ok v h4:=by obtain⟨s1,s2,h1,h2,h3⟩:=hp.ex;exact cert [.call _ _ _ _ _ 5 (h1 lo g),.call _ _ _ _ _ 2 (h2 lo g),.call _ _ _ _ _ 3 (h3 lo g),Af s3 lo g h,pk s3 lo g 1 h',Ax x _ hx,.call _ _ _ _ _ 9 hf]
theorem Xm{s3:Sc}{v:AV}{h4:Hp}(hp:Pre s s3)(h:s3.buf[s3.ptr]? =some 58){x:Nat}(h':s3.buf[s3.ptr+1]? =some x)(hx:BO x=true)(hf:∀d,AB PP fu (d+9) Oa [me] [] (s3.hp lo g)= .ok v h4):∀d,AB PP fu (d+12) Cm [me] [] (s.hp lo g)= .ok v h4:=by obtain⟨s1,s2,h1,h2,h3⟩:=hp.ex;exact cert [.call _ _ _ _ _ 5 (h1 lo g),.call _ _ _ _ _ 2 (h2 lo g),.call _ _ _ _ _ 3 (h3 lo g),Af s3 lo g h,pk s3 lo g 1 h',Ax x _ hx,.call _ _ _ _ _ 9 hf]
theorem nj{s3:Sc}{v:AV}{h4:Hp}(hp:Pre s s3)(h:s3.buf[s3.ptr]? =some 39)(hf:∀d,AB PP fu (d+9) S5 [me] [] (s3.hp lo g)= .ok v h4):∀d,AB PP fu (d+12) Cm [me] [] (s.hp lo g)= .ok v h4:=by obtain⟨s1,s2,h1,h2,h3⟩:=hp.ex;exact cert [.call _ _ _ _ _ 5 (h1 lo g),.call _ _ _ _ _ 2 (h2 lo g),.call _ _ _ _ _ 3 (h3 lo g),Af s3 lo g h,.call _ _ _ _ _ 9 hf]
theorem vr{s3:Sc}{v:AV}{h4:Hp}(hp:Pre s s3)(h:s3.buf[s3.ptr]? =some 119)(hf:∀d,AB PP fu (d+9) F5 [me] [] (s3.hp lo g)= .ok v h4):∀d,AB PP fu (d+12) Cm [me] [] (s.hp lo g)= .ok v h4:=by obtain⟨s1,s2,h1,h2,h3⟩:=hp.ex;exact cert [.call _ _ _ _ _ 5 (h1 lo g),.call _ _ _ _ _ 2 (h2 lo g),.call _ _ _ _ _ 3 (h3 lo g),Af s3 lo g h,Af s3 lo g h,.call _ _ _ _ _ 9 hf]
theorem nk{s3:Sc}{v:AV}{h4:Hp}(hp:Pre s s3)(h:s3.buf[s3.ptr]? =some 45)(hc:∀lo g d,AB PP fu (d+4) Ha [me] [] (s3.hp lo g)= .ok .none (s3.hp lo g)){x:Nat}(h':s3.buf[s3.ptr+1]? =some x)(hx:BO x=false)(hf:∀d,AB PP fu (d+9) F5 [me] [] (s3.hp lo g)= .ok v h4):∀d,AB PP fu (d+12) Cm [me] [] (s.hp lo g)= .ok v h4:=by obtain⟨s1,s2,h1,h2,h3⟩:=hp.ex;exact cert [.call _ _ _ _ _ 5 (h1 lo g),.call _ _ _ _ _ 2 (h2 lo g),.call _ _ _ _ _ 3 (h3 lo g),Af s3 lo g h,.call _ _ _ _ _ 4 (hc lo g),pk s3 lo g 1 h',Ax x _ hx,Af s3 lo g h,.skip,pk s3 lo g 1 h',Mz x _ (b:=true) (congrArg not hx),.call _ _ _ _ _ 9 hf]
theorem vt{s3:Sc}{v:AV}{h4:Hp}(hp:Pre s s3)(h:s3.buf[s3.ptr]? =some 46)(hc:∀lo g d,AB PP fu (d+4) Ll [me] [] (s3.hp lo g)= .ok .none (s3.hp lo g))(hf:∀d,AB PP fu (d+9) F5 [me] [] (s3.hp lo g)= .ok v h4):∀d,AB PP fu (d+12) Cm [me] [] (s.hp lo g)= .ok v h4:=by obtain⟨s1,s2,h1,h2,h3⟩:=hp.ex;exact cert [.call _ _ _ _ _ 5 (h1 lo g),.call _ _ _ _ _ 2 (h2 lo g),.call _ _ _ _ _ 3 (h3 lo g),Af s3 lo g h,.call _ _ _ _ _ 4 (hc lo g),Af s3 lo g h,.call _ _ _ _ _ 9 hf]
end
section
variable{s:Sc}{lo g:List AObj}
def Sc.nq(s:Sc)(kr:Nat)(dn:Bool):List (N×AV):=[(N.name,.str Mp),(N.stream,.none),(N.QS,.int 0),(N.eof,.bool true),(N.buffer,.str s.buf),(N.Mo,.int s.ptr),(N.QT,.none),(N.QU,.none),
 (N.encoding,.none),(N.index,.int s.ptr),(N.line,.int s.line),(N.column,.int s.col),(N.Ww,.bool dn),(N.Wx,.int 0),(N.tokens,.ref 3),(N.Wy,.int s.taken),(N.indent,.int (s.st.headD 0)),(N.Wz,.ref 5),(N.W3,.bool s.allow),
 (N.W4,.ref kr)]
def Sc.FZ(s:Sc)(kr:Nat)(dn:Bool)(lo g:List AObj):Hp:=⟨lo,.ins 1048 (s.nq kr dn)::.lst s.toks::.lst (s.st.tail.reverse.map .int)::.Ap (W5 s.buf s.key)::g⟩
structure Ph where
 s:Sc
 dn:Bool
def run(s:Sc):Ph:=⟨s,false⟩
def fin(s:Sc):Ph:=⟨s,true⟩
def BU(p:Ph)(lo g:List AObj)(h:Hp):Prop:=∃kr,h=p.s.FZ kr p.dn lo g/\(p.dn=false->kr=7)
theorem BU.run(s:Sc)(lo g:List AObj):BU (run s) lo g (s.hp lo g):=⟨7,rfl,fun _=> rfl⟩
theorem BU.of{s:Sc}{lo g:List AObj}{h:Hp}(e:BU (L4.run s) lo g h):h=s.hp lo g:=by obtain(⟨kr,e,e2⟩):=e;rw [e2 rfl]at e;exact e
def NA(m:AV):AV:=Ar S7 m m
theorem nu{u:Sc}(hu:∀d,AB PP fu (d+3) OZ [me,.int (-1)] [] (s.hp lo g)= .ok .none (u.hp lo g)){u1:Sc}(hr:∀d,AB PP fu (d+2) OY [me] [] (u.hp lo g)= .ok .none (u1.hp lo g))(ht:u1.toks.length<=2000):
 ∀d,AB PP fu (d+4) Sy [me] [] (s.hp lo g)= .ok .none ((u1.off.add (NA u1.mark)).FZ (AZ g.length) true lo (sn g (.Ap []))):=by
 have hb:Bv (u1.off.FZ (AZ g.length) false lo (sn g (.Ap []))) (.ref 3) N.append [NA u1.mark]=some (.none,(u1.off.add (NA u1.mark)).FZ (AZ g.length) false lo (sn g (.Ap []))):=
  Hz (h:=u1.off.FZ (AZ g.length) false lo (sn g (.Ap []))) (r:=3) (xs:=u1.toks) rfl (by show u1.toks.length<1000000;exact D9)
 exact cert [.call _ _ _ _ _ 3 hu,.call _ _ _ _ _ 2 hr,.A6 _ _ N.append _ _ _ hb]
def HC(p q:Ph):Prop:=∀lo g h,BU p lo g h->∃h',BU q lo g h'/\∀d,AB PP fu (d+4) HZ [me] [] h= .ok (.bool true) h'
def Not(p q:Ph):Prop:=∀lo g h,BU p lo g h->∃h' v,BU q lo g h'/\(v= .none∨v= .bool false)/\∀d,AB PP fu (d+4) HZ [me] [] h= .ok v h'
def C4(p q:Ph):Prop:=∀lo g h,BU p lo g h->∃y h',BU q lo (g++y) h'/\∀d,AB PP fu (d+12) Cm [me] [] h= .ok .none h'
inductive Fb:Ph->Nat->Ph->Prop
 |nil (p:Ph):Fb p 0 p
 |cons {p q r z:Ph} {n:Nat} (h1:HC p q) (h2:C4 q r) (h3:Fb r n z):Fb p (n+1) z
def Fc:CS:=DS So 0
def Es(h:Hp):St:=⟨[(N.self,me)],h⟩
theorem Xn{p:Ph}{h h':Hp}(e:∃kr dn lo g,h=p.s.FZ kr dn lo g){v:AV}{b:Bool}(hv:truthy h' v=some b)(hv2:v= .none∨∃b,v= .bool b)(hn:∀d,AB PP fu (d+4) HZ [me] [] h= .ok v h'):∀d,An PP (AB PP fu (d+12)) (Bs Fc) (Es h)= .ok b (Es h'):=by
 obtain⟨kr,dn,lo,g,rfl⟩:=e;rcases hv2 with rfl |⟨c,rfl⟩
 . cases hv;exact Br [.call _ _ _ _ _ 4 hn]
 . cases hv;exact Br [.call _ _ _ _ _ 4 hn]
theorem nv{p:Ph}{h h':Hp}(e:∃kr dn lo g,h=p.s.FZ kr dn lo g)(hn:∀d,AB PP fu (d+12) Cm [me] [] h= .ok .none h'):∀d,AU PP fu (AB PP fu (d+12)) (BQ Fc) (Es h)= .ok .next (Es h'):=by obtain⟨kr,dn,lo,g,rfl⟩:=e;exact Aa [.call _ _ _ _ _ 12 hn]
theorem BU.ex{p:Ph}{lo g:List AObj}{h:Hp}(e:BU p lo g h):∃kr dn lo g,h=p.s.FZ kr dn lo g:=by obtain(⟨kr,e,_⟩):=e;exact⟨_,_,_,_,e⟩
theorem ny{r:Ph->Hp->Out Flow}{p z:Ph}{n:Nat}(H:Fb p n z):∀{lo g:List AObj} {h:Hp},BU p lo g h->∃y h',BU z lo (g++y) h'/\
 ∀(m d:Nat) (R:Out Flow),Bb (fun s=> An PP (AB PP fu (d+12)) (Bs Fc) s) (fun s=> AU PP fu (AB PP fu (d+12)) (BQ Fc) s) m (Es h')=R->Bb (fun s=> An PP (AB PP fu (d+12)) (Bs Fc) s) (fun s=> AU PP fu (AB PP fu (d+12)) (BQ Fc) s) (m+n) (Es h)=R:=by
 induction H with
 |nil p=> intro lo g h e;exact⟨[],h,by rw [wY];exact e,fun m d R x=> x⟩
 |cons h1 h2 h3 ih=> intro lo g h e;refine cps fun P1_ k1_=> ?_;obtain⟨h',e1,n1⟩:=h1 lo g h e;obtain⟨y,h'',e2,n2⟩:=h2 lo g h' e1;obtain⟨y',h3',e3,n3⟩:=ih e2;refine k1_ ?_;refine⟨y++y',h3',by rw [<-wF];exact e3,fun m d R x=> ?_⟩;rw [<-xX];exact(FU (Xn e.ex rfl (.inr ⟨_,rfl⟩) n1 d) (nv e1.ex n2 d)).trans (n3 m d R x)
def NB(p:Ph)(v:AV)(q:Ph):Prop:=∀lo g h,BU p lo g h->∃y h',BU q lo (g++y) h'/\∀d,AB PP fu (d+13) Sw [me] [] h= .ok v h'
def Ph.NC(p:Ph)(r:List AV):Ph:=⟨{p.s with toks:=r,taken:=p.s.taken+1},p.dn⟩
theorem ND{p q z:Ph}{n:Nat}{v:AV}{r:List AV}(H:Fb p n q)(hn:n<=4000)(hz:Not q z)(ht:z.s.toks=v::r):NB p v (z.NC r):=fun lo g h e=> by
 refine cps fun P1_ k1_=> ?_;obtain⟨y,h',e1,w⟩:=ny (r:=fun _ _=>.bad) H e;obtain⟨h2,u,e2,hu,w2⟩:=hz lo (g++y) h' e1;have hl:∀d,As PP fu (AB PP fu (d+12)) Fc (Es h)= .ok .next (Es h2):=fun d=> by
  show Bb (fun s=> An PP (AB PP fu (d+12)) (Bs Fc) s) (fun s=> AU PP fu (AB PP fu (d+12)) (BQ Fc) s) 5000 (Es h)=_;have:=w (5000 - n) d _ (show Bb _ _ (5000 - n) (Es h')= .ok .next (Es h2)from by obtain⟨m,hm⟩:∃m,5000 - n=m+1:=⟨5000 - n - 1,by lia⟩;rw [hm];exact G9 (Xn e1.ex (by rcases hu with rfl |rfl<;>rfl) (hu.imp id fun x=> ⟨_,x⟩) w2 d))
  rw [show 5000 - n+n=5000 by lia]at this;exact this
 obtain⟨kr,rfl,hk⟩:=e2;obtain⟨kr',rfl,_⟩:=e;obtain⟨⟨bf,p1,l,c,ts,tk,sk,al,ky⟩,dn⟩:=z;obtain rfl:ts=v::r:=ht;refine k1_ ?_;refine⟨y,(Ph.NC ⟨⟨bf,p1,l,c,v::r,tk,sk,al,ky⟩,dn⟩ r).s.FZ kr dn lo (g++y),⟨kr,rfl,hk⟩,?_⟩;generalize g++y=g' at hl;exact cert [.Ao Fc _ _ 12 hl]
theorem get_none{p:Ph}(ht:p.s.toks=[])(hd:p.dn=true):NB p .none p:=fun lo g h e=> by obtain⟨kr,rfl,hk⟩:=e;refine⟨[],_,by rw [wY];exact⟨kr,rfl,hk⟩,?_⟩;obtain⟨⟨bf,p1,l,c,ts,tk,sk,al,ky⟩,dn⟩:=p;obtain rfl:ts=[]:=ht;obtain rfl:dn=true:=hd;exact cert []
end
theorem n0{x0:Nat}{x1:Nat}(h0:x1=(x0+1)):x0<=x1:=by omega
theorem n4{x0:Nat}{x1:Nat}(h0:x1<x0):x0≠x1:=by omega
theorem n5{x0:Nat}{x1:Nat}{x2:Nat}(h0:x1=(x2+1))(h1:x0=x2):x0<x1:=by omega
theorem Xo{x0:Nat}:1<=(x0+1):=by simp+arith only
theorem Xp{x0:Nat}:x0<=(x0+1):=by simp+arith only
theorem Xq{x0:Nat}{x1:Nat}(h0:x0<=x1):(x0+1)<=(x1+1):=by refine AI h0 ?_;simp+arith only
theorem n6{x0:Nat}{x1:Nat}(h0:x0<=x1):x0<=(x1+1):=by refine AI h0 ?_;simp+arith only
theorem Qk{x0:Nat}{x1:Nat}{x2:Nat}(h0:(x0 - x1)<=(x2+1)):(x0 - (x1+1))<=x2:=by omega
theorem NF{x0:Nat}{x1:Nat}(h0:¬(x1<x0)):x0<=x1:=by omega
theorem n7{x0:Nat}{x1:Nat}{x2:Nat}(h0:x0<=x2)(h1:x2<x1):x0<x1:=by refine AI (wG h0 h1) ?_;simp+arith only
theorem n8{x0:Nat}{x1:Nat}(h0:x0<=x1)(h1:¬(x0<x1)):x0=x1:=by omega
theorem Ql{x0:Nat}{x1:Nat}(h0:x1<=4000)(h1:x0<=x1):x0<=4000:=by refine AI (wG h0 h1) ?_;simp+arith only
theorem n9{x0:Int}{x1:Int}(h0:x1<=x0):¬(x0<x1):=by omega
theorem oA{x0:Nat}{x1:Nat}(h0:(x1+x0)<=900):x0<=2000:=by refine AI h0 ?_;simp+arith only
theorem oB{x0:Nat}{x1:Nat}(h0:(x0+x1)<=900):x0<=2000:=by refine AI h0 ?_;simp+arith only
theorem oC{x0:Nat}{x1:Nat}(h0:0<x1):x0≠(x0+x1):=by omega
theorem Xr{x0:Nat}:(-(1:Int))<=((x0:Nat):Int):=by omega
theorem oD{x0:Nat}{x1:Nat}{x2:Nat}(h0:x0<=(x1+1))(h1:x2<=100):((x0 - x1)+x2)<=2000:=by omega
theorem oE{x0:Nat}(h0:x0<=900):((((5000 - x0) - 1)+1)+x0)=5000:=by omega
theorem oF:1<=100:=by simp+arith only
theorem oG{x0:Nat}(h0:x0<=900):((((((5000 - x0) - 4)+1)+x0)+1)+2)=5000:=by omega
theorem Qm{x0:Nat}(h0:x0<=100):(x0+1)<5000:=by refine AI h0 ?_;simp+arith only
theorem oH{x0:Nat}:¬((((x0:Nat):Int)+(1:Int))=(0:Int)):=by omega
theorem oI{x0:Nat}(h0:x0<=100):((x0+0)+1)<=60000:=by refine AI h0 ?_;simp+arith only
theorem oJ{x0:Nat}(h0:0<x0):((x0:Nat):Int)≠(0:Int):=by omega
theorem oK{x0:Nat}{x1:Nat}{x2:Int}(h0:x2<=((x0:Nat):Int)):¬(((((x0+x1)+1):Nat):Int)<(x2+(1:Int))):=by omega
theorem oM{x0:Nat}{x1:Nat}(h0:x0<=100)(h1:x1<=100):((x0+(1+(x1+0)))+3)<=60000:=by refine AI (wG h0 h1) ?_;simp+arith only
theorem Xs{x0:Nat}{x1:Nat}{x2:Nat}:(x0+((x1+1)+x2))=(((x0+x1)+1)+x2):=by simp+arith only
theorem oN{x0:Nat}(h0:x0<=900):x0<1000000:=by refine AI h0 ?_;simp+arith only
theorem H6{x0:Nat}{x1:Nat}:x0<=(x0+x1):=by simp+arith only
theorem oO{x0:Nat}{x1:Nat}{x2:Nat}{x3:Nat}(h0:x0<=x2)(h1:x1=(x2+x3))(h2:0<x3):x0<x1:=by omega
theorem oP{x0:Nat}{x1:Nat}{x2:Nat}{x3:Nat}(h0:x0<=x2)(h1:x1=(x2+x3)):x0<=x1:=by omega
theorem oQ{x0:Nat}{x1:Nat}{x2:Nat}(h0:x0<=x2)(h1:x2<=x1):x0<=x1:=by refine AI (wG h0 h1) ?_;simp+arith only
theorem oR{x0:Nat}{x1:Nat}(h0:x0=(x1+1)):x0<=(x1+1):=by omega
theorem oS{x0:Nat}{x1:Nat}{x2:Nat}{x3:Nat}(h0:x0<=(x2+1))(h1:x1<=x3)(h2:x3<=100):((x0+x1) - x2)<=900:=by omega
theorem oT{x0:Nat}{x1:Nat}{x2:Nat}(h0:(x1+x2)<=90):((x0+x1)+x2)<=(x0+1024):=by refine AI h0 ?_;simp+arith only
theorem oU{x0:Nat}:(x0+3)<=(x0+1024):=by simp+arith only
theorem oV{x0:Nat}{x1:Nat}{x2:Nat}(h0:x0=x2)(h1:x1=(x2+1)):x0<x1:=by omega
theorem oW{x0:Nat}{x1:Nat}{x2:Nat}(h0:x1=x2)(h1:x0=(x2+1)):x0<=(x1+1):=by omega
theorem Xu{x0:Nat}{x1:Nat}(h0:x0=x1):x0<=x1:=by omega
theorem oY{x0:Nat}{x1:Nat}{x2:Nat}{x3:Nat}(h0:x0=x1):x0<(x1+(x2+(x3+1))):=by omega
theorem oZ{x0:Nat}{x1:Nat}{x2:Nat}(h0:x0=x1):x0<=(x1+x2):=by omega
theorem og{x0:Nat}{x1:Nat}(h0:x1=x0):x0<=x1:=by omega
theorem oj{x0:Nat}{x1:Nat}(h0:x1<=100)(h1:x0<=900):(x0+x1)<=2000:=by refine AI (wG h0 h1) ?_;simp+arith only
theorem om{x0:Nat}{x1:Nat}{x2:Nat}(h0:x1<=x2)(h1:x2<=100)(h2:x0<=900):(x0+x1)<=2000:=by refine AI (wG (wG h0 h1) h2) ?_;simp+arith only
theorem oo{x0:Nat}{x1:Nat}{x2:Nat}(h0:x0<=x1):x0<((x1+x2)+1):=by refine AI h0 ?_;simp+arith only
theorem Qn{x0:Nat}(h0:0<x0):(0:Int)<((x0:Nat):Int):=by omega
theorem Xv{x0:Nat}(h0:0<x0):¬(((x0:Nat):Int)=(0:Int)):=by omega
theorem oq{x0:Nat}(h0:x0<=1000):x0<=1000000:=by refine AI h0 ?_;simp+arith only
theorem ot{x0:Nat}(h0:x0<=1000):(1 * x0)<=1000000:=by refine AI h0 ?_;simp+arith only
theorem ou{x0:Nat}(h0:x0<=100):x0<=1000000:=by refine AI h0 ?_;simp+arith only
theorem oy{x0:Nat}(h0:x0<=100):(1 * x0)<=256:=by refine AI h0 ?_;simp+arith only
theorem oz{x0:Nat}(h0:x0<=100):(x0+1)<=1000000:=by refine AI h0 ?_;simp+arith only
theorem o4{x0:Nat}{x1:Nat}(h0:x0<=100000)(h1:x1<=100):(x0+(x1+1))<=1000000:=by refine AI (wG h0 h1) ?_;simp+arith only
theorem o5{x0:Nat}{x1:Nat}(h0:x1<=100)(h1:x0<=100000):(x0+x1)<=1000000:=by refine AI (wG h0 h1) ?_;simp+arith only
theorem Qo{x0:Nat}(h0:x0<=2):(0+x0)<=200000:=by refine AI h0 ?_;simp+arith only
theorem o6{x0:Nat}(h0:x0<=2):((0+x0)+0)<=200000:=by refine AI h0 ?_;simp+arith only
theorem NG{x0:Nat}(h0:x0<=900):x0<=1000:=by refine AI h0 ?_;simp+arith only
theorem o7{x0:Nat}{x1:Nat}(h0:x1<=900)(h1:x0<=2):(x0+x1)<=200000:=by refine AI (wG h0 h1) ?_;simp+arith only
theorem o8{x0:Nat}{x1:Nat}{x2:Nat}(h0:x2<=900)(h1:x1<=2)(h2:x0<=100000):(x0+(x1+x2))<=200000:=by refine AI (wG (wG h0 h1) h2) ?_;simp+arith only
theorem Qp{x0:Nat}(h0:x0<=2):(2+x0)<=200000:=by refine AI h0 ?_;simp+arith only
theorem o9{x0:Nat}(h0:x0<=2):x0<=199998:=by refine AI h0 ?_;simp+arith only
theorem pB{x0:Nat}{x1:Nat}(h0:x1<=900)(h1:x0<=2):(((x0+1)+1)+x1)<=200000:=by refine AI (wG h0 h1) ?_;simp+arith only
theorem pD{x0:Nat}{x1:Nat}{x2:Nat}(h0:x2<=900)(h1:x1<=2)(h2:x0<=100000):(x0+(((x1+x2)+1)+1))<=200000:=by refine AI (wG (wG h0 h1) h2) ?_;simp+arith only
theorem Xw{x0:Nat}(h0:x0<=2):(x0+((x0+1)+1))<=200000:=by omega
theorem Xx{x0:Nat}{x1:Nat}(h0:x1<=900)(h1:x0<=2):((x0+((x0+1)+1))+x1)<=200000:=by omega
theorem Xy{x0:Nat}{x1:Nat}{x2:Nat}(h0:x2<=900)(h1:x1<=2)(h2:x0<=100000):(x0+(x1+(((x1+x2)+1)+1)))<=200000:=by omega
theorem pF{x0:Nat}(h0:x0<=100):x0<=1000:=by refine AI h0 ?_;simp+arith only
theorem pG{x0:Nat}{x1:Nat}(h0:x1<=100)(h1:x0<=100000):(x0+x1)<=200000:=by refine AI (wG h0 h1) ?_;simp+arith only
theorem pH{x0:Nat}{x1:Nat}{x2:Nat}(h0:x2<x1)(h1:x0<=x2):(x0+1)<=x1:=by refine AI (wG h0 h1) ?_;simp+arith only
theorem pI{x0:Nat}{x1:Nat}:(x0+(x1+1))=((x0+1)+x1):=by simp+arith only
theorem pJ{x0:Nat}{x1:Nat}(h0:¬(x0<x1))(h1:(x0 - x1)=0):x0=x1:=by omega
theorem pK{x0:Nat}{x1:Nat}{x2:Nat}(h0:¬(x2<x1)):((x0+x1)+(x2 - x1))=(x0+x2):=by omega
theorem pL{x0:Nat}{x1:Nat}{x2:Nat}:x0<(((x0+x1)+x2)+1):=by simp+arith only
theorem NH{x0:Nat}{x1:Nat}:x0<((x0+x1)+1):=by simp+arith only
theorem Xz{x0:Nat}(h0:x0<=90):(x0+1)<=100:=by refine AI h0 ?_;simp+arith only
theorem Qq{x0:Nat}(h0:x0<=90):x0<=100:=by refine AI h0 ?_;simp+arith only
theorem X0{x0:Nat}{x1:Nat}{x2:Nat}:((x0+x1)+x2)=(x0+(x1+x2)):=by simp+arith only
theorem pM{x0:Nat}(h0:x0<=800):(0+x0)<=900:=by refine AI h0 ?_;simp+arith only
theorem pN{x0:Nat}(h0:0<x0):x0=((x0 - 1)+1):=by omega
theorem pO{x0:Nat}:(x0+3)<=(x0+100):=by simp+arith only
theorem pP{x0:Nat}(h0:x0<=3):(x0+1)<=90:=by refine AI h0 ?_;simp+arith only
theorem pQ{x0:Nat}{x1:Nat}(h0:x1<=3):((x0+x1)+1)<=(x0+100):=by refine AI h0 ?_;simp+arith only
theorem pR{x0:Nat}{x1:Nat}{x2:Nat}{x3:Nat}{x4:Nat}(h0:(x0+x1)=x4):((((x0+x1)+1)+(x2+1))+x3)=(x4+(((x2+x3)+1)+1)):=by omega
theorem X1{x0:Nat}(h0:x0<=800):(1+x0)<=900:=by refine AI h0 ?_;simp+arith only
theorem pU{x0:Nat}{x1:Nat}{x2:Nat}:(x0+(x1+x2))=((x0+x1)+x2):=by simp+arith only
theorem Kf{x0:Nat}(h0:x0<=800):x0<=900:=by refine AI h0 ?_;simp+arith only
theorem X2{x0:Nat}{x1:Int}(h0:((x0:Nat):Int)<=x1):(((0+x0):Nat):Int)<(x1+(1:Int)):=by omega
theorem X3{x0:Nat}{x1:Nat}{x2:Nat}:(x0+(x1+(((x1+x2)+1)+1)))=((((x0+x1)+2)+x1)+x2):=by simp+arith only
theorem pV{x0:Nat}:x0<((x0+1)+1):=by simp+arith only
theorem pW{x0:Nat}{x1:Nat}{x2:Nat}:(((x0+x1)+x2)+((x2+1)+1))=((((x0+x1)+x2)+2)+x2):=by simp+arith only
theorem pX{x0:Nat}(h0:x0<=3):(x0+0)<=90:=by refine AI h0 ?_;simp+arith only
theorem pY{x0:Nat}{x1:Nat}(h0:x1<=3):(x0+x1)<=(x0+100):=by refine AI h0 ?_;simp+arith only
theorem pZ{x0:Int}{x1:Nat}{x2:Nat}(h0:x0<=((x1:Nat):Int)):x0<=(((x1+x2):Nat):Int):=by omega
theorem pb{x0:Nat}{x1:Nat}{x2:Nat}:((x0+x1)+(0+1))<((x0+x1)+(x2+(((0+1)+(0+1))+1))):=by simp+arith only
theorem pe{x0:Int}{x1:Int}{x2:Int}(h0:x0<=x2)(h1:x2<x1):x0<x1:=by omega
theorem pg{x0:Nat}{x1:Nat}{x2:Nat}(h0:(x0+x1)=x2):((x0+1)+x1)=(x2+1):=by omega
theorem pq{x0:Nat}{x1:Nat}{x2:Nat}(h0:x0<=x1):(1+x0)<=(((x1+x2)+1)+1):=by refine AI h0 ?_;simp+arith only
theorem pv{x0:Nat}{x1:Nat}(h0:x1<=x0):x0=(x1+(x0 - x1)):=by omega
theorem px{x0:Nat}{x1:Nat}{x2:Nat}{x3:Nat}(h0:x2<=x3):(((x0+x1)+x2)+(x3 - x2))=((x0+x1)+x3):=by omega
theorem pz{x0:Int}{x1:Int}{x2:Int}(h0:x0<=x2)(h1:x2<x1):x0<=x1:=by omega
theorem X4{x0:Nat}{x1:Nat}{x2:Nat}(h0:x1<=3)(h1:x0<=x2):(x0+x1)<=(x2+3):=by refine AI (wG h0 h1) ?_;simp+arith only
theorem p8{x0:Nat}{x1:Nat}(h0:x1<=30)(h1:x0<=2):(x0+x1)<=40:=by refine AI (wG h0 h1) ?_;simp+arith only
theorem p9{x0:Nat}{x1:Nat}(h0:x1<=30)(h1:x0<=2):(x0+x1)<=38:=by refine AI (wG h0 h1) ?_;simp+arith only
theorem X5{x0:Nat}{x1:Nat}(h0:x1<=30)(h1:x0<=2):(x0+(((x0+x1)+1)+1))<=40:=by omega
theorem qA{x0:Nat}(h0:x0<=30):x0<=40:=by refine AI h0 ?_;simp+arith only
theorem qB{x0:Nat}{x1:Nat}(h0:(x0+3)<=40)(h1:x1<=3):(x0+x1)<=40:=by refine AI (wG h0 h1) ?_;simp+arith only
theorem X6{x0:Nat}:(0:Int)<=((x0:Nat):Int):=by omega
theorem qC{x0:Nat}(h0:0<x0)(h1:((x0:Nat):Int)=(0:Int)):False:=by omega
theorem qD{x0:Nat}(h0:(x0 % 4)≠3):(((x0 % 4):Nat):Int)≠(3:Int):=by omega
theorem qE{x0:Nat}:(((x0+1):Nat):Int)≠(0:Int):=by omega
theorem X7{x0:Nat}(h0:x0<24):((x0 / 4) / 3)<=1:=by omega
theorem qF{x0:Nat}(h0:((x0 / 4) / 3)<=1):(1+((x0 / 4) / 3))<=100:=by refine AI h0 ?_;simp+arith only
theorem qG{x0:Nat}{x1:Nat}(h0:x0<=800)(h1:((x1 / 4) / 3)<=1):((x0+1)+((x1 / 4) / 3))<=900:=by refine AI (wG h0 h1) ?_;simp+arith only
theorem qH{x0:Nat}:((((x0+1):Nat):Int) - (1:Int))=((x0:Nat):Int):=by omega
theorem qI{x0:Nat}:60<=(x0+60):=by simp+arith only
theorem qJ{x0:Nat}:4<=((3 * ((2 * x0)+16))+10):=by simp+arith only
theorem qK{x0:Nat}:0<(1+x0):=by simp+arith only
theorem qL{x0:Nat}(h0:x0<=1):(1+x0)<=800:=by refine AI h0 ?_;simp+arith only
theorem qM{x0:Nat}(h0:x0<=1):(1+x0)<=3:=by refine AI h0 ?_;simp+arith only
theorem qN{x0:Nat}{x1:Nat}{x2:Nat}{x3:Nat}(h0:x1<=1)(h1:x0<=(x2+4))(h2:(x2+(4 * x3))<=20):(x0+(1+x1))<=40:=by refine AI (wG (wG h0 h1) h2) ?_;simp+arith only
theorem qO{x0:Nat}:(x0+3)<=(x0+40):=by simp+arith only
theorem qP{x0:Nat}{x1:Nat}{x2:Nat}(h0:(x1+(4 * x2))<=20)(h1:x0<=(x1+2)):x0<=800:=by refine AI (wG h0 h1) ?_;simp+arith only
theorem qQ{x0:Nat}{x1:Nat}{x2:Nat}(h0:(x1+(4 * x2))<=20)(h1:x0<=(x1+2)):x0<=30:=by refine AI (wG h0 h1) ?_;simp+arith only
theorem Qr{x0:Nat}{x1:Nat}(h0:(x0+x1)<=90000):x0<=100000:=by refine AI h0 ?_;simp+arith only
theorem Kg{x0:Nat}{x1:Nat}(h0:(x0+(4 * x1))<=20):x0<=800:=by refine AI h0 ?_;simp+arith only
theorem qR{x0:Nat}{x1:Nat}{x2:Nat}(h0:x0<x1):x0<(x1+(1+((x2 / 4) / 3))):=by refine AI h0 ?_;simp+arith only
theorem qS{x0:Nat}{x1:Nat}:x0<((x0+1)+((x1 / 4) / 3)):=by simp+arith only
theorem qT{x0:Nat}{x1:Nat}{x2:Nat}(h0:((x1 / 4) / 3)<=1)(h1:x0<=(x2+4)):(x0+(1+((x1 / 4) / 3)))<=(x2+6):=by refine AI (wG h0 h1) ?_;simp+arith only
theorem qU{x0:Nat}{x1:Nat}(h0:(x0+x1)<=90000):(x0+40)<=100000:=by refine AI h0 ?_;simp+arith only
theorem qV{x0:Nat}{x1:Nat}{x2:Nat}(h0:x0<=(x1+6))(h1:(x1+(4 * x2))<=20):(x0+3)<=40:=by refine AI (wG h0 h1) ?_;simp+arith only
theorem qW{x0:Nat}{x1:Nat}(h0:60<=x1):((x0+40)+3)<=(x0+x1):=by refine AI h0 ?_;simp+arith only
theorem qX{x0:Nat}{x1:Nat}(h0:4<=x1):(x0+4)<=(x0+x1):=by refine AI h0 ?_;simp+arith only
theorem qY{x0:Nat}{x1:Nat}(h0:(x0+(x1+1))<=20):(x0+x1)<=19:=by refine AI h0 ?_;simp+arith only
theorem qZ{x0:Nat}{x1:Nat}(h0:(x0+(x1+60))<=90000):((x0+40)+x1)<=90000:=by refine AI h0 ?_;simp+arith only
theorem qd{x0:Nat}{x1:Nat}(h0:(x0+x1)<=90000):(x0+x1)<=90000:=by refine AI h0 ?_;simp+arith only
theorem qe{x0:Nat}{x1:Nat}{x2:Nat}(h0:(x0+1)<=x1):((x0:Nat):Int)<(((x1+(1+x2)):Nat):Int):=by omega
theorem qf{x0:Nat}{x1:Nat}:((x0:Nat):Int)<((((x0+1)+x1):Nat):Int):=by omega
theorem qg{x0:Nat}{x1:Nat}{x2:Nat}{x3:Nat}(h0:x1<=1)(h1:(x3+(4 * (x2+1)))<=20)(h2:x0=(x3+1)):((x0+(1+x1))+(4 * x2))<=20:=by omega
theorem qh{x0:Nat}{x1:Nat}:((x0+40)+x1)<=(x0+(x1+60)):=by simp+arith only
theorem qi{x0:Nat}{x1:Nat}:(x0+x1)<=(x0+x1):=by simp+arith only
theorem X8{x0:Nat}:(0:Int)<(((x0+1):Nat):Int):=by omega
theorem qj{x0:Nat}(h0:x0<2):((x0:Nat):Int)<(2:Int):=by omega
theorem qk{x0:Nat}(h0:¬(x0<2)):¬(((x0:Nat):Int)<(2:Int)):=by omega
theorem ql{x0:Nat}(h0:x0≠2):((x0:Nat):Int)≠(2:Int):=by omega
theorem Qs{x0:Nat}(h0:x0<=30):x0<=90:=by refine AI h0 ?_;simp+arith only
theorem Qt{x0:Nat}{x1:Nat}(h0:(x0+(4 * x1))<=20):(x0+1)<=40:=by refine AI h0 ?_;simp+arith only
theorem X9{x0:Nat}{x1:Nat}(h0:x1=x0):x0<(x1+1):=by omega
theorem YA{x0:Nat}{x1:Nat}(h0:x0=x1):(x0+1)<=(x1+4):=by omega
theorem YB{x0:Nat}{x1:Nat}(h0:(x0+((2 * x1)+100))<=90000):((x0+3)+x1)<=90000:=by refine AI h0 ?_;simp+arith only
theorem YC{x0:Nat}{x1:Nat}(h0:(x0+((2 * x1)+16))<=90000):((x0+4)+x1)<=90000:=by refine AI h0 ?_;simp+arith only
theorem Qu{x0:Nat}{x1:Nat}(h0:(x0+((2 * x1)+100))<=90000):x0<=100000:=by refine AI h0 ?_;simp+arith only
theorem Qv{x0:Nat}{x1:Nat}(h0:(x0+((2 * x1)+16))<=90000):x0<=100000:=by refine AI h0 ?_;simp+arith only
theorem YD{x0:Nat}{x1:Nat}:((x0+3)+x1)<=(x0+((2 * x1)+60)):=by simp+arith only
theorem YE{x0:Nat}{x1:Nat}:((x0+4)+x1)<=(x0+((2 * x1)+12)):=by simp+arith only
theorem YF{x0:Nat}{x1:Nat}(h0:(x0+(4 * x1))<=20):(x0+0)<=40:=by refine AI h0 ?_;simp+arith only
theorem qm{x0:Nat}{x1:Nat}{x2:Nat}(h0:(x1+(4 * x2))<=20)(h1:x0=x1):((x0+0)+3)<=40:=by omega
theorem qn{x0:Nat}{x1:Nat}{x2:Nat}(h0:(x0+(4 * x2))<=20)(h1:x1<=3):((x0+x1)+1)<=40:=by refine AI (wG h0 h1) ?_;simp+arith only
theorem qo{x0:Nat}{x1:Nat}(h0:x1<=3):((x0+x1)+1)<=(x0+4):=by refine AI h0 ?_;simp+arith only
theorem qp{x0:Nat}{x1:Nat}(h0:(x0+((2 * x1)+100))<=90000):((((x0+3)+3)+3)+x1)<=90000:=by refine AI h0 ?_;simp+arith only
theorem qq{x0:Nat}{x1:Nat}(h0:(x0+((2 * x1)+16))<=90000):((((x0+4)+4)+4)+x1)<=90000:=by refine AI h0 ?_;simp+arith only
theorem qr{x0:Nat}{x1:Nat}:((((x0+3)+3)+3)+x1)<=(x0+((2 * x1)+60)):=by simp+arith only
theorem qt{x0:Nat}{x1:Nat}:((((x0+4)+4)+4)+x1)<=(x0+((2 * x1)+12)):=by simp+arith only
theorem qu{x0:Nat}{x1:Nat}(h0:(x0+((2 * x1)+100))<=90000):(x0+3)<=100000:=by refine AI h0 ?_;simp+arith only
theorem qv{x0:Nat}{x1:Nat}(h0:(x0+((2 * x1)+16))<=90000):(x0+4)<=100000:=by refine AI h0 ?_;simp+arith only
theorem qw{x0:Nat}{x1:Nat}(h0:(x0+((2 * x1)+100))<=90000):((x0+3)+3)<=100000:=by refine AI h0 ?_;simp+arith only
theorem qx{x0:Nat}{x1:Nat}(h0:(x0+((2 * x1)+16))<=90000):((x0+4)+4)<=100000:=by refine AI h0 ?_;simp+arith only
theorem YG{x0:Nat}{x1:Nat}(h0:(x0+(4 * x1))<=20):x0<=30:=by refine AI h0 ?_;simp+arith only
theorem qz{x0:Nat}{x1:Nat}(h0:(x0+x1)<=20):x0<=90:=by refine AI h0 ?_;simp+arith only
theorem rA{x0:Nat}:x0<(x0+1):=by simp+arith only
theorem rB{x0:Nat}:(x0+1)<=(x0+4):=by simp+arith only
theorem rC{x0:Nat}{x1:Nat}(h0:(x0+((2 * x1)+100))<=90000):(((((x0+3)+x1)+40)+3)+x1)<=90000:=by refine AI h0 ?_;simp+arith only
theorem rD{x0:Nat}{x1:Nat}(h0:(x0+((2 * x1)+16))<=90000):((((x0+4)+x1)+4)+x1)<=90000:=by refine AI h0 ?_;simp+arith only
theorem rE{x0:Nat}{x1:Nat}(h0:(x0+((2 * x1)+100))<=90000):((x0+3)+x1)<=100000:=by refine AI h0 ?_;simp+arith only
theorem YH{x0:Nat}{x1:Nat}(h0:(x0+((2 * x1)+16))<=90000):((x0+4)+x1)<=100000:=by refine AI h0 ?_;simp+arith only
theorem rF{x0:Nat}{x1:Nat}(h0:(x0+((2 * x1)+100))<=90000):(((x0+3)+x1)+40)<=100000:=by refine AI h0 ?_;simp+arith only
theorem rG{x0:Nat}{x1:Nat}:(((((x0+3)+x1)+40)+3)+x1)<=(x0+((2 * x1)+60)):=by simp+arith only
theorem rH{x0:Nat}{x1:Nat}:((((x0+4)+x1)+4)+x1)<=(x0+((2 * x1)+12)):=by simp+arith only
theorem rI{x0:Nat}{x1:Nat}{x2:Nat}(h0:(x0+((2 * x2)+200))<=x1):x0<=x1:=by refine AI h0 ?_;simp+arith only
theorem rJ{x0:Nat}{x1:Nat}{x2:Nat}(h0:(x0+((2 * x2)+16))<=x1):x0<=x1:=by refine AI h0 ?_;simp+arith only
theorem rK{x0:Nat}{x1:Nat}(h0:(x0+x1)<=20):x0<=30:=by refine AI h0 ?_;simp+arith only
theorem rL{x0:Nat}{x1:Nat}{x2:Nat}(h0:(x0+((2 * x1)+200))<=x2)(h1:x2<=90000):((x0+40)+((2 * x1)+100))<=90000:=by refine AI (wG h0 h1) ?_;simp+arith only
theorem rM{x0:Nat}{x1:Nat}{x2:Nat}(h0:(x0+((2 * x1)+16))<=x2)(h1:x2<=90000):(x0+((2 * x1)+16))<=90000:=by refine AI (wG h0 h1) ?_;simp+arith only
theorem rN{x0:Nat}{x1:Nat}:((x0+40)+((2 * x1)+60))<=(x0+((2 * x1)+200)):=by simp+arith only
theorem YI{x0:Nat}{x1:Nat}:(x0+((2 * x1)+12))<=(x0+((2 * x1)+16)):=by simp+arith only
theorem rO{x0:Nat}{x1:Nat}{x2:Nat}(h0:(x0+((2 * x1)+200))<=x2)(h1:x2<=90000):x0<=100000:=by refine AI (wG h0 h1) ?_;simp+arith only
theorem rP{x0:Nat}{x1:Nat}{x2:Nat}(h0:(x0+((2 * x1)+16))<=x2)(h1:x2<=90000):x0<=100000:=by refine AI (wG h0 h1) ?_;simp+arith only
theorem rQ{x0:Nat}{x1:Nat}:(x0+((2 * x1)+60))<=(x0+((2 * x1)+200)):=by simp+arith only
theorem rR{x0:Int}{x1:Int}{x2:Int}(h0:x2<x1)(h1:x0<x2):x0<x1:=by omega
theorem rS{x0:Nat}{x1:Nat}(h0:(x0+((3 * ((2 * x1)+200))+40))<=90000):x0<=100000:=by refine AI h0 ?_;simp+arith only
theorem rT{x0:Nat}{x1:Nat}(h0:(x0+((3 * ((2 * x1)+16))+10))<=90000):x0<=100000:=by refine AI h0 ?_;simp+arith only
theorem YJ{x0:Nat}{x1:Nat}(h0:(x0+x1)<=19):(x0+x1)<=20:=by refine AI h0 ?_;simp+arith only
theorem YK{x0:Nat}{x1:Nat}(h0:(x0+x1)<=19):x0<=30:=by refine AI h0 ?_;simp+arith only
theorem rU{x0:Nat}:x0<=(x0+3):=by simp+arith only
theorem rV{x0:Nat}:x0<=(x0+4):=by simp+arith only
theorem YL{x0:Nat}{x1:Nat}(h0:(x0+((3 * ((2 * x1)+200))+40))<=90000):((x0+3)+((2 * x1)+100))<=90000:=by refine AI h0 ?_;simp+arith only
theorem YM{x0:Nat}{x1:Nat}(h0:(x0+((3 * ((2 * x1)+16))+10))<=90000):((x0+4)+((2 * x1)+16))<=90000:=by refine AI h0 ?_;simp+arith only
theorem YN{x0:Nat}{x1:Nat}(h0:(x0+x1)<=19):((x0+1)+x1)<=20:=by refine AI h0 ?_;simp+arith only
theorem rW{x0:Nat}{x1:Nat}:((x0+3)+((2 * x1)+200))<=(x0+((3 * ((2 * x1)+200))+40)):=by simp+arith only
theorem rY{x0:Nat}{x1:Nat}:((x0+4)+((2 * x1)+16))<=(x0+((3 * ((2 * x1)+16))+10)):=by simp+arith only
theorem Qw{x0:Nat}{x1:Nat}:(((x0+3)+((2 * x1)+200))+((2 * x1)+200))<=(x0+((3 * ((2 * x1)+200))+40)):=by simp+arith only
theorem Qx{x0:Nat}{x1:Nat}:(((x0+4)+((2 * x1)+16))+((2 * x1)+16))<=(x0+((3 * ((2 * x1)+16))+10)):=by simp+arith only
theorem Qy{x0:Nat}{x1:Nat}(h0:(x0+((3 * ((2 * x1)+200))+40))<=90000):(x0+((3 * ((2 * x1)+200))+40))<=90000:=by refine AI h0 ?_;simp+arith only
theorem Qz{x0:Nat}{x1:Nat}(h0:(x0+((3 * ((2 * x1)+16))+10))<=90000):(x0+((3 * ((2 * x1)+16))+10))<=90000:=by refine AI h0 ?_;simp+arith only
theorem YO{x0:Nat}{x1:Nat}:((((x0+3)+((2 * x1)+200))+((2 * x1)+200))+((2 * x1)+200))<=(x0+((3 * ((2 * x1)+200))+40)):=by simp+arith only
theorem YP{x0:Nat}{x1:Nat}:((((x0+4)+((2 * x1)+16))+((2 * x1)+16))+((2 * x1)+16))<=(x0+((3 * ((2 * x1)+16))+10)):=by simp+arith only
theorem rZ{x0:Nat}{x1:Nat}{x2:Nat}(h0:x1<=2)(h1:x0=x2)(h2:x2<=x1):(x0+1)<=3:=by omega
theorem ra{x0:Int}{x1:Int}{x2:Nat}(h0:x0<((x2:Nat):Int))(h1:((x2:Nat):Int)<x1):x0<x1:=by omega
theorem rb{x0:Nat}{x1:Nat}(h0:(x1+2)<=x0):x0=((x0 - 2)+2):=by omega
theorem rd{x0:Nat}{x1:Nat}{x2:Nat}(h0:((x0+x2)+1)<x1):x0<x1:=by refine AI h0 ?_;simp+arith only
theorem rf{x0:Nat}{x1:Nat}(h0:((x1+1)+2)<=x0):x0=((x0 - 1)+1):=by omega
theorem rg{x0:Nat}{x1:Nat}{x2:Nat}(h0:((x0+(x1+1))+1)<x2):(((x0+1)+x1)+1)<x2:=by refine AI h0 ?_;simp+arith only
theorem rh{x0:Nat}{x1:Nat}(h0:((x0+1)+2)<=(x1+1)):(x0+2)<=x1:=by refine AI h0 ?_;simp+arith only
theorem ri{x0:Nat}{x1:Nat}{x2:Nat}(h0:((x0+(x2+1))+1)<x1):x0<x1:=by refine AI h0 ?_;simp+arith only
theorem rj{x0:Nat}(h0:(x0+1)<=4900):((0+x0)+1)<1000000:=by refine AI h0 ?_;simp+arith only
theorem rk{x0:Nat}(h0:(x0+1)<=4900):(x0+2)<=5000:=by refine AI h0 ?_;simp+arith only
theorem rl{x0:Nat}(h0:¬(x0<=36)):36<=x0:=by omega
theorem YQ{x0:Nat}(h0:x0<=1000):x0<=100000:=by refine AI h0 ?_;simp+arith only
theorem rm{x0:Nat}(h0:x0<=1000):(x0+3)<=100000:=by refine AI h0 ?_;simp+arith only
theorem rn{x0:Nat}(h0:x0<=1000):(x0+4)<=100000:=by refine AI h0 ?_;simp+arith only
theorem YR{x0:Nat}(h0:x0<3):x0<=900:=by refine AI h0 ?_;simp+arith only
theorem ro{x0:Nat}(h0:x0<3):x0<=100:=by refine AI h0 ?_;simp+arith only
theorem Q0{x0:Nat}(h0:x0<=70000):x0<=80000:=by refine AI h0 ?_;simp+arith only
theorem JK{x0:Nat}(h0:x0<=3800):x0<=3900:=by refine AI h0 ?_;simp+arith only
theorem rp{x0:Nat}{x1:Nat}(h0:x1<=70000)(h1:x0<=x1):(x0+2)<=80000:=by refine AI (wG h0 h1) ?_;simp+arith only
theorem rq{x0:Nat}(h0:x0<=40):(x0+2)<=100:=by refine AI h0 ?_;simp+arith only
theorem YT{x0:Nat}(h0:x0<=70000):(x0+40)<=80000:=by refine AI h0 ?_;simp+arith only
theorem rt{x0:Nat}(h0:x0<=70000):((x0+40)+3)<=80000:=by refine AI h0 ?_;simp+arith only
theorem ru{x0:Nat}(h0:x0<=3800):(x0+4)<=3900:=by refine AI h0 ?_;simp+arith only
theorem Q1{x0:Nat}(h0:x0<3):x0<=800:=by refine AI h0 ?_;simp+arith only
theorem rv{x0:Int}(h0:(-(1:Int))<x0):(0:Int)<=x0:=by omega
theorem rx{x0:Nat}{x1:Nat}(h0:x1<3)(h1:x0=0):(x0+x1)<=2:=by omega
theorem YU{x0:Nat}(h0:x0<3):x0<=2:=by refine AI h0 ?_;simp+arith only
theorem ry{x0:Nat}(h0:x0<3):x0<=3:=by refine AI h0 ?_;simp+arith only
theorem rz{x0:Nat}{x1:Nat}(h0:x1<3)(h1:x0=0):(x0+x1)<=40:=by omega
theorem YV{x0:Nat}(h0:x0<3):x0<=30:=by refine AI h0 ?_;simp+arith only
theorem r7{x0:Nat}:(-(1:Int))<((x0:Nat):Int):=by omega
theorem r8{x0:Nat}(h0:x0<=2):(x0+(4 * 2))<=20:=by refine AI h0 ?_;simp+arith only
theorem r9{x0:Nat}{x1:Nat}(h0:x0<=(x1+1))(h1:x1<=3904):x0<=4000:=by refine AI (wG h0 h1) ?_;simp+arith only
theorem sA{x0:Nat}{x1:Nat}(h0:x1<=3904)(h1:x0=x1):x0<=4900:=by omega
section
structure Mk where
 ptr:Nat
 line:Nat
 col:Nat
def Mk.v(b:List Nat)(m:Mk):AV:=AY b m.ptr m.line m.col
inductive Kd where |ds |de |se |bs |bm |be |ky |va |en
def Kd.cls:Kd->Nat
 | .ds=> Jy
 | .de=> Jz
 | .se=> S7
 | .bs=> Ii
 | .bm=> DG
 | .be=> c5
 | .ky=> Dd
 | .va=> Hc
 | .en=> Lp
def Kd.id:Kd->List Nat
 | .ds=>[60,100,111,99,117,109,101,110,116,32,115,116,97,114,116,62]
 | .de=>[60,100,111,99,117,109,101,110,116,32,101,110,100,62]
 | .se=>[60,115,116,114,101,97,109,32,101,110,100,62]
 | .bs=>[60,98,108,111,99,107,32,115,101,113,117,101,110,99,101,32,115,116,97,114,116,62]
 | .bm=>[60,98,108,111,99,107,32,109,97,112,112,105,110,103,32,115,116,97,114,116,62]
 | .be=>[60,98,108,111,99,107,32,101,110,100,62]
 | .ky=>[63]
 | .va=>[58]
 | .en=>[45]
inductive Tk where
 |two (k:Kd) (a b:Mk)
 |Kh (w:List Nat) (pl:Bool) (a b:Mk) (GO:AV)
 |start (a:Mk)
def YW(m:AV):AV:=.obj cz [(N.Hv,m),(N.JG,m),(N.encoding,.none)]
def Tk.v(b:List Nat):Tk->AV
 | .two k x y=> Ar k.cls (x.v b) (y.v b)
 | .Kh w pl x y GO=> Cf w pl (x.v b) (y.v b) GO
 | .start m=> YW (m.v b)
def Dk(i:List Nat)(v:AV)(a b:Mk):AV:=.tup [.str i,v,.int a.line,.int a.col,.int b.line,.int b.col]
def CR:List Nat:=[60,115,99,97,108,97,114,62]
def Ki:List Nat:=[60,115,116,114,101,97,109,32,115,116,97,114,116,62]
def Tk.val:Tk->AV
 | .Kh w _ _ _ GO=>.tup [.str w,GO]
 |_=>.none
def Tk.row:Tk->AV
 | .two k x y=> Dk k.id .none x y
 | .Kh w pl x y GO=> Dk CR (.tup [.str w,GO]) x y
 | .start m=> Dk Ki .none m m
variable{s:Sc}
theorem HC.empty(h:s.toks=[]):HC (run s) (run s):=fun lo g k e=> by obtain rfl:=BU.of e;exact⟨_,e,fun d=> mu h (d+3)⟩
theorem HC.key{t:AV}{r:List AV}{k:Ky}(h:s.toks=t::r)(hk:s.key=some k)(h1:k.line=s.line)(h2:s.ptr<=k.ptr+1024)(h3:k.tn=s.taken):HC (run s) (run s):=fun lo g x e=> by obtain rfl:=BU.of e;exact⟨_,e,fun d=> mw h hk h1 h2 h3 (d+1)⟩
theorem Not.none{t:AV}{r:List AV}(h:s.toks=t::r)(hk:s.key=none):Not (run s) (run s):=fun lo g x e=> by obtain rfl:=BU.of e;exact⟨_,.none,e,.inl rfl,fun d=> mv h hk (d+1)⟩
theorem Not.later{t:AV}{r:List AV}{k:Ky}(h:s.toks=t::r)(hk:s.key=some k)(h1:k.line=s.line)(h2:s.ptr<=k.ptr+1024)(h3:k.tn≠s.taken):Not (run s) (run s):=fun lo g x e=> by obtain rfl:=BU.of e;exact⟨_,.none,e,.inl rfl,fun d=> mx h hk h1 h2 h3 (d+1)⟩
theorem Not.fin:Not (fin s) (fin s):=fun lo g h e=> by obtain⟨kr,rfl,hk⟩:=e;refine⟨_,.bool false,⟨kr,rfl,hk⟩,.inr rfl,?_⟩;exact cert (k:=3) []
structure Ab where
 ptr:Nat
 line:Nat
 col:Nat
 st:List Int
 al:Bool
 key:Option Ky
 T:List Tk
def Ab.sc(bf:List Nat)(k:Nat)(a:Ab):Sc:=⟨bf,a.ptr,a.line,a.col,(a.T.drop k).map (Tk.v bf),k,a.st,a.al,a.key⟩
def Ab.sure(a:Ab):Nat:=match a.key with
 |none=> a.T.length
 |some ky=> ky.tn
def Ab.GP(a:Ab):Prop:=∀ky,a.key=some ky->a.T.length=ky.tn+1/\ky.line=a.line/\a.ptr<=ky.ptr+1024
structure Fe(bf:List Nat)(a b:Ab):Prop where
 run:∃q:Ab->Nat->Ph,C4 (run (a.sc bf a.sure)) (q b a.sure)/\(q b a.sure=L4.run (b.sc bf a.sure)∨b.key=none/\Not (q b a.sure) (L4.run (b.sc bf a.sure)))
 len:a.sure<b.T.length
 keep:a.sure<=b.sure
 same:b.T.take a.sure=a.T.take a.sure
 B6:b.GP
structure YX(bf:List Nat)(a z:Ab):Prop where
 run:C4 (run (a.sc bf a.sure)) (fin (z.sc bf a.sure))
 len:a.sure<z.T.length
 same:z.T.take a.sure=a.T.take a.sure
inductive Ch(bf:List Nat)(z:Ab):Nat->Ab->Prop
 |fin {a:Ab} (h:YX bf a z):Ch bf z 1 a
 |step {n:Nat} {a b:Ab} (h:Fe bf a b) (r:Ch bf z n b):Ch bf z (n+1) a
variable{bf:List Nat}{z:Ab}
theorem YY{l m:List Tk}{i j:Nat}(h:l.take j=m.take j)(hi:i<j):l[i]? =m[i]? :=by have:=congrArg (fun x:List Tk=> x[i]?) h;simpa [List.getElem?_take,hi]using this
theorem Ch.keep{n:Nat}{a:Ab}(H:Ch bf z n a):a.sure<z.T.length/\∀i,i<a.sure->z.T[i]? =a.T[i]? :=by
 induction H with
 |fin h=> exact⟨h.len,fun i hi=> YY h.same hi⟩
 |step h r ih=> exact⟨zC h.keep ih.1,fun i hi=> (ih.2 i (Nat.lt_of_lt_of_le hi h.keep)).trans (YY h.same hi)⟩
theorem GQ{a:Ab}(h:a.GP):a.sure<=a.T.length:=by
 unfold Ab.sure;cases hk:a.key with
 |none=> exact wW _
 |some ky=> have:=(h ky hk).1;show ky.tn<=_;exact n0 this
theorem HD{a:Ab}{k:Nat}{t:Tk}(h:a.T[k]? =some t):(a.sc bf k).toks=t.v bf::(a.T.drop (k+1)).map (Tk.v bf):=by obtain⟨hl,he⟩:=w6.mp h;show(a.T.drop k).map (Tk.v bf)=_;rw [w9 hl,he];rfl
theorem YZ{a:Ab}{k:Nat}{t:Tk}(hk:a.GP)(h:a.T[k]? =some t)(hs:k<a.sure):Not (run (a.sc bf k)) (run (a.sc bf k)):=by
 cases hq:a.key with
 |none=> exact Not.none (HD h) hq
 |some ky=>
  obtain⟨h1,h2,h3⟩:=hk ky hq;have hs:k<ky.tn:=by unfold Ab.sure at hs;rw [hq]at hs;exact hs
  exact Not.later (HD h) hq h2 h3 (by show ky.tn≠k;exact n4 hs)
theorem NI{a:Ab}(hk:a.GP):HC (run (a.sc bf a.sure)) (run (a.sc bf a.sure)):=by
 cases hq:a.key with
 |none=> refine HC.empty ?_;show(a.T.drop a.sure).map _=[];unfold Ab.sure;rw [hq];show(a.T.drop a.T.length).map _=[];rw [List.drop_length];rfl
 |some ky=>
  obtain⟨h1,h2,h3⟩:=hk ky hq;have e:a.sure=ky.tn:=by unfold Ab.sure;rw [hq]
  obtain⟨t,ht⟩:∃t,a.T[a.sure]? =some t:=⟨a.T[a.sure]'(by exact n5 h1 e),xG _⟩;exact HC.key (HD ht) hq h2 h3 e.symm
theorem vu{a:Ab}{k:Nat}:(run (a.sc bf k)).NC ((a.T.drop (k+1)).map (Tk.v bf))=run (a.sc bf (k+1)):=rfl
theorem vv{a:Ab}{k:Nat}:(fin (a.sc bf k)).NC ((a.T.drop (k+1)).map (Tk.v bf))=fin (a.sc bf (k+1)):=rfl
inductive Nx(bf:List Nat)(z:Ab)(k:Nat)(p:Ph)(n:Nat):Prop
 |run (m:Nat) (q:Ph) (c:Ab) (i:Nat) (hm:m<=n) (h1:Fb p m q) (h2:Not q (L4.run (c.sc bf k))) (hc:Ch bf z i c) (hi:i<=n) (hk:c.GP) (hs:k<c.sure)
 |fin (m:Nat) (hm:m<=n) (h1:Fb p m (L4.fin (z.sc bf k)))
theorem Ch.next{n:Nat}{a:Ab}(H:Ch bf z n a)(hk:a.GP):Nx bf z a.sure (run (a.sc bf a.sure)) n:=by
 induction H with
 |fin h=> exact .fin 1 (wW _) (.cons (NI hk) h.run (.nil _))
 |@step n a b h r ih=>
  obtain⟨q,h1,h2⟩:=h.run;have hf:=fun(p:Ph) (e:q b a.sure=p)=> (Fb.cons (NI (bf:=bf) hk) h1 (e▸Fb.nil p):Fb _ 1 (q b a.sure));rcases xt a.sure b.sure with hl |hl
  . have hN:Not (run (b.sc bf a.sure)) (run (b.sc bf a.sure)):=by
     obtain⟨t,ht⟩:∃t,b.T[a.sure]? =some t:=⟨b.T[a.sure]'h.len,xG _⟩;exact YZ h.B6 ht hl
    rcases h2 with e |⟨_,e⟩
    . exact .run 1 _ b n (by exact Xo) (hf _ e) (e▸hN) r (by exact Xp) h.B6 hl
    . exact .run 1 _ b n (by exact Xo) (hf _ rfl) e r (by exact Xp) h.B6 hl
  . have e0:b.sure=a.sure:=xp hl h.keep;rcases h2 with e |⟨e,_⟩
    . have:=ih h.B6;rw [e0]at this;cases this with
      |run m q' c i hm g1 g2 hc hi hkc hs=> exact .run (m+1) q' c i (by exact Xq hm) (.cons (NI hk) h1 (by rw [e];exact g1)) g2 hc (by exact n6 hi) hkc hs
      |fin m hm g1=> exact .fin (m+1) (by exact Xq hm) (.cons (NI hk) h1 (by rw [e];exact g1))
    . have:=h.len;have:b.sure=b.T.length:=by unfold Ab.sure;rw [e]
      omega
inductive Runs(bf:List Nat):Ph->List Tk->Prop
 |fin {p q:Ph} (h:NB p .none q):Runs bf p []
 |tok {p q:Ph} {t:Tk} {ts:List Tk} (h:NB p (t.v bf) q) (r:Runs bf q ts):Runs bf p (t::ts)
theorem Yb:∀(j k:Nat),z.T.length - k<=j->Runs bf (fin (z.sc bf k)) (z.T.drop k)
 |j,k=> fun h=> by
  by_cases hl:k<z.T.length
  . rw [w9 hl];have ht:z.T[k]? =some z.T[k]:=xG _;cases j with
    |zero=> omega
    |succ j=> exact .tok (ND (.nil _) (wN _) Not.fin (HD ht)) (Yb j (k+1) (by exact Qk h))
  . rw [xa (by exact NF hl)];exact .fin (get_none (by show(z.T.drop k).map _=[];rw [xa (by exact NF hl)];rfl) rfl)
theorem Ch.runs:∀(j k n:Nat) (a:Ab),Ch bf z n a->a.GP->n<=4000->k<=a.sure->z.T.length - k<=j->Runs bf (run (a.sc bf k)) (z.T.drop k)
 |0,k,n,a=> fun H hk hn hs hj=> by have:=H.keep.1;omega
 |j+1,k,n,a=> fun H hk hn hs hj=> by
  have hlt:=H.keep.1;have hl:k<z.T.length:=by exact n7 hs hlt
  have hz:z.T[k]? =some z.T[k]:=xG _;rw [w9 hl];by_cases hq:k<a.sure
  . have ht:a.T[k]? =some z.T[k]:=(H.keep.2 k hq).symm.trans hz;exact .tok (ND (.nil _) (wN _) (YZ hk ht hq) (HD ht)) (Ch.runs j (k+1) n a H hk hn hq (by exact Qk hj))
  . obtain rfl:k=a.sure:=by exact n8 hs hq
    cases H.next hk with
    |run m q c i hm g1 g2 hc hi hkc hs'=> have ht:c.T[a.sure]? =some z.T[a.sure]:=(hc.keep.2 _ hs').symm.trans hz;exact .tok (ND g1 (by exact Ql hn hm) g2 (HD ht)) (Ch.runs j _ i c hc hkc (by exact Ql hn hi) hs' (by exact Qk hj))
    |fin m hm g1=> exact .tok (ND g1 (by exact Ql hn hm) Not.fin (HD hz)) (Yb _ _ (wW _))
end
end L4
end Internal
section
namespace Internal
abbrev N.data:N:=1684108385
abbrev N.start:N:=495873782388
abbrev N.character:N:=1833749081912537015666
theorem Q2{P:Prog}{fu k:Nat}{g:CT}{v:AV}{s:St}{r:Out Unit}(tr:Tr P fu)(e:Mn (GK k) g v s tr=some ⟨r,[],tr.map dup⟩:=by kernel_rfl!):∀d,E9 P (AB P fu (d+k)) g v s=r:=fun d=>
 QP (fun f as ks h t=> G8 d k f as ks h t) g v s tr _ e fun p hp=> by obtain⟨q,_,rfl⟩:=wu.mp hp;rfl
theorem NJ{P:Prog}{fu k:Nat}{g:CSrc}{s:St}{r:Out (List AV)}(tr:Tr P fu)(e:QM (GK k) g s tr=some ⟨r,[],tr.map dup⟩:=by kernel_rfl!):∀d,IQ P (AB P fu (d+k)) g s=r:=fun d=>
 Wq (fun f as ks h t=> G8 d k f as ks h t) g s tr _ e fun p hp=> by obtain⟨q,_,rfl⟩:=wu.mp hp;rfl
namespace L4
variable{s:Sc}{lo g:List AObj}
section
variable{asg:AV->St->Out Unit}{bo:St->Out Flow}{v:AV}{r:List AV}{a b c:St}
theorem Yc(h1:asg v a= .ok () b)(h2:bo b= .ok .next c):Bf asg bo (v::r) a=Bf asg bo r c:=by show(asg v a).bind _=_;rw [h1];show(bo b).bind _=_;rw [h2];rfl
theorem sC(h1:asg v a= .ok () b)(h2:bo b= .ok .cont c):Bf asg bo (v::r) a=Bf asg bo r c:=by show(asg v a).bind _=_;rw [h1];show(bo b).bind _=_;rw [h2];rfl
theorem sD(h1:asg v a= .ok () b)(h2:bo b= .ok .brk c):Bf asg bo (v::r) a= .ok .next c:=by show(asg v a).bind _=_;rw [h1];show(bo b).bind _=_;rw [h2];rfl
theorem vx{w:AV}(h1:asg v a= .ok () b)(h2:bo b= .ok (.ret w) c):Bf asg bo (v::r) a= .ok (.ret w) c:=by show(asg v a).bind _=_;rw [h1];show(bo b).bind _=_;rw [h2];rfl
end
def JL:CS->CT
 | .CV t _ _=> t
 |_=>.name 0
def NK:CS->CSrc
 | .CV _ s _=> s
 |_=>.Fm []
theorem Yd{c:CS}{cf:Nat->List AV->List (N×AV)->Hp->COut}{a b:St}{xs:List AV}{r:Out Flow}(hc:c= .CV (JL c) (NK c) (BQ c))(h1:IQ PP cf (NK c) a= .ok xs b)
 (h2:Bf (fun v s=> E9 PP cf (JL c) v s) (fun s=> AU PP fu cf (BQ c) s) xs b=r):As PP fu cf c a=r:=by
 rw [hc];show(IQ PP cf (NK c) a).bind _=_;rw [h1];exact h2
theorem Ye{x y:Nat}{b:Bool}(h:(!(decide (y<x)||(y==x&&false)))=b)(hp:Hp):BK hp .le (.str [x]) (.str [y])=some b:=congrArg some h
def CU(c:Nat):Bool:=c==8232||([9,10,13,133].contains c||(wX 32 c&&wX c 126))
theorem sF{c:Nat}{h:Hp}(hc:CU c=true):∀d,AB PP fu (d+1) cY [.str [c]] [] h= .ok (.bool true) h:=by
 by_cases h0:c=8232
 . subst h0;exact cert []
 cases h1:[9,10,13,133].contains c with
 |true=> exact cert [Ax c _ h1]
 |false=> unfold CU at hc;rw [h1,beq_false_of_ne h0,yR,yR]at hc;have hc:=wD.mp hc;have h2:=wA hc.1;have h3:=wA hc.2;exact cert [Ax c _ h1,.cmp .le (.str [32]) (.str [c]) true (Ye (by rw [decide_eq_false (by exact JX),yP];rfl)),.cmp .le (.str [c]) (.str [126]) true (Ye (by rw [decide_eq_false (by exact JX),yP];rfl))]
def JM:CS:=DS Sn 0
def JN(t:List Nat)(x:Option (Nat×Nat))(h:Hp):St:=⟨[(N.self,me),(N.data,.str t)]++(match x with |none=>[] |some (i,c)=>[(N.start,.int i),(N.character,.str [c])]),h⟩
theorem Yg{t:List Nat}{lo:List AObj}{F:List (N×AV)}:∀(l:List (Nat×Nat)) (x:Option (Nat×Nat)),(∀p∈l,CU p.1=true)->∃y,∀d,Bf (fun v s=> E9 PP (AB PP fu (d+1)) (JL JM) v s) (fun s=> AU PP fu (AB PP fu (d+1)) (BQ JM) s)
 (l.map fun p=>.tup [.int p.2,.str [p.1]]) (JN t x ⟨lo,[.ins 1048 F]⟩)= .ok .next (JN t y ⟨lo,[.ins 1048 F]⟩)
 | []=>@fun x _=> ⟨x,fun d=> rfl⟩
 |(c,i)::l=>@fun x h=> by
  obtain⟨y,hy⟩:=Yg l (some (i,c)) fun p hp=> h p (.tail _ hp);refine⟨y,fun d=> Eq.trans ?_ (hy d)⟩;have h1:∀d,E9 PP (AB PP fu (d+1)) (JL JM) (.tup [.int i,.str [c]]) (JN t x ⟨lo,[.ins 1048 F]⟩)= .ok () (JN t (some (i,c)) ⟨lo,[.ins 1048 F]⟩):=by rcases x with _ |⟨j,e⟩<;>exact Q2 []
  exact Yc (h1 d) (Aa [.call _ _ _ _ _ 1 (sF (h:=⟨lo,[.ins 1048 F]⟩) (h (c,i) (.head _)))] (by kernel_rfl!) d)
theorem sG{t:List Nat}{lo:List AObj}{F:List (N×AV)}(h:t.all CU=true):∀d,AB PP fu (d+2) cZ [me,.str t] [] ⟨lo,[.ins 1048 F]⟩= .ok .none ⟨lo,[.ins 1048 F]⟩:=by
 obtain⟨y,hy⟩:=Yg (t:=t) (lo:=lo) (F:=F) (t.zipIdx 0) none fun p hp=> by
  obtain⟨c,i⟩:=p;have:=List.mem_zipIdx hp;have hm:c∈t:=by rw [this.2.2];exact List.getElem_mem _
  exact wi.mp h c hm
 have hl:∀d,As PP fu (AB PP fu (d+1)) JM (JN t none ⟨lo,[.ins 1048 F]⟩)= .ok .next (JN t y ⟨lo,[.ins 1048 F]⟩):=fun d=>
  Yd rfl (NJ (k:=1) [] (by kernel_rfl!) d) (hy d)
 rcases y with _ |⟨i,c⟩
 . exact cert [.Ao JM _ _ 1 hl]
 . exact cert [.Ao JM _ _ 1 hl]
def Sc.new(t:List Nat):Sc:=⟨t++[0],0,0,0,[YW (AY (t++[0]) 0 0 0)],0,[-1],true,none⟩
theorem sH{t:List Nat}{lo:List AObj}(h:t.all CU=true)(hl:t.length<=100000):∀d,AB PP fu (d+4) cb [me,.str t] [] ⟨lo,[.ins 1048 []]⟩= .ok .none ((Sc.new t).hp lo []):=by have hc:=sG (t:=t) (lo:=lo) (F:=[(N.name,.str Mp),(N.stream,.none),(N.QS,.int 0),(N.eof,.bool true),(N.buffer,.str []),(N.Mo,.int 0),(N.QT,.none),(N.QU,.none),(N.encoding,.none),(N.index,.int 0),(N.line,.int 0),(N.column,.int 0)]) h;exact cert [.call _ _ _ _ _ 2 hc,.bin .add (.str t) (.str [0]) (.str (t++[0])) (fun _=> by show(alt none (alt (ck (t.length+1) (AV.str (t++[0]))) _))=_;unfold ck;rw [if_pos (by show t.length+1<=1000000;exact D9)];rfl)]
end L4
end Internal
end
namespace Internal
namespace L4
section
theorem Yh:∀(l:List Gp) (s:Sc),(BR l s).buf=s.buf/\(BR l s).ptr=s.ptr+(CQ l).length/\(BR l s).line=s.line+l.length/\(BR l s).col=(if l=[]then s.col else 0)/\(BR l s).allow=(if l=[]then s.allow else true)/\
 (BR l s).toks=s.toks/\(BR l s).taken=s.taken/\(BR l s).st=s.st/\(BR l s).key=s.key
 | []=>@fun s=> ⟨rfl,rfl,rfl,rfl,rfl,rfl,rfl,rfl,rfl⟩
 |p::l=>@fun s=> by
  obtain⟨h1,h2,h3,h4,h5,h6,h7,h8,h9⟩:=Yh l (p.go s);refine⟨h1,?_,?_,?_,?_,h6,h7,h8,h9⟩
  . show(BR l (p.go s)).ptr=s.ptr+(p.txt++CQ l).length;rw [h2,Gp.XR,v9]at⊢;exact xp (EA) (EA)
  . show(BR l (p.go s)).line=s.line+(l.length+1);rw [h3]at⊢;show s.line+1+l.length=_;exact xp (EA) (EA)
  . show(BR l (p.go s)).col=0;rw [h4]at⊢;by_cases q:l=[]
    . rw [if_pos q]at⊢;rfl
    . rw [if_neg q]at⊢
  . show(BR l (p.go s)).allow=true;rw [h5]at⊢;by_cases q:l=[]
    . rw [if_pos q]at⊢;rfl
    . rw [if_neg q]at⊢
theorem Sc.ext'{a b:Sc}(h1:a.buf=b.buf)(h2:a.ptr=b.ptr)(h3:a.line=b.line)(h4:a.col=b.col)(h5:a.toks=b.toks)(h6:a.taken=b.taken)(h7:a.st=b.st)(h8:a.allow=b.allow)(h9:a.key=b.key):a=b:=by cases a;cases b;cases h1;cases h2;cases h3;cases h4;cases h5;cases h6;cases h7;cases h8;cases h9;rfl
theorem Q3{c:Int}{oc:List Int}(ho:oc≠[])(hc:oc.headD 0<=c):∀{cc:List Int},(∀x∈cc,x>c)->AW c (cc++oc)=(cc.length,oc)
 | [],_=> by
   cases oc with
   |nil=> exact absurd rfl ho
   |cons a r=> cases r with
    |nil=> rfl
    |cons b r=> exact if_neg (by have hc:a<=c:=hc;exact n9 hc)
 |x::cc,h=> by
  have ih:=Q3 ho hc (cc:=cc) fun y hy=> h y (.tail _ hy);cases hq:cc++oc with
  |nil=> cases cc<;>cases oc<;>first |exact absurd rfl ho |cases hq
  |cons b r=> show AW c (x::(cc++oc))=_;rw [hq]at ih⊢;show(if x>c then((AW c (b::r)).1+1,(AW c (b::r)).2)else _)=_;rw [if_pos (h x (.head _)),ih];rfl
def Ab.pos(a:Ab):Mk:=⟨a.ptr,a.line,a.col⟩
def Mk.be(m:Mk)(k:Nat):List Tk:=wB k (.two .be m m)
def Ab.gap(a:Ab)(gps:List Gp)(k:Nat):Ab:=⟨a.ptr+(CQ gps).length+k,a.line+gps.length,(if gps=[]then a.col else 0)+k,a.st,if gps=[]then a.al else true,if gps=[]then a.key else none,a.T⟩
def Ab.uw(a:Ab)(c:Int):Ab:={a with st:=(AW c a.st).2,T:=a.T++a.pos.be (AW c a.st).1}
variable{bf:List Nat}{a:Ab}{gps:List Gp}{k c j:Nat}
theorem Q4{a:Ab}{x:Int}(h:j<=a.T.length):(a.uw x).sc bf j=(a.sc bf j).AW x:=by refine Sc.ext' rfl rfl rfl rfl ?_ rfl rfl rfl rfl;show((a.T++_).drop j).map (Tk.v bf)=(a.T.drop j).map (Tk.v bf)++_;rw [yq h,w4,Mk.be,List.map_replicate];rfl
structure C5(bf:List Nat)(a:Ab)(gps:List Gp)(k c:Nat):Prop where
 has:AJ bf a.ptr (CQ gps++(wB k 32++[c]))
 Et:gps.all Gp.ok=true
 len:gps.length+k<=900
 c1:[13,10,133,8232,8233].contains c=false
 c2:(c==32)=false
 c3:(c==35)=false
 chr:bf.all (fun c=> c !=65279)=true
theorem sI(h:C5 bf a gps k c)(hj:j<=a.T.length)(ht:a.T.length<=j+1)(hst:a.st.getLast? =some (-1))(hsl:a.st.length<=100)
 (hk:∀ky,a.key=some ky->ky.line=a.line/\a.ptr+k<=ky.ptr+1024/\(gps≠[]->ky.req=false)):Pre (a.sc bf j) (((a.gap gps k).uw (a.gap gps k).col).sc bf j):=by
 obtain⟨g1,g2,g3,g4,g5,g6,g7,g8,g9⟩:=Yh gps (a.sc bf j);have hlen:=h.len;have DN:Gl.ok ⟨k,[]⟩ c=true:=by unfold Gl.ok;simp only [h.c1,Bool.not_false,Bool.and_true];rw [show Ep []=true from rfl,show wX (k+([]:List Nat).length) 2000=true from Nat.ble_eq_true_of_le (by show k<=2000;exact oA hlen)];simp only [Bool.true_and,bne,h.c2,h.c3,Bool.not_false]
 have ADs:AJ (a.sc bf j).buf (a.sc bf j).ptr (CQ gps++(Gl.txt ⟨k,[]⟩++[c])):=by show AJ bf a.ptr (CQ gps++((wB k 32++[])++[c]));rw [wY];exact h.has
 have hu:∀c,(a.sc bf j).buf[(a.sc bf j).ptr]? =some c->(c==65279)=false:=fun c e=> by have:=wi.mp h.chr c (yJ e);simpa using this
 have ADt:=fun lo g=> mV (s:=a.sc bf j) (lo:=lo) (g:=g) h.Et DN (by exact oB hlen) ADs hu;have e1:(a.gap gps k).sc bf j={Gl.go ⟨k,[]⟩ (BR gps (a.sc bf j))with key:=if gps=[]then a.key else none}:=by
  refine Sc.ext' g1.symm ?_ g3.symm ?_ g6.symm g7.symm g8.symm g5.symm rfl
  . show a.ptr+(CQ gps).length+k=(BR gps (a.sc bf j)).ptr+(k+0);rw [g2];rfl
  . show(if gps=[]then a.col else 0)+k=(BR gps (a.sc bf j)).col+(k+0);rw [g4];rfl
 refine⟨Gl.go ⟨k,[]⟩ (BR gps (a.sc bf j)),(a.gap gps k).sc bf j,ADt,fun lo g=> ?_,fun lo g=> ?_⟩
 . rw [e1];have hkk:(Gl.go ⟨k,[]⟩ (BR gps (a.sc bf j))).key=a.key:=g9;cases hq:a.key with
   |none=> rw [hq]at hkk;rw [show({Gl.go ⟨k,[]⟩ (BR gps (a.sc bf j))with key:=if gps=[]then none else none}:Sc)=Gl.go ⟨k,[]⟩ (BR gps (a.sc bf j))from Sc.ext' rfl rfl rfl rfl rfl rfl rfl rfl (by rw [hkk];exact ite_self _)];exact mW hkk
   |some ky=>
    obtain⟨k1,k2,k3⟩:=hk ky hq;rw [hq]at hkk;by_cases hg:gps=[]
    . rw [show({Gl.go ⟨k,[]⟩ (BR gps (a.sc bf j))with key:=if gps=[]then some ky else none}:Sc)=Gl.go ⟨k,[]⟩ (BR gps (a.sc bf j))from Sc.ext' rfl rfl rfl rfl rfl rfl rfl rfl (by rw [hkk];exact if_pos hg)];refine Qe hkk ?_ ?_
      . show ky.line=(BR gps (a.sc bf j)).line;rw [g3,k1,hg];rfl
      . show(BR gps (a.sc bf j)).ptr+(k+0)<=_;rw [g2,hg];exact k2
    . rw [show({Gl.go ⟨k,[]⟩ (BR gps (a.sc bf j))with key:=if gps=[]then some ky else none}:Sc)={Gl.go ⟨k,[]⟩ (BR gps (a.sc bf j))with key:=none}from Sc.ext' rfl rfl rfl rfl rfl rfl rfl rfl (if_neg hg)];refine XW hkk ?_ (k3 hg);show ky.line≠(BR gps (a.sc bf j)).line;rw [g3,k1];have:=zv.mpr hg;show a.line≠a.line+_;exact oC this
 . rw [Q4 (a:=a.gap gps k) hj];exact Mu (s:=(a.gap gps k).sc bf j) ⟨-1,hst,by show(-1:Int)<=(((a.gap gps k).col:Nat):Int);exact Xr⟩ (by
    show((a.T.drop j).map (Tk.v bf)).length+a.st.length<=2000;rw [wo,xn];exact oD ht hsl)
end
end L4
end Internal
section
namespace Internal
abbrev N.sJ:N:=144355243943723861950031219
abbrev N.sL:N:=511960443146854436528491
abbrev N.sM:N:=123636629793144
abbrev N.breaks:N:=108243466677107
namespace L4
variable{s:Sc}{lo g G:List AObj}
def HE(r sm em ind sp:AV)(s:Sc)(lo G:List AObj)(i:Nat)(o:Option AV):St:=
 ⟨[(N.self,me),(N.M0,r),(N.Hv,sm),(N.JG,em),(N.indent,ind),(N.Qj,sp),(N.length,.int i)]++(match o with |none=>[] |some v=>[(N.ch,v)]),s.hp lo G⟩
def HF(b:List Nat)(p:Nat)(o:Option AV):Nat->Option AV
 |0=> o
 |i+1=> some (.str [b.getD (p+i) 0])
def NL(b:List Nat)(p n:Nat):Prop:=∀i,i<n->∃c,b[p+i]? =some c/\BO c=false/\(c=58->∃y,b[p+(i+1)]? =some y/\BO y=false)
def Eu(b:List Nat)(p:Nat):Prop:=∃x,b[p]? =some x/\(BO x=true∨x=58/\∃y,b[p+1]? =some y/\BO y=true)
theorem Kj{r sm em ind sp:AV}{o:Option AV}{n:Nat}(hc:NL s.buf s.ptr n)(he:Eu s.buf (s.ptr+n))(hn:n+1<fu):
 ∃v,∀d,As PP fu (AB PP fu (d+1)) Bi (HE r sm em ind sp s lo G 0 o)= .ok .next (HE r sm em ind sp s lo G n (some v)):=by
 obtain⟨x,hx,hs⟩:=he;refine⟨.str [x],?_⟩;refine QW (S:=fun i=> HE r sm em ind sp s lo G i (HF s.buf s.ptr o i)) rfl (m:=n) (fun i hi=> ?_) (fun i hi=> ?_) (fun d m=> ?_) hn
 . cases HF s.buf s.ptr o i<;>exact Br []
 . obtain⟨c,h1,h2,h3⟩:=hc i hi;have e:HF s.buf s.ptr o (i+1)=some (.str [c]):=by
    show some (AV.str [s.buf.getD (s.ptr+i) 0])=_;rw [yr,h1];rfl
   show∀d,AU PP fu (AB PP fu (d+1)) (BQ Bi) (HE r sm em ind sp s lo G i (HF s.buf s.ptr o i))= .ok .next (HE r sm em ind sp s lo G (i+1) (HF s.buf s.ptr o (i+1)))
   rw [e];generalize HF s.buf s.ptr o i=o';by_cases h58:c=58
   . obtain⟨y,h4,h5⟩:=h3 h58;subst h58;cases o' with
     |none=> exact Aa [pk s lo G i h1,pk s lo G (i+1) h4,Ax y _ h5]
     |some v=> exact Aa [pk s lo G i h1,pk s lo G (i+1) h4,Ax y _ h5]
   . have h6:(c==58)=false:=beq_false_of_ne h58;cases o' with
     |none=> exact Aa [pk s lo G i h1,Ax c _ h2,BD c _ h6]
     |some v=> exact Aa [pk s lo G i h1,Ax c _ h2,BD c _ h6]
 . show Bb _ _ (m+2) (HE r sm em ind sp s lo G n (HF s.buf s.ptr o n))=_;generalize HF s.buf s.ptr o n=o';have ht:An PP (AB PP fu (d+1)) (Bs Bi) (HE r sm em ind sp s lo G n o')= .ok true (HE r sm em ind sp s lo G n o'):=by
    cases o'<;>exact Br [] (by kernel_rfl!) d
   refine W6 ht ?_;rcases hs with hs |⟨rfl,y,h4,h5⟩
   . cases o' with
     |none=> exact Aa [pk s lo G n hx,Ax x _ hs] (by kernel_rfl!) d
     |some v=> exact Aa [pk s lo G n hx,Ax x _ hs] (by kernel_rfl!) d
   . cases o' with
     |none=> exact Aa [pk s lo G n hx,pk s lo G (n+1) h4,Ax y _ h5] (by kernel_rfl!) d
     |some v=> exact Aa [pk s lo G n hx,pk s lo G (n+1) h4,Ax y _ h5] (by kernel_rfl!) d
end L4
end Internal
end
namespace Internal
namespace L4
section
variable{s:Sc}{lo g G:List AObj}
theorem Kk{r:List AObj}{o:AObj}:(s.hp lo (g++o::r)).f (AZ g.length)=o:=by rw [Kc];exact FA g (o::r) 0
theorem Yi{r:List AObj}{o o':AObj}:(s.hp lo (g++o::r)).set (AZ g.length) o'=s.hp lo (g++o'::r):=by rw [Qf];exact congrArg (s.hp lo) (Mv g (o::r) 0 o')
section
variable(s lo g)
def Dl(xs:List AV)(r:List AObj)(m:N)(hm:Ge m=true):Ent PP fu:=.met (s.hp lo (g++L1 xs::r)) (.ref (AZ g.length)) m none (Qg (r:=AZ g.length) (xs:=xs) (Kk (s:=s) (lo:=lo) (g:=g) (o:=.lst xs) (r:=r)) hm)
theorem sN(xs:List AV)(r:List AObj)(v:AV)(hl:xs.length<lim):Bv (s.hp lo (g++L1 xs::r)) (.ref (AZ g.length)) N.append [v]=some (.none,s.hp lo (g++L1 (xs++[v])::r)):=by rw [Hz (h:=s.hp lo (g++L1 xs::r)) (r:=AZ g.length) (xs:=xs) Kk hl,Yi];rfl
def HG(xs:List AV)(r:List AObj)(v:AV)(hl:xs.length<lim):Ent PP fu:=.A6 (s.hp lo (g++L1 xs::r)) (.ref (AZ g.length)) N.append [v] .none (s.hp lo (g++L1 (xs++[v])::r)) (sN s lo g xs r v hl)
theorem sP(xs:List AV)(r:List AObj)(q:Nat)(ys:List AV)(hq:(s.hp lo (g++L1 xs::r)).f q= .lst ys)(hl:xs.length+ys.length<=lim):Bv (s.hp lo (g++L1 xs::r)) (.ref (AZ g.length)) N.extend [.ref q]=some (.none,s.hp lo (g++L1 (xs++ys)::r)):=by rw [Xd (h:=s.hp lo (g++L1 xs::r)) (r:=AZ g.length) (q:=q) (xs:=xs) (ys:=ys) Kk hq hl,Yi];rfl
def H7(xs:List AV)(r:List AObj)(q:Nat)(ys:List AV)(hq:(s.hp lo (g++L1 xs::r)).f q= .lst ys)(hl:xs.length+ys.length<=lim):Ent PP fu:=.A6 (s.hp lo (g++L1 xs::r)) (.ref (AZ g.length)) N.extend [.ref q] .none (s.hp lo (g++L1 (xs++ys)::r)) (sP s lo g xs r q ys hq hl)
theorem Yj(xs:List AV)(r:List AObj)(l:List (List Nat))(hs:strs? xs=some l)(hl:(l.map w7).sum+l.length<=60000):Bv (s.hp lo (g++L1 xs::r)) (.str []) N.join [.ref (AZ g.length)]=some (.str (Ba [] l),s.hp lo (g++L1 xs::r)):=by
 show((LD (s.hp lo (g++L1 xs::r)) [] (.ref (AZ g.length))).map fun v=> (v,s.hp lo (g++L1 xs::r)))=_;have e:items (s.hp lo (g++L1 xs::r)) (.ref (AZ g.length))=some xs:=by show alt none (CY ((s.hp lo (g++L1 xs::r)).f (AZ g.length)))=_;rw [Kk];rfl
 unfold LD;rw [e];show((((strs? xs)).bind fun l=> if([]:List Nat).length<=16/\(l.map w7).sum+l.length<=60000 then some (AV.str (Ba [] l))else none).map fun v=> (v,s.hp lo (g++L1 xs::r)))=_;rw [hs];show((if([]:List Nat).length<=16/\(l.map w7).sum+l.length<=60000 then some (AV.str (Ba [] l))else none).map fun v=> (v,s.hp lo (g++L1 xs::r)))=_;rw [if_pos ⟨wN _,hl⟩];rfl
def joinM(xs:List AV)(r:List AObj)(l:List (List Nat))(hs:strs? xs=some l)(hl:(l.map w7).sum+l.length<=60000):Ent PP fu:=.A6 (s.hp lo (g++L1 xs::r)) (.str []) N.join [.ref (AZ g.length)] (.str (Ba [] l)) (s.hp lo (g++L1 xs::r)) (Yj s lo g xs r l hs hl)
end
theorem NM(xs:List AV)(r:List AObj):truthy (s.hp lo (g++L1 xs::r)) (.ref (AZ g.length))=some (!xs.isEmpty):=by show Jc ((s.hp lo (g++L1 xs::r)).f (AZ g.length))=_;rw [Kk];rfl
structure Bt(s s':Sc)(f:Bool):Prop where
 h:∀lo G a b,∃y v t,(∀d,AB PP fu (d+5) Ih [me,a,b] [] (s.hp lo G)= .ok v (s'.hp lo (G++y)))/\truthy (s'.hp lo (G++y)) v=some t/\(f=true->t=false)/\(v= .none∨∃q,v= .ref q)
theorem Yk{c:Nat}(h:s.buf[s.ptr]? =some c)(h1:(c==32)=false)(h2:FX c=false):Bt s s true:=⟨fun lo G a b=> ⟨[L1 []],_,_,Xj h h1 h2,NM [] [],fun _=> rfl,.inr ⟨_,rfl⟩⟩⟩
theorem Yl{c:Nat}(h:AJ s.buf s.ptr [32,c])(h1:(c==32)=false)(h2:FX c=false){a b:AV}:
 ∀d,AB PP fu (d+5) Ih [me,a,b] [] (s.hp lo G)= .ok (.ref (AZ G.length)) ((s.on 1).hp lo (G++[L1 [.str [32]]])):=
 have h3:(s.on 1).buf[(s.on 1).ptr]? =some c:=h.tail.head
 cert [pk s lo (sn G (L1 [])) 0 h.head,pk s lo (sn G (L1 [])) 1 h.tail.head,Ax c [32] (b:=false) (by rw [xD,h1];rfl),pf s lo (sn G (L1 [])) [32] (h.left (u:=[32]) (w:=[c])) nofun,
  fw s lo (sn G (L1 [])) [32] (h.left (u:=[32]) (w:=[c])) rfl (wA rfl),Af (s.on 1) lo (sn G (L1 [])) h3,Ax c [13,10,133,8232,8233] h2,Dl (s.on 1) lo G [] [] N.append rfl,HG (s.on 1) lo G [] [] (.str [32]) (wA rfl)]
theorem sQ{c:Nat}(h:AJ s.buf s.ptr [32,32,c])(h1:(c==32)=false)(h2:FX c=false){a b:AV}:
 ∀d,AB PP fu (d+5) Ih [me,a,b] [] (s.hp lo G)= .ok (.ref (AZ G.length)) ((s.on 2).hp lo (G++[L1 [.str [32,32]]])):=
 have h3:(s.on 2).buf[(s.on 2).ptr]? =some c:=h.tail.tail.head
 cert [pk s lo (sn G (L1 [])) 0 h.head,pk s lo (sn G (L1 [])) 1 h.tail.head,pk s lo (sn G (L1 [])) 2 h.tail.tail.head,Ax c [32] (b:=false) (by rw [xD,h1];rfl),pf s lo (sn G (L1 [])) [32,32] (h.left (u:=[32,32]) (w:=[c])) nofun,
  fw s lo (sn G (L1 [])) [32,32] (h.left (u:=[32,32]) (w:=[c])) rfl (wA rfl),Af (s.on 2) lo (sn G (L1 [])) h3,Ax c [13,10,133,8232,8233] h2,Dl (s.on 2) lo G [] [] N.append rfl,HG (s.on 2) lo G [] [] (.str [32,32]) (wA rfl)]
theorem sR{c:Nat}(h:AJ s.buf s.ptr [32,c])(h1:(c==32)=false)(h2:FX c=false):Bt s (s.on 1) false:=⟨fun lo G a b=> ⟨_,_,_,Yl h h1 h2,NM [.str [32]] [],nofun,.inr ⟨_,rfl⟩⟩⟩
theorem sU{c:Nat}(h:AJ s.buf s.ptr [32,32,c])(h1:(c==32)=false)(h2:FX c=false):Bt s (s.on 2) false:=⟨fun lo G a b=> ⟨_,_,_,sQ h h1 h2,NM [.str [32,32]] [],nofun,.inr ⟨_,rfl⟩⟩⟩
end
section
variable{s:Sc}{lo g G:List AObj}
def sV:CS->List CS
 | .ifs _ b _=> b
 |_=>[]
def Dm:CS:=DS (sV (DS Ss 6)) 5
def Dn(a b:AV)(c0 lb pr:List Nat)(s:Sc)(lo G:List AObj)(bs:List AV):St:=⟨[(N.self,me),(N.indent,a),(N.Hv,b),(N.M0,.ref (AZ G.length)),(N.length,.int 0),(N.sJ,.str []),(N.ch,.str c0),(N.sL,.str lb),(N.sM,.str pr),(N.breaks,.ref (AZ (sn G (L1 [])).length))],s.hp lo (sn (sn G (L1 [])) (L1 bs))⟩
def Sc.yes(s:Sc):Sc:={s with allow:=true}
def DU(s:Sc):Prop:=(s.pre 3==[45,45,45])=false/\(s.pre 3==[46,46,46])=false
variable{a b:AV}{c0 lb pr:List Nat}{bs:List AV}
theorem Kl{c:Nat}(h:s.buf[s.ptr]? =some c){t:Bool}(hc:[32,13,10,133,8232,8233].contains c=t):∀d,An PP (AB PP fu (d+4)) (Bs Dm) (Dn a b c0 lb pr s lo G bs)= .ok t (Dn a b c0 lb pr s lo G bs):=
 Br [Af s lo (sn (sn G (L1 [])) (L1 bs)) h,Ax c _ hc]
theorem sW(h:s.buf[s.ptr]? =some 32):∀d,AU PP fu (AB PP fu (d+4)) (BQ Dm) (Dn a b c0 lb pr s lo G bs)= .ok .next (Dn a b c0 lb pr (s.on 1) lo G bs):=
 Aa [Af s lo (sn (sn G (L1 [])) (L1 bs)) h,FW s lo (sn (sn G (L1 [])) (L1 bs)) h rfl]
def JO(s:Sc)(lo g:List AObj)(hp:s.ptr<=s.buf.length):Ent PP fu:=.call D0 [me,.int 3] [] (s.hp lo g) (.ok (.str (s.pre 3)) (s.hp lo g)) 2 (FV (n:=3) hp)
theorem LE.hd{l:List Nat}(hl:isLE l=true):∃c r,l=c::r/\[32,13,10,133,8232,8233].contains c=true/\(c==32)=false/\[13,10,133,8232,8233].contains c=true:=by rcases HB hl with rfl |rfl |rfl |rfl<;>exact⟨_,_,rfl,rfl,rfl,rfl⟩
theorem JP{l:List Nat}(h:AJ s.buf s.ptr l)(hl:isLE l=true):(s.nl l.length).ptr<=(s.nl l.length).buf.length:=by obtain⟨c,r,rfl,_⟩:=LE.hd hl;exact h.le nofun
theorem sX{l:List Nat}(hl:isLE l=true)(h:AJ s.buf s.ptr l)(hb:bs.length<lim)(hn:DU (s.nl l.length)):
 ∀d,AU PP fu (AB PP fu (d+4)) (BQ Dm) (Dn a b c0 lb pr s lo G bs)= .ok .next (Dn a b c0 lb ((s.nl l.length).pre 3) (s.nl l.length) lo G (bs++[.str (BA l)])):=by
 obtain⟨c,r,rfl,h1,h2,h3⟩:=LE.hd hl;exact Aa [Af s lo (sn (sn G (L1 [])) (L1 bs)) h.head,BD c 32 h2,My s lo (sn G (L1 [])) bs N.append rfl,.call _ _ _ _ _ 4 (Hx (lo:=lo) (g:=sn (sn G (L1 [])) (L1 bs)) hl h),Qh (s.nl (c::r).length) lo (sn G (L1 [])) bs (.str (BA (c::r))) hb,
  JO (s.nl (c::r).length) lo (sn (sn G (L1 [])) (L1 (bs++[.str (BA (c::r))]))) (JP h hl),Er _ [45,45,45] hn.1,Er _ [46,46,46] hn.2]
theorem sY{l:List Nat}{x:Nat}(hl:isLE l=true)(h:AJ s.buf s.ptr (l++[46,46,46,x]))(hx:BO x=true)(hb:bs.length<lim):
 ∀d,AU PP fu (AB PP fu (d+4)) (BQ Dm) (Dn a b c0 lb pr s lo G bs)= .ok (.ret .none) (Dn a b c0 lb [46,46,46] (s.nl l.length) lo G (bs++[.str (BA l)])):=by
 have hd:AJ (s.nl l.length).buf (s.nl l.length).ptr [46,46,46,x]:=h.drop;have hp:(s.nl l.length).pre 3=[46,46,46]:=AJ.take (w:=[46,46,46]) (hd.left (u:=[46,46,46]) (w:=[x]));have h':=h.left;obtain⟨c,r,rfl,h1,h2,h3⟩:=LE.hd hl;have hpe:=JO (s.nl (c::r).length) lo (sn (sn G (L1 [])) (L1 (bs++[.str (BA (c::r))]))) (JP h' hl);have hq:=FV (n:=3) (lo:=lo) (g:=sn (sn G (L1 [])) (L1 (bs++[.str (BA (c::r))]))) (JP h' hl);rw [hp]at hq;exact Aa [Af s lo (sn (sn G (L1 [])) (L1 bs)) h'.head,BD c 32 h2,My s lo (sn G (L1 [])) bs N.append rfl,.call _ _ _ _ _ 4 (Hx (lo:=lo) (g:=sn (sn G (L1 [])) (L1 bs)) hl h'),Qh (s.nl (c::r).length) lo (sn G (L1 [])) bs (.str (BA (c::r))) hb,
  .call _ _ _ _ _ 2 hq,pk (s.nl (c::r).length) lo (sn (sn G (L1 [])) (L1 (bs++[.str (BA (c::r))]))) 3 hd.tail.tail.tail.head,Ax x _ hx]
theorem Km{d:Nat}{R:Out Flow}:∀(k:Nat) (s:Sc) (m:Nat),AJ s.buf s.ptr (wB k 32)->Bb (fun s=> An PP (AB PP fu (d+4)) (Bs Dm) s) (fun s=> AU PP fu (AB PP fu (d+4)) (BQ Dm) s) m (Dn a b c0 lb pr (s.on k) lo G bs)=R->
 Bb (fun s=> An PP (AB PP fu (d+4)) (Bs Dm) s) (fun s=> AU PP fu (AB PP fu (d+4)) (BQ Dm) s) (m+k) (Dn a b c0 lb pr s lo G bs)=R
 |0,s,m=> fun _ e=> e
 |k+1,s,m=> fun h e=> by have h0:s.buf[s.ptr]? =some 32:=h.head;refine(FU (n:=m+k) (Kl h0 rfl d) (sW h0 d)).trans (Km k (s.on 1) m h.tail ?_);rw [Sc.GL,Nat.add_comm 1 k];exact e
theorem Q5{G:List AObj}{x y:AObj}:sn (sn G x) y=G++[x,y]:=wF ..
theorem Bt.of{s s':Sc}(h:∀lo G a b,∃xs o,∀d,AB PP fu (d+5) Ih [me,a,b] [] (s.hp lo G)= .ok (.ref (AZ G.length)) (s'.hp lo (sn (sn G (L1 xs)) o))):Bt s s' false:=⟨fun lo G a b=> by obtain⟨xs,o,h⟩:=h lo G a b;rw [Q5]at h;exact⟨[L1 xs,o],_,_,h,NM xs [o],nofun,.inr ⟨_,rfl⟩⟩⟩
theorem sZ{s:Sc}{lo g:List AObj}(xs ys x0:List AV)(hl:xs.length+ys.length<=lim):Bv (s.hp lo (sn (sn g (L1 xs)) (L1 ys))) (.ref (AZ g.length)) N.extend [.ref (AZ (sn g (L1 x0)).length)]=some (.none,s.hp lo (sn (sn g (L1 (xs++ys))) (L1 ys))):=by rw [show(sn g (L1 x0)).length=(sn g (L1 xs)).length from by rw [sn,sn,v9,v9];rfl];exact Xf s lo g xs ys hl
def Q6(s:Sc)(lo g:List AObj)(xs ys x0:List AV)(hl:xs.length+ys.length<=lim):Ent PP fu:=.A6 (s.hp lo (sn (sn g (L1 xs)) (L1 ys))) (.ref (AZ g.length)) N.extend [.ref (AZ (sn g (L1 x0)).length)] .none (s.hp lo (sn (sn g (L1 (xs++ys))) (L1 ys))) (sZ xs ys x0 hl)
theorem Ym{l:List Nat}{s':Sc}{pr':List Nat}(hl:isLE l=true)(h:AJ s.buf s.ptr l)(hn:DU (s.nl l.length))(hb:bs.length<=100)
 (hw:∀lo G a b d,As PP fu (AB PP fu (d+4)) Dm (Dn a b (l.take 1) (BA l) ((s.nl l.length).pre 3) (s.nl l.length).yes lo G [])= .ok .next (Dn a b (l.take 1) (BA l) pr' s' lo G bs)):Bt s s' false:=Bt.of fun lo G a b=> by
 have hz:=hw lo G a b;have AAo:1+bs.length<=lim:=wC (y0 hb 1) (wA rfl);have ADu:0+bs.length<=lim:=wC (y0 hb 0) (wA rfl);have hsl:=Hx (lo:=lo) (g:=sn G (L1 [])) hl h;have hlb:BA l=[10]∨BA l=[8232]:=by rcases HB hl with rfl |rfl |rfl |rfl<;>first |exact .inl rfl |exact .inr rfl
 have hpe:=JP h hl;obtain⟨c,r,rfl,c1,c2,c3⟩:=LE.hd hl;have c4:[32].contains c=false:=by rw [xD,c2];rfl
 have DP:=FV (s:=s) (lo:=lo) (g:=sn G (L1 [])) (n:=0) (JI (k:=0) h.head);generalize BA (c::r)=lb at hz hsl hlb;generalize(c::r).length=n at hz hsl hpe hn;rcases hlb with rfl |rfl
 . cases bs with
   |nil=>
    exact⟨[.str [32]],L1 [],cert [pk s lo (sn G (L1 [])) 0 h.head,Ax c [32] c4,.call D0 [me,.int 0] [] (s.hp lo (sn G (L1 []))) (.ok (.str (s.pre 0)) (s.hp lo (sn G (L1 [])))) 2 DP,
     fw s lo (sn G (L1 [])) [] (fun i c e=> by cases e) rfl (wA rfl),Af s lo (sn G (L1 [])) h.head,Ax c [13,10,133,8232,8233] c3,.call _ _ _ _ _ 4 hsl,JO (s.nl n).yes lo (sn G (L1 [])) hpe,Er _ [45,45,45] hn.1,Er _ [46,46,46] hn.2,.Ao Dm _ _ 4 hz,
     M5 s' lo (sn G (L1 [])) [],BS s' lo G [] (L1 []) N.append rfl,DT s' lo G [] (L1 []) (.str [32]) (wA rfl),BS s' lo G [.str [32]] (L1 []) N.extend rfl,Q6 s' lo G [.str [32]] [] [] (wA rfl)]⟩
   |cons x bs=>
    exact⟨x::bs,L1 (x::bs),cert [pk s lo (sn G (L1 [])) 0 h.head,Ax c [32] c4,.call D0 [me,.int 0] [] (s.hp lo (sn G (L1 []))) (.ok (.str (s.pre 0)) (s.hp lo (sn G (L1 [])))) 2 DP,
     fw s lo (sn G (L1 [])) [] (fun i c e=> by cases e) rfl (wA rfl),Af s lo (sn G (L1 [])) h.head,Ax c [13,10,133,8232,8233] c3,.call _ _ _ _ _ 4 hsl,JO (s.nl n).yes lo (sn G (L1 [])) hpe,Er _ [45,45,45] hn.1,Er _ [46,46,46] hn.2,.Ao Dm _ _ 4 hz,
     M5 s' lo (sn G (L1 [])) (x::bs),BS s' lo G [] (L1 (x::bs)) N.extend rfl,Q6 s' lo G [] (x::bs) [] ADu]⟩
 . exact⟨.str [8232]::bs,L1 bs,cert [pk s lo (sn G (L1 [])) 0 h.head,Ax c [32] c4,.call D0 [me,.int 0] [] (s.hp lo (sn G (L1 []))) (.ok (.str (s.pre 0)) (s.hp lo (sn G (L1 [])))) 2 DP,
    fw s lo (sn G (L1 [])) [] (fun i c e=> by cases e) rfl (wA rfl),Af s lo (sn G (L1 [])) h.head,Ax c [13,10,133,8232,8233] c3,.call _ _ _ _ _ 4 hsl,JO (s.nl n).yes lo (sn G (L1 [])) hpe,Er _ [45,45,45] hn.1,Er _ [46,46,46] hn.2,.Ao Dm _ _ 4 hz,
    BS s' lo G [] (L1 bs) N.append rfl,DT s' lo G [] (L1 bs) (.str [8232]) (wA rfl),BS s' lo G [.str [8232]] (L1 bs) N.extend rfl,Q6 s' lo G [.str [8232]] bs [] AAo]⟩
theorem sa{l:List Nat}{x:Nat}(hl:isLE l=true)(h:AJ s.buf s.ptr (l++[46,46,46,x]))(hx:BO x=true):Bt s (s.nl l.length).yes true:=⟨fun lo G a b=> by
 have hd:AJ (s.nl l.length).buf (s.nl l.length).ptr [46,46,46,x]:=h.drop;have hp:(s.nl l.length).pre 3=[46,46,46]:=AJ.take (w:=[46,46,46]) (hd.left (u:=[46,46,46]) (w:=[x]));have h':=h.left;have hsl:=Hx (lo:=lo) (g:=sn G (L1 [])) hl h';have hpe:=JP h' hl;have hq:=FV (s:=(s.nl l.length).yes) (n:=3) (lo:=lo) (g:=sn G (L1 [])) hpe;rw [show(s.nl l.length).yes.pre 3=[46,46,46]from hp]at hq;have h3:(s.nl l.length).yes.buf[(s.nl l.length).yes.ptr+3]? =some x:=hd.tail.tail.tail.head;obtain⟨c,r,rfl,c1,c2,c3⟩:=LE.hd hl;have c4:[32].contains c=false:=by rw [xD,c2];rfl
 have DP:=FV (s:=s) (lo:=lo) (g:=sn G (L1 [])) (n:=0) (JI (k:=0) h'.head);generalize BA (c::r)=lb at hsl;generalize(c::r).length=n at hsl hpe hq h3;exact⟨[L1 []],.none,false,cert [pk s lo (sn G (L1 [])) 0 h'.head,Ax c [32] c4,.call D0 [me,.int 0] [] (s.hp lo (sn G (L1 []))) (.ok (.str (s.pre 0)) (s.hp lo (sn G (L1 [])))) 2 DP,
      fw s lo (sn G (L1 [])) [] (fun i c e=> by cases e) rfl (wA rfl),Af s lo (sn G (L1 [])) h'.head,Ax c [13,10,133,8232,8233] c3,.call _ _ _ _ _ 4 hsl,.call _ _ _ _ _ 2 hq,pk (s.nl n).yes lo (sn G (L1 [])) 3 h3,Ax x _ hx],rfl,fun _=> rfl,.inl rfl⟩⟩
theorem sb{l:List Nat}{s':Sc}{bs:List AV}{pr':List Nat}(hl:isLE l=true)(h:AJ s.buf s.ptr l)(hn:DU (s.nl l.length))
 (hw:∀lo G a b d,As PP fu (AB PP fu (d+4)) Dm (Dn a b (l.take 1) (BA l) ((s.nl l.length).pre 3) (s.nl l.length).yes lo G [])= .ok (.ret .none) (Dn a b (l.take 1) (BA l) pr' s' lo G bs)):Bt s s' true:=⟨fun lo G a b=> by
 have hz:=hw lo G a b;have hsl:=Hx (lo:=lo) (g:=sn G (L1 [])) hl h;have hpe:=JP h hl;obtain⟨c,r,rfl,c1,c2,c3⟩:=LE.hd hl;have c4:[32].contains c=false:=by rw [xD,c2];rfl
 have DP:=FV (s:=s) (lo:=lo) (g:=sn G (L1 [])) (n:=0) (JI (k:=0) h.head);generalize BA (c::r)=lb at hz hsl;generalize(c::r).length=n at hz hsl hpe hn;have hc:∀d,AB PP fu (d+5) Ih [me,a,b] [] (s.hp lo G)= .ok .none (s'.hp lo (sn (sn G (L1 [])) (L1 bs))):=cert [pk s lo (sn G (L1 [])) 0 h.head,Ax c [32] c4,.call D0 [me,.int 0] [] (s.hp lo (sn G (L1 []))) (.ok (.str (s.pre 0)) (s.hp lo (sn G (L1 [])))) 2 DP,
       fw s lo (sn G (L1 [])) [] (fun i c e=> by cases e) rfl (wA rfl),Af s lo (sn G (L1 [])) h.head,Ax c [13,10,133,8232,8233] c3,.call _ _ _ _ _ 4 hsl,JO (s.nl n).yes lo (sn G (L1 [])) hpe,Er _ [45,45,45] hn.1,Er _ [46,46,46] hn.2,.Ao Dm _ _ 4 hz]
 rw [Q5]at hc;exact⟨[L1 [],L1 bs],.none,false,hc,rfl,fun _=> rfl,.inl rfl⟩⟩
end
section
variable{s:Sc}{lo g G:List AObj}
theorem sf{te:St->Out Bool}{bo:St->Out Flow}{a b c:St}{v:AV}{n:Nat}(h1:te a= .ok true b)(h2:bo b= .ok (.ret v) c):Bb te bo (n+1) a= .ok (.ret v) c:=by show(te a).bind _=_;rw [h1];show(bo b).bind _=_;rw [h2];rfl
theorem AJ.rep{b:List Nat}{p k:Nat}{w:List Nat}(h:AJ b p (wB k 32++w)):AJ b (p+k) w:=by have:=h.drop;rw [wc]at this;exact this
theorem Yn{c:Nat}(h2:(c==32)=false)(h1:FX c=false):[32,13,10,133,8232,8233].contains c=false:=by rw [xD,h2];exact h1
theorem Yo{l:List Nat}{k c:Nat}(hl:isLE l=true)(h:AJ s.buf s.ptr (l++(wB k 32++[c])))(hn:DU (s.nl l.length))(h2:(c==32)=false)(h1:FX c=false)(hk:k<=900):Bt s ((s.nl l.length).yes.on k) false:=by refine Ym (bs:=[]) (pr':=(s.nl l.length).pre 3) hl h.left hn (wN _) fun lo G a b d=> ?_;have h3:AJ (s.nl l.length).yes.buf (s.nl l.length).yes.ptr (wB k 32++[c]):=h.drop;show Bb _ _ 5000 _=_;have:=Km (d:=d) (lo:=lo) (G:=G) (a:=a) (b:=b) (c0:=l.take 1) (lb:=BA l) (pr:=(s.nl l.length).pre 3) (bs:=[]) k (s.nl l.length).yes (5000 - k - 1+1) h3.left (G9 (Kl (h3.rep.head) (Yn h2 h1) d));rw [show 5000 - k - 1+1+k=5000 by exact oE hk]at this;exact this
theorem sg{l:List Nat}{k c:Nat}(hl:isLE l=true)(h:AJ s.buf s.ptr (l++([32,32]++(l++(wB k 32++[c])))))(h0:DU (s.nl l.length))(hn:DU ((((s.nl l.length).yes).on 2).nl l.length))(h2:(c==32)=false)(h1:FX c=false)(hk:k<=900):Bt s (((((s.nl l.length).yes).on 2).nl l.length).on k) false:=by
 refine Ym (bs:=[.str (BA l)]) (pr':=(((s.nl l.length).yes.on 2).nl l.length).pre 3) hl h.left h0 (by show 1<=100;exact oF) fun lo G a b d=> ?_;have h3:AJ (s.nl l.length).yes.buf (s.nl l.length).yes.ptr ([32,32]++(l++(wB k 32++[c]))):=h.drop;have h4:AJ ((s.nl l.length).yes.on 2).buf ((s.nl l.length).yes.on 2).ptr (l++(wB k 32++[c])):=h3.drop;have h5:AJ (((s.nl l.length).yes.on 2).nl l.length).buf (((s.nl l.length).yes.on 2).nl l.length).ptr (wB k 32++[c]):=h4.drop;obtain⟨x,r,el,x1,x2,x3⟩:=LE.hd hl;have hx:((s.nl l.length).yes.on 2).buf[((s.nl l.length).yes.on 2).ptr]? =some x:=by have:=h4.left;rw [el]at this⊢;exact this.head
 show Bb _ _ 5000 _=_;have e1:=Km (d:=d) (lo:=lo) (G:=G) (a:=a) (b:=b) (c0:=l.take 1) (lb:=BA l) (pr:=(((s.nl l.length).yes.on 2).nl l.length).pre 3) (bs:=[.str (BA l)]) k (((s.nl l.length).yes.on 2).nl l.length) (5000 - k - 4+1) h5.left (G9 (Kl h5.rep.head (Yn h2 h1) d));have e2:=(FU (Kl (lo:=lo) (G:=G) (a:=a) (b:=b) (c0:=l.take 1) (lb:=BA l) (pr:=(s.nl l.length).pre 3) (bs:=[]) hx x1 d) (sX (lo:=lo) (G:=G) (a:=a) (b:=b) (c0:=l.take 1) (lb:=BA l) (pr:=(s.nl l.length).pre 3) (bs:=[]) hl h4.left (wA rfl) hn d)).trans e1;have e3:=Km (d:=d) (lo:=lo) (G:=G) (a:=a) (b:=b) (c0:=l.take 1) (lb:=BA l) (pr:=(s.nl l.length).pre 3) (bs:=[]) 2 (s.nl l.length).yes _ (h3.left (u:=[32,32])) e2;rw [show 5000 - k - 4+1+k+1+2=5000 by exact oG hk]at e3;exact e3
theorem si{l:List Nat}{x:Nat}(hl:isLE l=true)(h:AJ s.buf s.ptr (l++([32,32]++(l++[46,46,46,x]))))(h0:DU (s.nl l.length))(hx:BO x=true):Bt s ((((s.nl l.length).yes).on 2).nl l.length) true:=by
 refine sb (bs:=[.str (BA l)]) (pr':=[46,46,46]) hl h.left h0 fun lo G a b d=> ?_;have h3:AJ (s.nl l.length).yes.buf (s.nl l.length).yes.ptr ([32,32]++(l++[46,46,46,x])):=h.drop;have h4:AJ ((s.nl l.length).yes.on 2).buf ((s.nl l.length).yes.on 2).ptr (l++[46,46,46,x]):=h3.drop;obtain⟨y,r,el,x1,x2,x3⟩:=LE.hd hl;have hy:((s.nl l.length).yes.on 2).buf[((s.nl l.length).yes.on 2).ptr]? =some y:=by have:=h4.left;rw [el]at this⊢;exact this.head
 show Bb _ _ 5000 _=_;exact Km (d:=d) (lo:=lo) (G:=G) (a:=a) (b:=b) (c0:=l.take 1) (lb:=BA l) (pr:=(s.nl l.length).pre 3) (bs:=[]) 2 (s.nl l.length).yes 4998 (h3.left (u:=[32,32]))
  (sf (Kl (lo:=lo) (G:=G) (a:=a) (b:=b) (c0:=l.take 1) (lb:=BA l) (pr:=(s.nl l.length).pre 3) (bs:=[]) hy x1 d) (sY (lo:=lo) (G:=G) (a:=a) (b:=b) (c0:=l.take 1) (lb:=BA l) (pr:=(s.nl l.length).pre 3) (bs:=[]) hl h4 hx (wA rfl) d))
def H8(f:Bool)(st:List Int)(s':Sc):Prop:=f=true∨∃c,s'.buf[s'.ptr]? =some c/\(c=35∨c=0∨(c==35)=false/\(s'.col:Int)<st.headD 0+1)
theorem Yp{G:List AObj}{x y:AObj}{z:List AObj}:sn (sn G x) y++z=G++x::(y::z):=by unfold sn;rw [wF,wF];rfl
theorem JQ{w:List Nat}{s':Sc}{f:Bool}{c0:Nat}{w0:List Nat}(ew:w=c0::w0)(h:AJ s.buf s.ptr w)(hw:w.all Co=true)(h1:NL s.buf s.ptr w.length)(h2:Eu s.buf (s.ptr+w.length))(hc:(c0==35)=false)(hn:w.length<=100)
 (hs:Bt (s.off.on w.length) s' f) (he:H8 f s.st s') (hst:s'.buf=s.buf):∃y,∀d,AB PP fu (d+6) Jx [me] [] (s.hp lo g)= .ok (Cf w true s.mark (s.on w.length).mark .none) (s'.hp lo (g++y)):=by
 have hl:w.length+1<fu:=by show w.length+1<5000;exact Qm hn
 have hz:((w.length:Int)==0)=false:=by rw [ew];rw [beq_eq_false_iff_ne];simp;exact oH
 obtain⟨v,hv⟩:=Kj (s:=s) (lo:=lo) (G:=sn (sn g (L1 [])) (L1 [])) (r:=.ref (AZ g.length)) (sm:=s.mark) (em:=s.mark) (ind:=.int (s.st.headD 0+1)) (sp:=.ref (AZ (sn g (L1 [])).length)) (o:=none) h1 h2 hl;obtain⟨y,u,t,e1,e2,e3,e4⟩:=hs.h lo (sn (sn g (L1 [.str w])) (L1 [])) (.int (s.st.headD 0+1)) s.mark;rw [Yp]at e1 e2;have hh:s.buf[s.ptr]? =some c0:=by rw [ew]at h;exact h.head
 have hwn:w≠[]:=by rw [ew];nofun
 refine⟨L1 [.str w]::(L1 []::y),?_⟩;have hj:(([w]:List (List Nat)).map w7).sum+1<=60000:=by show w.length+0+1<=60000;exact oI hn
 rcases e4 with rfl |⟨q,rfl⟩
 . exact cert [Af s lo (sn (sn g (L1 [])) (L1 [])) hh,BD c0 35 hc,.Ao Bi _ _ 1 hv,Bz w.length 0 hz,BS s.off lo g [] (L1 []) N.extend rfl,Di s.off lo g [] [] (wA rfl),BS s.off lo g [] (L1 []) N.append rfl,pf s.off lo (sn (sn g (L1 [])) (L1 [])) w h hwn,
    DT s.off lo g [] (L1 []) (.str w) (wA rfl),fw s.off lo (sn (sn g (L1 [.str w])) (L1 [])) w h hw hl,.call _ _ _ _ _ 5 e1,joinM s' lo g [.str w] (L1 []::y) [w] rfl hj]
 cases t with
 |false=>
  exact cert [Af s lo (sn (sn g (L1 [])) (L1 [])) hh,BD c0 35 hc,.Ao Bi _ _ 1 hv,Bz w.length 0 hz,BS s.off lo g [] (L1 []) N.extend rfl,Di s.off lo g [] [] (wA rfl),BS s.off lo g [] (L1 []) N.append rfl,pf s.off lo (sn (sn g (L1 [])) (L1 [])) w h hwn,
   DT s.off lo g [] (L1 []) (.str w) (wA rfl),fw s.off lo (sn (sn g (L1 [.str w])) (L1 [])) w h hw hl,.call _ _ _ _ _ 5 e1,.A5 _ _ _ e2,joinM s' lo g [.str w] (L1 []::y) [w] rfl hj]
 |true=>
  have hf:f=false:=by cases f with |false=> rfl |true=> exact absurd (e3 rfl) nofun
  rcases he with he |⟨c,k1,k2⟩
  . rw [hf]at he;cases he
  . rcases k2 with rfl |rfl |⟨k2,k3⟩
    . exact cert [Af s lo (sn (sn g (L1 [])) (L1 [])) hh,BD c0 35 hc,.Ao Bi _ _ 1 hv,Bz w.length 0 hz,BS s.off lo g [] (L1 []) N.extend rfl,Di s.off lo g [] [] (wA rfl),BS s.off lo g [] (L1 []) N.append rfl,pf s.off lo (sn (sn g (L1 [])) (L1 [])) w h hwn,
       DT s.off lo g [] (L1 []) (.str w) (wA rfl),fw s.off lo (sn (sn g (L1 [.str w])) (L1 [])) w h hw hl,.call _ _ _ _ _ 5 e1,.A5 _ _ _ e2,Af s' lo (g++L1 [.str w]::(L1 []::y)) k1,joinM s' lo g [.str w] (L1 []::y) [w] rfl hj]
    . obtain⟨v2,hv2⟩:=Kj (s:=s') (lo:=lo) (G:=g++L1 [.str w]::(L1 []::y)) (r:=.ref (AZ g.length)) (sm:=s.mark) (em:=(s.on w.length).mark) (ind:=.int (s.st.headD 0+1)) (sp:=.ref q) (o:=some v) (n:=0) (fun i hi=> absurd hi (zP _)) ⟨0,k1,.inl rfl⟩ (wA rfl);cases hb:decide ((s'.col:Int)<s.st.headD 0+1)with
      |true=>
       exact cert [Af s lo (sn (sn g (L1 [])) (L1 [])) hh,BD c0 35 hc,.Ao Bi _ _ 1 hv,Bz w.length 0 hz,BS s.off lo g [] (L1 []) N.extend rfl,Di s.off lo g [] [] (wA rfl),BS s.off lo g [] (L1 []) N.append rfl,pf s.off lo (sn (sn g (L1 [])) (L1 [])) w h hwn,
        DT s.off lo g [] (L1 []) (.str w) (wA rfl),fw s.off lo (sn (sn g (L1 [.str w])) (L1 [])) w h hw hl,.call _ _ _ _ _ 5 e1,.A5 _ _ _ e2,Af s' lo (g++L1 [.str w]::(L1 []::y)) k1,Dj s'.col (s.st.headD 0+1) hb,joinM s' lo g [.str w] (L1 []::y) [w] rfl hj]
      |false=>
       exact cert [Af s lo (sn (sn g (L1 [])) (L1 [])) hh,BD c0 35 hc,.Ao Bi _ _ 1 hv,Bz w.length 0 hz,BS s.off lo g [] (L1 []) N.extend rfl,Di s.off lo g [] [] (wA rfl),BS s.off lo g [] (L1 []) N.append rfl,pf s.off lo (sn (sn g (L1 [])) (L1 [])) w h hwn,
        DT s.off lo g [] (L1 []) (.str w) (wA rfl),fw s.off lo (sn (sn g (L1 [.str w])) (L1 [])) w h hw hl,.call _ _ _ _ _ 5 e1,.A5 _ _ _ e2,Af s' lo (g++L1 [.str w]::(L1 []::y)) k1,Dj s'.col (s.st.headD 0+1) hb,
        Af s' lo (g++L1 [.str w]::(L1 []::y)) k1,.Ao Bi _ _ 1 hv2,joinM s' lo g [.str w] (L1 []::y) [w] rfl hj]
    . exact cert [Af s lo (sn (sn g (L1 [])) (L1 [])) hh,BD c0 35 hc,.Ao Bi _ _ 1 hv,Bz w.length 0 hz,BS s.off lo g [] (L1 []) N.extend rfl,Di s.off lo g [] [] (wA rfl),BS s.off lo g [] (L1 []) N.append rfl,pf s.off lo (sn (sn g (L1 [])) (L1 [])) w h hwn,
       DT s.off lo g [] (L1 []) (.str w) (wA rfl),fw s.off lo (sn (sn g (L1 [.str w])) (L1 [])) w h hw hl,.call _ _ _ _ _ 5 e1,.A5 _ _ _ e2,Af s' lo (g++L1 [.str w]::(L1 []::y)) k1,BD c 35 k2,Dj s'.col (s.st.headD 0+1) (decide_eq_true k3),joinM s' lo g [.str w] (L1 []::y) [w] rfl hj]
end
section
variable{s:Sc}{lo g G:List AObj}
theorem HH{x y z:AObj}{a0:AObj}:(s.hp lo (g++x::[y,z])).f (AZ (sn (sn g a0) y).length)=z:=by rw [Kc,show g++x::[y,z]=(g++[x,y])++[z]from by rw [wF];rfl,show(sn (sn g a0) y).length=(g++[x,y]).length+0 from by rw [Q5,v9,v9];rfl];exact FA (g++[x,y]) [z] 0
theorem Yq{n:Nat}(h:0<n):((n:Int)==0)=false:=by rw [beq_eq_false_iff_ne];exact oJ h
theorem sj{w1 w2:List Nat}{s':Sc}{f:Bool}{c0 c1:Nat}{r0 r1:List Nat}(ew:w1=c0::r0)(ew2:w2=c1::r1)(h:AJ s.buf s.ptr (w1++32::w2))(hw:w1.all Co=true)(hw2:w2.all Co=true)(h1:NL s.buf s.ptr w1.length)(h2:NL s.buf (s.ptr+(w1.length+1)) w2.length)
 (h3:Eu s.buf (s.ptr+(w1.length+1)+w2.length)) (hc:(c0==35)=false) (hc1:(c1==32)=false) (hc2:FX c1=false) (hc3:(c1==35)=false) (hn:w1.length<=100) (hn2:w2.length<=100) (ABp:s.st.headD 0<=(s.col:Int))
 (hs:Bt ((s.off.on (w1.length+1)).on w2.length) s' f) (he:H8 f s.st s'):∃y,∀d,AB PP fu (d+6) Jx [me] [] (s.hp lo g)= .ok (Cf (w1++32::w2) true s.mark (s.on (w1.length+1+w2.length)).mark .none) (s'.hp lo (g++y)):=by
 have hl:w1.length+1<fu:=by show w1.length+1<5000;exact Qm hn
 have hl2:w2.length+1<fu:=by show w2.length+1<5000;exact Qm hn2
 have hz:((w1.length:Int)==0)=false:=Yq (by rw [ew];exact Nat.succ_pos _);have hz2:((w2.length:Int)==0)=false:=Yq (by rw [ew2];exact Nat.succ_pos _);have hm:AJ s.buf (s.ptr+w1.length) (32::w2):=h.drop;have hm2:AJ s.buf (s.ptr+(w1.length+1)) w2:=hm.tail;obtain⟨v,hv⟩:=Kj (s:=s) (lo:=lo) (G:=sn (sn g (L1 [])) (L1 [])) (r:=.ref (AZ g.length)) (sm:=s.mark) (em:=s.mark) (ind:=.int (s.st.headD 0+1)) (sp:=.ref (AZ (sn g (L1 [])).length)) (o:=none) h1 ⟨32,hm.head,.inl rfl⟩ hl;have e1:=Yl (s:=s.off.on w1.length) (lo:=lo) (G:=sn (sn g (L1 [.str w1])) (L1 [])) (c:=c1) (a:=.int (s.st.headD 0+1)) (b:=s.mark) (by rw [ew2]at hm;intro i c e;exact hm i c (by
  match i,e with
  |0,e=> exact e
  |1,e=> exact e)) hc1 hc2
 rw [Yp]at e1;have hh:s.buf[s.ptr]? =some c0:=by have:=h.left;rw [ew]at this;exact this.head
 have hwn:w1≠[]:=by rw [ew];nofun
 have ABy:w2≠[]:=by rw [ew2];nofun
 have k1:((s.off.on w1.length).on 1).buf[((s.off.on w1.length).on 1).ptr]? =some c1:=by rw [ew2]at hm2;exact hm2.head
 have hlt:decide ((((s.off.on w1.length).on 1).col:Int)<s.st.headD 0+1)=false:=decide_eq_false (by show¬((s.col+w1.length+1:Nat):Int)<s.st.headD 0+1;exact oK ABp)
 obtain⟨v2,hv2⟩:=Kj (s:=(s.off.on w1.length).on 1) (lo:=lo) (G:=g++L1 [.str w1]::[L1 [],L1 [.str [32]]]) (r:=.ref (AZ g.length)) (sm:=s.mark) (em:=(s.on w1.length).mark) (ind:=.int (s.st.headD 0+1)) (sp:=.ref (AZ (sn (sn g (L1 [.str w1])) (L1 [])).length)) (o:=some v) h2 h3 hl2;obtain⟨y,u,t,e5,e6,e3,e4⟩:=hs.h lo (g++L1 [.str w1,.str [32],.str w2]::[L1 [],L1 [.str [32]]]) (.int (s.st.headD 0+1)) s.mark;rw [show g++L1 [.str w1,.str [32],.str w2]::[L1 [],L1 [.str [32]]]++y=g++L1 [.str w1,.str [32],.str w2]::([L1 [],L1 [.str [32]]]++y)from wF ..]at e5 e6;refine⟨L1 [.str w1,.str [32],.str w2]::([L1 [],L1 [.str [32]]]++y),?_⟩;have hj:(([w1,[32],w2]:List (List Nat)).map w7).sum+3<=60000:=by show w1.length+(1+(w2.length+0))+3<=60000;exact oM hn hn2
 have hq:=M5 ((s.off.on w1.length).on 1) lo;have q0:truthy (((s.off.on w1.length).on 1).hp lo (g++L1 [.str w1]::[L1 [],L1 [.str [32]]])) (.ref (AZ (sn (sn g (L1 [.str w1])) (L1 [])).length))=some true:=by show Jc ((((s.off.on w1.length).on 1).hp lo (g++L1 [.str w1]::[L1 [],L1 [.str [32]]])).f _)=_;rw [HH];rfl
 have q1:=H7 (((s.off.on w1.length).on 1)) lo g [.str w1] [L1 [],L1 [.str [32]]] (AZ (sn (sn g (L1 [.str w1])) (L1 [])).length) [.str [32]] HH (wA rfl);have hjn:Ba [] [w1,[32],w2]=w1++32::w2:=by show w1++[]++([32]++[]++w2)=_;rw [wY];rfl
 have J:=Yj s' lo g [.str w1,.str [32],.str w2] ([L1 [],L1 [.str [32]]]++y) [w1,[32],w2] rfl hj;rw [hjn]at J;have em:(s.on (w1.length+1+w2.length)).mark=(((s.off.on w1.length).on 1).on w2.length).mark:=by show AY s.buf (s.ptr+(w1.length+1+w2.length)) s.line (s.col+(w1.length+1+w2.length))=AY s.buf (s.ptr+w1.length+1+w2.length) s.line (s.col+w1.length+1+w2.length);rw [show s.ptr+(w1.length+1+w2.length)=s.ptr+w1.length+1+w2.length by exact Xs,show s.col+(w1.length+1+w2.length)=s.col+w1.length+1+w2.length by exact Xs]
 rw [em];rcases e4 with rfl |⟨q,rfl⟩
 . exact cert [Af s lo (sn (sn g (L1 [])) (L1 [])) hh,BD c0 35 hc,.Ao Bi _ _ 1 hv,Bz w1.length 0 hz,BS s.off lo g [] (L1 []) N.extend rfl,Di s.off lo g [] [] (wA rfl),BS s.off lo g [] (L1 []) N.append rfl,pf s.off lo (sn (sn g (L1 [])) (L1 [])) w1 h.left hwn,
    DT s.off lo g [] (L1 []) (.str w1) (wA rfl),fw s.off lo (sn (sn g (L1 [.str w1])) (L1 [])) w1 h.left hw hl,.call _ _ _ _ _ 5 e1,.A5 _ _ _ q0,Af ((s.off.on w1.length).on 1) lo (g++L1 [.str w1]::[L1 [],L1 [.str [32]]]) k1,BD c1 35 hc3,Dj _ _ hlt,
    Af ((s.off.on w1.length).on 1) lo (g++L1 [.str w1]::[L1 [],L1 [.str [32]]]) k1,BD c1 35 hc3,.Ao Bi _ _ 1 hv2,Bz w2.length 0 hz2,Dl ((s.off.on w1.length).on 1) lo g [.str w1] [L1 [],L1 [.str [32]]] N.extend rfl,H7 (((s.off.on w1.length).on 1)) lo g [.str w1] [L1 [],L1 [.str [32]]] (AZ (sn (sn g (L1 [.str w1])) (L1 [])).length) [.str [32]] HH (wA rfl),
    Dl ((s.off.on w1.length).on 1) lo g [.str w1,.str [32]] [L1 [],L1 [.str [32]]] N.append rfl,pf ((s.off.on w1.length).on 1) lo (g++L1 [.str w1,.str [32]]::[L1 [],L1 [.str [32]]]) w2 hm2 ABy,HG ((s.off.on w1.length).on 1) lo g [.str w1,.str [32]] [L1 [],L1 [.str [32]]] (.str w2) (wA rfl),
    fw ((s.off.on w1.length).on 1) lo (g++L1 [.str w1,.str [32],.str w2]::[L1 [],L1 [.str [32]]]) w2 hm2 hw2 hl2,.call _ _ _ _ _ 5 e5,.A6 _ _ N.join _ _ _ J]
 cases t with
 |false=>
  exact cert [Af s lo (sn (sn g (L1 [])) (L1 [])) hh,BD c0 35 hc,.Ao Bi _ _ 1 hv,Bz w1.length 0 hz,BS s.off lo g [] (L1 []) N.extend rfl,Di s.off lo g [] [] (wA rfl),BS s.off lo g [] (L1 []) N.append rfl,pf s.off lo (sn (sn g (L1 [])) (L1 [])) w1 h.left hwn,
   DT s.off lo g [] (L1 []) (.str w1) (wA rfl),fw s.off lo (sn (sn g (L1 [.str w1])) (L1 [])) w1 h.left hw hl,.call _ _ _ _ _ 5 e1,.A5 _ _ _ q0,Af ((s.off.on w1.length).on 1) lo (g++L1 [.str w1]::[L1 [],L1 [.str [32]]]) k1,BD c1 35 hc3,Dj _ _ hlt,
   Af ((s.off.on w1.length).on 1) lo (g++L1 [.str w1]::[L1 [],L1 [.str [32]]]) k1,BD c1 35 hc3,.Ao Bi _ _ 1 hv2,Bz w2.length 0 hz2,Dl ((s.off.on w1.length).on 1) lo g [.str w1] [L1 [],L1 [.str [32]]] N.extend rfl,H7 (((s.off.on w1.length).on 1)) lo g [.str w1] [L1 [],L1 [.str [32]]] (AZ (sn (sn g (L1 [.str w1])) (L1 [])).length) [.str [32]] HH (wA rfl),
   Dl ((s.off.on w1.length).on 1) lo g [.str w1,.str [32]] [L1 [],L1 [.str [32]]] N.append rfl,pf ((s.off.on w1.length).on 1) lo (g++L1 [.str w1,.str [32]]::[L1 [],L1 [.str [32]]]) w2 hm2 ABy,HG ((s.off.on w1.length).on 1) lo g [.str w1,.str [32]] [L1 [],L1 [.str [32]]] (.str w2) (wA rfl),
   fw ((s.off.on w1.length).on 1) lo (g++L1 [.str w1,.str [32],.str w2]::[L1 [],L1 [.str [32]]]) w2 hm2 hw2 hl2,.call _ _ _ _ _ 5 e5,.A5 _ _ _ e6,.A6 _ _ N.join _ _ _ J]
 |true=>
  have hf:f=false:=by cases f with |false=> rfl |true=> exact absurd (e3 rfl) nofun
  rcases he with he |⟨c,z1,z2⟩
  . rw [hf]at he;cases he
  . rcases z2 with rfl |rfl |⟨z2,z3⟩
    . exact cert [Af s lo (sn (sn g (L1 [])) (L1 [])) hh,BD c0 35 hc,.Ao Bi _ _ 1 hv,Bz w1.length 0 hz,BS s.off lo g [] (L1 []) N.extend rfl,Di s.off lo g [] [] (wA rfl),BS s.off lo g [] (L1 []) N.append rfl,pf s.off lo (sn (sn g (L1 [])) (L1 [])) w1 h.left hwn,
       DT s.off lo g [] (L1 []) (.str w1) (wA rfl),fw s.off lo (sn (sn g (L1 [.str w1])) (L1 [])) w1 h.left hw hl,.call _ _ _ _ _ 5 e1,.A5 _ _ _ q0,Af ((s.off.on w1.length).on 1) lo (g++L1 [.str w1]::[L1 [],L1 [.str [32]]]) k1,BD c1 35 hc3,Dj _ _ hlt,
       Af ((s.off.on w1.length).on 1) lo (g++L1 [.str w1]::[L1 [],L1 [.str [32]]]) k1,BD c1 35 hc3,.Ao Bi _ _ 1 hv2,Bz w2.length 0 hz2,Dl ((s.off.on w1.length).on 1) lo g [.str w1] [L1 [],L1 [.str [32]]] N.extend rfl,H7 (((s.off.on w1.length).on 1)) lo g [.str w1] [L1 [],L1 [.str [32]]] (AZ (sn (sn g (L1 [.str w1])) (L1 [])).length) [.str [32]] HH (wA rfl),
       Dl ((s.off.on w1.length).on 1) lo g [.str w1,.str [32]] [L1 [],L1 [.str [32]]] N.append rfl,pf ((s.off.on w1.length).on 1) lo (g++L1 [.str w1,.str [32]]::[L1 [],L1 [.str [32]]]) w2 hm2 ABy,HG ((s.off.on w1.length).on 1) lo g [.str w1,.str [32]] [L1 [],L1 [.str [32]]] (.str w2) (wA rfl),
       fw ((s.off.on w1.length).on 1) lo (g++L1 [.str w1,.str [32],.str w2]::[L1 [],L1 [.str [32]]]) w2 hm2 hw2 hl2,.call _ _ _ _ _ 5 e5,.A5 _ _ _ e6,Af s' lo (g++L1 [.str w1,.str [32],.str w2]::([L1 [],L1 [.str [32]]]++y)) z1,.A6 _ _ N.join _ _ _ J]
    . obtain⟨v3,hv3⟩:=Kj (s:=s') (lo:=lo) (G:=(g++L1 [.str w1,.str [32],.str w2]::([L1 [],L1 [.str [32]]]++y))) (r:=.ref (AZ g.length)) (sm:=s.mark) (em:=(((s.off.on w1.length).on 1).on w2.length).mark) (ind:=.int (s.st.headD 0+1)) (sp:=.ref q) (o:=some v2) (n:=0) (fun i hi=> absurd hi (zP _)) ⟨0,z1,.inl rfl⟩ (wA rfl);cases hb:decide ((s'.col:Int)<s.st.headD 0+1)with
      |true=>
       exact cert [Af s lo (sn (sn g (L1 [])) (L1 [])) hh,BD c0 35 hc,.Ao Bi _ _ 1 hv,Bz w1.length 0 hz,BS s.off lo g [] (L1 []) N.extend rfl,Di s.off lo g [] [] (wA rfl),BS s.off lo g [] (L1 []) N.append rfl,pf s.off lo (sn (sn g (L1 [])) (L1 [])) w1 h.left hwn,
        DT s.off lo g [] (L1 []) (.str w1) (wA rfl),fw s.off lo (sn (sn g (L1 [.str w1])) (L1 [])) w1 h.left hw hl,.call _ _ _ _ _ 5 e1,.A5 _ _ _ q0,Af ((s.off.on w1.length).on 1) lo (g++L1 [.str w1]::[L1 [],L1 [.str [32]]]) k1,BD c1 35 hc3,Dj _ _ hlt,
        Af ((s.off.on w1.length).on 1) lo (g++L1 [.str w1]::[L1 [],L1 [.str [32]]]) k1,BD c1 35 hc3,.Ao Bi _ _ 1 hv2,Bz w2.length 0 hz2,Dl ((s.off.on w1.length).on 1) lo g [.str w1] [L1 [],L1 [.str [32]]] N.extend rfl,H7 (((s.off.on w1.length).on 1)) lo g [.str w1] [L1 [],L1 [.str [32]]] (AZ (sn (sn g (L1 [.str w1])) (L1 [])).length) [.str [32]] HH (wA rfl),
        Dl ((s.off.on w1.length).on 1) lo g [.str w1,.str [32]] [L1 [],L1 [.str [32]]] N.append rfl,pf ((s.off.on w1.length).on 1) lo (g++L1 [.str w1,.str [32]]::[L1 [],L1 [.str [32]]]) w2 hm2 ABy,HG ((s.off.on w1.length).on 1) lo g [.str w1,.str [32]] [L1 [],L1 [.str [32]]] (.str w2) (wA rfl),
        fw ((s.off.on w1.length).on 1) lo (g++L1 [.str w1,.str [32],.str w2]::[L1 [],L1 [.str [32]]]) w2 hm2 hw2 hl2,.call _ _ _ _ _ 5 e5,.A5 _ _ _ e6,Af s' lo (g++L1 [.str w1,.str [32],.str w2]::([L1 [],L1 [.str [32]]]++y)) z1,Dj s'.col (s.st.headD 0+1) hb,.A6 _ _ N.join _ _ _ J]
      |false=>
       exact cert [Af s lo (sn (sn g (L1 [])) (L1 [])) hh,BD c0 35 hc,.Ao Bi _ _ 1 hv,Bz w1.length 0 hz,BS s.off lo g [] (L1 []) N.extend rfl,Di s.off lo g [] [] (wA rfl),BS s.off lo g [] (L1 []) N.append rfl,pf s.off lo (sn (sn g (L1 [])) (L1 [])) w1 h.left hwn,
        DT s.off lo g [] (L1 []) (.str w1) (wA rfl),fw s.off lo (sn (sn g (L1 [.str w1])) (L1 [])) w1 h.left hw hl,.call _ _ _ _ _ 5 e1,.A5 _ _ _ q0,Af ((s.off.on w1.length).on 1) lo (g++L1 [.str w1]::[L1 [],L1 [.str [32]]]) k1,BD c1 35 hc3,Dj _ _ hlt,
        Af ((s.off.on w1.length).on 1) lo (g++L1 [.str w1]::[L1 [],L1 [.str [32]]]) k1,BD c1 35 hc3,.Ao Bi _ _ 1 hv2,Bz w2.length 0 hz2,Dl ((s.off.on w1.length).on 1) lo g [.str w1] [L1 [],L1 [.str [32]]] N.extend rfl,H7 (((s.off.on w1.length).on 1)) lo g [.str w1] [L1 [],L1 [.str [32]]] (AZ (sn (sn g (L1 [.str w1])) (L1 [])).length) [.str [32]] HH (wA rfl),
        Dl ((s.off.on w1.length).on 1) lo g [.str w1,.str [32]] [L1 [],L1 [.str [32]]] N.append rfl,pf ((s.off.on w1.length).on 1) lo (g++L1 [.str w1,.str [32]]::[L1 [],L1 [.str [32]]]) w2 hm2 ABy,HG ((s.off.on w1.length).on 1) lo g [.str w1,.str [32]] [L1 [],L1 [.str [32]]] (.str w2) (wA rfl),
        fw ((s.off.on w1.length).on 1) lo (g++L1 [.str w1,.str [32],.str w2]::[L1 [],L1 [.str [32]]]) w2 hm2 hw2 hl2,.call _ _ _ _ _ 5 e5,.A5 _ _ _ e6,Af s' lo (g++L1 [.str w1,.str [32],.str w2]::([L1 [],L1 [.str [32]]]++y)) z1,Dj s'.col (s.st.headD 0+1) hb,Af s' lo (g++L1 [.str w1,.str [32],.str w2]::([L1 [],L1 [.str [32]]]++y)) z1,.Ao Bi _ _ 1 hv3,.A6 _ _ N.join _ _ _ J]
    . exact cert [Af s lo (sn (sn g (L1 [])) (L1 [])) hh,BD c0 35 hc,.Ao Bi _ _ 1 hv,Bz w1.length 0 hz,BS s.off lo g [] (L1 []) N.extend rfl,Di s.off lo g [] [] (wA rfl),BS s.off lo g [] (L1 []) N.append rfl,pf s.off lo (sn (sn g (L1 [])) (L1 [])) w1 h.left hwn,
       DT s.off lo g [] (L1 []) (.str w1) (wA rfl),fw s.off lo (sn (sn g (L1 [.str w1])) (L1 [])) w1 h.left hw hl,.call _ _ _ _ _ 5 e1,.A5 _ _ _ q0,Af ((s.off.on w1.length).on 1) lo (g++L1 [.str w1]::[L1 [],L1 [.str [32]]]) k1,BD c1 35 hc3,Dj _ _ hlt,
       Af ((s.off.on w1.length).on 1) lo (g++L1 [.str w1]::[L1 [],L1 [.str [32]]]) k1,BD c1 35 hc3,.Ao Bi _ _ 1 hv2,Bz w2.length 0 hz2,Dl ((s.off.on w1.length).on 1) lo g [.str w1] [L1 [],L1 [.str [32]]] N.extend rfl,H7 (((s.off.on w1.length).on 1)) lo g [.str w1] [L1 [],L1 [.str [32]]] (AZ (sn (sn g (L1 [.str w1])) (L1 [])).length) [.str [32]] HH (wA rfl),
       Dl ((s.off.on w1.length).on 1) lo g [.str w1,.str [32]] [L1 [],L1 [.str [32]]] N.append rfl,pf ((s.off.on w1.length).on 1) lo (g++L1 [.str w1,.str [32]]::[L1 [],L1 [.str [32]]]) w2 hm2 ABy,HG ((s.off.on w1.length).on 1) lo g [.str w1,.str [32]] [L1 [],L1 [.str [32]]] (.str w2) (wA rfl),
       fw ((s.off.on w1.length).on 1) lo (g++L1 [.str w1,.str [32],.str w2]::[L1 [],L1 [.str [32]]]) w2 hm2 hw2 hl2,.call _ _ _ _ _ 5 e5,.A5 _ _ _ e6,Af s' lo (g++L1 [.str w1,.str [32],.str w2]::([L1 [],L1 [.str [32]]]++y)) z1,BD c 35 z2,Dj s'.col (s.st.headD 0+1) (decide_eq_true z3),.A6 _ _ N.join _ _ _ J]
theorem sq{s1 s':Sc}{w:List Nat}{m:AV}(hs:∀d,AB PP fu (d+3) Ig [me] [] (s.hp lo g)= .ok .none (s1.hp lo g))(hp:∃y,∀d,AB PP fu (d+6) Jx [me] [] (s1.off.hp lo g)= .ok (Cf w true s1.mark m .none) (s'.hp lo (g++y)))(ht:s'.toks.length<=900):
 ∃y,∀d,AB PP fu (d+7) F5 [me] [] (s.hp lo g)= .ok .none ((s'.add (Cf w true s1.mark m .none)).hp lo (g++y)):=by
 obtain⟨y,hq⟩:=hp;exact⟨y,cert [.call _ _ _ _ _ 3 hs,.call _ _ _ _ _ 6 hq,C3 s' lo (g++y) (Cf w true s1.mark m .none) (by show s'.toks.length<1000000;exact oN ht)]⟩
theorem NN{s3:Sc}{v:AV}{h4:Hp}{c:Nat}(hp:Pre s s3)(h:s3.buf[s3.ptr]? =some c)(hc:c=119∨c=97∨c=120∨c=112)(hf:∀d,AB PP fu (d+9) F5 [me] [] (s3.hp lo g)= .ok v h4):∀d,AB PP fu (d+12) Cm [me] [] (s.hp lo g)= .ok v h4:=by
 obtain⟨s1,s2,h1,h2,h3⟩:=hp.ex;rcases hc with rfl |rfl |rfl |rfl
 all_goals exact cert [.call _ _ _ _ _ 5 (h1 lo g),.call _ _ _ _ _ 2 (h2 lo g),.call _ _ _ _ _ 3 (h3 lo g),Af s3 lo g h,Af s3 lo g h,.call _ _ _ _ _ 9 hf]
theorem sr{s3:Sc}{v:AV}{h4:Hp}(hp:Pre s s3)(h:s3.buf[s3.ptr]? =some 63){x:Nat}(h':s3.buf[s3.ptr+1]? =some x)(hx:BO x=false)(hf:∀d,AB PP fu (d+9) F5 [me] [] (s3.hp lo g)= .ok v h4):∀d,AB PP fu (d+12) Cm [me] [] (s.hp lo g)= .ok v h4:=by obtain⟨s1,s2,h1,h2,h3⟩:=hp.ex;exact cert [.call _ _ _ _ _ 5 (h1 lo g),.call _ _ _ _ _ 2 (h2 lo g),.call _ _ _ _ _ 3 (h3 lo g),Af s3 lo g h,pk s3 lo g 1 h',Ax x _ hx,Af s3 lo g h,.skip,pk s3 lo g 1 h',Mz x _ (b:=true) (congrArg not hx),.call _ _ _ _ _ 9 hf]
theorem sv{s3:Sc}{v:AV}{h4:Hp}(hp:Pre s s3)(h:s3.buf[s3.ptr]? =some 58){x:Nat}(h':s3.buf[s3.ptr+1]? =some x)(hx:BO x=false)(hf:∀d,AB PP fu (d+9) F5 [me] [] (s3.hp lo g)= .ok v h4):∀d,AB PP fu (d+12) Cm [me] [] (s.hp lo g)= .ok v h4:=by obtain⟨s1,s2,h1,h2,h3⟩:=hp.ex;exact cert [.call _ _ _ _ _ 5 (h1 lo g),.call _ _ _ _ _ 2 (h2 lo g),.call _ _ _ _ _ 3 (h3 lo g),Af s3 lo g h,pk s3 lo g 1 h',Ax x _ hx,Af s3 lo g h,.skip,pk s3 lo g 1 h',Mz x _ (b:=true) (congrArg not hx),.call _ _ _ _ _ 9 hf]
end
section
theorem C4.of{a b:Sc}(h:∀lo g,∃y,∀d,AB PP fu (d+12) Cm [me] [] (a.hp lo g)= .ok .none (b.hp lo (g++y))):C4 (run a) (run b):=fun lo g x e=> by obtain rfl:=BU.of e;obtain⟨y,hy⟩:=h lo g;exact⟨y,_,BU.run _ _ _,hy⟩
theorem C4.of0{a b:Sc}(h:∀lo g d,AB PP fu (d+12) Cm [me] [] (a.hp lo g)= .ok .none (b.hp lo g)):C4 (run a) (run b):=C4.of fun lo g=> ⟨[],by rw [wY];exact h lo g⟩
variable{bf:List Nat}{a b:Ab}{gps:List Gp}{k c j:Nat}
structure Ab.Ok(a:Ab):Prop where
 B6:a.GP
 kr:∀ky,a.key=some ky->a.ptr<=ky.ptr+100
 last:a.st.getLast? =some (-1)
 sl:a.st.length<=100
def Ab.on(a:Ab)(n:Nat):Ab:={a with ptr:=a.ptr+n,col:=a.col+n}
def Ab.push(a:Ab)(t:Tk):Ab:={a with T:=a.T++[t]}
def Ab.CJ(a:Ab)(q:Kd):Ab:=if a.st.headD 0<(a.col:Int)then{a with st:=(a.col:Int)::a.st,T:=a.T++[.two q a.pos a.pos]}else a
theorem Ko{t:Tk}(h:j<=a.T.length):(a.push t).sc bf j=(a.sc bf j).add (t.v bf):=by refine Sc.ext' rfl rfl rfl rfl ?_ rfl rfl rfl rfl;show((a.T++[t]).drop j).map (Tk.v bf)=(a.T.drop j).map (Tk.v bf)++[t.v bf];rw [yq h,w4];rfl
theorem sx{q:Kd}(h:j<=a.T.length):(a.CJ q).sc bf j=(a.sc bf j).CJ q.cls a.col:=by
 unfold Ab.CJ Sc.CJ;by_cases e:a.st.headD 0<(a.col:Int)
 . rw [if_pos e,if_pos (show(a.sc bf j).st.headD 0<(a.col:Int)from e)];refine Sc.ext' rfl rfl rfl rfl ?_ rfl rfl rfl rfl;show((a.T++[_]).drop j).map (Tk.v bf)=(a.T.drop j).map (Tk.v bf)++[_];rw [yq h,w4];rfl
 . rw [if_neg e,if_neg (show¬(a.sc bf j).st.headD 0<(a.col:Int)from e)]
theorem sy{q:Kd}:a.T.length<=(a.CJ q).T.length:=by
 unfold Ab.CJ;by_cases e:a.st.headD 0<(a.col:Int)
 . rw [if_pos e];show _<=(a.T++[_]).length;rw [v9];exact H6
 . rw [if_neg e];exact wW _
theorem HI{x:Int}:a.T.length<=(a.uw x).T.length:=by show _<=(a.T++_).length;rw [v9];exact H6
theorem Kp{x:List Tk}{ky:Option Ky}(ha:a.GP)(hT:b.T=a.T++x)(hx:x≠[])(hk:b.key=ky)(hy:∀q,ky=some q->b.T.length=q.tn+1/\q.line=b.line/\b.ptr<=q.ptr+1024/\a.T.length<=q.tn)
 (hf:∃q,C4 (run (a.sc bf a.sure)) q/\(q=run (b.sc bf a.sure)∨b.key=none/\Not q (run (b.sc bf a.sure)))):Fe bf a b:=by
 have hs:=GQ ha;have hl:b.T.length=a.T.length+x.length:=by rw [hT,v9]
 have hx0:0<x.length:=zv.mpr hx;refine⟨?_,by exact oO hs hl hx0,?_,?_,?_⟩
 . obtain⟨q,h1,h2⟩:=hf;exact⟨fun _ _=> q,h1,h2⟩
 . unfold Ab.sure at hs⊢;rw [hk];cases ky with
   |none=> show a.sure<=b.T.length;unfold Ab.sure;exact oP hs hl
   |some q=> have:=(hy q rfl).2.2.2;show a.sure<=q.tn;unfold Ab.sure;exact oQ hs this
 . rw [hT,zc hs]
 . intro q e;have:=hy q (hk.symm.trans e);exact⟨this.1,this.2.1,this.2.2.1⟩
theorem Ab.Ok.two(h:a.Ok):a.T.length<=a.sure+1:=by
 unfold Ab.sure;cases hq:a.key with
 |none=> exact yU _
 |some ky=> have:=(h.B6 ky hq).1;show _<=ky.tn+1;exact oR this
theorem Ab.Ok.pre(h:a.Ok)(G:C5 bf a gps k c)(hr:gps≠[]->∀ky,a.key=some ky->ky.req=false):Pre (a.sc bf a.sure) (((a.gap gps k).uw (a.gap gps k).col).sc bf a.sure):=
 sI G (GQ h.B6) h.two h.last h.sl fun ky e=> ⟨(h.B6 ky e).2.1,by have:=h.kr ky e;have:=G.len;omega,fun hg=> hr hg ky e⟩
theorem NO(col:Int):∀st:List Int,(AW col st).2.length<=st.length/\(st≠[]->(AW col st).2≠[])
 | []=> ⟨wW _,id⟩
 | [a]=> ⟨wW _,id⟩
 |a::b::r=> by
  by_cases q:a>col
  . rw [show AW col (a::b::r)=((AW col (b::r)).1+1,(AW col (b::r)).2)from if_pos q];have:=NO col (b::r);exact⟨zF this.1,fun _=> this.2 nofun⟩
  . rw [show AW col (a::b::r)=(0,a::b::r)from if_neg q];exact⟨wW _,id⟩
theorem Ab.Ok.fit(h:a.Ok){x:Int}:(((a.gap gps k).uw x).sc bf a.sure).H4:=by
 have hn:a.st≠[]:=by have:=h.last;intro e;rw [e]at this;cases this
 have h2:=h.two;have h3:=M9 x a.st;refine⟨(NO x a.st).2 hn,wC (NO x a.st).1 (wC h.sl (by decide)),?_⟩;show(((a.T++_).drop a.sure).map (Tk.v bf)).length<=900;rw [wo,xn,v9,Mk.be,wc];have h4:=h.sl;show a.T.length+(AW x a.st).1 - a.sure<=900;exact oS h2 h3 h4
inductive Ln where |en |ky |va
def Ln.ch:Ln->Nat
 | .en=> 45
 | .ky=> 63
 | .va=> 58
def Ln.bk:Ln->Kd
 | .en=>.bs
 |_=>.bm
def Ln.tk:Ln->Kd
 | .en=>.en
 | .ky=>.ky
 | .va=>.va
def Ab.ln(a:Ab)(l:Ln):Ab:=((a.CJ l.bk).on 1).push (.two l.tk a.pos (a.on 1).pos)
theorem Yr{s:Sc}{x:Nat}(h:s.buf[s.ptr]? =some 45)(h':s.buf[s.ptr+1]? =some x)(hx:x≠45):∀lo g d,AB PP fu (d+4) Ha [me] [] (s.hp lo g)= .ok .none (s.hp lo g):=fun lo g=> by
 by_cases hc:s.col=0
 . refine nW hc (JI (k:=0) h) ?_;obtain⟨u,hu⟩:=Qc (n:=2) h;obtain⟨u',hu'⟩:=Qc (s:=s.on 1) (n:=1) h';have e:u=(s.on 1).pre 2:=by
    have h0:s.buf.drop s.ptr=45::s.buf.drop (s.ptr+1):=by obtain⟨hl,he⟩:=w6.mp h;rw [w9 hl,he]
    have:45::u=45::(s.on 1).pre 2:=by rw [<-hu];show(s.buf.drop s.ptr).take 3=_;rw [h0];rfl
    exact(za.inj this).2
   rw [hu,e,hu'];show(45==45&&(x==45&&u'==[45]))=false;rw [beq_false_of_ne hx];rfl
 . exact nV hc
theorem Ys{x:Nat}(h:BO x=true):x≠45:=fun e=> by rw [e]at h;cases h
theorem s7{l:Ln}{x:Nat}(h:a.Ok)(G:C5 bf a gps k l.ch)(hx:bf[(a.gap gps k).ptr+1]? =some x)(hb:BO x=true)(hal:(a.gap gps k).al=true)(hk:(a.gap gps k).key=none)(hr:gps≠[]->∀ky,a.key=some ky->ky.req=false):
 Fe bf a (((a.gap gps k).uw (a.gap gps k).col).ln l):=by
 have hP:=h.pre G hr;have hF:=h.fit (bf:=bf) (gps:=gps) (k:=k) (x:=(a.gap gps k).col);have hs:a.sure<=((a.gap gps k).uw (a.gap gps k).col).T.length:=wC (GQ h.B6) (HI (a:=a.gap gps k));have hh:(((a.gap gps k).uw (a.gap gps k).col).sc bf a.sure).buf[(((a.gap gps k).uw (a.gap gps k).col).sc bf a.sure).ptr]? =some l.ch:=by have:=G.has.drop.rep.head;exact this
 have e:(((a.gap gps k).uw (a.gap gps k).col).ln l).sc bf a.sure=((((((a.gap gps k).uw (a.gap gps k).col).sc bf a.sure).CJ l.bk.cls ((((a.gap gps k).uw (a.gap gps k).col).sc bf a.sure).col)).on 1).add (Ar l.tk.cls (((a.gap gps k).uw (a.gap gps k).col).sc bf a.sure).mark ((((a.gap gps k).uw (a.gap gps k).col).sc bf a.sure).on 1).mark)):=by refine(Ko (a:=(((a.gap gps k).uw (a.gap gps k).col).CJ l.bk).on 1) (wC hs (sy (a:=(a.gap gps k).uw (a.gap gps k).col)))).trans ?_;show Sc.add (Sc.on ((((a.gap gps k).uw (a.gap gps k).col).CJ l.bk).sc bf a.sure) 1) _=_;rw [sx hs];rfl
 have hTx:∃y,(((a.gap gps k).uw (a.gap gps k).col).ln l).T=a.T++y/\y≠[]:=by
  show∃y,(((a.gap gps k).uw (a.gap gps k).col).CJ l.bk).T++[_]=_/\_;unfold Ab.CJ;by_cases e:((a.gap gps k).uw (a.gap gps k).col).st.headD 0<(((a.gap gps k).uw (a.gap gps k).col).col:Int)
  . rw [if_pos e];exact⟨_,by show a.T++_++_++_=_;rw [wF,wF],by simp⟩
  . rw [if_neg e];exact⟨_,by show a.T++_++_=_;rw [wF],by simp⟩
 obtain⟨y,hT,hy⟩:=hTx;refine Kp h.B6 hT hy (ky:=none) ?_ nofun ⟨_,?_,.inl rfl⟩
 . show(((a.gap gps k).uw (a.gap gps k).col).CJ l.bk).key=none;unfold Ab.CJ;by_cases e:((a.gap gps k).uw (a.gap gps k).col).st.headD 0<(((a.gap gps k).uw (a.gap gps k).col).col:Int)
   . rw [if_pos e];exact hk
   . rw [if_neg e];exact hk
 . rw [e];refine C4.of0 fun lo g=> ?_;cases l with
   |en=> exact nh hP hh (Yr hh hx (Ys hb)) hx hb fun d=> nN hF hal hk hh (d+6)
   |ky=> exact ni hP hh hx hb fun d=> nO hF hal hk hh (d+6)
   |va=> exact Xm hP hh hx hb fun d=> nP hF hal hk hh (d+6)
end
section
variable{s:Sc}{lo g:List AObj}{bf:List Nat}{a b:Ab}{gps:List Gp}{k c j:Nat}
theorem s8{t:AV}{r:List AV}{k:Ky}(h:s.toks=t::r)(hk:s.key=some k)(h1:k.line≠s.line)(h2:k.req=false):Not (run s) (run {s with key:=none}):=fun lo g x e=> by obtain rfl:=BU.of e;have hs:=XW (lo:=lo) (g:=g) hk h1 h2;obtain⟨bf,p,l,c,ts,tk,st,al,ky⟩:=s;obtain rfl:ts=t::r:=h;obtain rfl:ky=some k:=hk;exact⟨_,.none,BU.run _ _ _,.inl rfl,cert (k:=3) [.call _ _ _ _ _ 2 hs]⟩
def HJ:List (List Nat):=[[119],[45,122],[63,110],[58,109],[97,32,98],[120,58,121],[112,35,113]]
theorem Yt{w:List Nat}(h:w∈HJ):w=[119]∨w=[45,122]∨w=[63,110]∨w=[58,109]∨w=[97,32,98]∨w=[120,58,121]∨w=[112,35,113]:=by unfold HJ at h;simpa using h
theorem s9{w:List Nat}{s':Sc}{f:Bool}(hw:w∈HJ)(h:AJ s.buf s.ptr w)(he:Eu s.buf (s.ptr+w.length))(hc:s.st.headD 0<=(s.col:Int))(hs:Bt (s.off.on w.length) s' f)(ht:H8 f s.st s')(hb:s'.buf=s.buf):
 ∃y,∀d,AB PP fu (d+6) Jx [me] [] (s.hp lo g)= .ok (Cf w true s.mark (s.on w.length).mark .none) (s'.hp lo (g++y)):=by
 rcases Yt hw with rfl |rfl |rfl |rfl |rfl |rfl |rfl
 . exact JQ rfl h rfl (fun i hi=> match i,hi with |0,_=> ⟨_,h 0 _ rfl,rfl,nofun⟩) he rfl (by decide) hs ht hb
 . exact JQ rfl h rfl (fun i hi=> match i,hi with |0,_=> ⟨_,h 0 _ rfl,rfl,nofun⟩ |1,_=> ⟨_,h 1 _ rfl,rfl,nofun⟩) he rfl (by decide) hs ht hb
 . exact JQ rfl h rfl (fun i hi=> match i,hi with |0,_=> ⟨_,h 0 _ rfl,rfl,nofun⟩ |1,_=> ⟨_,h 1 _ rfl,rfl,nofun⟩) he rfl (by decide) hs ht hb
 . exact JQ rfl h rfl (fun i hi=> match i,hi with |0,_=> ⟨_,h 0 _ rfl,rfl,fun _=> ⟨_,h 1 _ rfl,rfl⟩⟩ |1,_=> ⟨_,h 1 _ rfl,rfl,nofun⟩) he rfl (by decide) hs ht hb
 . have h2:AJ s.buf (s.ptr+2) [98]:=h.tail.tail;have hs':Bt ((s.off.on (1+1)).on 1) s' f:=by rw [Sc.GL];exact hs
   exact sj (w1:=[97]) (w2:=[98]) rfl rfl h rfl rfl (fun i hi=> match i,hi with |0,_=> ⟨_,h 0 _ rfl,rfl,nofun⟩) (fun i hi=> match i,hi with |0,_=> ⟨_,h2 0 _ rfl,rfl,nofun⟩) he rfl rfl rfl rfl (by decide) (by decide) hc hs' ht
 . exact JQ rfl h rfl (fun i hi=> match i,hi with |0,_=> ⟨_,h 0 _ rfl,rfl,nofun⟩ |1,_=> ⟨_,h 1 _ rfl,rfl,fun _=> ⟨_,h 2 _ rfl,rfl⟩⟩ |2,_=> ⟨_,h 2 _ rfl,rfl,nofun⟩) he rfl (by decide) hs ht hb
 . exact JQ rfl h rfl (fun i hi=> match i,hi with |0,_=> ⟨_,h 0 _ rfl,rfl,nofun⟩ |1,_=> ⟨_,h 1 _ rfl,rfl,nofun⟩ |2,_=> ⟨_,h 2 _ rfl,rfl,nofun⟩) he rfl (by decide) hs ht hb
theorem tB{s3:Sc}{v:AV}{h4:Hp}{w:List Nat}(hw:w∈HJ)(hp:Pre s s3)(h:AJ s3.buf s3.ptr w)(hf:∀d,AB PP fu (d+9) F5 [me] [] (s3.hp lo g)= .ok v h4):∀d,AB PP fu (d+12) Cm [me] [] (s.hp lo g)= .ok v h4:=by
 rcases Yt hw with rfl |rfl |rfl |rfl |rfl |rfl |rfl
 . exact NN hp h.head (by decide) hf
 . exact nk hp h.head (Yr h.head h.tail.head (by decide)) h.tail.head rfl hf
 . exact sr hp h.head h.tail.head rfl hf
 . exact sv hp h.head h.tail.head rfl hf
 . exact NN hp h.head (by decide) hf
 . exact NN hp h.head (by decide) hf
 . exact NN hp h.head (by decide) hf
def Ab.save(a:Ab):Ab:=match a.al with
 |true=> {a with key:=some ⟨a.T.length,a.st.headD 0==(a.col:Int),a.ptr,a.line,a.col⟩}
 |false=> a
def Ab.off(a:Ab):Ab:={a with al:=false}
theorem Yu(hk:a.key=none)(hj:j<=a.T.length):∀d,AB PP fu (d+3) Ig [me] [] ((a.sc bf j).hp lo g)= .ok .none ((a.save.sc bf j).hp lo g):=by
 obtain⟨p,l,c,st,al,ky,T⟩:=a;obtain rfl:ky=none:=hk;cases al with
 |false=> exact mc rfl
 |true=>
  have e:((⟨p,l,c,st,true,none,T⟩:Ab).sc bf j).XX=⟨T.length,st.headD 0==(c:Int),p,l,c⟩:=by show Ky.mk (j+((T.drop j).map (Tk.v bf)).length) _ _ _ _=_;rw [wo,xn,Nat.add_sub_cancel' hj];rfl
  have:=mh (lo:=lo) (g:=g) (s:=(⟨p,l,c,st,true,none,T⟩:Ab).sc bf j) rfl rfl;rw [e]at this;exact this
def Ab.word(a:Ab)(w:List Nat):Tk:=.Kh w true a.pos (a.on w.length).pos .none
theorem Yv{w:List Nat}{b:Ab}{f:Bool}(hw:w∈HJ)(h:a.Ok)(G:C5 bf a gps k c)(hc:w.head? =some c)(hk:(a.gap gps k).key=none)(hr:gps≠[]->∀ky,a.key=some ky->ky.req=false)
 (hH:AJ bf (a.gap gps k).ptr w) (he:Eu bf ((a.gap gps k).ptr+w.length)) (ABp:(AW (a.gap gps k).col a.st).2.headD 0<=((a.gap gps k).col:Int))
 (hs:Bt (((((a.gap gps k).uw (a.gap gps k).col).save.off).on w.length).sc bf a.sure) (b.sc bf a.sure) f) (ht:H8 f (AW (a.gap gps k).col a.st).2 (b.sc bf a.sure)) (hb:b.T=((a.gap gps k).uw (a.gap gps k).col).T):
 C4 (run (a.sc bf a.sure)) (run ((b.push (((a.gap gps k).uw (a.gap gps k).col).word w)).sc bf a.sure)):=by
 have hP:=h.pre G hr;have hF:=h.fit (bf:=bf) (gps:=gps) (k:=k) (x:=(a.gap gps k).col);have hsu:a.sure<=((a.gap gps k).uw (a.gap gps k).col).T.length:=wC (GQ h.B6) (HI (a:=a.gap gps k));have hse:((a.gap gps k).uw (a.gap gps k).col).save.st=(AW (a.gap gps k).col a.st).2/\((a.gap gps k).uw (a.gap gps k).col).save.col=(a.gap gps k).col/\((a.gap gps k).uw (a.gap gps k).col).save.ptr=(a.gap gps k).ptr/\((a.gap gps k).uw (a.gap gps k).col).save.line=(a.gap gps k).line:=by unfold Ab.save;cases((a.gap gps k).uw (a.gap gps k).col).al<;>exact⟨rfl,rfl,rfl,rfl⟩
 obtain⟨e1,e2,e3,e4⟩:=hse;rw [Ko (hb▸hsu)];refine C4.of fun lo g=> ?_;have hsv:=Yu (bf:=bf) (lo:=lo) (g:=g) (a:=(a.gap gps k).uw (a.gap gps k).col) hk hsu;generalize((a.gap gps k).uw (a.gap gps k).col).save=z at hsv hs e1 e2 e3 e4;have hsc:=s9 (s:=z.off.sc bf a.sure) (s':=b.sc bf a.sure) (lo:=lo) (g:=g) (f:=f) hw (by show AJ bf z.ptr w;rw [e3];exact hH) (by show Eu bf (z.ptr+w.length);rw [e3];exact he) (by show z.st.headD 0<=(z.col:Int);rw [e1,e2];exact ABp) hs (by show H8 f z.st _;rw [e1];exact ht) rfl;have em:(((a.gap gps k).uw (a.gap gps k).col).word w).v bf=Cf w true (z.sc bf a.sure).mark ((z.off.sc bf a.sure).on w.length).mark .none:=by show Cf w true (AY bf (a.gap gps k).ptr (a.gap gps k).line (a.gap gps k).col) (AY bf ((a.gap gps k).ptr+w.length) (a.gap gps k).line ((a.gap gps k).col+w.length)) .none=Cf w true (AY bf z.ptr z.line z.col) (AY bf (z.ptr+w.length) z.line (z.col+w.length)) .none;rw [e2,e3,e4]
 rw [em];obtain⟨y,hy⟩:=sq (m:=((z.off.sc bf a.sure).on w.length).mark) hsv hsc (by have:=hF.tl;show((b.T.drop a.sure).map (Tk.v bf)).length<=900;rw [hb];exact this)
 exact⟨y,tB hw hP hH fun d=> hy (d+2)⟩
end
section
variable{s:Sc}{lo g:List AObj}{bf:List Nat}{a b:Ab}{gps:List Gp}{k c j:Nat}
def Ab.here(a:Ab)(gps:List Gp)(k:Nat):Ab:=(a.gap gps k).uw (a.gap gps k).col
def Ab.past(a:Ab)(n:Nat):Ab:=a.save.off.on n
theorem Yw(a:Ab):a.save.T=a.T/\a.save.st=a.st/\a.save.ptr=a.ptr/\a.save.line=a.line/\a.save.col=a.col:=by unfold Ab.save;cases a.al<;>exact⟨rfl,rfl,rfl,rfl,rfl⟩
theorem NP{a:Ab}(hk:a.key=none):a.save.key=none∨a.save.key=some ⟨a.T.length,a.st.headD 0==(a.col:Int),a.ptr,a.line,a.col⟩:=by
 unfold Ab.save;cases a.al
 . exact .inl hk
 . exact .inr rfl
structure Q7(bf:List Nat)(a:Ab)(gps:List Gp)(k c:Nat)(w:List Nat):Prop where
 ok:a.Ok
 G:C5 bf a gps k c
 hd:w.head? =some c
 key:(a.gap gps k).key=none
 req:gps≠[]->∀ky,a.key=some ky->ky.req=false
 has:AJ bf (a.gap gps k).ptr w
 col:(a.here gps k).st.headD 0<=((a.gap gps k).col:Int)
theorem Kq(h:a.Ok):∃x,(a.here gps k).T=a.T++x:=⟨_,rfl⟩
theorem Q8{w:List Nat}{f:Bool}(hw:w∈HJ)(W:Q7 bf a gps k c w)(he:Eu bf ((a.gap gps k).ptr+w.length))(hs:Bt (((a.here gps k).past w.length).sc bf a.sure) (b.sc bf a.sure) f)(ht:H8 f (a.here gps k).st (b.sc bf a.sure))
 (hb:b.T=(a.here gps k).T) (hk:b.key=(a.here gps k).save.key) (hl:(a.here gps k).line<b.line) (hr:((a.here gps k).st.headD 0==((a.here gps k).col:Int))=false):Fe bf a {b.push ((a.here gps k).word w)with key:=none}:=by
 have hF:=Yv (b:=b) hw W.ok W.G W.hd W.key W.req W.has he W.col hs ht hb;have hsu:a.sure<=b.T.length:=by rw [hb];exact wC (GQ W.ok.B6) (HI (a:=a.gap gps k))
 obtain⟨x,hx⟩:=Kq (gps:=gps) (k:=k) W.ok;refine Kp (x:=x++[(a.here gps k).word w]) (ky:=none) W.ok.B6 (by show b.T++_=_;rw [hb,hx,wF]) (by simp) rfl nofun ⟨_,hF,?_⟩;rcases NP (a:=a.here gps k) W.key with e |e
 . left
   rw [show({b.push ((a.here gps k).word w)with key:=none}:Ab)=b.push ((a.here gps k).word w)from by rw [show b.push ((a.here gps k).word w)={b.push ((a.here gps k).word w)with key:=b.key}from rfl,hk,e]];rfl
 . right
   refine⟨rfl,?_⟩;obtain⟨t,r,et⟩:∃t r,((b.push ((a.here gps k).word w)).sc bf a.sure).toks=t::r:=by
    have:((b.push ((a.here gps k).word w)).sc bf a.sure).toks≠[]:=by show((b.T++[_]).drop a.sure).map _≠[];rw [yq hsu];simp
    exact AAO this
   exact s8 et (hk.trans e) (wt hl) hr
theorem Q9{w:List Nat}{f:Bool}{m:Nat}(hw:w∈HJ)(W:Q7 bf a gps k c w)(he:Eu bf ((a.gap gps k).ptr+w.length))(hs:Bt (((a.here gps k).past w.length).sc bf a.sure) ((((a.here gps k).past w.length).on m).sc bf a.sure) f)(ht:H8 f (a.here gps k).st ((((a.here gps k).past w.length).on m).sc bf a.sure))
 (hm:w.length+m<=90):Fe bf a ((((a.here gps k).past w.length).on m).push ((a.here gps k).word w)):=by
 obtain⟨s1,s2,s3,s4,s5⟩:=Yw (a.here gps k);have hF:=Yv (b:=((a.here gps k).past w.length).on m) hw W.ok W.G W.hd W.key W.req W.has he W.col hs ht s1;obtain⟨x,hx⟩:=Kq (gps:=gps) (k:=k) W.ok;refine Kp (x:=x++[(a.here gps k).word w]) (ky:=(a.here gps k).save.key) W.ok.B6 (by show(a.here gps k).save.T++_=_;rw [s1,hx,wF]) (by simp) rfl (fun q e=> ?_) ⟨_,hF,.inl rfl⟩;rcases NP (a:=a.here gps k) W.key with z |z
 . rw [z]at e;cases e
 . rw [z]at e;cases e;refine⟨?_,?_,?_,?_⟩
   . show((a.here gps k).save.T++[_]).length=_;rw [s1,v9];rfl
   . show _=(a.here gps k).save.line;rw [s4]
   . show(a.here gps k).save.ptr+w.length+m<=(a.here gps k).ptr+1024;rw [s3];exact oT hm
   . show a.T.length<=(a.here gps k).T.length;rw [hx,v9];exact H6
end
section
variable{s:Sc}{lo g:List AObj}{bf:List Nat}{a b:Ab}{gps:List Gp}{k c j:Nat}
theorem RA{B:Int}:∀{st:List Int},st.getLast? =some (-1)->(AW B st).2.getLast? =some (-1)
 | [],h=> h
 | [a],h=> h
 |a::b::r,h=> by
  by_cases q:a>B
  . rw [show L4.AW B (a::b::r)=((L4.AW B (b::r)).1+1,(L4.AW B (b::r)).2)from if_pos q];exact RA (st:=b::r) (by rw [zg]at h;exact h)
  . rw [show L4.AW B (a::b::r)=(0,a::b::r)from if_neg q];exact h
def Ab.quote(a:Ab):Tk:=.Kh [117] false a.pos (a.on 3).pos (.str [39])
theorem RB{x:Nat}(h:a.Ok)(G:C5 bf a gps k 39)(hk:(a.gap gps k).key=none)(hr:gps≠[]->∀ky,a.key=some ky->ky.req=false)(hH:AJ bf (a.gap gps k).ptr [39,117,39,x])(hx:(x==39)=false):
 Fe bf a (((a.here gps k).past 3).push (a.here gps k).quote):=by
 have hP:=h.pre G hr;have hF:=h.fit (bf:=bf) (gps:=gps) (k:=k) (x:=(a.gap gps k).col);have hsu:a.sure<=(a.here gps k).T.length:=wC (GQ h.B6) (HI (a:=a.gap gps k));obtain⟨s1,s2,s3,s4,s5⟩:=Yw (a.here gps k);obtain⟨y,hy⟩:=Kq (gps:=gps) (k:=k) h;refine Kp (x:=y++[(a.here gps k).quote]) (ky:=(a.here gps k).save.key) h.B6 (by show(a.here gps k).save.T++_=_;rw [s1,hy,wF]) (by simp) rfl (fun q e=> ?_) ⟨_,?_,.inl rfl⟩
 . rcases NP (a:=a.here gps k) hk with z |z
   . rw [z]at e;cases e
   . rw [z]at e;cases e;refine⟨?_,?_,?_,?_⟩
     . show((a.here gps k).save.T++[_]).length=_;rw [s1,v9];rfl
     . show _=(a.here gps k).save.line;rw [s4]
     . show(a.here gps k).save.ptr+3<=(a.here gps k).ptr+1024;rw [s3];exact oU
     . show a.T.length<=(a.here gps k).T.length;rw [hy,v9];exact H6
 . rw [Ko (by show a.sure<=(a.here gps k).save.T.length;rw [s1];exact hsu)];refine C4.of fun lo g=> ?_;have hsv:=Yu (bf:=bf) (lo:=lo) (g:=g) (a:=a.here gps k) hk hsu;have hl:((a.here gps k).save.sc bf a.sure).toks.length<=900:=by
    show(((a.here gps k).save.T.drop a.sure).map (Tk.v bf)).length<=900;rw [s1];exact hF.tl
   obtain⟨y,hq⟩:=nU (s:=(a.here gps k).sc bf a.sure) (s1:=(a.here gps k).save.sc bf a.sure) (lo:=lo) (g:=g) (c:=117) (x:=x) hsv ⟨s3,rfl,hl⟩ hH rfl rfl hx;have em:((a.here gps k).quote).v bf=Cf [117] false ((a.here gps k).save.sc bf a.sure).mark (((a.here gps k).save.sc bf a.sure).on 3).mark (.str [39]):=by show Cf [117] false (AY bf (a.here gps k).ptr (a.here gps k).line (a.here gps k).col) (AY bf ((a.here gps k).ptr+3) (a.here gps k).line ((a.here gps k).col+3)) (.str [39])=Cf [117] false (AY bf (a.here gps k).save.ptr (a.here gps k).save.line (a.here gps k).save.col) (AY bf ((a.here gps k).save.ptr+3) (a.here gps k).save.line ((a.here gps k).save.col+3)) (.str [39]);rw [s3,s4,s5]
   rw [em];exact⟨y,nj hP hH.head fun d=> hq d⟩
theorem tC{B:Int}:∀{st:List Int},st≠[]->st.headD 0<=B->AW B st=(0,st)
 | []=>@fun h _=> absurd rfl h
 | [a]=>@fun _ _=> rfl
 |a::b::r=>@fun _ h=> if_neg (by have h:a<=B:=h;exact Nb)
theorem Yx(a:Ab):a.gap [] 0=a:=by obtain⟨p,l,c,st,al,ky,T⟩:=a;rfl
theorem Yy{st:List Int}(h:st.getLast? =some (-1)):st≠[]:=by intro e;rw [e]at h;cases h
theorem RC{x:Int}(hn:a.st≠[])(h:a.st.headD 0<=x):a.uw x=a:=by unfold Ab.uw;rw [tC hn h];show({a with st:=a.st,T:=a.T++[]}:Ab)=a;rw [wY]
def Ab.keyed(a:Ab)(ky:Ky):Ab:=
 ⟨a.ptr+1,a.line,a.col+1,if a.st.headD 0<(ky.col:Int)then(ky.col:Int)::a.st else a.st,false,none,
   a.T.take ky.tn++((if a.st.headD 0<(ky.col:Int)then [.two .bm ⟨ky.ptr,ky.line,ky.col⟩ ⟨ky.ptr,ky.line,ky.col⟩]else [])++(.two .ky ⟨ky.ptr,ky.line,ky.col⟩ ⟨ky.ptr,ky.line,ky.col⟩::(a.T.drop ky.tn++[.two .va a.pos (a.on 1).pos])))⟩
theorem tD{ky:Ky}{x:Nat}(h:a.Ok)(hk:a.key=some ky)(hc:a.st.headD 0<=(a.col:Int))(h1:bf[a.ptr]? =some 58)(h2:bf[a.ptr+1]? =some x)(hb:BO x=true)(Ae:bf.all (fun c=> c !=65279)=true):Fe bf a (a.keyed ky):=by
 have hs:a.sure=ky.tn:=by unfold Ab.sure;rw [hk]
 obtain⟨k1,k2,k3⟩:=h.B6 ky hk;have hn:=Yy h.last;have G:C5 bf a [] 0 58:=⟨fun i c e=> by
  match i,e with
  |0,e=> cases e;exact h1,rfl,wN _,rfl,rfl,rfl,Ae⟩
 have hP:=h.pre G (fun e=> absurd rfl e);rw [Yx,RC hn hc]at hP;have hF:=h.fit (bf:=bf) (gps:=[]) (k:=0) (x:=a.col);rw [Yx,RC hn hc]at hF;obtain⟨t,ht⟩:∃t,a.T[a.sure]? =some t:=⟨a.T[a.sure]'(by exact oV hs k1),xG _⟩;have htk:=HD (bf:=bf) ht;have hdr:a.T.drop a.sure=[t]:=by obtain⟨hl,he⟩:=w6.mp ht;rw [w9 hl,he,xa (by exact oW hs k1)]
 have ADv:(a.sc bf a.sure).toks=[t.v bf]:=by show(a.T.drop a.sure).map _=_;rw [hdr];rfl
 have hlt:(a.T.take ky.tn).length=ky.tn:=by rw [List.length_take];omega
 have e:(a.keyed ky).sc bf a.sure=(a.sc bf a.sure).keyed ky (t.v bf):=by
  unfold Sc.keyed Ab.keyed;dsimp only;by_cases q:a.st.headD 0<(ky.col:Int)
  . rw [if_pos q,if_pos q,if_pos (show(a.sc bf a.sure).st.headD 0<(ky.col:Int)from q)];refine Sc.ext' rfl rfl rfl rfl ?_ rfl rfl rfl rfl;show List.map (Tk.v bf) (List.drop a.sure (a.T.take ky.tn++_))=_;rw [hs,List.drop_append,xa (by exact Xu hlt),hlt,Nat.sub_self,<-hs,hdr];rfl
  . rw [if_neg q,if_neg q,if_neg (show¬(a.sc bf a.sure).st.headD 0<(ky.col:Int)from q)];refine Sc.ext' rfl rfl rfl rfl ?_ rfl rfl rfl rfl;show List.map (Tk.v bf) (List.drop a.sure (a.T.take ky.tn++_))=_;rw [hs,List.drop_append,xa (by exact Xu hlt),hlt,Nat.sub_self,<-hs,hdr];rfl
 refine⟨⟨fun b i=> run (b.sc bf i),?_,.inl rfl⟩,?_,?_,?_,fun q z=> by cases z⟩
 . show C4 _ (run ((a.keyed ky).sc bf a.sure));rw [e];exact C4.of0 fun lo g=> Xm hP h1 h2 hb fun d=> nQ hF hk ADv hs.symm h1 (d+6)
 . show a.sure<(a.T.take ky.tn++(_++(_::_))).length;rw [v9,v9,xd,hlt];exact oY hs
 . show a.sure<=(a.T.take ky.tn++(_++(_::_))).length;rw [v9,hlt];exact oZ hs
 . show(a.T.take ky.tn++_).take a.sure=_;rw [hs,zc (by exact og hlt),List.take_take,Nat.min_self]
def Ab.H5(a:Ab):Ab:={a.uw (-1)with al:=false,key:=none}
def Ab.marked(a:Ab)(q:Kd):Ab:=(a.H5.on 3).push (.two q a.pos (a.on 3).pos)
theorem tE{q:Kd}(h:j<=a.T.length):(a.marked q).sc bf j=(a.sc bf j).marked q.cls:=by refine(Ko (a:=a.H5.on 3) (by exact wC h (HI (a:=a)))).trans ?_;have:=Q4 (bf:=bf) (x:= -1) h;show Sc.add (Sc.on {(a.uw (-1)).sc bf j with allow:=false,key:=none} 3) _=_;rw [this];rfl
theorem tF{q:Kd}{d x:Nat}(hq:q= .ds/\d=45∨q= .de/\d=46)(h:a.Ok)(G:C5 bf a gps k d)(hk:(a.gap gps k).key=none)(hr:gps≠[]->∀ky,a.key=some ky->ky.req=false)(hH:AJ bf (a.gap gps k).ptr [d,d,d,x])(hx:BO x=true)(h0:(a.gap gps k).col=0):
 Fe bf a ((a.here gps k).marked q):=by
 have hP:=h.pre G hr;have hF:=h.fit (bf:=bf) (gps:=gps) (k:=k) (x:=(a.gap gps k).col);have hsu:a.sure<=(a.here gps k).T.length:=wC (GQ h.B6) (HI (a:=a.gap gps k));obtain⟨y,hy⟩:=Kq (gps:=gps) (k:=k) h;have ACh:low (-1) ((a.here gps k).sc bf a.sure).st:=⟨-1,RA h.last,xP _⟩;refine Kp (x:=(y++(a.here gps k).pos.be (AW (-1) (a.here gps k).st).1)++[.two q (a.here gps k).pos ((a.here gps k).on 3).pos]) (ky:=none) h.B6 (by show((a.here gps k).T++_)++[_]=_;rw [hy];simp only [wF]) (by simp) rfl nofun ⟨_,?_,.inl rfl⟩
 rw [tE hsu];refine C4.of0 fun lo g=> ?_;rcases hq with⟨rfl,rfl⟩ |⟨rfl,rfl⟩
 . exact nf hP hH.head (fun lo g d=> nX (b:=true) h0 hH hx d) fun d=> nR hF ACh hk (hH.left (u:=[45,45,45]) (w:=[x])) (d+4)
 . exact ng hP hH.head (fun lo g d=> nY (b:=true) h0 hH hx d) fun d=> nS hF ACh hk (hH.left (u:=[46,46,46]) (w:=[x])) (d+4)
def Ab.fin(a:Ab):Ab:=a.H5.push (.two .se a.pos a.pos)
theorem tG(h:a.Ok)(G:C5 bf a gps k 0)(hr:∀ky,a.key=some ky->ky.req=false):YX bf a (a.here gps k).fin:=by
 have hP:=h.pre G fun _=> hr;have hF:=h.fit (bf:=bf) (gps:=gps) (k:=k) (x:=(a.gap gps k).col);have hsu:a.sure<=(a.here gps k).T.length:=wC (GQ h.B6) (HI (a:=a.gap gps k));obtain⟨y,hy⟩:=Kq (gps:=gps) (k:=k) h;have ACh:low (-1) ((a.here gps k).sc bf a.sure).st:=⟨-1,RA h.last,xP _⟩;have hz:bf[(a.gap gps k).ptr]? =some 0:=by have:=G.has.drop.rep.head;exact this
 have e:(a.here gps k).fin.sc bf a.sure=Sc.add (Sc.off {((a.here gps k).sc bf a.sure).AW (-1)with key:=none}) (NA ({((a.here gps k).sc bf a.sure).AW (-1)with key:=none}:Sc).mark):=by refine(Ko (a:=(a.here gps k).H5) (by exact wC hsu (HI (a:=a.here gps k)))).trans ?_;have:=Q4 (bf:=bf) (x:= -1) hsu;show Sc.add {(((a.here gps k).uw (-1)).sc bf a.sure)with allow:=false,key:=none} _=_;rw [this];rfl
 have hul:=M9 (-1) (a.here gps k).st;have hsl:(a.here gps k).st.length<=100:=wC (NO (a.gap gps k).col a.st).1 h.sl;have htl:=hF.tl;refine⟨?_,?_,?_⟩
 . rw [e];intro lo g x ex;obtain rfl:=BU.of ex;refine⟨[.Ap []],_,⟨AZ g.length,rfl,nofun⟩,?_⟩;have hun:=Mu (s:=(a.here gps k).sc bf a.sure) (lo:=lo) (g:=g) ACh (by
    show((a.here gps k).sc bf a.sure).toks.length+(a.here gps k).st.length<=2000;have:((a.here gps k).sc bf a.sure).toks.length<=900:=htl;exact oj hsl this)
   refine nZ hP hz fun d=> nu (u1:={((a.here gps k).sc bf a.sure).AW (-1)with key:=none}) hun ?_ ?_ (d+5)
   . cases hq:(a.gap gps k).key with
     |none=> have e2:({((a.here gps k).sc bf a.sure).AW (-1)with key:=none}:Sc)=((a.here gps k).sc bf a.sure).AW (-1):=Sc.ext' rfl rfl rfl rfl rfl rfl rfl rfl hq.symm;rw [e2];exact mZ hq
     |some ky=>
      refine ma (s:=((a.here gps k).sc bf a.sure).AW (-1)) hq ?_;have:(a.gap gps k).key=if gps=[]then a.key else none:=rfl
      rw [this]at hq;by_cases hg:gps=[]
      . rw [if_pos hg]at hq;exact hr ky hq
      . rw [if_neg hg]at hq;cases hq
   . show(((a.here gps k).sc bf a.sure).toks++wB (AW (-1) (a.here gps k).st).1 _).length<=2000;rw [v9,wc];have:((a.here gps k).sc bf a.sure).toks.length<=900:=htl;exact om hul hsl this
 . show a.sure<(((a.here gps k).T++_)++[_]).length;rw [v9,v9];show a.sure<_+1;exact oo hsu
 . show(((a.here gps k).T++_)++[_]).take a.sure=_;rw [hy,wF,wF,zc (GQ h.B6)]
end
structure AK where
 H9:List Int
 text:List Nat
 row:Nat
 at_:Nat
 AX:List AV
 ends:Nat
 left:Int
 end_:List Nat
def tH:List Nat:=[116,97,112,101]
def tI:List Nat:=[116,101,120,116]
def tJ:List Nat:=[114,111,119]
def tK:List Nat:=[97,116]
def RD:List Nat:=[100,117,101]
def tL:List Nat:=[101,110,100,115]
def tM:List Nat:=[108,101,102,116]
def tN:List Nat:=[101,110,100]
def AK.es(p:AK):List (AV×AV):=[(.str tH,.ref 2),(.str tI,.str p.text),(.str tJ,.int p.row),(.str tK,.int p.at_),(.str RD,.ref 4),(.str tL,.int p.ends),(.str tM,.int p.left),(.str tN,.str p.end_)]
def AK.hp(p:AK):Hp:=⟨[.Ap p.es,.lst (p.H9.map .int),.lst p.AX],[]⟩
abbrev pn:AV:=.ref 0
def AK.dr(p:AK)(m:Nat):Nat:=match p.H9 with
 | []=> 0
 |x::_=> (x.fmod m).toNat
def AK.Aj(p:AK):AK:={p with H9:=p.H9.tail}
theorem Cg(p:AK){m:Nat}(h:0<m):p.dr m<m:=by
 unfold AK.dr;cases p.H9 with
 |nil=> exact h
 |cons x r=> have h1:(0:Int)<=x.fmod m:=Int.fmod_nonneg_of_pos x (by exact Qn h);have h2:x.fmod m<m:=Int.fmod_lt_of_pos x (by exact Qn h);show(x.fmod m).toNat<m;omega
theorem Ew{p:AK}{m:Nat}(hm:0<m):∀d,AB PP fu (d+1) Ob [pn,.int m] [] p.hp= .ok (.int (p.dr m)) p.Aj.hp:=by
 obtain⟨tp,tx,rw_,at_,du,en,le,ed⟩:=p;cases tp with
 |nil=> exact cert []
 |cons x r=> have e:(((⟨x::r,tx,rw_,at_,du,en,le,ed⟩:AK).dr m:Nat):Int)=x.fmod m:=y9 (Int.fmod_nonneg_of_pos x (by exact Qn hm));rw [e];exact cert [.bin .mod (.int x) (.int m) (.int (x.fmod m)) (fun _=> by show(if(m:Int)=0 then none else some (AV.int (x.fmod m)))=_;rw [if_neg (by exact Xv hm)])]
theorem Kr{α:Type}{n:Nat}{x:α}(h:n<=lim):ck n x=some x:=if_pos h
def Dp(x y:List Nat)(h:x.length+y.length<=lim):Ent PP fu:=.bin .add (.str x) (.str y) (.str (x++y)) (fun _=> by show alt none (alt (ck (x.length+y.length) (AV.str (x++y))) _)=_;rw [Kr h];rfl)
def tO(x y:List AV)(h:x.length+y.length<=lim):Ent PP fu:=.bin .add (.Ah x) (.Ah y) (.Ah (x++y)) (fun _=> by show alt none (alt none (alt none (ck (x.length+y.length) (AV.Ah (x++y)))))=_;rw [Kr h];rfl)
theorem Yz:∀n:Nat,CM [32] n=wB n 32
 |0=> rfl
 |n+1=> by show 32::CM [32] n=_;rw [Yz n];rfl
theorem MH{α:Type}(v:α):∀n:Nat,CM [v] n=wB n v
 |0=> rfl
 |n+1=> by show v::CM [v] n=_;rw [MH v n];rfl
def Ks(n:Nat)(h:n<=1000):Ent PP fu:=.bin .mul (.str [32]) (.int n) (.str (wB n 32)) (fun hp=> by show(if((n:Int)).natAbs<=lim then alt none (alt (ck (1 * ((n:Int)).toNat) (AV.str (CM [32] ((n:Int)).toNat))) _)else none)=_;rw [if_pos (by show n<=1000000;exact oq h),yi,Yz,Kr (by show 1 * n<=1000000;exact ot h)];rfl)
def mulL(v:AV)(n:Nat)(h:n<=100):Ent PP fu:=.bin .mul (.Ah [v]) (.int n) (.Ah (wB n v)) (fun hp=> by show(if((n:Int)).natAbs<=lim then alt none (alt none (if 1 * ((n:Int)).toNat<=256 then some (AV.Ah (CM [v] ((n:Int)).toNat))else none))else none)=_;rw [if_pos (by show n<=1000000;exact ou h),yi,MH,if_pos (by exact oy h)];rfl)
theorem tP{h:Hp}{x y:List Nat}(hl:x.length+y.length<=lim):DC h .add (.str x) (.str y)=some (.str (x++y),h):=by show((ck (x.length+y.length) (AV.str (x++y))).map fun v=> (v,h))=_;rw [Kr hl];rfl
def JR(h:Hp)(x y:List Nat)(hl:x.length+y.length<=lim):Ent PP fu:=.aug h .add (.str x) (.str y) (.str (x++y)) h (tP hl)
theorem tQ{p:AK}{ys:List AV}(hl:p.AX.length+ys.length<=lim):DC p.hp .add (.ref 4) (.Ah ys)=some (.ref 4,({p with AX:=p.AX++ys}:AK).hp):=by show(ck (p.AX.length+ys.length) (AV.ref 4,_))=_;rw [Kr hl];rfl
def tR(p:AK)(ys:List AV)(hl:p.AX.length+ys.length<=lim):Ent PP fu:=.aug p.hp .add (.ref 4) (.Ah ys) (.ref 4) ({p with AX:=p.AX++ys}:AK).hp (tQ hl)
def IA(n c:Nat):AV:=.tup [.str [60,98,108,111,99,107,32,101,110,100,62],.none,.int n,.int c,.int n,.int c]
def AK.rows(p:AK)(k w:List Nat)(v:AV):List AV:=wB p.ends (IA p.row p.at_)++[.tup [.str k,v,.int p.row,.int p.at_,.int p.row,.int (p.at_+w.length:Nat)]]
def AK.tell(p:AK)(k w:List Nat)(v:AV):AK:={p with AX:=p.AX++p.rows k w v,ends:=0,text:=p.text++w,at_:=p.at_+w.length}
structure AK.Ok(p:AK):Prop where
 text:p.text.length<=100000
 AX:p.AX.length<=100000
 ends:p.ends<=100
 at_:p.at_<=900
 Ca:isLE p.end_=true
theorem Ci{p:AK}{k w:List Nat}{v:AV}(h:p.Ok)(hw:w.length<=100):∀d,AB PP fu (d+1) cq [pn,.str k,.str w,v] [] p.hp= .ok .none (p.tell k w v).hp:=by
 obtain⟨h1,h2,h3,h4,h5⟩:=h;have hr:(p.rows k w v).length=p.ends+1:=by unfold AK.rows;rw [v9,wc];rfl
 have l1:(wB p.ends (IA p.row p.at_)).length+1<=lim:=by rw [wc];show _<=1000000;exact oz h3
 have l2:p.AX.length+(p.rows k w v).length<=lim:=by rw [hr];show _<=1000000;exact o4 h2 h3
 have l3:p.text.length+w.length<=lim:=by show _<=1000000;exact o5 hw h1
 obtain⟨tp,tx,rw_,at_,du,en,le,ed⟩:=p;exact cert [mulL (IA rw_ at_) en h3,.bin .add (.int at_) (.int w.length) (.int (at_+w.length:Nat)) (fun _=> rfl),tO (wB en (IA rw_ at_)) [.tup [.str k,v,.int rw_,.int at_,.int rw_,.int (at_+w.length:Nat)]] l1,tR ⟨tp,tx,rw_,at_,du,en,le,ed⟩ (AK.rows ⟨tp,tx,rw_,at_,du,en,le,ed⟩ k w v) l2,
  JR (AK.hp ⟨tp,tx,rw_,at_,du++AK.rows ⟨tp,tx,rw_,at_,du,en,le,ed⟩ k w v,0,le,ed⟩) tx w l3]
def Dq(g:Nat):List Nat:=if g=1 then [32,35]else []
def Dr(g:Nat)(l:List Nat):List Nat:=if g=2 then [32,32]++l else if g=3 then [35,58]++l else []
def BB(g:Nat)(l:List Nat)(c:Nat):List Nat:=((Dq g++l)++Dr g l)++wB c 32
def JS(g:Nat):Nat:=if g>1 then 2 else 1
def AK.nl(p:AK)(c:Nat):AK:={p.Aj with text:=p.text++BB (p.dr 4) p.end_ c,row:=p.row+JS (p.dr 4),at_:=c}
theorem IB{p:AK}{c:Nat}(h:p.Ok)(hc:c<=900):∀d,AB PP fu (d+2) cu [pn,.int c] [] p.hp= .ok .none (p.nl c).hp:=by
 obtain⟨h1,h2,h3,h4,h5⟩:=h;have hd:=Ew (p:=p) (m:=4) (by decide);have hlt:=Cg p (m:=4) (by decide);have hl:p.end_.length<=2:=by rcases HB h5 with e |e |e |e<;>rw [e]<;>decide
 unfold AK.nl;generalize p.dr 4=g at hd hlt;generalize hq:p.Aj=q at hd;have e1:q.text=p.text:=by rw [<-hq];rfl
 have e2:q.row=p.row:=by rw [<-hq];rfl
 have e3:q.end_=p.end_:=by rw [<-hq];rfl
 rw [<-e1,<-e2,<-e3];rw [<-e1]at h1;rw [<-e3]at hl;clear hq e1 e2 e3 h2 h3 h4 h5;obtain⟨tp,tx,rw_,at_,du,en,le,ed⟩:=q;have hl:ed.length<=2:=hl;have h1:tx.length<=100000:=h1;have AAo:∀n,n<=200000->n<=lim:=fun n hn=> wC hn (by decide)
 match g,hlt with
 |0,_=> exact cert [.call _ _ _ _ _ 1 hd,Dp [] ed (AAo _ (by show 0+ed.length<=200000;exact Qo hl)),Dp ([]++ed) [] (AAo _ (by rw [v9];show 0+ed.length+0<=200000;exact o6 hl)),Ks c (by exact NG hc),Dp (([]++ed)++[]) (wB c 32) (AAo _ (by simp;exact o7 hc hl)),JR (AK.hp ⟨tp,tx,rw_,at_,du,en,le,ed⟩) tx (BB 0 ed c) (AAo _ (by unfold BB Dq Dr;simp;exact o8 hc hl h1))]
 |1,_=> exact cert [.call _ _ _ _ _ 1 hd,Dp [32,35] ed (AAo _ (by show 2+ed.length<=200000;exact Qp hl)),Dp ([32,35]++ed) [] (AAo _ (by simp;exact o9 hl)),Ks c (by exact NG hc),Dp (([32,35]++ed)++[]) (wB c 32) (AAo _ (by simp;exact pB hc hl)),JR (AK.hp ⟨tp,tx,rw_,at_,du,en,le,ed⟩) tx (BB 1 ed c) (AAo _ (by unfold BB Dq Dr;simp;exact pD hc hl h1))]
 |2,_=> exact cert [.call _ _ _ _ _ 1 hd,Dp [] ed (AAo _ (by show 0+ed.length<=200000;exact Qo hl)),Dp [32,32] ed (AAo _ (by show 2+ed.length<=200000;exact Qp hl)),Dp ([]++ed) ([32,32]++ed) (AAo _ (by simp;exact Xw hl)),Ks c (by exact NG hc),Dp (([]++ed)++([32,32]++ed)) (wB c 32) (AAo _ (by simp;exact Xx hc hl)),JR (AK.hp ⟨tp,tx,rw_,at_,du,en,le,ed⟩) tx (BB 2 ed c) (AAo _ (by unfold BB Dq Dr;simp;exact Xy hc hl h1))]
 |3,_=> exact cert [.call _ _ _ _ _ 1 hd,Dp [] ed (AAo _ (by show 0+ed.length<=200000;exact Qo hl)),Dp [35,58] ed (AAo _ (by show 2+ed.length<=200000;exact Qp hl)),Dp ([]++ed) ([35,58]++ed) (AAo _ (by simp;exact Xw hl)),Ks c (by exact NG hc),Dp (([]++ed)++([35,58]++ed)) (wB c 32) (AAo _ (by simp;exact Xx hc hl)),JR (AK.hp ⟨tp,tx,rw_,at_,du,en,le,ed⟩) tx (BB 3 ed c) (AAo _ (by unfold BB Dq Dr;simp;exact Xy hc hl h1))]
def AK.Bu(p:AK)(n:Nat):AK:={p with text:=p.text++wB n 32,at_:=p.at_+n}
theorem RE{p:AK}{n:Nat}(h:p.Ok)(hn:n<=100):∀d,AB PP fu (d+1) cw [pn,.int n] [] p.hp= .ok .none (p.Bu n).hp:=by have h1:=h.text;obtain⟨tp,tx,rw_,at_,du,en,le,ed⟩:=p;have h1:tx.length<=100000:=h1;exact cert [Ks n (by exact pF hn),JR (AK.hp ⟨tp,tx,rw_,at_,du,en,le,ed⟩) tx (wB n 32) (wC (by rw [wc];exact pG hn h1:_<=200000) (by decide))]
def AM(i:Nat):List Nat:=[[119],[39,117,39],[45,122],[63,110],[58,109],[97,32,98],[120,58,121],[112,35,113]].getD i []
def CC(i:Nat):AV:=if i=1 then .tup [.str [117],.str [39]]else .tup [.str (AM i),.none]
def AK.word(p:AK):AK:=p.Aj.tell CR (AM (p.dr 8)) (CC (p.dr 8))
theorem Y0{p:AK}(h:p.Ok):∀d,AB PP fu (d+2) cy [pn] [] p.hp= .ok .none p.word.hp:=by
 have hd:=Ew (p:=p) (m:=8) (by decide);have hlt:=Cg p (m:=8) (by decide);have hq:p.Aj.Ok:=⟨h.text,h.AX,h.ends,h.at_,h.Ca⟩;unfold AK.word;generalize p.dr 8=i at hd hlt;generalize p.Aj=q at hd hq
 match i,hlt with
 |0,_=> exact cert [.call _ _ _ _ _ 1 hd,.call _ _ _ _ _ 1 (Ci hq (k:=CR) (w:=AM 0) (v:=CC 0) (by decide))]
 |1,_=> exact cert [.call _ _ _ _ _ 1 hd,.call _ _ _ _ _ 1 (Ci hq (k:=CR) (w:=AM 1) (v:=CC 1) (by decide))]
 |2,_=> exact cert [.call _ _ _ _ _ 1 hd,.call _ _ _ _ _ 1 (Ci hq (k:=CR) (w:=AM 2) (v:=CC 2) (by decide))]
 |3,_=> exact cert [.call _ _ _ _ _ 1 hd,.call _ _ _ _ _ 1 (Ci hq (k:=CR) (w:=AM 3) (v:=CC 3) (by decide))]
 |4,_=> exact cert [.call _ _ _ _ _ 1 hd,.call _ _ _ _ _ 1 (Ci hq (k:=CR) (w:=AM 4) (v:=CC 4) (by decide))]
 |5,_=> exact cert [.call _ _ _ _ _ 1 hd,.call _ _ _ _ _ 1 (Ci hq (k:=CR) (w:=AM 5) (v:=CC 5) (by decide))]
 |6,_=> exact cert [.call _ _ _ _ _ 1 hd,.call _ _ _ _ _ 1 (Ci hq (k:=CR) (w:=AM 6) (v:=CC 6) (by decide))]
 |7,_=> exact cert [.call _ _ _ _ _ 1 hd,.call _ _ _ _ _ 1 (Ci hq (k:=CR) (w:=AM 7) (v:=CC 7) (by decide))]
section
def a0:Ab:=⟨0,0,0,[-1],true,none,[.start ⟨0,0,0⟩]⟩
def Reach(bf:List Nat)(a:Ab):Prop:=∃m,m<=a.T.length/\∀z n,Ch bf z n a->Ch bf z (n+m) a0
theorem Reach.step{bf:List Nat}{a b:Ab}(h:Reach bf a)(f:Fe bf a b)(hl:a.T.length<b.T.length):Reach bf b:=by obtain⟨m,hm,H⟩:=h;refine⟨m+1,by exact pH hl hm,fun z n c=> ?_⟩;have:=H z (n+1) (.step f c);rw [show n+(m+1)=n+1+m by exact pI];exact this
def CK(u bf:List Nat):Prop:=∃v,bf=u++v
theorem CK.left{u w bf:List Nat}(h:CK (u++w) bf):CK u bf:=by obtain⟨v,e⟩:=h;exact⟨w++v,by rw [e,wF]⟩
theorem CK.has{u w bf:List Nat}(h:CK (u++w) bf):AJ bf u.length w:=by obtain⟨v,rfl⟩:=h;intro i c e;rw [wF,yt (by exact H6),AAV,yu (w6.mp e).1];exact e
theorem AJ.add{b u:List Nat}{p c:Nat}(h:AJ b p u)(e:b[p+u.length]? =some c):AJ b p (u++[c]):=fun i x z=> by
 by_cases hi:i<u.length
 . rw [yu hi]at z;exact h i x z
 . rw [yt (by exact NF hi)]at z
   match hk:i - u.length,z with
   |0,z=> cases z;rw [show i=u.length by exact pJ hi hk];exact e
theorem AJ.app{b u w:List Nat}{p:Nat}(h:AJ b p u)(h':AJ b (p+u.length) w):AJ b p (u++w):=fun i x z=> by
 by_cases hi:i<u.length
 . rw [yu hi]at z;exact h i x z
 . rw [yt (by exact NF hi)]at z;have:=h' _ _ z;rw [show p+u.length+(i - u.length)=p+i by exact pK hi]at this;exact this
def Y1(bf:List Nat)(P:Nat):Prop:=∃x,bf[P]? =some x/\BO x=true
structure Fd(bf:List Nat)(P c:Nat):Prop where
 h:bf[P]? =some c
 c1:[13,10,133,8232,8233].contains c=false
 c2:(c==32)=false
 c3:(c==35)=false
 dm:(((bf.drop P).take 3==[45,45,45])=false/\((bf.drop P).take 3==[46,46,46])=false)∨∃x,AJ bf P [46,46,46,x]/\BO x=true
structure Bj(bf:List Nat)(p:AK)(b:Ab)(gps:List Gp)(k:Nat)(cc oc:List Int)(o:List AV)(al:Bool):Prop where
 reach:Reach bf b
 ok:b.Ok
 has:AJ bf b.ptr (CQ gps++wB k 32)
 ptr:b.ptr+(CQ gps).length+k=p.text.length
 line:b.line+gps.length=p.row
 col:(if gps=[]then b.col else 0)+k=p.at_
 st:b.st=cc++oc
 ends:p.ends=cc.length
 AX:p.AX=b.T.map Tk.row++o
 Et:gps.all Gp.ok=true
 len:gps.length+k<=900
 key:(b.gap gps k).key=none
 req:gps≠[]->∀ky,b.key=some ky->ky.req=false
 al:(b.gap gps k).al=al
structure Pw(bf:List Nat)(p:AK)(b:Ab)(gps:List Gp)(k:Nat)(cc oc:List Int)(i:Nat):Prop where
 reach:Reach bf b
 ok:b.Ok
 has:AJ bf b.ptr (CQ gps++(wB k 32++AM i))
 ptr:b.ptr+(CQ gps).length+k+(AM i).length=p.text.length
 line:b.line+gps.length=p.row
 col:(if gps=[]then b.col else 0)+k+(AM i).length=p.at_
 st:b.st=cc++oc
 ends:p.ends=cc.length
 AX:p.AX=b.T.map Tk.row++[Dk CR (CC i) ⟨0,b.line+gps.length,(b.gap gps k).col⟩ ⟨0,b.line+gps.length,(b.gap gps k).col+(AM i).length⟩]
 Et:gps.all Gp.ok=true
 len:gps.length+k<=900
 key:(b.gap gps k).key=none
 req:gps≠[]->∀ky,b.key=some ky->ky.req=false
 hd:(cc++oc).headD 0<((b.gap gps k).col:Int)
 lt:i<8
def C6(bf:List Nat)(p:AK)(cc oc:List Int)(al:Bool):Prop:=CK p.text bf->Y1 bf p.text.length->∃b,Bj bf p b [] 0 cc oc [] al
def Ff(bf:List Nat)(p:AK)(cc oc:List Int):Prop:=CK p.text bf->Y1 bf p.text.length->∃b gps k i,Pw bf p b gps k cc oc i
def Cq(bf:List Nat)(p:AK)(cc oc:List Int)(o:List AV)(al:Bool):Prop:=CK p.text bf->∀c,Fd bf p.text.length c->∃b gps k,Bj bf p b gps k cc oc o al
variable{bf:List Nat}{p:AK}{b:Ab}{gps:List Gp}{k c:Nat}{cc oc:List Int}{o:List AV}{al:Bool}
theorem Bj.G(h:Bj bf p b gps k cc oc o al)(hn:Fd bf p.text.length c)(Ae:bf.all (fun c=> c !=65279)=true):C5 bf b gps k c:=by refine⟨?_,h.Et,h.len,hn.c1,hn.c2,hn.c3,Ae⟩;have:=AJ.add h.has (c:=c) (by rw [v9,wc,<-xX,h.ptr];exact hn.h);rw [wF]at this;exact this
theorem Bj.P(h:Bj bf p b gps k cc oc o al):(b.gap gps k).ptr=p.text.length:=h.ptr
theorem Bj.L(h:Bj bf p b gps k cc oc o al):(b.gap gps k).line=p.row:=h.line
theorem Bj.C(h:Bj bf p b gps k cc oc o al):(b.gap gps k).col=p.at_:=h.col
theorem Bj.here(h:Bj bf p b gps k cc oc o al)(BC:∀x∈cc,x>(p.at_:Int))(hne:oc≠[])(C1:oc.headD 0<=(p.at_:Int)):b.here gps k=⟨p.text.length,p.row,p.at_,oc,al,none,b.T++Mk.be ⟨p.text.length,p.row,p.at_⟩ cc.length⟩:=by
 have e:AW (b.gap gps k).col b.st=(cc.length,oc):=by rw [h.C,h.st];exact Q3 hne C1 BC
 unfold Ab.here Ab.uw;rw [show(b.gap gps k).st=b.st from rfl,e];show(⟨(b.gap gps k).ptr,(b.gap gps k).line,(b.gap gps k).col,oc,(b.gap gps k).al,(b.gap gps k).key,b.T++Mk.be ⟨(b.gap gps k).ptr,(b.gap gps k).line,(b.gap gps k).col⟩ cc.length⟩:Ab)=_;rw [h.P,h.L,h.C,h.al,h.key]
theorem JT(m:Mk)(i:Nat):(m.be i).map Tk.row=wB i (IA m.line m.col):=by rw [Mk.be,List.map_replicate];rfl
theorem tS{q:Kd}(h:Cq bf p [] oc [] al)(he:p.ends=0):Cq bf (p.tell q.id [] .none) [] oc [Dk q.id .none ⟨0,p.row,p.at_⟩ ⟨0,p.row,p.at_⟩] al:=fun hp c hn=> by have e:(p.tell q.id [] .none).text=p.text:=wY _;rw [e]at hp hn;obtain⟨b,gps,k,R⟩:=h hp c hn;refine⟨b,gps,k,R.reach,R.ok,R.has,by rw [e];exact R.ptr,R.line,R.col,R.st,rfl,?_,R.Et,R.len,R.key,R.req,R.al⟩;show p.AX++p.rows q.id [] .none=_;rw [R.AX,wY];unfold AK.rows;rw [he];rfl
theorem RF{P L C:Nat}{st:List Int}{T:List Tk}(r:Reach bf ⟨P,L,C,st,al,none,T⟩)(hl:st.getLast? =some (-1))(hs:st.length<=100)(hst:st=cc++oc)(h1:P=p.text.length)(h2:L=p.row)(h3:C=p.at_)(h4:p.ends=cc.length)(h5:p.AX=T.map Tk.row++o):
 Bj bf p ⟨P,L,C,st,al,none,T⟩ [] 0 cc oc o al:=
 ⟨r,⟨nofun,nofun,hl,hs⟩,fun i c e=> (by cases e),h1,h2,h3,hst,h4,h5,rfl,wN _,rfl,fun e=> absurd rfl e,rfl⟩
theorem tT{P L C:Nat}{st:List Int}{T:List Tk}{l:Ln}:(⟨P,L,C,st,al,none,T⟩:Ab).ln l=⟨P+1,L,C+1,if st.headD 0<(C:Int)then(C:Int)::st else st,al,none,(if st.headD 0<(C:Int)then T++[.two l.bk ⟨P,L,C⟩ ⟨P,L,C⟩]else T)++[.two l.tk ⟨P,L,C⟩ ⟨P+1,L,C+1⟩]⟩:=by
 unfold Ab.ln Ab.CJ;by_cases q:st.headD 0<(C:Int)
 . rw [if_pos q,if_pos q,if_pos q];rfl
 . rw [if_neg q,if_neg q,if_neg q];rfl
theorem Y2(h:Bj bf p b gps k cc oc o al)(hne:oc≠[]):oc.getLast? =some (-1):=by
 have:=h.ok.last;rw [h.st,List.getLast?_append]at this;cases hq:oc.getLast? with
 |none=> exact absurd (List.getLast?_eq_none_iff.mp hq) hne
 |some v=> rw [hq]at this;exact this
theorem RG{l:Ln}(Ae:bf.all (fun c=> c !=65279)=true)(h:Cq bf p cc oc o true)(BC:∀x∈cc,x>(p.at_:Int))(hne:oc≠[])(C1:oc.headD 0<=(p.at_:Int))(hl:oc.length<=90)
 (ho:(oc.headD 0<(p.at_:Int)/\cc=[]/\o=[Dk l.bk.id .none ⟨0,p.row,p.at_⟩ ⟨0,p.row,p.at_⟩])∨(¬oc.headD 0<(p.at_:Int)/\o=[])):
 C6 bf (p.tell l.tk.id [l.ch] .none) [] (if oc.headD 0<(p.at_:Int)then(p.at_:Int)::oc else oc) true:=fun hp hb=> by
 obtain⟨x,hx,hbx⟩:=hb;have hp':CK (p.text++[l.ch]) bf:=hp;have hx':bf[p.text.length+1]? =some x:=by have:(p.tell l.tk.id [l.ch] .none).text.length=p.text.length+1:=v9;rw [this]at hx;exact hx
 have hN:Fd bf p.text.length l.ch:=by
  refine⟨hp'.has.head,?_,?_,?_,.inl ?_⟩
  . cases l<;>rfl
  . cases l<;>rfl
  . cases l<;>rfl
  . have hh:=hp'.has.head;obtain⟨h1,h2⟩:=w6.mp hh;obtain⟨h3,h4⟩:=w6.mp hx';have e:(bf.drop p.text.length).take 3=l.ch::x::(bf.drop (p.text.length+2)).take 1:=by
     rw [w9 h1,h2,w9 h3,h4];rfl
    rw [e];have hx45:=beq_false_of_ne (Ys hbx);cases l
    . exact⟨by show(45==45&&(x==45&&_))=false;rw [hx45];rfl,rfl⟩
    . exact⟨rfl,rfl⟩
    . exact⟨rfl,rfl⟩
 obtain⟨b,gps,k,R⟩:=h hp'.left _ hN;have G:=R.G hN Ae;have hH:=R.here BC hne C1;have hF:=s7 (l:=l) (x:=x) R.ok G (by rw [R.P];exact hx') hbx R.al R.key R.req;rw [show(b.gap gps k).uw (b.gap gps k).col=b.here gps k from rfl,hH]at hF;rw [tT]at hF;have hT:b.T.length<((if oc.headD 0<(p.at_:Int)then b.T++Mk.be ⟨p.text.length,p.row,p.at_⟩ cc.length++[.two l.bk ⟨p.text.length,p.row,p.at_⟩ ⟨p.text.length,p.row,p.at_⟩]else b.T++Mk.be ⟨p.text.length,p.row,p.at_⟩ cc.length)++[Tk.two l.tk ⟨p.text.length,p.row,p.at_⟩ ⟨p.text.length+1,p.row,p.at_+1⟩]).length:=by
  by_cases q:oc.headD 0<(p.at_:Int)
  . rw [if_pos q];simp only [v9];show _<_+1;exact pL
  . rw [if_neg q];simp only [v9];show _<_+1;exact NH
 have ABf:=Y2 R hne;refine⟨_,RF (R.reach.step hF hT) ?_ ?_ rfl ?_ rfl rfl rfl ?_⟩
 . by_cases q:oc.headD 0<(p.at_:Int)
   . rw [if_pos q];cases oc with
     |nil=> exact absurd rfl hne
     |cons y r=> rw [zg];exact ABf
   . rw [if_neg q];exact ABf
 . by_cases q:oc.headD 0<(p.at_:Int)
   . rw [if_pos q];show oc.length+1<=100;exact Xz hl
   . rw [if_neg q];exact Qq hl
 . show _=(p.text++[l.ch]).length;rw [v9];rfl
 . show p.AX++p.rows l.tk.id [l.ch] .none=_;rw [R.AX];unfold AK.rows;rw [R.ends];rcases ho with⟨h1,rfl,rfl⟩ |⟨h1,rfl⟩
   . rw [if_pos h1];simp only [w4,wY,wF,JT];rfl
   . rw [if_neg h1];simp only [w4,wY,wF,JT];rfl
end
section
variable{bf:List Nat}{p:AK}{b:Ab}{gps:List Gp}{k c i g:Nat}{cc oc:List Int}{o:List AV}{al:Bool}{l:List Nat}
def HK(g:Nat)(l:List Nat):List Gp:=match g with
 |0=>[⟨0,[],l⟩]
 |1=>[⟨1,[35],l⟩]
 |2=>[⟨0,[],l⟩,⟨2,[],l⟩]
 |_=>[⟨0,[],l⟩,⟨0,[35,58],l⟩]
theorem Y3:∀g,g<4->CQ (HK g l)++wB c 32=BB g l c
 |0,_=> by show([]++([]++l)++[])++_=(([]++l)++[])++_;simp
 |1,_=> by show([32]++([35]++l)++[])++_=(([32,35]++l)++[])++_;simp
 |2,_=> by show([]++([]++l)++([32,32]++([]++l)++[]))++_=(([]++l)++([32,32]++l))++_;simp
 |3,_=> by show([]++([]++l)++([]++([35,58]++l)++[]))++_=(([]++l)++([35,58]++l))++_;simp
theorem Y4(hl:isLE l=true):∀g,g<4->(HK g l).all Gp.ok=true/\(HK g l).length=JS g/\HK g l≠[]
 |0,_=> ⟨by show(Ep []&&isLE l&&true)&&true=true;rw [hl];rfl,rfl,nofun⟩
 |1,_=> ⟨by show(Ep [35]&&isLE l&&true)&&true=true;rw [hl];rfl,rfl,nofun⟩
 |2,_=> ⟨by show((Ep []&&isLE l&&true)&&((Ep []&&isLE l&&true)&&true))=true;rw [hl];rfl,rfl,nofun⟩
 |3,_=> ⟨by show((Ep []&&isLE l&&true)&&((Ep [35,58]&&isLE l&&true)&&true))=true;rw [hl];rfl,rfl,nofun⟩
theorem LE.bl(hl:isLE l=true):∃x r,l=x::r/\BO x=true/\(x==39)=false:=by rcases HB hl with rfl |rfl |rfl |rfl<;>exact⟨_,_,rfl,rfl,rfl⟩
theorem RH(hl:isLE l=true):∀g,g<4->∃x r,BB g l c=x::r/\BO x=true/\(x==39)=false:=by
 obtain⟨x,r,rfl,h1,h2⟩:=LE.bl hl;intro g hg
 match g,hg with
 |0,_=> exact⟨x,_,rfl,h1,h2⟩
 |1,_=> exact⟨32,_,rfl,rfl,rfl⟩
 |2,_=> exact⟨x,_,rfl,h1,h2⟩
 |3,_=> exact⟨x,_,rfl,h1,h2⟩
theorem Kt(hl:isLE p.end_=true)(hc:c<=800)(h:C6 bf p cc oc al):Cq bf (p.nl c) cc oc [] true:=fun hp c' hn=> by
 have hlt:=Cg p (m:=4) (by decide);have hp':CK (p.text++BB (p.dr 4) p.end_ c) bf:=hp;obtain⟨x,r,e,e1,e2⟩:=RH (c:=c) hl _ hlt;obtain⟨b,R⟩:=h hp'.left ⟨x,by have:=hp'.has;rw [e]at this;exact this.head,e1⟩;obtain⟨g1,g2,g3⟩:=Y4 hl _ hlt;have ht:=Y3 (l:=p.end_) (c:=c) _ hlt;have hq:b.ptr=p.text.length:=R.ptr;refine⟨b,HK (p.dr 4) p.end_,c,R.reach,R.ok,by rw [ht,hq];exact hp'.has,?_,?_,?_,R.st,R.ends,R.AX,g1,?_,?_,?_,?_⟩
 . show _=(p.text++BB (p.dr 4) p.end_ c).length;rw [<-ht,hq,v9,v9,wc];exact X0
 . show _=p.row+JS (p.dr 4);rw [g2,<-R.line];rfl
 . rw [if_neg g3];exact xB _
 . rw [g2];unfold JS;split<;>omega
 . show(if HK (p.dr 4) p.end_=[]then b.key else none)=none;rw [if_neg g3]
 . intro _ ky e;have:=R.key;rw [show(b.gap [] 0).key=b.key from rfl,e]at this;cases this
 . show(if HK (p.dr 4) p.end_=[]then b.al else true)=true;rw [if_neg g3]
theorem Bj.Bu{n:Nat}(hn2:n<=800)(R:Bj bf p b [] 0 cc oc [] al)(hp:CK (p.Bu n).text bf):Bj bf (p.Bu n) b [] n cc oc [] al:=by
 have hp':CK (p.text++wB n 32) bf:=hp;have hq:b.ptr=p.text.length:=R.ptr;refine⟨R.reach,R.ok,by rw [hq];exact hp'.has,?_,R.line,?_,R.st,R.ends,R.AX,rfl,by show 0+n<=900;exact pM hn2,R.key,fun e=> absurd rfl e,R.al⟩
 . show b.ptr+0+n=(p.text++wB n 32).length;rw [v9,wc,hq];rfl
 . show b.col+n=p.at_+n;rw [<-R.col];rfl
theorem tU{n:Nat}(hn:0<n)(hn2:n<=800)(h:C6 bf p cc oc al):Cq bf (p.Bu n) cc oc [] al:=fun hp c' hnx=> by have hp':CK (p.text++wB n 32) bf:=hp;obtain⟨m,rfl⟩:∃m,n=m+1:=⟨n - 1,by exact pN hn⟩;obtain⟨b,R⟩:=h hp'.left ⟨32,hp'.has.head,rfl⟩;exact⟨b,[],m+1,R.Bu hn2 hp⟩
theorem HL:∀i,i<8->∃c r,AM i=c::r/\[13,10,133,8232,8233].contains c=false/\(c==32)=false/\(c==35)=false/\(AM i).length<=3/\((c==45)=false/\(c==46)=false∨(c==46)=false/\∃x r',r=x::r'/\(x==45)=false)
 |0,_=> ⟨_,_,rfl,rfl,rfl,rfl,by decide,.inl ⟨rfl,rfl⟩⟩
 |1,_=> ⟨_,_,rfl,rfl,rfl,rfl,by decide,.inl ⟨rfl,rfl⟩⟩
 |2,_=> ⟨_,_,rfl,rfl,rfl,rfl,by decide,.inr ⟨rfl,_,_,rfl,rfl⟩⟩
 |3,_=> ⟨_,_,rfl,rfl,rfl,rfl,by decide,.inl ⟨rfl,rfl⟩⟩
 |4,_=> ⟨_,_,rfl,rfl,rfl,rfl,by decide,.inl ⟨rfl,rfl⟩⟩
 |5,_=> ⟨_,_,rfl,rfl,rfl,rfl,by decide,.inl ⟨rfl,rfl⟩⟩
 |6,_=> ⟨_,_,rfl,rfl,rfl,rfl,by decide,.inl ⟨rfl,rfl⟩⟩
 |7,_=> ⟨_,_,rfl,rfl,rfl,rfl,by decide,.inl ⟨rfl,rfl⟩⟩
theorem take3{c:Nat}{P:Nat}(h:bf[P]? =some c):(bf.drop P).take 3=c::(bf.drop (P+1)).take 2:=by obtain⟨h1,h2⟩:=w6.mp h;rw [w9 h1,h2];rfl
theorem RI{c:Nat}{P:Nat}(h:bf[P]? =some c)(hc:(c==45)=false/\(c==46)=false∨(c==46)=false/\∃x,bf[P+1]? =some x/\(x==45)=false):((bf.drop P).take 3==[45,45,45])=false/\((bf.drop P).take 3==[46,46,46])=false:=by
 rw [take3 h];rcases hc with⟨h1,h2⟩ |⟨h1,x,h3,h4⟩
 . exact⟨by show(c==45&&_)=false;rw [h1];rfl,by show(c==46&&_)=false;rw [h2];rfl⟩
 . refine⟨?_,by show(c==46&&_)=false;rw [h1];rfl⟩;obtain⟨g1,g2⟩:=w6.mp h3;rw [w9 g1,g2];show(c==45&&(x==45&&_))=false;rw [h4];simp
theorem RJ{P:Nat}(hi:i<8)(h:AJ bf P (AM i)):∃c,(AM i).head? =some c/\Fd bf P c:=by
 obtain⟨c,r,e,h1,h2,h3,_,h4⟩:=HL i hi;rw [e]at h⊢;refine⟨c,rfl,h.head,h1,h2,h3,.inl (RI h.head ?_)⟩;rcases h4 with h4 |⟨h4,x,r',e',h5⟩
 . exact .inl h4
 . rw [e']at h;exact .inr ⟨h4,x,h.tail.head,h5⟩
theorem tV(h:Cq bf p [] oc [] al)(hi:i<8)(C1:oc.headD 0<(p.at_:Int))(he:p.ends=0):Ff bf (p.tell CR (AM i) (CC i)) [] oc:=fun hp hb=> by
 have hp':CK (p.text++AM i) bf:=hp;obtain⟨c,_,hN⟩:=RJ hi hp'.has;obtain⟨b,gps,k,R⟩:=h hp'.left c hN;have hlen:(CQ gps++wB k 32).length=(CQ gps).length+k:=by rw [v9,wc]
 refine⟨b,gps,k,i,R.reach,R.ok,?_,?_,R.line,?_,R.st,rfl,?_,R.Et,R.len,R.key,R.req,?_,hi⟩
 . rw [<-wF];exact R.has.app (by rw [hlen,<-xX,R.ptr];exact hp'.has)
 . show _=(p.text++AM i).length;rw [R.ptr,v9]
 . show _+(AM i).length=p.at_+(AM i).length;rw [<-R.col]
 . show p.AX++p.rows CR (AM i) (CC i)=_;rw [R.AX,wY,R.line,R.C];unfold AK.rows;rw [he];rfl
 . rw [R.C];exact C1
theorem C6.close{C:Int}{oc:List Int}(h:C6 bf p cc (C::oc) al):C6 bf {p with ends:=p.ends+1} (cc++[C]) oc al:=fun hp hb=> by obtain⟨b,R⟩:=h hp hb;exact⟨b,R.reach,R.ok,R.has,R.ptr,R.line,R.col,by rw [R.st,wF];rfl,by show p.ends+1=_;rw [R.ends,v9];rfl,R.AX,R.Et,R.len,R.key,R.req,R.al⟩
theorem Ff.close{C:Int}{oc:List Int}(h:Ff bf p cc (C::oc)):Ff bf {p with ends:=p.ends+1} (cc++[C]) oc:=fun hp hb=> by
 obtain⟨b,gps,k,i,R⟩:=h hp hb;have e:cc++[C]++oc=cc++C::oc:=by rw [wF];rfl
 exact⟨b,gps,k,i,R.reach,R.ok,R.has,R.ptr,R.line,R.col,by rw [R.st,e],by show p.ends+1=_;rw [R.ends,v9];rfl,R.AX,R.Et,R.len,R.key,R.req,by rw [e];exact R.hd,R.lt⟩
end
section
variable{bf:List Nat}{p:AK}{b:Ab}{gps:List Gp}{k c i g:Nat}{cc oc:List Int}{o:List AV}{al:Bool}{l:List Nat}
theorem Ds(a:Ab)(n:Nat):a.past n=⟨a.ptr+n,a.line,a.col+n,a.st,false,a.save.key,a.T⟩:=by unfold Ab.past Ab.save Ab.off Ab.on;cases a.al<;>rfl
theorem Pw.here(R:Pw bf p b gps k cc oc i):b.here gps k=b.gap gps k:=by unfold Ab.here;exact RC (a:=b.gap gps k) (Yy R.ok.last) (by show b.st.headD 0<=_;rw [R.st];exact zX R.hd)
theorem Pw.P(R:Pw bf p b gps k cc oc i):(b.gap gps k).ptr+(AM i).length=p.text.length:=R.ptr
theorem Pw.L(R:Pw bf p b gps k cc oc i):(b.gap gps k).line=p.row:=R.line
theorem Pw.C(R:Pw bf p b gps k cc oc i):(b.gap gps k).col+(AM i).length=p.at_:=R.col
theorem Pw.wd(R:Pw bf p b gps k cc oc i):AJ bf (b.gap gps k).ptr (AM i):=by have:=R.has.drop;have:=this.drop;rw [wc]at this;exact this
theorem Pw.G(R:Pw bf p b gps k cc oc i)(Ae:bf.all (fun c=> c !=65279)=true):∃c,(AM i).head? =some c/\C5 bf b gps k c:=by obtain⟨c,h1,hN⟩:=RJ R.lt R.wd;refine⟨c,h1,?_,R.Et,R.len,hN.c1,hN.c2,hN.c3,Ae⟩;have:=R.has;rw [<-wF]at this;have hh:=this.left.add (c:=c) (by rw [v9,wc,<-xX];exact hN.h);rw [wF]at hh;exact hh
theorem Pw.NQ(R:Pw bf p b gps k cc oc i):((b.gap gps k).st.headD 0==((b.gap gps k).col:Int))=false:=by rw [beq_eq_false_iff_ne,show(b.gap gps k).st=cc++oc from R.st];exact Int.ne_of_lt R.hd
theorem Pw.row(R:Pw bf p b gps k cc oc i):p.AX=b.T.map Tk.row++[Dk CR (CC i) (b.gap gps k).pos ((b.gap gps k).on (AM i).length).pos]:=R.AX
theorem Pw.W(R:Pw bf p b gps k cc oc i){c:Nat}(hc:(AM i).head? =some c)(G:C5 bf b gps k c):Q7 bf b gps k c (AM i):=
 ⟨R.ok,G,hc,R.key,R.req,R.wd,by rw [R.here,show(b.gap gps k).st=cc++oc from R.st];exact zX R.hd⟩
theorem JU(hi:i<8)(h1:i≠1):AM i∈HJ/\CC i= .tup [.str (AM i),.none]:=by
 refine⟨?_,if_neg h1⟩
 match i,hi,h1 with
 |0,_,_=> decide
 |2,_,_=> decide
 |3,_,_=> decide
 |4,_,_=> decide
 |5,_,_=> decide
 |6,_,_=> decide
 |7,_,_=> decide
theorem Ku{p':AK}{P L C:Nat}{A:Bool}{ky:Option Ky}{t:Tk}{gs:List Gp}{m:Nat}(R:Pw bf p b gps k cc oc i)(r:Fe bf b ⟨P,L,C,cc++oc,A,ky,b.T++[t]⟩)(hky:∀q,ky=some q->q.req=false/\P<=q.ptr+100)
 (ht:t.row=Dk CR (CC i) (b.gap gps k).pos ((b.gap gps k).on (AM i).length).pos) (e1:p'.AX=p.AX) (e2:p'.ends=p.ends)
 (h1:AJ bf P (CQ gs++wB m 32)) (h2:P+(CQ gs).length+m=p'.text.length) (h3:L+gs.length=p'.row) (h4:(if gs=[]then C else 0)+m=p'.at_) (h5:gs.all Gp.ok=true) (h6:gs.length+m<=900) (h7:(if gs=[]then ky else none)=none) (h8:(if gs=[]then A else true)=true):
 Bj bf p' ⟨P,L,C,cc++oc,A,ky,b.T++[t]⟩ gs m cc oc [] true:=by
 refine⟨R.reach.step r (by show _<(b.T++[t]).length;rw [v9];exact yN _),⟨r.B6,fun q e=> (hky q e).2,by have:=R.ok.last;rw [R.st]at this;exact this,by have:=R.ok.sl;rw [R.st]at this;exact this⟩,h1,h2,h3,h4,rfl,e2.trans R.ends,?_,h5,h6,h7,fun _ q e=> (hky q e).1,h8⟩;rw [e1,R.row,wY,w4,<-ht];rfl
theorem DU.of{s:Sc}{x:Nat}(h:s.buf[s.ptr]? =some x)(h1:(x==45)=false)(h2:(x==46)=false):DU s:=RI h (.inl ⟨h1,h2⟩)
theorem Y5{s:Sc}{c c':Nat}(hs:s.buf=bf)(h:AJ bf s.ptr (wB c 32++[c']))(hN:Fd bf (s.ptr+c) c'):DU s∨(c=0/\∃x,AJ bf s.ptr [46,46,46,x]/\BO x=true):=by
 cases c with
 |zero=>
  rcases hN.dm with hd |hd
  . left
    show((s.buf.drop s.ptr).take 3==_)=false/\((s.buf.drop s.ptr).take 3==_)=false;rw [hs];exact hd
  . exact .inr ⟨rfl,hd⟩
 |succ c=> exact .inl (DU.of (x:=32) (by rw [hs];exact h.head) rfl rfl)
end
section
variable{bf:List Nat}{p p':AK}{b:Ab}{gps:List Gp}{k c c' i g:Nat}{cc oc:List Int}{o:List AV}{al:Bool}{l:List Nat}
structure tW(p p':AK)(g:Nat)(l:List Nat)(c:Nat):Prop where
 text:p'.text=p.text++BB g l c
 row:p'.row=p.row+JS g
 at_:p'.at_=c
 AX:p'.AX=p.AX
 ends:p'.ends=p.ends
structure RowC(bf:List Nat)(p p':AK)(b:Ab)(gps:List Gp)(k:Nat)(cc oc:List Int)(i g:Nat)(l:List Nat)(c c':Nat):Prop where
 R:Pw bf p b gps k cc oc i
 N:tW p p' g l c
 hl:isLE l=true
 hc:c<=800
 D7:(c:Int)<=(cc++oc).headD 0
 hp:AJ bf p.text.length (BB g l c++[c'])
 nx:Fd bf p'.text.length c'
 Ae:bf.all (fun c=> c !=65279)=true
def Goal(bf:List Nat)(p':AK)(cc oc:List Int):Prop:=∃b gps k,Bj bf p' b gps k cc oc [] true
theorem RK(R:Pw bf p b gps k cc oc i):∀q,(b.gap gps k).save.key=some q->q.req=false/\q.ptr=(b.gap gps k).ptr:=fun q e=> by
 rcases NP (a:=b.gap gps k) R.key with z |z
 . rw [z]at e;cases e
 . rw [z]at e;cases e;exact⟨R.NQ,rfl⟩
theorem RowC.len(H:RowC bf p p' b gps k cc oc i g l c c'):p'.text.length=p.text.length+(BB g l c).length:=by rw [H.N.text,v9]
theorem LE.len(hl:isLE l=true):l.length<=2:=by rcases HB hl with e |e |e |e<;>rw [e]<;>decide
theorem tX(H:RowC bf p p' b gps k cc oc 1 g l c c')(hg:g<4):Goal bf p' cc oc:=by
 obtain⟨R,N,hl,hc,D7,hp,nx,Ae⟩:=H;obtain⟨c0,e0,G⟩:=R.G Ae;cases e0;obtain⟨x,r,ex,x1,x2⟩:=RH (c:=c) hl g hg;have hP:(b.gap gps k).ptr+3=p.text.length:=R.P;have hx:AJ bf (b.gap gps k).ptr [39,117,39,x]:=by refine R.wd.app (w:=[x]) ?_;show AJ bf ((b.gap gps k).ptr+3) [x];rw [hP];have DP:=hp;rw [ex]at DP;exact DP.left (u:=[x]) (w:=r++[c'])
 have F:=RB (bf:=bf) R.ok G R.key R.req hx x2;rw [R.here,Ds,show(b.gap gps k).st=cc++oc from R.st]at F;obtain⟨g1,g2,g3⟩:=Y4 hl g hg;have ht:=Y3 (l:=l) (c:=c) g hg;have hq:=RK R;refine⟨_,HK g l,c,Ku R F (fun q e=> ⟨(hq q e).1,by rw [(hq q e).2];show(b.gap gps k).ptr+3<=(b.gap gps k).ptr+100;exact pO⟩) rfl N.AX N.ends ?_ ?_ ?_ ?_ g1 ?_ (if_neg g3) (if_neg g3)⟩
 . show AJ bf ((b.gap gps k).ptr+3) _;rw [ht,hP];exact hp.left
 . show(b.gap gps k).ptr+3+_+_=_;rw [N.text,<-ht,hP,v9,v9,wc];exact X0
 . rw [g2,N.row,<-R.L]
 . rw [if_neg g3,N.at_];exact xB _
 . rw [g2];unfold JS;split<;>omega
theorem tY(H:RowC bf p p' b gps k cc oc i 1 l c c')(hi:i≠1):Goal bf p' cc oc:=by
 obtain⟨R,N,hl,hc,D7,hp,nx,Ae⟩:=H;obtain⟨c0,e0,G⟩:=R.G Ae;obtain⟨w1,w2⟩:=JU R.lt hi;have hP:=R.P;have hp2:AJ bf ((b.gap gps k).ptr+(AM i).length) (32::35::(l++wB c 32)):=by rw [hP];have:=hp.left;rw [show BB 1 l c=32::35::(l++wB c 32)from by unfold BB Dq Dr;simp]at this;exact this
 have hlen:(AM i).length<=3:=by obtain⟨_,_,_,_,_,_,h,_⟩:=HL i R.lt;exact h
 have hsp:Bt (((b.here gps k).past (AM i).length).sc bf b.sure) ((((b.here gps k).past (AM i).length).on 1).sc bf b.sure) false:=by rw [R.here,Ds];exact sR (s:=(⟨(b.gap gps k).ptr+(AM i).length,_,_,_,_,_,_⟩:Ab).sc bf b.sure) (c:=35) (hp2.left (u:=[32,35])) rfl rfl
 have F:=Q9 (m:=1) w1 (R.W e0 G) ⟨32,hp2.head,.inl rfl⟩ hsp (.inr ⟨35,by rw [R.here,Ds];exact hp2.tail.head,.inl rfl⟩) (by exact pP hlen);rw [R.here,Ds,show(b.gap gps k).st=cc++oc from R.st]at F;have hq:=RK R;refine⟨_,[⟨0,[35],l⟩],c,Ku R F (fun q e=> ⟨(hq q e).1,by rw [(hq q e).2];show _+_+1<=_;exact pQ hlen⟩) (by rw [w2];rfl) N.AX N.ends ?_ ?_ ?_ ?_ ?_ ?_ rfl rfl⟩
 . show AJ bf ((b.gap gps k).ptr+(AM i).length+1) ([]++([35]++l)++[]++wB c 32);have:=hp2.tail;simpa using this
 . show(b.gap gps k).ptr+(AM i).length+1+([]++([35]++l)++[]).length+c=_;rw [N.text,v9,<-hP];unfold BB Dq Dr;simp;exact pR hP
 . rw [N.row,<-R.L];rfl
 . rw [N.at_];exact xB _
 . show(Ep [35]&&isLE l&&true)&&true=true;rw [hl];rfl
 . show 1+c<=900;exact X1 hc
theorem tZ(H:RowC bf p p' b gps k cc oc i 0 l c c')(hi:i≠1):Goal bf p' cc oc:=by
 obtain⟨R,N,hl,hc,D7,hp,nx,Ae⟩:=H;obtain⟨c0,e0,G⟩:=R.G Ae;obtain⟨w1,w2⟩:=JU R.lt hi;have hP:=R.P;have er:BB 0 l c=l++wB c 32:=by unfold BB Dq Dr;simp
 have hp2:AJ bf ((b.gap gps k).ptr+(AM i).length) (l++(wB c 32++[c'])):=by rw [hP];rw [er,wF]at hp;exact hp
 have hL:p'.text.length=(b.gap gps k).ptr+(AM i).length+l.length+c:=by rw [N.text,er,v9,v9,wc,hP];exact pU
 have nx':Fd bf ((b.gap gps k).ptr+(AM i).length+l.length+c) c':=hL▸nx;obtain⟨x,r,ex,x1,x2⟩:=LE.bl hl;have ACP:Eu bf ((b.gap gps k).ptr+(AM i).length):=⟨x,by have:=hp2;rw [ex]at this;exact this.head,.inl x1⟩;let B0:Ab:=⟨(b.gap gps k).ptr+(AM i).length+l.length+c,(b.gap gps k).line+1,0+c,cc++oc,true,(b.gap gps k).save.key,b.T⟩;have hst:(b.gap gps k).st=cc++oc:=R.st;obtain⟨f,hsp⟩:∃f,Bt (((b.here gps k).past (AM i).length).sc bf b.sure) (B0.sc bf b.sure) f:=by
  rw [R.here,Ds,hst];rcases Y5 (s:=((⟨(b.gap gps k).ptr+(AM i).length,(b.gap gps k).line,(b.gap gps k).col+(AM i).length,cc++oc,false,(b.gap gps k).save.key,(b.gap gps k).T⟩:Ab).sc bf b.sure).nl l.length) rfl hp2.drop nx' with hd |⟨rfl,x,hd,hx⟩
  . exact⟨_,Yo (s:=(⟨(b.gap gps k).ptr+(AM i).length,(b.gap gps k).line,(b.gap gps k).col+(AM i).length,cc++oc,false,(b.gap gps k).save.key,(b.gap gps k).T⟩:Ab).sc bf b.sure) hl hp2 hd nx.c2 nx.c1 (by exact Kf hc)⟩
  . exact⟨_,sa (s:=(⟨(b.gap gps k).ptr+(AM i).length,(b.gap gps k).line,(b.gap gps k).col+(AM i).length,cc++oc,false,(b.gap gps k).save.key,(b.gap gps k).T⟩:Ab).sc bf b.sure) (x:=x) hl ((hp2.left (u:=l)).app hd) hx⟩
 have F:=Q8 (b:=B0) w1 (R.W e0 G) ACP hsp (.inr ⟨c',nx'.h,.inr (.inr ⟨nx.c3,by rw [R.here,hst];show((0+c:Nat):Int)<_;exact X2 D7⟩)⟩) (by rw [R.here];rfl) (by rw [R.here]) (by rw [R.here];exact yN _) (by rw [R.here];exact R.NQ);refine⟨_,[],0,Ku R F nofun (by rw [R.here,w2];rfl) N.AX N.ends (fun i c e=> by cases e) ?_ ?_ ?_ rfl (wN _) rfl rfl⟩
 . exact hL.symm
 . rw [N.row,<-R.L];rfl
 . rw [N.at_];exact xB _
end
section
variable{bf:List Nat}{p p':AK}{b:Ab}{gps:List Gp}{k c c' i g:Nat}{cc oc:List Int}{o:List AV}{al:Bool}{l:List Nat}
theorem ta(H:RowC bf p p' b gps k cc oc i 2 l c c')(hi:i≠1):Goal bf p' cc oc:=by
 obtain⟨R,N,hl,hc,D7,hp,nx,Ae⟩:=H;obtain⟨c0,e0,G⟩:=R.G Ae;obtain⟨w1,w2⟩:=JU R.lt hi;have hP:=R.P;have er:BB 2 l c=l++([32,32]++(l++wB c 32)):=by unfold BB Dq Dr;simp
 have hp2:AJ bf ((b.gap gps k).ptr+(AM i).length) (l++([32,32]++(l++(wB c 32++[c'])))):=by rw [hP];rw [er]at hp;simpa using hp
 have hL:p'.text.length=(b.gap gps k).ptr+(AM i).length+l.length+2+l.length+c:=by rw [N.text,er,hP];simp;exact X3
 have nx':Fd bf ((b.gap gps k).ptr+(AM i).length+l.length+2+l.length+c) c':=hL▸nx;obtain⟨x,r,ex,x1,x2⟩:=LE.bl hl;have ACP:Eu bf ((b.gap gps k).ptr+(AM i).length):=⟨x,by have:=hp2;rw [ex]at this;exact this.head,.inl x1⟩;let B0:Ab:=⟨(b.gap gps k).ptr+(AM i).length+l.length+2+l.length+c,(b.gap gps k).line+1+1,0+c,cc++oc,true,(b.gap gps k).save.key,b.T⟩;have hst:(b.gap gps k).st=cc++oc:=R.st;obtain⟨f,hsp⟩:∃f,Bt (((b.here gps k).past (AM i).length).sc bf b.sure) (B0.sc bf b.sure) f:=by
  rw [R.here,Ds,hst];have h3:AJ bf ((b.gap gps k).ptr+(AM i).length+l.length) ([32,32]++(l++(wB c 32++[c']))):=hp2.drop;have h0:DU (((⟨(b.gap gps k).ptr+(AM i).length,(b.gap gps k).line,(b.gap gps k).col+(AM i).length,cc++oc,false,(b.gap gps k).save.key,(b.gap gps k).T⟩:Ab).sc bf b.sure).nl l.length):=DU.of (x:=32) h3.head rfl rfl;rcases Y5 (s:=((((⟨(b.gap gps k).ptr+(AM i).length,(b.gap gps k).line,(b.gap gps k).col+(AM i).length,cc++oc,false,(b.gap gps k).save.key,(b.gap gps k).T⟩:Ab).sc bf b.sure).nl l.length).yes.on 2).nl l.length) rfl h3.drop.drop nx' with hd |⟨rfl,x,hd,hx⟩
  . exact⟨_,sg (s:=(⟨(b.gap gps k).ptr+(AM i).length,(b.gap gps k).line,(b.gap gps k).col+(AM i).length,cc++oc,false,(b.gap gps k).save.key,(b.gap gps k).T⟩:Ab).sc bf b.sure) hl hp2 h0 hd nx.c2 nx.c1 (by exact Kf hc)⟩
  . exact⟨_,si (s:=(⟨(b.gap gps k).ptr+(AM i).length,(b.gap gps k).line,(b.gap gps k).col+(AM i).length,cc++oc,false,(b.gap gps k).save.key,(b.gap gps k).T⟩:Ab).sc bf b.sure) (x:=x) hl ((hp2.left (u:=l)).app ((h3.left (u:=[32,32])).app ((h3.drop.left (u:=l)).app hd))) h0 hx⟩
 have F:=Q8 (b:=B0) w1 (R.W e0 G) ACP hsp (.inr ⟨c',nx'.h,.inr (.inr ⟨nx.c3,by rw [R.here,hst];show((0+c:Nat):Int)<_;exact X2 D7⟩)⟩) (by rw [R.here];rfl) (by rw [R.here]) (by rw [R.here];show(b.gap gps k).line<(b.gap gps k).line+1+1;exact pV) (by rw [R.here];exact R.NQ);refine⟨_,[],0,Ku R F nofun (by rw [R.here,w2];rfl) N.AX N.ends (fun i c e=> by cases e) ?_ ?_ ?_ rfl (wN _) rfl rfl⟩
 . exact hL.symm
 . rw [N.row,<-R.L];rfl
 . rw [N.at_];exact xB _
theorem tc(H:RowC bf p p' b gps k cc oc i 3 l c c')(hi:i≠1):Goal bf p' cc oc:=by
 obtain⟨R,N,hl,hc,D7,hp,nx,Ae⟩:=H;obtain⟨c0,e0,G⟩:=R.G Ae;obtain⟨w1,w2⟩:=JU R.lt hi;have hP:=R.P;have er:BB 3 l c=l++(35::58::(l++wB c 32)):=by unfold BB Dq Dr;simp
 have hp2:AJ bf ((b.gap gps k).ptr+(AM i).length) (l++(35::58::(l++wB c 32))):=by rw [hP];rw [er]at hp;exact hp.left
 have hL:p'.text.length=(b.gap gps k).ptr+(AM i).length+l.length+2+l.length+c:=by rw [N.text,er,hP];simp;exact X3
 obtain⟨x,r,ex,x1,x2⟩:=LE.bl hl;have ACP:Eu bf ((b.gap gps k).ptr+(AM i).length):=⟨x,by have:=hp2;rw [ex]at this;exact this.head,.inl x1⟩;let B0:Ab:=⟨(b.gap gps k).ptr+(AM i).length+l.length+0,(b.gap gps k).line+1,0+0,cc++oc,true,(b.gap gps k).save.key,b.T⟩;have hst:(b.gap gps k).st=cc++oc:=R.st;have h3:AJ bf ((b.gap gps k).ptr+(AM i).length+l.length) (35::58::(l++wB c 32)):=hp2.drop;have hsp:Bt (((b.here gps k).past (AM i).length).sc bf b.sure) (B0.sc bf b.sure) false:=by rw [R.here,Ds,hst];have h0:DU (((⟨(b.gap gps k).ptr+(AM i).length,(b.gap gps k).line,(b.gap gps k).col+(AM i).length,cc++oc,false,(b.gap gps k).save.key,(b.gap gps k).T⟩:Ab).sc bf b.sure).nl l.length):=DU.of (x:=35) h3.head rfl rfl;exact Yo (s:=(⟨(b.gap gps k).ptr+(AM i).length,(b.gap gps k).line,(b.gap gps k).col+(AM i).length,cc++oc,false,(b.gap gps k).save.key,(b.gap gps k).T⟩:Ab).sc bf b.sure) (k:=0) (c:=35) hl ((hp2.left (u:=l)).app (w:=[35]) (h3.left (u:=[35]))) h0 rfl rfl (wN _)
 have F:=Q8 (b:=B0) w1 (R.W e0 G) ACP hsp (.inr ⟨35,h3.head,.inl rfl⟩) (by rw [R.here];rfl) (by rw [R.here]) (by rw [R.here];exact yN _) (by rw [R.here];exact R.NQ);refine⟨_,[⟨0,[35,58],l⟩],c,Ku R F nofun (by rw [R.here,w2];rfl) N.AX N.ends ?_ ?_ ?_ ?_ ?_ ?_ rfl rfl⟩
 . show AJ bf ((b.gap gps k).ptr+(AM i).length+l.length) ([]++([35,58]++l)++[]++wB c 32);simpa using h3
 . show(b.gap gps k).ptr+(AM i).length+l.length+([]++([35,58]++l)++[]).length+c=_;rw [hL];simp;exact pW
 . rw [N.row,<-R.L];rfl
 . rw [N.at_];exact xB _
 . show(Ep [35,58]&&isLE l&&true)&&true=true;rw [hl];rfl
 . show 1+c<=900;exact X1 hc
theorem Y6(Ae:bf.all (fun c=> c !=65279)=true)(hl:isLE p.end_=true)(hc:c<=800)(D7:(c:Int)<=(cc++oc).headD 0)(h:Ff bf p cc oc):Cq bf (p.nl c) cc oc [] true:=fun hp c' hn=> by
 have hlt:=Cg p (m:=4) (by decide);have hp':CK (p.text++BB (p.dr 4) p.end_ c) bf:=hp;obtain⟨x,r,e,e1,e2⟩:=RH (c:=c) hl _ hlt;obtain⟨b,gps,k,i,R⟩:=h hp'.left ⟨x,by have:=hp'.has;rw [e]at this;exact this.head,e1⟩;have H:RowC bf p (p.nl c) b gps k cc oc i (p.dr 4) p.end_ c c':=⟨R,⟨rfl,rfl,rfl,rfl,rfl⟩,hl,hc,D7,hp'.has.add (by have:=hn.h;rw [show(p.nl c).text=p.text++BB (p.dr 4) p.end_ c from rfl,v9]at this;exact this),hn,Ae⟩;generalize p.dr 4=g at H hlt;by_cases hi:i=1
 . subst hi;exact tX H hlt
 . match g,hlt with
   |0,_=> exact tZ H hi
   |1,_=> exact tY H hi
   |2,_=> exact ta H hi
   |3,_=> exact tc H hi
end
section
variable{bf:List Nat}{p p':AK}{b:Ab}{gps:List Gp}{k c c' i g:Nat}{cc oc:List Int}{o:List AV}{al:Bool}{l:List Nat}
theorem RM{a:Ab}:a.on 0=a:=by obtain⟨_,_,_,_,_,_,_⟩:=a;rfl
theorem td{a:Ab}{x:Nat}(Ae:bf.all (fun c=> c !=65279)=true)(h:b.Ok)(hi:i<8)(hH:b.here gps k=a)(hal:a.al=true)(hak:a.key=none)(hk:(b.gap gps k).key=none)(hr:gps≠[]->∀ky,b.key=some ky->ky.req=false)(G:∀c,(AM i).head? =some c->C5 bf b gps k c)
 (hP:(b.gap gps k).ptr=a.ptr) (ABp:(b.gap gps k).col=a.col) (hst:a.st.headD 0<=(a.col:Int)) (hw:AJ bf a.ptr (AM i++[58,x])) (hx:BO x=true):
 ∃t,t.row=Dk CR (CC i) a.pos (a.on (AM i).length).pos/\Fe bf b ⟨a.ptr+(AM i).length,a.line,a.col+(AM i).length,a.st,false,some ⟨a.T.length,a.st.headD 0==(a.col:Int),a.ptr,a.line,a.col⟩,a.T++[t]⟩:=by
 have hsv:a.save.key=some ⟨a.T.length,a.st.headD 0==(a.col:Int),a.ptr,a.line,a.col⟩:=by unfold Ab.save;rw [hal]
 by_cases h1:i=1
 . subst h1;have F:=RB (bf:=bf) (x:=58) h (G 39 rfl) hk hr (by rw [hP];exact hw.left (u:=[39,117,39,58]) (w:=[x])) rfl;rw [hH,Ds,hsv]at F;exact⟨_,rfl,F⟩
 . obtain⟨w1,w2⟩:=JU hi h1;obtain⟨c,r,e0,_⟩:=HL i hi;have e0:(AM i).head? =some c:=by rw [e0];rfl
   have hlen:(AM i).length<=3:=by obtain⟨_,_,_,_,_,_,h,_⟩:=HL i hi;exact h
   have h58:AJ bf (a.ptr+(AM i).length) [58,x]:=hw.drop;have hsp:Bt (((b.here gps k).past (AM i).length).sc bf b.sure) ((((b.here gps k).past (AM i).length).on 0).sc bf b.sure) true:=by rw [RM,hH,Ds];exact Yk (c:=58) h58.head rfl rfl
   have F:=Q9 (m:=0) (f:=true) w1 ⟨h,G c e0,e0,hk,hr,by rw [hP];exact hw.left,by rw [hH,ABp];exact hst⟩ (by rw [hP];exact⟨58,h58.head,.inr ⟨rfl,x,h58.tail.head,hx⟩⟩) hsp (.inl rfl) (by exact pX hlen);rw [RM,hH,Ds,hsv]at F;exact⟨_,by rw [w2];rfl,F⟩
theorem tg(Ae:bf.all (fun c=> c !=65279)=true)(h:Cq bf p cc oc o true)(hi:i<8)(BC:∀x∈cc,x>(p.at_:Int))(hne:oc≠[])(C1:oc.headD 0<=(p.at_:Int))(hl:oc.length<=90)
 (ho:(oc.headD 0<(p.at_:Int)/\cc=[]/\o=[Dk Kd.bm.id .none ⟨0,p.row,p.at_⟩ ⟨0,p.row,p.at_⟩])∨(¬oc.headD 0<(p.at_:Int)/\o=[])):
 C6 bf (((p.tell Kd.ky.id [] .none).Aj.tell CR (AM i) (CC i)).tell Kd.va.id [58] .none) [] (if oc.headD 0<(p.at_:Int)then(p.at_:Int)::oc else oc) false:=fun hp hb=> by
 obtain⟨x,hx,hbx⟩:=hb;have et:(((p.tell Kd.ky.id [] .none).Aj.tell CR (AM i) (CC i)).tell Kd.va.id [58] .none).text=p.text++(AM i++[58]):=by show((p.text++[])++AM i)++[58]=_;rw [wY,wF]
 rw [et]at hp hx;have hw:AJ bf p.text.length (AM i++[58,x]):=by have:=hp.has.add (c:=x) (by rw [v9]at hx;exact hx);rw [wF]at this;exact this
 obtain⟨c,e0,hN⟩:=RJ hi hw.left;obtain⟨b,gps,k,R⟩:=h hp.left c hN;have hH:=R.here BC hne C1;obtain⟨t,ht,F⟩:=td (x:=x) Ae R.ok hi hH rfl rfl R.key R.req (fun c' e'=> by rw [e0]at e';cases e';exact R.G hN Ae) R.P R.C C1 hw hbx;have ABf:=Y2 R hne;have h58:AJ bf (p.text.length+(AM i).length) [58,x]:=hw.drop;have hT1:b.T.length<((b.T++Mk.be ⟨p.text.length,p.row,p.at_⟩ cc.length)++[t]).length:=by simp only [v9];show _<_+1;exact NH
 have hwl:(AM i).length<=3:=by obtain⟨_,_,_,_,_,_,h,_⟩:=HL i hi;exact h
 have F2:=tD (bf:=bf) (x:=x) ⟨F.B6,fun q e=> by cases e;show p.text.length+(AM i).length<=p.text.length+100;exact pY hwl,ABf,by show oc.length<=100;exact Qq hl⟩ rfl (by show oc.headD 0<=((p.at_+(AM i).length:Nat):Int);exact pZ C1) h58.head h58.tail.head hbx Ae;unfold Ab.keyed at F2;dsimp only at F2;rw [List.take_left,List.drop_left]at F2;have hT2:((b.T++Mk.be ⟨p.text.length,p.row,p.at_⟩ cc.length)++[t]).length<((b.T++Mk.be ⟨p.text.length,p.row,p.at_⟩ cc.length)++((if oc.headD 0<(p.at_:Int)then [Tk.two .bm ⟨p.text.length,p.row,p.at_⟩ ⟨p.text.length,p.row,p.at_⟩]else [])++(Tk.two .ky ⟨p.text.length,p.row,p.at_⟩ ⟨p.text.length,p.row,p.at_⟩::([t]++[Tk.two .va ⟨p.text.length+(AM i).length,p.row,p.at_+(AM i).length⟩ ⟨p.text.length+(AM i).length+1,p.row,p.at_+(AM i).length+1⟩])))).length:=by simp only [v9,xd,List.length_nil];exact pb
 refine⟨_,RF ((R.reach.step F hT1).step F2 hT2) ?_ ?_ rfl ?_ rfl rfl rfl ?_⟩
 . by_cases q:oc.headD 0<(p.at_:Int)
   . rw [if_pos q];cases oc with
     |nil=> exact absurd rfl hne
     |cons y r=> rw [zg];exact ABf
   . rw [if_neg q];exact ABf
 . by_cases q:oc.headD 0<(p.at_:Int)
   . rw [if_pos q];show oc.length+1<=100;exact Xz hl
   . rw [if_neg q];exact Qq hl
 . rw [et,v9,v9];rfl
 . show((p.AX++p.rows Kd.ky.id [] .none)++(p.tell Kd.ky.id [] .none).Aj.rows CR (AM i) (CC i))++((p.tell Kd.ky.id [] .none).Aj.tell CR (AM i) (CC i)).rows Kd.va.id [58] .none=_;rw [R.AX];unfold AK.rows;rw [R.ends];rcases ho with⟨h1,rfl,rfl⟩ |⟨h1,rfl⟩
   . rw [if_pos h1];simp only [w4,wj,wY,wF,JT,ht];rfl
   . rw [if_neg h1];simp only [w4,wj,wY,wF,JT,ht];rfl
end
section
variable{bf:List Nat}{p p':AK}{b:Ab}{gps:List Gp}{k c c' i g:Nat}{cc oc:List Int}{o:List AV}{al:Bool}{l:List Nat}
theorem Y7{B C:Int}(h:C<=B):∀st:List Int,(AW B st).1+(AW C (AW B st).2).1=(AW C st).1/\(AW C (AW B st).2).2=(AW C st).2
 | []=> ⟨rfl,rfl⟩
 | [a]=> ⟨rfl,rfl⟩
 |a::b::r=> by
  by_cases q:a>B
  . have ih:=Y7 h (b::r);rw [show AW B (a::b::r)=((AW B (b::r)).1+1,(AW B (b::r)).2)from if_pos q,show AW C (a::b::r)=((AW C (b::r)).1+1,(AW C (b::r)).2)from if_pos (by exact pe h q)];exact⟨by show(AW B (b::r)).1+1+(AW C (AW B (b::r)).2).1=(AW C (b::r)).1+1;have:=ih.1;exact pg this,ih.2⟩
  . rw [show AW B (a::b::r)=(0,a::b::r)from if_neg q];exact⟨xB _,rfl⟩
theorem th(m:Mk)(x y:Nat):m.be x++m.be y=m.be (x+y):=by unfold Mk.be;rw [AAD]
theorem Y8(hst:b.st=cc++[-1])(BC:∀x∈cc,x> -1):(b.here gps k).H5=⟨(b.gap gps k).ptr,(b.gap gps k).line,(b.gap gps k).col,[-1],false,none,b.T++(b.gap gps k).pos.be cc.length⟩:=by have e:=Q3 (oc:=[-1]) (c:= -1) nofun (xP _) BC;obtain⟨u1,u2⟩:=Y7 (B:=((b.gap gps k).col:Int)) (C:= -1) (by exact Xr) b.st;rw [hst,e]at u1 u2;rw [<-hst]at u1 u2;unfold Ab.H5 Ab.here Ab.uw;show(⟨_,_,_,(AW (-1) (AW ((b.gap gps k).col:Int) b.st).2).2,false,none,(b.T++(b.gap gps k).pos.be (AW ((b.gap gps k).col:Int) b.st).1)++(b.gap gps k).pos.be (AW (-1) (AW ((b.gap gps k).col:Int) b.st).2).1⟩:Ab)=_;rw [u2,wF,th,u1];rfl
theorem Y9{q:Kd}{d:Nat}{x:Nat}(hq:q= .ds/\d=45∨q= .de/\d=46)(R:Bj bf p b gps k cc [-1] [] al)(G:C5 bf b gps k d)(hH:AJ bf p.text.length [d,d,d,x])(hx:BO x=true)(h0:p.at_=0)(BC:∀x∈cc,x> -1):
 ∃b,Bj bf (p.tell q.id [d,d,d] .none) b [] 0 [] [-1] [] false:=by
 have F:=tF (x:=x) hq R.ok G R.key R.req (by rw [R.P];exact hH) hx (by rw [R.C];exact h0);unfold Ab.marked at F;rw [Y8 R.st BC,show(b.here gps k).pos=(b.gap gps k).pos from rfl,show((b.here gps k).on 3).pos=((b.gap gps k).on 3).pos from rfl]at F;refine⟨_,RF (R.reach.step F ?_) rfl (by show 1<=100;decide) rfl ?_ R.L ?_ rfl ?_⟩
 . show b.T.length<((b.T++_)++[_]).length;simp only [v9];show _<_+1;exact NH
 . show(b.gap gps k).ptr+3=(p.text++[d,d,d]).length;rw [R.P,v9];rfl
 . show(b.gap gps k).col+3=p.at_+3;rw [R.C]
 . show p.AX++p.rows q.id [d,d,d] .none=((b.T++_)++[_]).map Tk.row++[];rw [R.AX,<-R.L,<-R.C];unfold AK.rows;rw [R.ends,<-R.L,<-R.C];simp only [w4,wY,wF,JT];rfl
def Fin(bf:List Nat)(D:List AV):Prop:=∃z m,m<=D.length+1/\Ch bf z m a0/\z.T.map Tk.row=D
theorem ZA(r:Reach bf b)(h:b.Ok)(G:C5 bf b gps k 0)(hr:∀ky,b.key=some ky->ky.req=false)(hst:b.st=cc++[-1])(BC:∀x∈cc,x> -1)(he:p.ends=cc.length)(hL:(b.gap gps k).line=p.row)(hC:(b.gap gps k).col=p.at_)(hd:p.AX=b.T.map Tk.row):
 Fin bf (p.tell Kd.se.id [] .none).AX:=by
 have F:=tG h G hr;unfold Ab.fin at F;rw [Y8 hst BC,show(b.here gps k).pos=(b.gap gps k).pos from rfl]at F;obtain⟨m,hm,H⟩:=r;have e:(p.tell Kd.se.id [] .none).AX=(b.T++(b.gap gps k).pos.be cc.length++[Tk.two .se (b.gap gps k).pos (b.gap gps k).pos]).map Tk.row:=by show p.AX++p.rows Kd.se.id [] .none=_;rw [hd];unfold AK.rows;rw [he,<-hL,<-hC];simp only [w4,wF,JT];rfl
 refine⟨_,1+m,?_,H _ 1 (.fin F),e.symm⟩;rw [e,wo,v9,v9];show _<=_+1+1;exact pq hm
theorem ZC{P:Nat}(h:bf[P]? =some 0):Fd bf P 0:=⟨h,rfl,rfl,rfl,.inl (RI h (.inl ⟨rfl,rfl⟩))⟩
theorem RN(Ae:bf.all (fun c=> c !=65279)=true)(R:Bj bf p b gps k cc [-1] [] al)(BC:∀x∈cc,x> -1)(h0:bf[p.text.length]? =some 0):Fin bf (p.tell Kd.se.id [] .none).AX:=by
 refine ZA R.reach R.ok (R.G (ZC h0) Ae) (fun ky e=> ?_) R.st BC R.ends R.L R.C (by rw [R.AX,wY]);by_cases hg:gps=[]
 . have:=R.key;rw [show(b.gap gps k).key=if gps=[]then b.key else none from rfl,if_pos hg,e]at this;cases this
 . exact R.req hg ky e
theorem ZD{n:Nat}(Ae:bf.all (fun c=> c !=65279)=true)(hn:n<=800)(h:C6 bf p cc [-1] al)(BC:∀x∈cc,x> -1)(hp:CK (p.Bu n).text bf)(h0:bf[(p.Bu n).text.length]? =some 0):Fin bf ((p.Bu n).tell Kd.se.id [] .none).AX:=by
 have hp':CK (p.text++wB n 32) bf:=hp;obtain⟨b,R⟩:=h hp'.left (by
  cases n with
  |zero=> exact⟨0,by rw [show(p.Bu 0).text=p.text from wY _]at h0;exact h0,rfl⟩
  |succ n=> exact⟨32,hp'.has.head,rfl⟩)
 exact RN Ae (R.Bu hn hp) BC h0
theorem ZE{n:Nat}(Ae:bf.all (fun c=> c !=65279)=true)(hn:n=0∨n=2)(h:Ff bf p cc [-1])(BC:∀x∈cc,x> -1)(hp:CK (p.Bu n).text bf)(h0:bf[(p.Bu n).text.length]? =some 0):Fin bf ((p.Bu n).tell Kd.se.id [] .none).AX:=by
 have hp':CK (p.text++wB n 32) bf:=hp;have ACQ:AJ bf p.text.length (wB n 32++[0]):=hp'.has.add (by rw [<-v9];exact h0);obtain⟨x,hx,hbx,ADw⟩:∃x,bf[p.text.length]? =some x/\BO x=true/\(x==39)=false:=by
  rcases hn with rfl |rfl
  . exact⟨0,ACQ.head,rfl,rfl⟩
  . exact⟨32,ACQ.head,rfl,rfl⟩
 obtain⟨b,gps,k,i,R⟩:=h hp'.left ⟨x,hx,hbx⟩;obtain⟨c0,e0,G⟩:=R.G Ae;have hq:=RK R;have hP:=R.P;have hlen:(AM i).length<=3:=by obtain⟨_,_,_,_,_,_,h,_⟩:=HL i R.lt;exact h
 have hst:(b.gap gps k).st=cc++[-1]:=R.st;have ABf:(cc++[(-1:Int)]).getLast? =some (-1):=by have:=R.ok.last;rw [R.st]at this;exact this
 have hsl:(cc++[(-1:Int)]).length<=100:=by have:=R.ok.sl;rw [R.st]at this;exact this
 obtain⟨m,t,hm,ht,F⟩:∃m t,m<=n/\t.row=Dk CR (CC i) (b.gap gps k).pos ((b.gap gps k).on (AM i).length).pos/\Fe bf b ⟨(b.gap gps k).ptr+(AM i).length+m,(b.gap gps k).line,(b.gap gps k).col+(AM i).length+m,cc++[-1],false,(b.gap gps k).save.key,b.T++[t]⟩:=by
  by_cases h1:i=1
  . subst h1;cases e0;have F:=RB (bf:=bf) (x:=x) R.ok G R.key R.req (R.wd.app (w:=[x]) (by show AJ bf ((b.gap gps k).ptr+(AM 1).length) [x];rw [hP];intro i c e;match i,e with |0,e=> cases e;exact hx)) ADw;rw [R.here,Ds,hst]at F;exact⟨0,_,wN _,rfl,F⟩
  . obtain⟨w1,w2⟩:=JU R.lt h1;have ADF:AJ bf ((b.gap gps k).ptr+(AM i).length) (wB n 32++[0]):=hP▸ACQ;obtain⟨f,hsp⟩:∃f,Bt (((b.here gps k).past (AM i).length).sc bf b.sure) ((((b.here gps k).past (AM i).length).on n).sc bf b.sure) f:=by
     rw [R.here,Ds];rcases hn with rfl |rfl
     . rw [RM];exact⟨_,Yk (c:=0) ADF.head rfl rfl⟩
     . exact⟨_,sU (s:=(⟨(b.gap gps k).ptr+(AM i).length,_,_,_,_,_,_⟩:Ab).sc bf b.sure) (c:=0) ADF rfl rfl⟩
    have F:=Q9 (m:=n) w1 (R.W e0 G) ⟨x,hP▸hx,.inl hbx⟩ hsp (.inr ⟨0,by rw [R.here,Ds];exact ADF.rep.head,.inr (.inl rfl)⟩) (by omega);rw [R.here,Ds,hst]at F;exact⟨n,_,wW _,by rw [w2];rfl,F⟩
 have hL:(p.Bu n).text.length=p.text.length+n:=by show(p.text++wB n 32).length=_;rw [v9,wc]
 refine ZA (gps:=[]) (k:=n - m) (R.reach.step F (by show _<(b.T++[t]).length;rw [v9];exact yN _)) ⟨F.B6,fun q e=> ?_,ABf,hsl⟩ ⟨?_,rfl,by show 0+(n - m)<=900;omega,rfl,rfl,rfl,Ae⟩ (fun q e=> (hq q e).1) rfl BC R.ends R.L ?_ ?_
 . rw [(hq q e).2];show(b.gap gps k).ptr+(AM i).length+m<=(b.gap gps k).ptr+100;omega
 . show AJ bf ((b.gap gps k).ptr+(AM i).length+m) (wB (n - m) 32++[0]);rw [hP];have:wB n 32=wB m 32++wB (n - m) 32:=by rw [AAD];congr 1;exact pv hm
   rw [this,wF]at ACQ;exact ACQ.rep
 . show(b.gap gps k).col+(AM i).length+m+(n - m)=p.at_+n;rw [<-R.C];exact px hm
 . show p.AX=(b.T++[t]).map Tk.row;rw [R.row,w4,<-ht];rfl
end
section
variable{bf:List Nat}{p p' q:AK}{b:Ab}{gps:List Gp}{k c c' i g t u:Nat}{cc oc:List Int}{o:List AV}{al:Bool}{l:List Nat}
structure Eqv(p p':AK):Prop where
 text:p'.text=p.text
 row:p'.row=p.row
 at_:p'.at_=p.at_
 AX:p'.AX=p.AX
 ends:p'.ends=p.ends
theorem Bj.cg(e:Eqv p p')(h:Bj bf p b gps k cc oc o al):Bj bf p' b gps k cc oc o al:=
 ⟨h.reach,h.ok,h.has,e.text▸h.ptr,e.row▸h.line,e.at_▸h.col,h.st,e.ends▸h.ends,e.AX▸h.AX,h.Et,h.len,h.key,h.req,h.al⟩
theorem Pw.cg(e:Eqv p p')(h:Pw bf p b gps k cc oc i):Pw bf p' b gps k cc oc i:=
 ⟨h.reach,h.ok,h.has,e.text▸h.ptr,e.row▸h.line,e.at_▸h.col,h.st,e.ends▸h.ends,e.AX▸h.AX,h.Et,h.len,h.key,h.req,h.hd,h.lt⟩
theorem C6.cg(e:Eqv p p')(h:C6 bf p cc oc al):C6 bf p' cc oc al:=fun hp hb=> by rw [e.text]at hp hb;obtain⟨b,R⟩:=h hp hb;exact⟨b,R.cg e⟩
theorem Ff.cg(e:Eqv p p')(h:Ff bf p cc oc):Ff bf p' cc oc:=fun hp hb=> by rw [e.text]at hp hb;obtain⟨b,gps,k,i,R⟩:=h hp hb;exact⟨b,gps,k,i,R.cg e⟩
theorem Cq.cg(e:Eqv p p')(h:Cq bf p cc oc o al):Cq bf p' cc oc o al:=fun hp c hn=> by rw [e.text]at hp hn;obtain⟨b,gps,k,R⟩:=h hp c hn;exact⟨b,gps,k,R.cg e⟩
theorem HM:Eqv p p.Aj:=⟨rfl,rfl,rfl,rfl,rfl⟩
def Fh(bf:List Nat)(p:AK)(cc oc:List Int):Prop:=(∃al,C6 bf p cc oc al)∨Ff bf p cc oc
theorem Fh.cg(e:Eqv p p')(h:Fh bf p cc oc):Fh bf p' cc oc:=h.imp (fun⟨al,h⟩=> ⟨al,h.cg e⟩) (·.cg e)
theorem Fh.close{C:Int}(h:Fh bf p cc (C::oc)):Fh bf {p with ends:=p.ends+1} (cc++[C]) oc:=h.imp (fun⟨al,h⟩=> ⟨al,h.close⟩) (·.close)
theorem ti{C:Int}(h:∀x∈cc,x>oc.headD 0)(hc:C<=oc.headD 0):C<=(cc++oc).headD 0:=by
 cases cc with
 |nil=> exact hc
 |cons x r=> have:=h x (.head _);show C<=x;exact pz hc this
theorem Fh.nl(Ae:bf.all (fun c=> c !=65279)=true)(hl:isLE p.end_=true)(hc:c<=800)(D7:(c:Int)<=oc.headD 0)(BC:∀x∈cc,x>oc.headD 0)(h:Fh bf p cc oc):Cq bf (p.nl c) cc oc [] true:=by
 rcases h with⟨al,h⟩ |h
 . exact Kt hl hc h
 . exact Y6 Ae hl hc (ti BC D7) h
inductive PV:AV->Prop
 |none:PV .none
 |nil (s:List Nat):PV (.tup [.str s,.none])
 |GO (s q:List Nat):PV (.tup [.str s,.str q])
inductive PR:AV->Prop
 |mk (i:List Nat) (w:AV) (a b c d:Nat) (h:PV w):PR (.tup [.str i,w,.int a,.int b,.int c,.int d])
theorem tj(i:Nat):PV (CC i):=by
 unfold CC;by_cases h:i=1
 . rw [if_pos h];exact .GO _ _
 . rw [if_neg h];exact .nil _
structure A7(p:AK)(t u:Nat):Prop where
 text:p.text.length<=t
 AX:p.AX.length<=u
 at_:p.at_<=40
 ends:p.ends<=3
 Ca:isLE p.end_=true
 chr:p.text.all CU=true
 pr:∀v∈p.AX,PR v
theorem A7.ok(h:A7 p t u)(ht:t<=100000)(hu:u<=100000):p.Ok:=⟨wC h.text ht,wC h.AX hu,wC h.ends (by decide),wC h.at_ (by decide),h.Ca⟩
theorem A7.tell{w k:List Nat}{v:AV}(h:A7 p t u)(hw:w.length<=3)(ha:p.at_+w.length<=40)(hc:w.all CU=true:=by decide)(hv:PV v:=by exact PV.none):A7 (p.tell k w v) (t+3) (u+4):=by
 refine⟨?_,?_,ha,wN _,h.Ca,by show(p.text++w).all CU=true;rw [xf,h.chr,hc];rfl,fun x hx=> ?_⟩
 . show(p.text++w).length<=_;rw [v9];have:=h.text;exact X4 hw this
 . show(p.AX++(wB p.ends _++[_])).length<=_;rw [v9,v9,wc];have:=h.AX;have:=h.ends;show _+(_+1)<=_;omega
 . rcases wV.mp (show x∈p.AX++(wB p.ends (IA p.row p.at_)++[.tup [.str k,v,.int p.row,.int p.at_,.int p.row,.int (p.at_+w.length:Nat)]])from hx)with hx |hx
   . exact h.pr x hx
   . rcases wV.mp hx with hx |hx
     . cases(List.mem_replicate.mp hx).2;exact .mk _ _ _ _ _ _ .none
     . cases xH.mp hx;exact .mk _ _ _ _ _ _ hv
theorem A7.Aj(h:A7 p t u):A7 p.Aj t u:=⟨h.text,h.AX,h.at_,h.ends,h.Ca,h.chr,h.pr⟩
theorem LE.chr{l:List Nat}(h:isLE l=true):l.all CU=true:=by rcases HB h with e |e |e |e<;>rw [e]<;>decide
theorem RO:∀n:Nat,(wB n 32).all CU=true
 |0=> rfl
 |n+1=> by show(CU 32&&(wB n 32).all CU)=true;rw [RO n];rfl
theorem A7.nl(h:A7 p t u)(hc:c<=30):A7 (p.nl c) (t+40) u:=by
 have h1:=h.text;have h2:=LE.len h.Ca;have h3:=LE.chr h.Ca;have h4:=RO c;have hlt:=Cg p (m:=4) (by decide);have hx:(BB (p.dr 4) p.end_ c).length<=40/\(BB (p.dr 4) p.end_ c).all CU=true:=by
  generalize p.dr 4=g at hlt
  match g,hlt with
  |0,_=> unfold BB Dq Dr;exact⟨by simp;exact p8 hc h2,by simp only [xf,h3,h4];rfl⟩
  |1,_=> unfold BB Dq Dr;exact⟨by simp;exact p9 hc h2,by simp only [xf,h3,h4];rfl⟩
  |2,_=> unfold BB Dq Dr;exact⟨by simp;exact X5 hc h2,by rw [if_neg (by decide),if_pos rfl];simp only [xf,h3,h4];rfl⟩
  |3,_=> unfold BB Dq Dr;exact⟨by simp;exact X5 hc h2,by rw [if_neg (by decide),if_neg (by decide),if_pos rfl];simp only [xf,h3,h4];rfl⟩
 refine⟨?_,h.AX,by show c<=40;exact qA hc,h.ends,h.Ca,?_,h.pr⟩
 . show(p.text++BB (p.dr 4) p.end_ c).length<=_;rw [v9];omega
 . show(p.text++BB (p.dr 4) p.end_ c).all CU=true;rw [xf,h.chr,hx.2];rfl
theorem A7.Bu{n:Nat}(h:A7 p t u)(hn:n<=3)(ha:p.at_+n<=40):A7 (p.Bu n) (t+3) u:=by refine⟨?_,h.AX,ha,h.ends,h.Ca,by show(p.text++wB n 32).all CU=true;rw [xf,h.chr,RO];rfl,h.pr⟩;show(p.text++wB n 32).length<=_;rw [v9,wc];have:=h.text;exact X4 hn this
theorem tm:∀{i:Nat},i<8->(AM i).all CU=true
 |0,_=> by decide
 |1,_=> by decide
 |2,_=> by decide
 |3,_=> by decide
 |4,_=> by decide
 |5,_=> by decide
 |6,_=> by decide
 |7,_=> by decide
theorem A7.word(h:A7 p t u)(ha:p.at_+3<=40):A7 p.word (t+3) (u+4):=by obtain⟨_,_,_,_,_,_,hl,_⟩:=HL (p.dr 8) (Cg p (by decide));exact h.Aj.tell hl (by show p.at_+_<=40;exact qB ha hl) (tm (Cg p (by decide))) (tj _)
theorem A7.mono{t' u':Nat}(h:A7 p t u)(ht:t<=t')(hu:u<=u'):A7 p t' u':=⟨wC h.text ht,wC h.AX hu,h.at_,h.ends,h.Ca,h.chr,h.pr⟩
def nT:Nat->Nat
 |0=> 60
 |D+1=> 3 * (2 * nT D+200)+100
def nD:Nat->Nat
 |0=> 4
 |D+1=> 3 * (2 * nD D+16)+10
end
end L4
end Internal
section
namespace Internal
abbrev N.Ex:N:=7365998
abbrev N.depth:N:=431198598248
abbrev N.near:N:=1852137842
abbrev N.flat:N:=1718378868
abbrev N.n:N:=110
abbrev N.kind:N:=1802071652
abbrev N.how:N:=6844279
abbrev N.bare:N:=1650553445
abbrev N.i:N:=105
abbrev N.RP:N:=120265231983986
namespace L4
variable{p q:AK}{cf:Nat->List AV->List (N×AV)->Hp->COut}
theorem Cb{b:List CS}{r:Out Flow}:∀{a:List CS} {s s1:St},AU PP fu cf a s= .ok .next s1->AU PP fu cf b s1=r->AU PP fu cf (a++b) s=r
 | [],s,s1,h,e=> by cases h;exact e
 |c::a,s,s1,h,e=> by
  have h:(As PP fu cf c s).bind _=_:=h;show(As PP fu cf c s).bind _=_;cases hc:As PP fu cf c s with
  |bad=> rw [hc]at h;cases h
  |exc x y=> rw [hc]at h;cases h
  |ok f s2=>
   rw [hc]at h;cases f with
   |next=> exact Cb (a:=a) h e
   |_=> cases h
theorem NR{b:List CS}{f:Flow}:∀{a:List CS} {s s1:St},AU PP fu cf a s= .ok f s1->f≠ .next->AU PP fu cf (a++b) s= .ok f s1
 | [],s,s1,h,e=> by cases h;exact absurd rfl e
 |c::a,s,s1,h,e=> by
  have h:(As PP fu cf c s).bind _=_:=h;show(As PP fu cf c s).bind _=_;cases hc:As PP fu cf c s with
  |bad=> rw [hc]at h;cases h
  |exc x y=> rw [hc]at h;cases h
  |ok g s2=>
   rw [hc]at h;cases g with
   |next=> exact NR (a:=a) h e
   |_=> exact h
theorem ZF{f:Nat}{as:List CE}{vs:List AV}{s:St}{v:AV}{h:Hp}(h1:Be PP cf as s= .ok vs s)(h2:cf f vs [] s.hp= .ok v h):AU PP fu cf [.expr (.app (.cst (.fn f)) as)] s= .ok .next ⟨s.loc,h⟩:=by
 have e:Ad PP cf (.app (.cst (.fn f)) as) s= .ok v ⟨s.loc,h⟩:=by show((Be PP cf as s).bind fun vs s=> (EF PP cf (.fn f) vs [] s.hp).bind s.loc fun v s=> Out.ok v s)=_;rw [h1];show((cf f vs [] s.hp).bind s.loc fun v s=> Out.ok v s)=_;rw [h2];rfl
 show((Ad PP cf (.app (.cst (.fn f)) as) s).bind fun _ s=> Out.ok Flow.next s).bind _=_;rw [e];rfl
def ES:List CS:=Su
def Kw(D C:Nat)(near flat:Bool):List (N×AV):=[(N.Ex,pn),(N.depth,.int D),(N.column,.int C),(N.near,.bool near),(N.flat,.bool flat)]
def Fi(D:Nat)(p:AK):Nat:=if D=0∨p.left<1 then 0 else p.dr 24 % 4
def JV(D C:Nat)(near flat:Bool)(n K:Nat)(p:AK):St:=⟨Kw D C near flat++[(N.n,.int n),(N.kind,.int K),(N.how,.int (n / 4:Nat))],p.hp⟩
theorem RQ(n m:Nat)(hm:0<m):∀h:Hp,binOp h .mod (.int n) (.int m)=some (.int (n % m:Nat)):=fun _=> by show(if(m:Int)=0 then none else some (AV.int ((n:Int).fmod m)))=_;rw [if_neg (by exact Xv hm),show((n:Int).fmod m)=((n % m:Nat):Int)from by rw [Int.fmod_eq_emod_of_nonneg _ (by exact X6)];rfl]
theorem RR(n m:Nat)(hm:0<m)(hl:m<=1000):∀h:Hp,binOp h .div (.int n) (.int m)=some (.int (n / m:Nat)):=fun _=> by
 show(if(m:Int)=0∨((m:Int)).natAbs>lim then none else some (AV.int ((n:Int).fdiv m)))=_;rw [if_neg (by
  rintro (h |h)
  . exact qC hm h
  . have h:m>1000000:=h;omega),show((n:Int).fdiv m)=((n / m:Nat):Int)from by rw [Int.fdiv_eq_ediv_of_nonneg _ (by exact X6)];rfl]
theorem tq{D C:Nat}{near flat:Bool}(h:p.dr 24 % 4=3):∀d,AB PP fu (d+3) FF [pn,.int D,.int C,.bool near,.bool flat] [] p.hp= .ok .none p.Aj.hp:=by have hd:=Ew (p:=p) (m:=24) (by decide);have e:=RQ (p.dr 24) 4 (by decide);rw [h]at e;exact cert [.call _ _ _ _ _ 1 hd,.bin .mod (.int (p.dr 24)) (.int 4) (.int 3) e,.bin .div (.int (p.dr 24)) (.int 4) (.int (p.dr 24 / 4:Nat)) (RR _ _ (by decide) (by decide))]
theorem tu{D C:Nat}{near flat:Bool}(h:p.dr 24 % 4≠3):∀d,AU PP fu (AB PP fu (d+2)) (ES.take 4) ⟨Kw D C near flat,p.hp⟩= .ok .next (JV D C near flat (p.dr 24) (Fi D p) p.Aj):=by
 have hd:=Ew (p:=p) (m:=24) (by decide);have e:=RQ (p.dr 24) 4 (by decide);have e2:=RR (p.dr 24) 4 (by decide) (by decide);have hk:Fi D p=if D=0∨p.left<1 then 0 else p.dr 24 % 4:=rfl
 generalize Fi D p=K at hk;have h3:(((p.dr 24 % 4:Nat):Int)==3)=false:=by rw [beq_eq_false_iff_ne];exact qD h
 generalize p.dr 24=n at *;generalize n % 4=m at *;cases D with
 |zero=> rw [if_pos (.inl rfl)]at hk;subst hk;exact Aa [.call _ _ _ _ _ 1 hd,.bin .mod (.int n) (.int 4) (.int m) e,.bin .div (.int n) (.int 4) (.int (n / 4:Nat)) e2,.cmp .eq (.int m) (.int 3) false (fun _=> En _ h3)]
 |succ D=>
  have hD:(((D+1:Nat):Int)==0)=false:=by rw [beq_eq_false_iff_ne];exact qE
  by_cases hl:p.left<1
  . rw [if_pos (.inr hl)]at hk;subst hk;exact Aa [.call _ _ _ _ _ 1 hd,.bin .mod (.int n) (.int 4) (.int m) e,.bin .div (.int n) (.int 4) (.int (n / 4:Nat)) e2,.cmp .eq (.int m) (.int 3) false (fun _=> En _ h3),.cmp .eq (.int (D+1:Nat)) (.int 0) false (fun _=> En _ hD),.cmp .lt (.int p.left) (.int 1) true (fun _=> ltI _ (decide_eq_true hl))]
  . rw [if_neg (by rintro (h |h);cases h;exact hl h)]at hk;subst hk;exact Aa [.call _ _ _ _ _ 1 hd,.bin .mod (.int n) (.int 4) (.int K) e,.bin .div (.int n) (.int 4) (.int (n / 4:Nat)) e2,.cmp .eq (.int K) (.int 3) false (fun _=> En _ h3),.cmp .eq (.int (D+1:Nat)) (.int 0) false (fun _=> En _ hD),.cmp .lt (.int p.left) (.int 1) false (fun _=> ltI _ (decide_eq_false hl))]
end L4
end Internal
end
namespace Internal
namespace L4
section
variable{p q:AK}{cf:Nat->List AV->List (N×AV)->Hp->COut}
theorem NS{P:Prog}{fu k:Nat}{g:List CE}{s:St}{r:Out (List AV)}(tr:Tr P fu)(e:DR (GK k) g s tr=some ⟨r,[],tr.map dup⟩:=by kernel_rfl!):∀d,Be P (AB P fu (d+k)) g s=r:=fun d=>
 Df (fun f as ks h t=> G8 d k f as ks h t) g s tr _ e fun p hp=> by obtain⟨q,_,rfl⟩:=wu.mp hp;rfl
def GR(flat:Bool)(K r:Nat):Bool:=flat&&(K==1&&r==1)
def GS(near:Bool)(K r:Nat):Bool:=r==0&&(near||K==0)
def GU(flat:Bool)(C K r x:Nat):Nat:=if GR flat K r=true then C else C+1+x
def Fj(near flat:Bool)(C K r x:Nat)(p:AK):AK:=if GS near K r=true then p.Bu (1+x)else p.nl (GU flat C K r x)
theorem tv{D C n K:Nat}{near flat:Bool}(hK:K<3)(hn:n<24)(h:p.Ok)(hC:C<=800):
 ∀d,AU PP fu (AB PP fu (d+2)) ((ES.drop 4).take 2) (JV D C near flat n K p)= .ok .next ⟨(JV D C near flat n K p).loc++[(N.bare,.bool (GR flat K (n / 4 % 3)))],(Fj near flat C K (n / 4 % 3) (n / 4 / 3) p).hp⟩:=by
 have em:=RQ (n / 4) 3 (by decide);have ed:=RR (n / 4) 3 (by decide) (by decide);have hr:n / 4 % 3<3:=Nat.mod_lt _ (by decide);have hx:n / 4 / 3<=1:=by exact X7 hn
 have c1:=RE (n:=1+n / 4 / 3) h (by exact qF hx);have c2:=IB (c:=C) h (by exact Kf hC);have c3:=IB (c:=C+1+n / 4 / 3) h (by exact qG hC hx);unfold JV;generalize n / 4=w at *;generalize w % 3=r at *;generalize w / 3=x at *
 match K,hK with
 |0,_=>
  cases flat<;>cases near<;>(match r,hr with
   |0,_=> exact Aa [.bin .mod (.int w) (.int 3) (.int 0) em,.bin .div (.int w) (.int 3) (.int x) ed,.call _ _ _ _ _ 1 c1]
   |1,_=> exact Aa [.bin .mod (.int w) (.int 3) (.int 1) em,.bin .div (.int w) (.int 3) (.int x) ed,.call _ _ _ _ _ 2 c3]
   |2,_=> exact Aa [.bin .mod (.int w) (.int 3) (.int 2) em,.bin .div (.int w) (.int 3) (.int x) ed,.call _ _ _ _ _ 2 c3])
 |1,_=>
  cases flat with
  |false=>
   cases near with
   |false=> match r,hr with
    |0,_=> exact Aa [.bin .mod (.int w) (.int 3) (.int 0) em,.bin .div (.int w) (.int 3) (.int x) ed,.call _ _ _ _ _ 2 c3]
    |1,_=> exact Aa [.bin .mod (.int w) (.int 3) (.int 1) em,.bin .div (.int w) (.int 3) (.int x) ed,.call _ _ _ _ _ 2 c3]
    |2,_=> exact Aa [.bin .mod (.int w) (.int 3) (.int 2) em,.bin .div (.int w) (.int 3) (.int x) ed,.call _ _ _ _ _ 2 c3]
   |true=> match r,hr with
    |0,_=> exact Aa [.bin .mod (.int w) (.int 3) (.int 0) em,.bin .div (.int w) (.int 3) (.int x) ed,.call _ _ _ _ _ 1 c1]
    |1,_=> exact Aa [.bin .mod (.int w) (.int 3) (.int 1) em,.bin .div (.int w) (.int 3) (.int x) ed,.call _ _ _ _ _ 2 c3]
    |2,_=> exact Aa [.bin .mod (.int w) (.int 3) (.int 2) em,.bin .div (.int w) (.int 3) (.int x) ed,.call _ _ _ _ _ 2 c3]
  |true=>
   cases near with
   |false=> match r,hr with
    |0,_=> exact Aa [.bin .mod (.int w) (.int 3) (.int 0) em,.bin .mod (.int w) (.int 3) (.int 0) em,.bin .div (.int w) (.int 3) (.int x) ed,.call _ _ _ _ _ 2 c3]
    |1,_=> exact Aa [.bin .mod (.int w) (.int 3) (.int 1) em,.bin .mod (.int w) (.int 3) (.int 1) em,.call _ _ _ _ _ 2 c2]
    |2,_=> exact Aa [.bin .mod (.int w) (.int 3) (.int 2) em,.bin .mod (.int w) (.int 3) (.int 2) em,.bin .div (.int w) (.int 3) (.int x) ed,.call _ _ _ _ _ 2 c3]
   |true=> match r,hr with
    |0,_=> exact Aa [.bin .mod (.int w) (.int 3) (.int 0) em,.bin .mod (.int w) (.int 3) (.int 0) em,.bin .div (.int w) (.int 3) (.int x) ed,.call _ _ _ _ _ 1 c1]
    |1,_=> exact Aa [.bin .mod (.int w) (.int 3) (.int 1) em,.bin .mod (.int w) (.int 3) (.int 1) em,.call _ _ _ _ _ 2 c2]
    |2,_=> exact Aa [.bin .mod (.int w) (.int 3) (.int 2) em,.bin .mod (.int w) (.int 3) (.int 2) em,.bin .div (.int w) (.int 3) (.int x) ed,.call _ _ _ _ _ 2 c3]
 |2,_=>
  cases flat<;>(cases near with
   |false=> match r,hr with
    |0,_=> exact Aa [.bin .mod (.int w) (.int 3) (.int 0) em,.bin .div (.int w) (.int 3) (.int x) ed,.call _ _ _ _ _ 2 c3]
    |1,_=> exact Aa [.bin .mod (.int w) (.int 3) (.int 1) em,.bin .div (.int w) (.int 3) (.int x) ed,.call _ _ _ _ _ 2 c3]
    |2,_=> exact Aa [.bin .mod (.int w) (.int 3) (.int 2) em,.bin .div (.int w) (.int 3) (.int x) ed,.call _ _ _ _ _ 2 c3]
   |true=> match r,hr with
    |0,_=> exact Aa [.bin .mod (.int w) (.int 3) (.int 0) em,.bin .div (.int w) (.int 3) (.int x) ed,.call _ _ _ _ _ 1 c1]
    |1,_=> exact Aa [.bin .mod (.int w) (.int 3) (.int 1) em,.bin .div (.int w) (.int 3) (.int x) ed,.call _ _ _ _ _ 2 c3]
    |2,_=> exact Aa [.bin .mod (.int w) (.int 3) (.int 2) em,.bin .div (.int w) (.int 3) (.int x) ed,.call _ _ _ _ _ 2 c3])
def Ey(D C:Nat)(near flat:Bool)(n K:Nat)(bare:Bool)(p:AK):St:=⟨Kw D C near flat++[(N.n,.int n),(N.kind,.int K),(N.how,.int (n / 4:Nat))]++[(N.bare,.bool bare)],p.hp⟩
theorem tw{D C n:Nat}{near flat bare:Bool}(h:p.Ok):∀d,AU PP fu (AB PP fu (d+2)) (ES.drop 6) (Ey D C near flat n 0 bare p)= .ok .next (Ey D C near flat n 0 bare p.word):=
 Aa [.call _ _ _ _ _ 2 (Y0 h)]
theorem t4{c:CE}{b o:List CS}{s:St}{r:Out Flow}(h1:An PP cf c s= .ok false s)(h2:AU PP fu cf o s=r):AU PP fu cf [.ifs c b o] s=r.bind fun f s=>.ok f s:=by
 have e:As PP fu cf (.ifs c b o) s=r:=by show((An PP cf c s).bind fun v s=> if v=true then AU PP fu cf b s else AU PP fu cf o s)=_;rw [h1];exact h2
 show(As PP fu cf (.ifs c b o) s).bind _=_;rw [e];cases r with
 |ok f s=> cases f<;>rfl
 |_=> rfl
theorem t5{D C n K:Nat}{near flat bare:Bool}(hK:K=1∨K=2){m:Nat}(h:∀d,AB PP fu (d+(m+2)) Lm [pn,.int K,.int D,.bool bare] [] p.hp= .ok .none q.hp):∀d,AU PP fu (AB PP fu (d+(m+2))) (ES.drop 6) (Ey (D+1) C near flat n K bare p)= .ok .next (Ey (D+1) C near flat n K bare q):=fun d=> by
 have h1:∀d,An PP (AB PP fu (d+2)) (.cmp (.var N.kind) [(.eq,.cst (.int 0))]) (Ey (D+1) C near flat n K bare p)= .ok false (Ey (D+1) C near flat n K bare p):=by rcases hK with rfl |rfl<;>exact Br []
 have h2:∀d,Be PP (AB PP fu (d+2)) [.var N.Ex,.var N.kind,.bin .sub (.var N.depth) (.cst (.int 1)),.var N.bare] (Ey (D+1) C near flat n K bare p)= .ok [pn,.int K,.int D,.bool bare] (Ey (D+1) C near flat n K bare p):=
  NS [.bin .sub (.int (D+1:Nat)) (.int 1) (.int D) (fun _=> by show some (AV.int (((D+1:Nat):Int) - 1))=_;rw [show(((D+1:Nat):Int) - 1)=(D:Int) by exact qH])]
 exact t4 (h1 (d+m)) (ZF (h2 (d+m)) (h d))
end
section
variable{bf:List Nat}{p q:AK}{D C t u:Nat}{oc:List Int}{near flat bare al:Bool}{K:Nat}
def iT(D:Nat):Nat:=3 * (2 * nT D+200)+40
def iD(D:Nat):Nat:=3 * (2 * nD D+16)+10
theorem RT:nT (D+1)=iT D+60:=rfl
theorem RU:nD (D+1)=iD D:=rfl
theorem RV:∀D,60<=nT D
 |0=> wW _
 |D+1=> by rw [RT];exact qI
theorem RW:∀D,4<=nD D
 |0=> wW _
 |D+1=> by rw [RU];unfold iD;exact qJ
def ET(bf:List Nat)(p:AK)(oc:List Int)(D t u:Nat):Prop:=∃cc,Fh bf p cc oc/\(∀x∈cc,x>oc.headD 0)/\p.ends=cc.length/\cc.length<=D/\A7 p t u
structure NT(bf:List Nat)(p:AK)(C:Nat)(near al:Bool)(oc:List Int)(D t u:Nat):Prop where
 A:C6 bf p [] oc al
 hC:oc.headD 0=(C:Int)
 ne:oc≠[]
 dec:oc.Pairwise (· > ·)
 len:oc.length+D<=20
 nr:near=true->al=true/\p.at_=C+1
 Hu:C<p.at_
 RX:p.at_<=C+4
 c4:C+4 * D<=20
 B:A7 p t u
 ends:p.ends=0
 tb:t+nT D<=90000
 ub:u+nD D<=90000
structure ZG(bf:List Nat)(p:AK)(K C:Nat)(bare:Bool)(oc:List Int)(D t u:Nat):Prop where
 S:Cq bf p [] oc [] true
 hK:K=1∨K=2
 at_:p.at_=C
 hC:if bare=true then oc.headD 0=(C:Int)else oc.headD 0<(C:Int)
 ne:oc≠[]
 dec:oc.Pairwise (· > ·)
 len:oc.length+D<=19
 c4:C+4 * D<=20
 B:A7 p t u
 ends:p.ends=0
 tb:t+iT D<=90000
 ub:u+iD D<=90000
def NodeOk(bf:List Nat)(D:Nat):Prop:=∀{p:AK} {C:Nat} {near al:Bool} {oc:List Int} {t u:Nat} (flat:Bool),NT bf p C near al oc D t u->
 ∃p',(∀d,AB PP fu (d+(2 * D+3)) FF [pn,.int D,.int C,.bool near,.bool flat] [] p.hp= .ok .none p'.hp)/\ET bf p' oc D (t+nT D) (u+nD D)
def RY(bf:List Nat)(D:Nat):Prop:=∀{p:AK} {K C:Nat} {bare:Bool} {oc:List Int} {t u:Nat},ZG bf p K C bare oc D t u->
 ∃p',(∀d,AB PP fu (d+(2 * D+4)) Lm [pn,.int K,.int D,.bool bare] [] p.hp= .ok .none p'.hp)/\ET bf p' oc (D+1) (t+iT D) (u+iD D)/\(bare=false->1<=p'.ends)
theorem t6{h:Hp}{k:Nat}:AB PP fu (k+1) FF [pn,.int D,.int C,.bool near,.bool flat] [] h=Dw (AU PP fu (AB PP fu k) ES ⟨Kw D C near flat,h⟩):=by kernel_rfl!
theorem ZH{n K:Nat}{p1 p2 p3:AK}{k:Nat}(ha:∀d,AU PP fu (AB PP fu (d+2)) (ES.take 4) ⟨Kw D C near flat,p.hp⟩= .ok .next (JV D C near flat n K p1))
 (hb:∀d,AU PP fu (AB PP fu (d+2)) ((ES.drop 4).take 2) (JV D C near flat n K p1)= .ok .next (Ey D C near flat n K bare p2)) (hc:∀d,AU PP fu (AB PP fu (d+(k+2))) (ES.drop 6) (Ey D C near flat n K bare p2)= .ok .next (Ey D C near flat n K bare p3)):
 ∀d,AB PP fu (d+(k+3)) FF [pn,.int D,.int C,.bool near,.bool flat] [] p.hp= .ok .none p3.hp:=fun d=> by
 show AB PP fu (d+(k+2)+1) _ _ _ _=_;rw [t6];have:=Cb (ha (d+k)) (Cb (hb (d+k)) (hc d));rw [show ES=ES.take 4++((ES.drop 4).take 2++ES.drop 6)from rfl];exact congrArg Dw this
theorem ZI(h:NT bf p C near al oc D t u){r x:Nat}(hx:x<=1)(hn:near=true∨K=0∨GS near K r=false):(∃al',Cq bf (Fj near flat C K r x p) [] oc [] al'/\(K=0∨al'=true))/\A7 (Fj near flat C K r x p) (t+40) u/\(Fj near flat C K r x p).at_=(if GS near K r=true then p.at_+(1+x)else GU flat C K r x)/\(Fj near flat C K r x p).ends=0:=by
 have h4:=h.RX;have hc:=h.c4;unfold Fj;cases hg:GS near K r with
 |true=>
  rw [if_pos rfl,if_pos rfl];refine⟨⟨al,tU (by exact qK) (by exact qL hx) h.A,?_⟩,(h.B.Bu (by exact qM hx) (by exact qN hx h4 hc)).mono (by exact qO) (wW _),rfl,h.ends⟩;rcases hn with hn |hn |hn
  . exact .inr (h.nr hn).1
  . exact .inl hn
  . rw [hg]at hn;cases hn
 |false=>
  rw [if_neg nofun,if_neg nofun];have hgc:GU flat C K r x<=C+2:=by unfold GU;split<;>omega
  exact⟨⟨true,Kt h.B.Ca (by exact qP hc hgc) h.A,.inr rfl⟩,h.B.nl (by exact qQ hc hgc),rfl,h.ends⟩
theorem RZ(Ae:bf.all (fun c=> c !=65279)=true)(hI:∀D',D=D'+1->RY bf D'):NodeOk bf D:=by
 intro p C near al oc t u flat h;have hlt:=Cg p (m:=24) (by decide);by_cases h3:p.dr 24 % 4=3
 . refine⟨p.Aj,fun d=> tq h3 (d+2 * D),[],.inl ⟨al,h.A.cg HM⟩,nofun,h.ends,wN _,h.B.Aj.mono (by exact H6) (by exact H6)⟩
 . have hK:Fi D p<3:=by
    have:=Nat.mod_lt (p.dr 24) (y:=4) (by decide);unfold Fi;split<;>omega
   have hx:p.dr 24 / 4 / 3<=1:=by exact X7 hlt
   have htb:=h.tb;have hub:=h.ub;have hnt:=RV D;have hnd:=RW D;have hp1:NT bf p.Aj C near al oc D t u:=⟨h.A.cg HM,h.hC,h.ne,h.dec,h.len,h.nr,h.Hu,h.RX,h.c4,h.B.Aj,h.ends,h.tb,h.ub⟩;have hA:=tu (D:=D) (C:=C) (near:=near) (flat:=flat) h3;have hB:=tv (p:=p.Aj) (D:=D) (C:=C) (n:=p.dr 24) (K:=Fi D p) (near:=near) (flat:=flat) hK hlt (hp1.B.ok (by exact Qr htb) (by exact Qr hub)) (by have:=h.c4;exact Kg this);by_cases h0:Fi D p=0
   . rw [h0]at hA hB;obtain⟨⟨al',S,_⟩,B2,e2,e3⟩:=ZI (flat:=flat) (K:=0) (r:=p.dr 24 / 4 % 3) hp1 hx (.inr (.inl rfl));have hat:C<(Fj near flat C 0 (p.dr 24 / 4 % 3) (p.dr 24 / 4 / 3) p.Aj).at_:=by
      rw [e2];have h1:C<p.Aj.at_:=h.Hu;split
      . exact qR h1
      . have:GR flat 0 (p.dr 24 / 4 % 3)=false:=by unfold GR;cases flat<;>rfl
        unfold GU;rw [this];show C<C+1+_;exact qS
     have ADx:(Fj near flat C 0 (p.dr 24 / 4 % 3) (p.dr 24 / 4 / 3) p.Aj).at_<=C+6:=by
      rw [e2];have h1:p.Aj.at_<=C+4:=h.RX;split
      . exact qT hx h1
      . unfold GU;split<;>omega
     have hc4:=h.c4;refine⟨_,ZH hA hB (k:=2 * D) (fun d=> tw (B2.ok (by exact qU htb) (by exact Qr hub)) (d+2 * D)),[],.inr ?_,nofun,rfl,wN _,(B2.word (by exact qV ADx hc4)).mono (by exact qW hnt) (by exact qX hnd)⟩;exact tV (S.cg HM) (Cg _ (by decide)) (by rw [h.hC];show(C:Int)<_;exact Int.ofNat_lt.mpr hat) e3
   . cases D with
     |zero=> exact absurd (if_pos (.inl rfl)) h0
     |succ D'=>
      have ADS:Fi (D'+1) p=1∨Fi (D'+1) p=2:=by omega
      generalize Fi (D'+1) p=K at *;generalize hr:p.dr 24 / 4 % 3=r at *;generalize p.dr 24 / 4 / 3=x at *;have hn:near=true∨K=0∨GS near K r=false:=by
       cases near with
       |true=> exact .inl rfl
       |false=> refine .inr (.inr ?_);unfold GS;rw [show(K==0)=false from beq_false_of_ne h0];cases(r==0)<;>rfl
      obtain⟨⟨al',S,ha⟩,B2,e2,e3⟩:=ZI (flat:=flat) hp1 hx hn;rcases ha with ha |rfl
      . exact absurd ha h0
      have hbg:GR flat K r=true->GS near K r=false:=by unfold GR GS;intro z;simp only [yM,beq_iff_eq]at z;rw [show(r==0)=false from by rw [z.2.2];rfl];rfl
      have hc4:=h.c4;have hat:C+1<=p.Aj.at_:=h.Hu;have hgn:GS near K r=true->p.Aj.at_=C+1:=fun z=> by
       rcases hn with hn |hn |hn
       . exact(hp1.nr hn).2
       . exact absurd hn h0
       . rw [hn]at z;cases z
      rw [RT]at htb;rw [RU]at hub;have hIP:ZG bf (Fj near flat C K r x p.Aj) K ((Fj near flat C K r x p.Aj).at_) (GR flat K r) oc D' (t+40) u:=by
       refine⟨S,ADS,rfl,?_,h.ne,h.dec,by have:=h.len;exact qY this,?_,B2,e3,by exact qZ htb,by exact qd hub⟩
       . rw [e2,h.hC];cases hbb:GR flat K r with
         |true=> rw [hbg hbb,if_pos rfl,if_neg nofun];unfold GU;rw [hbb];rfl
         |false=>
          rw [if_neg nofun];split
          . exact qe hat
          . unfold GU;rw [hbb];show(C:Int)<((C+1+x:Nat):Int);exact qf
       . rw [e2];split
         . rename_i z;have:=hgn z;exact qg hx hc4 this
         . unfold GU;split<;>omega
      obtain⟨p',hI1,⟨cc,g1,g2,g3,g4,g5⟩,_⟩:=hI D' rfl hIP;have hC1:=t5 (D:=D') (C:=C) (n:=p.dr 24) (near:=near) (flat:=flat) (bare:=GR flat K r) ADS (m:=2 * D'+2) hI1;refine⟨p',ZH (k:=2 * (D'+1)) hA hB hC1,cc,g1,g2,g3,g4,g5.mono ?_ ?_⟩
      . rw [RT];exact qh
      . rw [RU];exact qi
end
section
variable{p q:AK}{D C K i:Nat}{bare:Bool}{cf:Nat->List AV->List (N×AV)->Hp->COut}
def IC:List CS:=Sv
def Ra(K D:Nat)(bare:Bool):List (N×AV):=[(N.Ex,pn),(N.kind,.int K),(N.depth,.int D),(N.bare,.bool bare)]
def HN:CS:=DS IC 2
def B8:List CS:=BQ HN
def Ak(K D:Nat)(bare:Bool)(C:Nat)(i m:Option Nat)(p:AK):St:=⟨Ra K D bare++[(N.column,.int C)]++(match i with |none=>[] |some i=>[(N.i,.int i)])++(match m with |none=>[] |some m=>[(N.RP,.int m)]),p.hp⟩
def NU(K:Nat):Kd:=if K=1 then .bs else .bm
def Kx(K:Nat)(bare:Bool)(p:AK):AK:=if bare=true then p else p.tell (NU K).id [] .none
theorem t7(hK:K=1∨K=2)(h:p.Ok):∀d,AU PP fu (AB PP fu (d+2)) (IC.take 2) ⟨Ra K D bare,p.hp⟩= .ok .next (Ak K D bare p.at_ none none (Kx K bare p)):=by
 cases bare with
 |true=> rcases hK with rfl |rfl<;>exact Aa []
 |false=>
  rcases hK with rfl |rfl
  . exact Aa [.call _ _ _ _ _ 1 (Ci h (k:=Kd.bs.id) (w:=[]) (v:=.none) (by decide))]
  . exact Aa [.call _ _ _ _ _ 1 (Ci h (k:=Kd.bm.id) (w:=[]) (v:=.none) (by decide))]
theorem t8(h:p.ends<=100){m j:Option Nat}:∀d,AU PP fu (AB PP fu (d+2)) (IC.drop 3) (Ak K D bare C j m p)= .ok .next (Ak K D bare C j m (if bare=true then p else{p with ends:=p.ends+1})):=by cases bare<;>cases j<;>cases m<;>exact Aa []
theorem t9:∃xs,(∀d,IQ PP (AB PP fu (d+2)) (NK HN) (Ak K D bare C none none p)= .ok xs (Ak K D bare C none none p.Aj))/\(xs=[.int 0]∨xs=[.int 0,.int 1]∨xs=[.int 0,.int 1,.int 2]):=by
 have hd:=Ew (p:=p) (m:=3) (by decide);have hlt:=Cg p (m:=3) (by decide);generalize p.dr 3=n at hd hlt
 match n,hlt with
 |0,_=> exact⟨_,NJ [.call _ _ _ _ _ 1 hd],.inl rfl⟩
 |1,_=> exact⟨_,NJ [.call _ _ _ _ _ 1 hd],.inr (.inl rfl)⟩
 |2,_=> exact⟨_,NJ [.call _ _ _ _ _ 1 hd],.inr (.inr rfl)⟩
theorem ZJ{j m:Option Nat}(h:j=none->m=none):∀d,E9 PP (AB PP fu (d+2)) (JL HN) (.int i) (Ak K D bare C j m p)= .ok () (Ak K D bare C (some i) m p):=by
 cases j with
 |none=> rw [h rfl];exact Q2 []
 |some j=> cases m<;>exact Q2 []
def AK.less(p:AK):AK:={p with left:=p.left - 1}
theorem uA{m:Option Nat}:∀d,AU PP fu (AB PP fu (d+2)) (B8.take 2) (Ak K D bare C (some 0) m p)= .ok .next (Ak K D bare C (some 0) m p.less):=by cases m<;>exact Aa []
theorem uB{m:Option Nat}(hl:p.left<1):∀d,AU PP fu (AB PP fu (d+2)) (B8.take 2) (Ak K D bare C (some (i+1)) m p)= .ok .brk (Ak K D bare C (some (i+1)) m p):=by have h1:decide (((i+1:Nat):Int)>0)=true:=decide_eq_true (by exact X8);cases m<;>exact Aa [.cmp .gt (.int (i+1:Nat)) (.int 0) true (fun _=> KZ _ h1),.cmp .lt (.int p.left) (.int 1) true (fun _=> ltI _ (decide_eq_true hl))]
theorem uC{m:Option Nat}(hl:¬p.left<1)(h:p.Ok)(hC:C<=800):∀d,AU PP fu (AB PP fu (d+2)) (B8.take 2) (Ak K D bare C (some (i+1)) m p)= .ok .next (Ak K D bare C (some (i+1)) m (p.nl C).less):=by have h1:decide (((i+1:Nat):Int)>0)=true:=decide_eq_true (by exact X8);cases m<;>exact Aa [.cmp .gt (.int (i+1:Nat)) (.int 0) true (fun _=> KZ _ h1),.cmp .lt (.int p.left) (.int 1) false (fun _=> ltI _ (decide_eq_false hl)),.call _ _ _ _ _ 2 (IB (c:=C) h (by exact Kf hC))]
def Rb(near flat:Bool):List CE:=[.var N.Ex,.var N.depth,.var N.column,.cst (.bool near),.cst (.bool flat)]
theorem uD{j m:Option Nat}{near flat:Bool}:∀d,Be PP (AB PP fu (d+2)) (Rb near flat) (Ak K D bare C j m p)= .ok [pn,.int D,.int C,.bool near,.bool flat] (Ak K D bare C j m p):=by cases j<;>cases m<;>exact NS []
theorem NV{j m:Option Nat}{near flat:Bool}(h:∀d,AB PP fu (d+(2 * D+3)) FF [pn,.int D,.int C,.bool near,.bool flat] [] p.hp= .ok .none q.hp):∀d,AU PP fu (AB PP fu (d+(2 * D+3))) [.expr (.app (.cst (.fn FF)) (Rb near flat))] (Ak K D bare C j m p)= .ok .next (Ak K D bare C j m q):=fun d=>
 ZF (s:=Ak K D bare C j m p) (uD (d+(2 * D+1))) (h d)
theorem Rc{c:CE}{b o:List CS}{s s':St}{f:Flow}(h1:An PP cf c s= .ok true s)(h2:AU PP fu cf b s= .ok f s'):AU PP fu cf [.ifs c b o] s= .ok f s':=by
 have e:As PP fu cf (.ifs c b o) s= .ok f s':=by show((An PP cf c s).bind fun v s=> if v=true then AU PP fu cf b s else AU PP fu cf o s)=_;rw [h1];exact h2
 show(As PP fu cf (.ifs c b o) s).bind _=_;rw [e];cases f<;>rfl
def Rd:CS->List CS
 | .ifs _ b _=> b
 |_=>[]
theorem uE{m:Option Nat}(h:p.Ok)(hn:∀d,AB PP fu (d+(2 * D+3)) FF [pn,.int D,.int C,.bool true,.bool false] [] (p.tell Kd.en.id [45] .none).hp= .ok .none q.hp):
 ∀d,AU PP fu (AB PP fu (d+(2 * D+3))) (B8.drop 2) (Ak 1 D bare C (some i) m p)= .ok .cont (Ak 1 D bare C (some i) m q):=fun d=> by
 have h1:∀d,An PP (AB PP fu (d+2)) (.cmp (.var N.kind) [(.eq,.cst (.int 1))]) (Ak 1 D bare C (some i) m p)= .ok true (Ak 1 D bare C (some i) m p):=by cases m<;>exact Br []
 have h2:∀d,AU PP fu (AB PP fu (d+2)) ((Rd (DS B8 2)).take 1) (Ak 1 D bare C (some i) m p)= .ok .next (Ak 1 D bare C (some i) m (p.tell Kd.en.id [45] .none)):=by cases m<;>exact Aa [.call _ _ _ _ _ 1 (Ci h (k:=Kd.en.id) (w:=[45]) (v:=.none) (by decide))]
 have h3:=Cb (h2 (d+(2 * D+1))) (Cb (NV hn d) (show AU PP fu (AB PP fu (d+(2 * D+3))) [.cont] (Ak 1 D bare C (some i) m q)= .ok .cont (Ak 1 D bare C (some i) m q)from rfl));exact NR (Rc (o:=[]) (h1 (d+(2 * D+1))) h3) nofun
def AK.NW(p:AK):AK:=((p.tell Kd.ky.id [] .none).word).tell Kd.va.id [58] .none
theorem uF{m:Option Nat}{n:Nat}(hd:∀d,AB PP fu (d+1) Ob [pn,.int (4:Nat)] [] p.hp= .ok (.int n) p.Aj.hp):∀d,AU PP fu (AB PP fu (d+2)) ((B8.drop 2).take 2) (Ak 2 D bare C (some i) m p)= .ok .next (Ak 2 D bare C (some i) (some n) p.Aj):=by cases m<;>exact Aa [.call _ _ _ _ _ 1 hd]
theorem uG{n:Nat}(hm:n<2)(h1:p.Ok)(h2:(p.tell Kd.ky.id [] .none).Ok)(h3:(p.tell Kd.ky.id [] .none).word.Ok)(hn:∀d,AB PP fu (d+(2 * D+3)) FF [pn,.int D,.int C,.bool false,.bool true] [] p.NW.hp= .ok .none q.hp):
 ∀d,AU PP fu (AB PP fu (d+(2 * D+3))) (B8.drop 4) (Ak 2 D bare C (some i) (some n) p)= .ok .cont (Ak 2 D bare C (some i) (some n) q):=fun d=> by
 have e1:∀d,An PP (AB PP fu (d+2)) (.cmp (.var N.RP) [(.lt,.cst (.int 2))]) (Ak 2 D bare C (some i) (some n) p)= .ok true (Ak 2 D bare C (some i) (some n) p):=Br [.cmp .lt (.int n) (.int 2) true (fun _=> ltI _ (decide_eq_true (by exact qj hm)))];have e2:∀d,AU PP fu (AB PP fu (d+2)) ((Rd (DS B8 4)).take 3) (Ak 2 D bare C (some i) (some n) p)= .ok .next (Ak 2 D bare C (some i) (some n) p.NW):=
  Aa [.call _ _ _ _ _ 1 (Ci h1 (k:=Kd.ky.id) (w:=[]) (v:=.none) (by decide)),.call _ _ _ _ _ 2 (Y0 h2),.call _ _ _ _ _ 1 (Ci h3 (k:=Kd.va.id) (w:=[58]) (v:=.none) (by decide))]
 have e3:=Cb (e2 (d+(2 * D+1))) (Cb (NV hn d) (show AU PP fu (AB PP fu (d+(2 * D+3))) [.cont] (Ak 2 D bare C (some i) (some n) q)= .ok .cont (Ak 2 D bare C (some i) (some n) q)from rfl));exact NR (Rc (o:=[]) (e1 (d+(2 * D+1))) e3) nofun
theorem uH{n:Nat}(hm:¬n<2)(h1:p.Ok):∀d,AU PP fu (AB PP fu (d+2)) ((B8.drop 4).take 2) (Ak 2 D bare C (some i) (some n) p)= .ok .next (Ak 2 D bare C (some i) (some n) (p.tell Kd.ky.id [63] .none)):=
 Aa [.cmp .lt (.int n) (.int 2) false (fun _=> ltI _ (decide_eq_false (by exact qk hm))),.call _ _ _ _ _ 1 (Ci h1 (k:=Kd.ky.id) (w:=[63]) (v:=.none) (by decide))]
theorem uI{n:Nat}(hn:n≠2):∀d,AU PP fu (AB PP fu (d+2)) (B8.drop 7) (Ak 2 D bare C (some i) (some n) p)= .ok .next (Ak 2 D bare C (some i) (some n) p):=
 Aa [.cmp .eq (.int n) (.int 2) false (fun _=> En _ (by rw [beq_eq_false_iff_ne];exact ql hn))]
theorem uJ(h1:p.Ok)(hC:C<=800)(h2:(p.nl C).Ok)(hn:∀d,AB PP fu (d+(2 * D+3)) FF [pn,.int D,.int C,.bool true,.bool true] [] ((p.nl C).tell Kd.va.id [58] .none).hp= .ok .none q.hp):
 ∀d,AU PP fu (AB PP fu (d+(2 * D+3))) (B8.drop 7) (Ak 2 D bare C (some i) (some 2) p)= .ok .next (Ak 2 D bare C (some i) (some 2) q):=fun d=> by
 have e1:∀d,An PP (AB PP fu (d+2)) (.cmp (.var N.RP) [(.eq,.cst (.int 2))]) (Ak 2 D bare C (some i) (some 2) p)= .ok true (Ak 2 D bare C (some i) (some 2) p):=Br [];have e2:∀d,AU PP fu (AB PP fu (d+2)) ((Rd (DS B8 7)).take 2) (Ak 2 D bare C (some i) (some 2) p)= .ok .next (Ak 2 D bare C (some i) (some 2) ((p.nl C).tell Kd.va.id [58] .none)):=
  Aa [.call _ _ _ _ _ 2 (IB (c:=C) h1 (by exact Kf hC)),.call _ _ _ _ _ 1 (Ci h2 (k:=Kd.va.id) (w:=[58]) (v:=.none) (by decide))]
 exact Rc (o:=[]) (e1 (d+(2 * D+1))) (Cb (e2 (d+(2 * D+1))) (NV hn d))
end
section
variable{bf:List Nat}{p q:AK}{D C K i t u:Nat}{bare:Bool}{oc ocX oc1 cc:List Int}{o:List AV}{cf:Nat->List AV->List (N×AV)->Hp->COut}
theorem ZK:Eqv p p.less:=⟨rfl,rfl,rfl,rfl,rfl⟩
theorem A7.less(h:A7 p t u):A7 p.less t u:=⟨h.text,h.AX,h.at_,h.ends,h.Ca,h.chr,h.pr⟩
structure GV(bf:List Nat)(p:AK)(K C:Nat)(cc ocX oc1:List Int)(o:List AV)(D t u:Nat):Prop where
 S:Cq bf p cc ocX o true
 BC:∀x∈cc,x>(C:Int)
 ne:ocX≠[]
 C1:ocX.headD 0<=(C:Int)
 NX:ocX.length<=30
 e1:(if ocX.headD 0<(C:Int)then(C:Int)::ocX else ocX)=oc1
 ho:(ocX.headD 0<(C:Int)/\cc=[]/\o=[Dk (NU K).id .none ⟨0,p.row,C⟩ ⟨0,p.row,C⟩])∨(¬ocX.headD 0<(C:Int)/\o=[])
 at_:p.at_=C
 B:A7 p t u
 CZ:oc1.headD 0=(C:Int)
 ne1:oc1≠[]
 NY:oc1.Pairwise (· > ·)
 JW:oc1.length+D<=20
 c4:C+4 * D<=20
 tb:t+(2 * nT D+100)<=90000
 ub:u+(2 * nD D+16)<=90000
theorem GV.np{al near:Bool}{t' u':Nat}(T:GV bf p K C cc ocX oc1 o D t u){p':AK}(A:C6 bf p' [] oc1 al)(hn:near=true->al=true/\p'.at_=C+1)(a1:C<p'.at_)(a4:p'.at_<=C+4)(B:A7 p' t' u')(e:p'.ends=0)(tb:t'+nT D<=90000)(ub:u'+nD D<=90000):
 NT bf p' C near al oc1 D t' u':=⟨A,T.CZ,T.ne1,T.NY,T.JW,hn,a1,a4,T.c4,B,e,tb,ub⟩
theorem GV.cg{p':AK}(e:Eqv p p')(B:A7 p' t u)(T:GV bf p K C cc ocX oc1 o D t u):GV bf p' K C cc ocX oc1 o D t u:=
 ⟨T.S.cg e,T.BC,T.ne,T.C1,T.NX,T.e1,by rw [e.row];exact T.ho,e.at_.trans T.at_,B,T.CZ,T.ne1,T.NY,T.JW,T.c4,T.tb,T.ub⟩
theorem turn(Ae:bf.all (fun c=> c !=65279)=true)(hN:NodeOk bf D)(hK:K=1∨K=2)(T:GV bf p K C cc ocX oc1 o D t u)(m:Option Nat):
 ∃q m' fl,(fl=Flow.cont∨fl=Flow.next)/\(∀d,AU PP fu (AB PP fu (d+(2 * D+3))) (B8.drop 2) (Ak K D bare C (some i) m p)= .ok fl (Ak K D bare C (some i) m' q))/\ET bf q oc1 D (t+(2 * nT D+60)) (u+(2 * nD D+12)):=by
 have hat:=T.at_;have hB:=T.B;have htb:=T.tb;have hub:=T.ub;have hnt:=RV D;have hnd:=RW D;have hc4:=T.c4;rcases hK with rfl |rfl
 . have A:=RG (l:=.en) Ae T.S (by rw [hat];exact T.BC) T.ne (by rw [hat];exact T.C1) (by have:=T.NX;exact Qs this) (by rw [hat];exact T.ho);rw [hat,T.e1]at A;have B1:=hB.tell (k:=Kd.en.id) (w:=[45]) (v:=.none) (by decide) (by rw [hat];show C+1<=40;exact Qt hc4);obtain⟨q,h1,cc',g1,g2,g3,g4,g5⟩:=hN false (T.np (near:=true) A (fun _=> ⟨rfl,by show p.at_+1=_;rw [hat]⟩) (by show C<p.at_+1;exact X9 hat) (by show p.at_+1<=_;exact YA hat) B1 rfl (by exact YB htb) (by exact YC hub));exact⟨q,m,_,.inl rfl,uE (hB.ok (by exact Qu htb) (by exact Qv hub)) h1,cc',g1,g2,g3,g4,g5.mono (by exact YD) (by exact YE)⟩
 . have hd:=Ew (p:=p) (m:=4) (by decide);have hlt:=Cg p (m:=4) (by decide);have ABh:=uF (D:=D) (C:=C) (i:=i) (bare:=bare) (m:=m) hd;have T':=T.cg HM hB.Aj;generalize p.dr 4=n at ABh hlt;generalize p.Aj=p at T' ABh;have hB:=T'.B;have hat:=T'.at_;by_cases hn:n<2
   . have hwl:=Cg (p.tell Kd.ky.id [] .none) (m:=8) (by decide);have A:=tg Ae T'.S (i:=(p.tell Kd.ky.id [] .none).dr 8) hwl (by rw [hat];exact T'.BC) T'.ne (by rw [hat];exact T'.C1) (by have:=T'.NX;exact Qs this) (by rw [hat];exact T'.ho);rw [hat,T'.e1]at A;have hw3:(AM ((p.tell Kd.ky.id [] .none).dr 8)).length<=3:=by obtain⟨_,_,_,_,_,_,h,_⟩:=HL _ hwl;exact h
     have B1:=hB.tell (k:=Kd.ky.id) (w:=[]) (v:=.none) (by decide) (by rw [hat];show C+0<=40;exact YF hc4);have B2:=B1.word (by show p.at_+0+3<=40;exact qm hc4 hat);have ea:(p.tell Kd.ky.id [] .none).word.at_=C+(AM ((p.tell Kd.ky.id [] .none).dr 8)).length:=by show p.at_+0+_=_;rw [hat];rfl
     have B3:=B2.tell (k:=Kd.va.id) (w:=[58]) (v:=.none) (by decide) (by rw [ea];show _+1<=40;exact qn hc4 hw3);have ea3:p.NW.at_=C+(AM ((p.tell Kd.ky.id [] .none).dr 8)).length+1:=by show(p.tell Kd.ky.id [] .none).word.at_+1=_;rw [ea]
     obtain⟨q,h1,cc',g1,g2,g3,g4,g5⟩:=hN true (T'.np (p':=p.NW) (near:=false) A nofun (by rw [ea3];exact NH) (by rw [ea3];exact qo hw3) B3 rfl (by exact qp htb) (by exact qq hub));refine⟨q,some n,_,.inl rfl,fun d=> ?_,cc',g1,g2,g3,g4,g5.mono (by exact qr) (by exact qt)⟩;exact Cb (a:=(B8.drop 2).take 2) (ABh (d+(2 * D+1))) (uG hn (hB.ok (by exact Qu htb) (by exact Qv hub)) (B1.ok (by exact qu htb) (by exact qv hub)) (B2.ok (by exact qw htb) (by exact qx hub)) h1 d)
   . have A:=RG (l:=.ky) Ae T'.S (by rw [hat];exact T'.BC) T'.ne (by rw [hat];exact T'.C1) (by have:=T'.NX;exact Qs this) (by rw [hat];exact T'.ho);rw [hat,T'.e1]at A;have B1:=hB.tell (k:=Kd.ky.id) (w:=[63]) (v:=.none) (by decide) (by rw [hat];show C+1<=40;exact Qt hc4);obtain⟨q,h1,cc',g1,g2,g3,g4,g5⟩:=hN true (T'.np (near:=true) A (fun _=> ⟨rfl,by show p.at_+1=_;rw [hat]⟩) (by show C<p.at_+1;exact X9 hat) (by show p.at_+1<=_;exact YA hat) B1 rfl (by exact YB htb) (by exact YC hub));have hq:=uH (D:=D) (C:=C) (i:=i) (bare:=bare) hn (hB.ok (by exact Qu htb) (by exact Qv hub));have hs:∀r,(∀d,AU PP fu (AB PP fu (d+(2 * D+3))) (B8.drop 7) (Ak 2 D bare C (some i) (some n) q)= .ok .next (Ak 2 D bare C (some i) (some n) r))->∀d,AU PP fu (AB PP fu (d+(2 * D+3))) (B8.drop 2) (Ak 2 D bare C (some i) m _)= .ok .next (Ak 2 D bare C (some i) (some n) r):=fun r hr d=>
      Cb (a:=(B8.drop 2).take 2) (ABh (d+(2 * D+1))) (Cb (a:=(B8.drop 4).take 2) (hq (d+(2 * D+1))) (Cb (a:=[.expr (.app (.cst (.fn FF)) (Rb true true))]) (NV h1 d) (hr d)))
     by_cases h2:n=2
     . subst h2;have hcq:(C:Int)<=oc1.headD 0:=by rw [T'.CZ];exact xP _
       have S2:=g1.nl (c:=C) Ae g5.Ca (by exact Kg hc4) hcq g2;have B4:=g5.nl (c:=C) (by exact YG hc4);have A2:=RG (l:=.va) Ae S2 (by show∀x∈cc',x>(C:Int);intro x hx;have:=g2 x hx;rw [T'.CZ]at this;exact this) T'.ne1 (by rw [T'.CZ];exact xP _) (by have:=T'.JW;exact qz this) (.inr ⟨by rw [T'.CZ];exact yS _,rfl⟩);rw [T'.CZ,if_neg (show¬(C:Int)<(((q.nl C).at_:Nat):Int)from yS _)]at A2;have B5:=B4.tell (k:=Kd.va.id) (w:=[58]) (v:=.none) (by decide) (by show C+1<=40;exact Qt hc4);obtain⟨r,h3,cc2,f1,f2,f3,f4,f5⟩:=hN true (T'.np (near:=true) A2 (fun _=> ⟨rfl,rfl⟩) (by show C<C+1;exact rA) (by show C+1<=_;exact rB) B5 rfl (by exact rC htb) (by exact rD hub));exact⟨r,some 2,_,.inr rfl,hs r (uJ (g5.ok (by exact rE htb) (by exact YH hub)) (by exact Kg hc4) (B4.ok (by exact rF htb) (by exact YH hub)) h3),cc2,f1,f2,f3,f4,f5.mono (by exact rG) (by exact rH)⟩
     . exact⟨q,some n,_,.inr rfl,hs q fun d=> uI h2 (d+(2 * D+1)),cc',g1,g2,g3,g4,g5.mono (by exact YD) (by exact YE)⟩
end
section
variable{bf:List Nat}{p q:AK}{D C K i t u:Nat}{bare:Bool}{oc ocX oc1 cc:List Int}{o:List AV}{cf:Nat->List AV->List (N×AV)->Hp->COut}
theorem uK{h:Hp}{k:Nat}:AB PP fu (k+1) Lm [pn,.int K,.int D,.bool bare] [] h=Dw (AU PP fu (AB PP fu k) IC ⟨Ra K D bare,h⟩):=by kernel_rfl!
theorem uL{c:CS}{s s':St}{f:Flow}(h:As PP fu cf c s= .ok f s'):AU PP fu cf [c] s= .ok f s':=by show(As PP fu cf c s).bind _=_;rw [h];cases f<;>rfl
structure Cx(bf:List Nat)(K C D:Nat)(oc1:List Int):Prop where
 Ae:bf.all (fun c=> c !=65279)=true
 hN:NodeOk bf D
 hK:K=1∨K=2
 CZ:oc1.headD 0=(C:Int)
 ne1:oc1≠[]
 NY:oc1.Pairwise (· > ·)
 JW:oc1.length+D<=20
 c4:C+4 * D<=20
def Rest(bf:List Nat)(K C D:Nat)(bare:Bool)(oc1:List Int)(xs:List AV)(j m:Option Nat)(p:AK)(t u:Nat):Prop:=
 ∃q j' m',(∀d,Bf (fun v s=> E9 PP (AB PP fu (d+(2 * D+3))) (JL HN) v s) (fun s=> AU PP fu (AB PP fu (d+(2 * D+3))) (BQ HN) s) xs (Ak K D bare C j m p)= .ok .next (Ak K D bare C j' m' q))/\ET bf q oc1 D t u
theorem ET.mono{t' u':Nat}(h:ET bf p oc D t u)(ht:t<=t')(hu:u<=u'):ET bf p oc D t' u':=by obtain⟨cc,h1,h2,h3,h4,h5⟩:=h;exact⟨cc,h1,h2,h3,h4,h5.mono ht hu⟩
theorem Rf{j m:Option Nat}(h:ET bf p oc1 D t u):Rest bf K C D bare oc1 [] j m p t u:=⟨p,j,m,fun d=> rfl,h⟩
theorem ZL{asg:AV->St->Out Unit}{bo:St->Out Flow}{v:AV}{r:List AV}{a b c:St}{fl:Flow}(hf:fl=Flow.cont∨fl=Flow.next)(h1:asg v a= .ok () b)(h2:bo b= .ok fl c):Bf asg bo (v::r) a=Bf asg bo r c:=by
 rcases hf with rfl |rfl
 . exact sC h1 h2
 . exact Yc h1 h2
theorem Rg{xs:List AV}{m:Option Nat}{j:Nat}{t' u':Nat}(X:Cx bf K C D oc1)(h:ET bf p oc1 D t u)(htb:t+(2 * nT D+200)<=t')(hub:u+(2 * nD D+16)<=u')(ADT:t'<=90000)(ADU:u'<=90000)
 (hr:∀q m',ET bf q oc1 D (t+(2 * nT D+200)) (u+(2 * nD D+16))->Rest bf K C D bare oc1 xs (some (i+1)) m' q t' u') (hj:j=i):Rest bf K C D bare oc1 (.int (i+1:Nat)::xs) (some j) m p t' u':=by
 obtain⟨cc,g1,g2,g3,g4,g5⟩:=h;have ha:=fun d=> ZJ (K:=K) (D:=D) (bare:=bare) (C:=C) (i:=i+1) (p:=p) (j:=some j) (m:=m) nofun (d+(2 * D+1));by_cases hl:p.left<1
 . exact⟨p,_,_,fun d=> sD (ha d) (NR (a:=B8.take 2) (b:=B8.drop 2) (uB hl (d+(2 * D+1))) nofun),cc,g1,g2,g3,g4,g5.mono (by exact rI htb) (by exact rJ hub)⟩
 . have hc4:=X.c4;have S2:=g1.nl (c:=C) X.Ae g5.Ca (by exact Kg hc4) (by rw [X.CZ];exact xP _) g2;have B2:=g5.nl (c:=C) (by exact YG hc4);have T:GV bf (p.nl C) K C cc oc1 oc1 [] D (t+40) u:=⟨S2,fun x hx=> by have:=g2 x hx;rw [X.CZ]at this;exact this,X.ne1,by rw [X.CZ];exact xP _,by have:=X.JW;exact rK this,by rw [X.CZ,if_neg (yS _)],.inr ⟨by rw [X.CZ];exact yS _,rfl⟩,rfl,B2,X.CZ,X.ne1,X.NY,X.JW,X.c4,by exact rL htb ADT,by exact rM hub ADU⟩;obtain⟨q,m',fl,hfl,h1,hp⟩:=turn (i:=i+1) (bare:=bare) X.Ae X.hN X.hK (T.cg ZK B2.less) m;obtain⟨r,j',m2,h2,hp2⟩:=hr q m' (hp.mono (by exact rN) (by exact YI));refine⟨r,j',m2,fun d=> ?_,hp2⟩;exact(ZL hfl (ha d) (Cb (a:=B8.take 2) (b:=B8.drop 2) (uC hl (g5.ok (by exact rO htb ADT) (by exact rP hub ADU)) (by exact Kg hc4) (d+(2 * D+1))) (h1 d))).trans (h2 d)
theorem Rh{xs:List AV}{t' u':Nat}(X:Cx bf K C D oc1)(T:GV bf p K C cc ocX oc1 o D t u)(hr:∀q m',ET bf q oc1 D (t+(2 * nT D+200)) (u+(2 * nD D+16))->Rest bf K C D bare oc1 xs (some 0) m' q t' u'):Rest bf K C D bare oc1 (.int 0::xs) none none p t' u':=by have ha:=fun d=> ZJ (K:=K) (D:=D) (bare:=bare) (C:=C) (i:=0) (p:=p) (j:=none) (m:=none) (fun _=> rfl) (d+(2 * D+1));obtain⟨q,m',fl,hfl,h1,hp⟩:=turn (i:=0) (bare:=bare) X.Ae X.hN X.hK (T.cg ZK T.B.less) none;obtain⟨r,j',m2,h2,hp2⟩:=hr q m' (hp.mono (by exact rQ) (by exact YI));refine⟨r,j',m2,fun d=> ?_,hp2⟩;exact(ZL hfl (ha d) (Cb (a:=B8.take 2) (b:=B8.drop 2) (uA (d+(2 * D+1))) (h1 d))).trans (h2 d)
theorem uM{C:Int}:∀{oc:List Int},oc.Pairwise (· > ·)->oc.headD 0<C->(C::oc).Pairwise (· > ·)
 | [],_,_=> AAW ..
 |a::r,h,hl=> by
  have hl:a<C:=hl;refine List.pairwise_cons.mpr ⟨fun x hx=> ?_,h⟩;rcases wM.mp hx with rfl |hx
  . exact hl
  . have:=(List.pairwise_cons.mp h).1 x hx;show x<C;have:x<a:=this;exact rR hl this
theorem Ri(Ae:bf.all (fun c=> c !=65279)=true)(hD:D<=2)(hN:NodeOk bf D):RY bf D:=by
 intro p K C bare oc t u h;have hB:=h.B;have hat:=h.at_;have htb:=h.tb;have hub:=h.ub;have hc4:=h.c4;have hnt:=RV D;have hnd:=RW D;unfold iT at htb;unfold iD at hub;let oc1:List Int:=if bare=true then oc else(C:Int)::oc
 have hA:=t7 (D:=D) (bare:=bare) h.hK (hB.ok (by exact rS htb) (by exact rT hub));rw [hat]at hA;have X:Cx bf K C D oc1/\∃cc ocX o,GV bf (Kx K bare p).Aj K C cc ocX oc1 o D (t+3) (u+4):=by
  cases bare with
  |true=> have hC:oc.headD 0=(C:Int):=h.hC;have hln:=h.len;exact⟨⟨Ae,hN,h.hK,hC,h.ne,h.dec,by show oc.length+D<=20;exact YJ hln,hc4⟩,[],oc,[],h.S.cg HM,nofun,h.ne,by rw [hC];exact xP _,by exact YK hln,by rw [hC,if_neg (yS _)];rfl,.inr ⟨by rw [hC];exact yS _,rfl⟩,hat,hB.Aj.mono (by exact rU) (by exact rV),hC,h.ne,h.dec,by show oc.length+D<=20;exact YJ hln,hc4,by exact YL htb,by exact YM hub⟩
  |false=> have hC:oc.headD 0<(C:Int):=h.hC;have hln:=h.len;have B1:=hB.tell (k:=(NU K).id) (w:=[]) (v:=.none) (by decide) (by rw [hat];show C+0<=40;exact YF hc4);have S1:=tS (q:=NU K) h.S h.ends;have d1:=uM h.dec hC;refine⟨⟨Ae,hN,h.hK,rfl,nofun,d1,by show oc.length+1+D<=20;exact YN hln,hc4⟩,[],oc,_,S1.cg HM,nofun,h.ne,zX hC,by exact YK hln,if_pos hC,.inl ⟨hC,rfl,?_⟩,hat,B1.Aj,rfl,nofun,d1,by show oc.length+1+D<=20;exact YN hln,hc4,by exact YL htb,by exact YM hub⟩;rw [hat];rfl
 obtain⟨X,cc,ocX,o,T⟩:=X;obtain⟨xs,hs,hx⟩:=t9 (K:=K) (D:=D) (bare:=bare) (C:=C) (p:=Kx K bare p);have R:Rest bf K C D bare oc1 xs none none (Kx K bare p).Aj (t+iT D) (u+iD D):=by
  unfold iT iD;rcases hx with rfl |rfl |rfl
  . exact Rh X T fun q m' hq=> Rf (hq.mono (by exact rW) (by exact rY))
  . exact Rh X T fun q m' hq=> Rg (i:=0) X hq (by exact Qw) (by exact Qx) (by exact Qy htb) (by exact Qz hub) (fun q m' hq=> Rf (hq.mono (by exact Qw) (by exact Qx))) rfl
  . exact Rh X T fun q m' hq=> Rg (i:=0) X hq (by exact Qw) (by exact Qx) (by exact Qy htb) (by exact Qz hub) (fun q m' hq=> Rg (i:=1) X hq (by exact YO) (by exact YP) (by exact Qy htb) (by exact Qz hub) (fun q m' hq=> Rf (hq.mono (by exact YO) (by exact YP))) rfl) rfl
 obtain⟨q,j',m',hr,cc',g1,g2,g3,g4,g5⟩:=R;have hZ:=t8 (K:=K) (D:=D) (bare:=bare) (C:=C) (p:=q) (m:=m') (j:=j') (wC g5.ends (by decide));refine⟨if bare=true then q else{q with ends:=q.ends+1},fun d=> ?_,?_,fun hb=> by rw [hb];exact xJ (wN _)⟩
 . show AB PP fu (d+(2 * D+3)+1) _ _ _ _=_;rw [uK];have e2:AU PP fu (AB PP fu (d+(2 * D+3))) [HN] (Ak K D bare C none none (Kx K bare p))= .ok .next (Ak K D bare C j' m' q):=
    uL (Yd (c:=HN) rfl (hs (d+(2 * D+1))) (hr d))
   have:=Cb (hA (d+(2 * D+1))) (Cb e2 (hZ (d+(2 * D+1))));rw [show IC=IC.take 2++([HN]++IC.drop 3)from rfl];exact congrArg Dw this
 . cases bare with
   |true=> exact⟨cc',g1,g2,g3,zF g4,g5⟩
   |false=>
    have hC:oc.headD 0<(C:Int):=h.hC;refine⟨cc'++[(C:Int)],g1.close,fun x hx=> ?_,by show q.ends+1=_;rw [g3,v9];rfl,by rw [v9];exact xJ g4,⟨g5.text,g5.AX,g5.at_,by show q.ends+1<=3;exact rZ hD g3 g4,g5.Ca,g5.chr,g5.pr⟩⟩;rcases wV.mp hx with hx |hx
    . have:x>(C:Int):=g2 x hx;exact ra hC this
    . cases xH.mp hx;exact hC
theorem uN(Ae:bf.all (fun c=> c !=65279)=true):RY bf 2:=
 Ri Ae (by decide) (RZ Ae fun D' e=> by cases e;exact Ri Ae (by decide) (RZ Ae fun D' e=> by cases e;exact Ri Ae (by decide) (RZ Ae fun D' e=> by cases e)))
end
end L4
end Internal
section
namespace Internal
abbrev N.Kz:N:=126870958469236
abbrev N.head:N:=1751474532
abbrev N.tail:N:=1952541036
abbrev N.uO:N:=32478892437431666
abbrev N.got:N:=6778740
abbrev N.token:N:=500085515630
namespace L4
variable{s:Sc}{lo g:List AObj}
def Lw(i:Nat):CS:=DS Dz i
def K3(v0:AV)(h c n:Nat):List (N×AV):=[(N.Kz,v0),(N.Ex,pn),(N.head,.int h),(N.column,.int c),(N.tail,.int n)]
def ID:CS:=Lw 14
def Ez(v0:AV)(h c n:Nat)(tk:AV)(val:Option AV)(hp:Hp):St:=⟨K3 v0 h c n++[(N.uO,me),(N.got,.ref 9),(N.token,tk)]++(match val with |none=>[] |some v=>[(N.value,v)]),hp⟩
def K4(s:Sc)(kr:Nat)(dn:Bool)(lo g:List AObj)(got:List AV):Hp:=s.FZ kr dn lo (L1 got::g)
variable{v0:AV}{hh cc nn:Nat}
theorem ZM{bf:List Nat}{t:Tk}{val:Option AV}{h:Hp}:∀d,An PP (AB PP fu (d+13)) (Bs ID) (Ez v0 hh cc nn (t.v bf) val h)= .ok true (Ez v0 hh cc nn (t.v bf) val h):=by cases t<;>exact Br []
theorem uP{val:Option AV}{h:Hp}:∀d,An PP (AB PP fu (d+13)) (Bs ID) (Ez v0 hh cc nn .none val h)= .ok false (Ez v0 hh cc nn .none val h):=Br []
theorem uQ{kr:Nat}{dn:Bool}{got:List AV}{v:AV}(hl:got.length<lim):Bv (K4 s kr dn lo g got) (.ref 9) N.append [v]=some (.none,K4 s kr dn lo g (got++[v])):=
 Hz (h:=K4 s kr dn lo g got) (r:=9) (xs:=got) rfl hl
theorem ZN{bf:List Nat}{t:Tk}{val:Option AV}{kr:Nat}{dn:Bool}{got:List AV}{v:AV}{h':Hp}(hl:got.length<lim)(hg:∀d,AB PP fu (d+13) Sw [me] [] (K4 s kr dn lo g (got++[t.row]))= .ok v h'):
 ∀d,AU PP fu (AB PP fu (d+13)) (BQ ID) (Ez v0 hh cc nn (t.v bf) val (K4 s kr dn lo g got))= .ok .next (Ez v0 hh cc nn v (some t.val) h'):=by
 have hb:=uQ (s:=s) (lo:=lo) (g:=g) (kr:=kr) (dn:=dn) (v:=t.row) hl;cases t with
 |two k x y=> cases k<;>cases val<;>exact Aa [.A6 _ _ N.append _ _ _ hb,.call _ _ _ _ _ 13 hg]
 |_=> cases val<;>exact Aa [.A6 _ _ N.append _ _ _ hb,.call _ _ _ _ _ 13 hg]
theorem uR{bf:List Nat}{p:Ph}{ts:List Tk}(H:Runs bf p ts):∀{t:Tk} {val:Option AV} {lo g:List AObj} {got:List AV} {h:Hp} (n:Nat),BU p lo (L1 got::g) h->got.length+ts.length+1<lim->ts.length+2<=n->
 ∃q y h' tk ABs,BU q lo (L1 (got++(t::ts).map Tk.row)::y) h'/\∀d,Bb (fun s=> An PP (AB PP fu (d+13)) (Bs ID) s) (fun s=> AU PP fu (AB PP fu (d+13)) (BQ ID) s) n (Ez v0 hh cc nn (t.v bf) val h)= .ok .next (Ez v0 hh cc nn tk ABs h'):=by
 induction H with
 |@fin p q hg=> intro t val lo g got h n hP hl hn;obtain⟨m,rfl⟩:∃m,n=m+2:=⟨n - 2,by exact rb hn⟩;obtain⟨kr,rfl,hk⟩:=hP;obtain⟨y,h',e1,w⟩:=hg lo (L1 (got++[t.row])::g) _ ⟨kr,rfl,hk⟩;exact⟨q,g++y,h',_,_,e1,fun d=> (FU (ZM d) (ZN (by exact rd hl) w d)).trans (G9 (uP d))⟩
 |@tok p q t' ts hg hr ih=> intro t val lo g got h n hP hl hn;have hl:got.length+(ts.length+1)+1<lim:=hl;have hn:ts.length+1+2<=n:=hn;obtain⟨m,rfl⟩:∃m,n=m+1:=⟨n - 1,by exact rf hn⟩;obtain⟨kr,rfl,hk⟩:=hP;obtain⟨y,h',e1,w⟩:=hg lo (L1 (got++[t.row])::g) _ ⟨kr,rfl,hk⟩;obtain⟨q2,y2,h2,tk,ABs,e2,w2⟩:=ih (t:=t') (val:=some t.val) m e1 (by rw [v9,List.length_singleton];exact rg hl) (by exact rh hn);refine⟨q2,y2,h2,tk,ABs,?_,fun d=> (FU (ZM d) (ZN (by exact ri hl) w d)).trans (w2 d)⟩;rw [wF]at e2;exact e2
theorem Fl{u:AV}{r:List AV}(h:Fp u u=some true):Fq (u::r) (u::r)=Fq r r:=by show(Fp u u).bind _=_;rw [h];rfl
theorem es(s:List Nat):Fp (.str s) (.str s)=some true:=congrArg some (beq_self_eq_true _)
theorem ei(n:Nat):Fp (.int n) (.int n)=some true:=congrArg some (beq_self_eq_true _)
theorem ZO{v:AV}(h:PR v):CF 7 v=true/\Fp v v=some true:=by
 obtain⟨i,w,a,b,c,d,hw⟩:=h;have ew:Fp w w=some true/\CF 6 w=true:=by
  cases hw with
  |none=> exact⟨rfl,rfl⟩
  |nil s=> exact⟨(Fl (es s)).trans rfl,rfl⟩
  |GO s q=> exact⟨(Fl (es s)).trans (Fl (es q)),rfl⟩
 refine⟨?_,?_⟩
 . show([AV.str i,w,.int a,.int b,.int c,.int d].all (CF 6))=true;simp only [xW,List.all_nil,ew.2,Bool.and_true];rfl
 . show Fq [AV.str i,w,.int a,.int b,.int c,.int d] [AV.str i,w,.int a,.int b,.int c,.int d]=some true;rw [Fl (es i),Fl ew.1,Fl (ei a),Fl (ei b),Fl (ei c),Fl (ei d)];rfl
theorem ZP:∀{D:List AV},(∀v∈D,PR v)->Fq D D=some true
 | [],_=> rfl
 |v::D,h=> (Fl (ZO (h v (.head _))).2).trans (ZP fun w hw=> h w (.tail _ hw))
theorem uS{D:List AV}(h:∀v∈D,PR v):CF 8 (.Ah D)=true:=by show(false||D.all (CF 7))=true;rw [yR];exact wi.mpr fun v hv=> (ZO (h v hv)).1
theorem uT{h:Hp}{D:List AV}(hD:∀v∈D,PR v)(h1:h.f 9= .lst D)(h2:h.f 4= .lst D):BK h .eq (.ref 9) (.ref 4)=some true:=by
 have d1:IK h (.ref 9)=some (.Ah D):=by show(CY (h.f 9)).map AV.Ah=_;rw [h1];rfl
 have d2:IK h (.ref 4)=some (.Ah D):=by show(CY (h.f 4)).map AV.Ah=_;rw [h2];rfl
 show K9 h (.ref 9) (.ref 4)=_;unfold K9;rw [d1,d2];show(if(CF 8 (.Ah D)&&CF 8 (.Ah D))=true then Fq D D else none)=_;rw [uS hD,if_pos (show(true&&true)=true from rfl),ZP hD]
theorem uU{q:Ph}{lo y:List AObj}{D:List AV}{h:Hp}(e:BU q lo (L1 D::y) h):h.f 9= .lst D:=by obtain⟨kr,rfl,_⟩:=e;rfl
theorem uV{q:Ph}{a b c:AObj}{lo y:List AObj}{h:Hp}(e:BU q (a::b::c::lo) y h):h.f 4=c/\h.f 0=a:=by obtain⟨kr,rfl,_⟩:=e;exact⟨rfl,rfl⟩
theorem uW{p:AK}{ts:List Tk}(H:Runs (p.text++[0]) (run (Sc.new p.text)) ts)(hne:ts≠[])(hl:ts.length<=4900)(ADy:p.text.all CU=true)(htx:p.text.length<=90000)(hpr:∀v∈p.AX,PR v)(ADz:ts.map Tk.row=p.AX):
 ∃h',∀d,Dw (AU PP fu (AB PP fu (d+13)) (Dz.drop 11) ⟨K3 v0 hh cc nn,p.hp⟩)= .ok (.bool true) h':=by
 have hi:=sH (t:=p.text) (lo:=p.hp.lo) ADy (wC htx (by decide));cases H with
 |fin h=> exact absurd rfl hne
 |@tok _ q t0 ts' hg hr=>
  obtain⟨y,h1,e1,w1⟩:=hg p.hp.lo [L1 []] _ (BU.run _ _ _);obtain⟨q2,y2,h2,tk,ABs,e2,w2⟩:=uR (v0:=v0) (hh:=hh) (cc:=cc) (nn:=nn) hr (t:=t0) (val:=none) (lo:=p.hp.lo) (g:=y) (got:=[]) 5000 e1 (by have:ts'.length+1<=4900:=hl;show 0+ts'.length+1<1000000;exact rj this) (by have:ts'.length+1<=4900:=hl;exact rk this);have AD0:∀d,As PP fu (AB PP fu (d+13)) ID (Ez v0 hh cc nn (t0.v (p.text++[0])) none h1)= .ok .next (Ez v0 hh cc nn tk ABs h2):=fun d=> w2 d
  have e2':BU q2 p.hp.lo (L1 p.AX::y2) h2:=ADz▸e2;have hdd:=uV (a:=.Ap p.es) (b:=.lst (p.H9.map .int)) (c:=.lst p.AX) (lo:=[]) e2';have hc:BK h2 .eq (.ref 9) (.ref 4)=some true:=uT (D:=p.AX) hpr (uU e2') hdd.1;have AD1:Cr h2 pn (.str RD)=some (.ref 4):=by show LA (.str RD) (h2.f 0)=_;rw [hdd.2];rfl
  refine⟨h2,fun d=> ?_⟩;have:AU PP fu (AB PP fu (d+13)) (Dz.drop 11) ⟨K3 v0 hh cc nn,p.hp⟩= .ok (.ret (.bool true)) (Ez v0 hh cc nn tk ABs h2):=by cases ABs<;>exact Aa [.call _ _ _ _ _ 4 hi,.call _ _ _ _ _ 13 w1,.Ao ID _ _ 13 AD0,.FQ _ _ _ _ AD1,.El _ .eq _ _ true hc] (by kernel_rfl!) d
  rw [this];rfl
end L4
end Internal
end
namespace Internal
namespace L4
section
variable{bf:List Nat}{p q:AK}{cf:Nat->List AV->List (N×AV)->Hp->COut}{v0:AV}{h c n t u:Nat}
theorem uX{f:Nat}{as:List CE}{vs:List AV}{s s':St}{v:AV}{h:Hp}(h1:Be PP cf as s= .ok vs s')(h2:cf f vs [] s'.hp= .ok v h):AU PP fu cf [.expr (.app (.cst (.fn f)) as)] s= .ok .next ⟨s'.loc,h⟩:=by
 have e:Ad PP cf (.app (.cst (.fn f)) as) s= .ok v ⟨s'.loc,h⟩:=by show((Be PP cf as s).bind fun vs s=> (EF PP cf (.fn f) vs [] s.hp).bind s.loc fun v s=> Out.ok v s)=_;rw [h1];show((cf f vs [] s'.hp).bind s'.loc fun v s=> Out.ok v s)=_;rw [h2];rfl
 show((Ad PP cf (.app (.cst (.fn f)) as) s).bind fun _ s=> Out.ok Flow.next s).bind _=_;rw [e];rfl
def Rj(ns:List Int):AK:=⟨ns.take 36,[],0,0,[],0,5,[10]⟩
def IE(ns:List Int):AK:=(Rj ns).tell Ki [] .none
def ZQ(e:Nat):List Nat:=[[10],[13,10],[8232]].getD e []
def EU(ns:List Int):AK:={(IE ns).Aj with end_:=ZQ ((IE ns).dr 3)}
def GW(ns:List Int):AK:=(EU ns).Aj.Aj
def s1(v0:AV)(h c:Nat)(p:AK):St:=⟨[(N.Kz,v0),(N.Ex,pn),(N.head,.int h),(N.column,.int c)],p.hp⟩
theorem uY(ns:List Int):∀h,E4 h (.Ah (ns.map .int)) .none (.int 36)=some (.Ah ((ns.take 36).map .int)):=fun h=> by
 show some (AV.Ah (((ns.map AV.int).drop 0).take ((DV (ns.map AV.int).length 36) - 0)))=_;rw [show DV (ns.map AV.int).length 36=min 36 ns.length from by rw [wo];exact Qb ns.length 36];rw [zQ,Nat.sub_zero,<-List.map_take];congr 3;by_cases hl:ns.length<=36
 . rw [AAA hl,yH (wW _),yH hl]
 . rw [yk (by exact rl hl)]
theorem uZ(ns:List Int):∀d,AU PP fu (AB PP fu (d+2)) (Dz.take 5) ⟨[(N.Kz,.Ah (ns.map .int))],⟨[],[]⟩⟩= .ok .next (s1 (.Ah (ns.map .int)) ((EU ns).dr 3) ((EU ns).Aj.dr 3) (GW ns)):=by
 have ok0:(Rj ns).Ok:=⟨wN _,wN _,wN _,wN _,rfl⟩;have ht:=Ci ok0 (k:=Ki) (w:=[]) (v:=.none) (by decide);have CZ:=Ew (p:=IE ns) (m:=3) (by decide);have hl1:=Cg (IE ns) (m:=3) (by decide);have hd2:=Ew (p:=EU ns) (m:=3) (by decide);have hd3:=Ew (p:=(EU ns).Aj) (m:=3) (by decide);unfold GW;generalize(EU ns).Aj.dr 3=c at *;generalize(EU ns).dr 3=h at *;unfold EU at *;generalize(IE ns).dr 3=e at *;have hs:=uY ns;unfold IE at *;unfold Rj at *;generalize List.take 36 ns=tp at *
 match e,hl1 with
 |0,_=> exact Aa [.Bd _ _ _ _ hs,.call _ _ _ _ _ 1 ht,.call _ _ _ _ _ 1 CZ,.call _ _ _ _ _ 1 hd2,.call _ _ _ _ _ 1 hd3]
 |1,_=> exact Aa [.Bd _ _ _ _ hs,.call _ _ _ _ _ 1 ht,.call _ _ _ _ _ 1 CZ,.call _ _ _ _ _ 1 hd2,.call _ _ _ _ _ 1 hd3]
 |2,_=> exact Aa [.Bd _ _ _ _ hs,.call _ _ _ _ _ 1 ht,.call _ _ _ _ _ 1 CZ,.call _ _ _ _ _ 1 hd2,.call _ _ _ _ _ 1 hd3]
def Ck(h c:Nat)(p:AK):AK:=if h=0 then p.Bu c else if h=1 then(p.tell Kd.ds.id [45,45,45] .none).nl c else p.nl c
theorem ua(hh:h<3)(hc:c<3)(hB:A7 p t u)(ha:p.at_=0)(ht:t<=1000)(hu:u<=1000):∀d,AU PP fu (AB PP fu (d+2)) ((Dz.drop 5).take 2) (s1 v0 h c p)= .ok .next (s1 v0 h c (Ck h c p)):=by
 have hOk:=hB.ok (by exact YQ ht) (by exact YQ hu);have hB1:=(hB.tell (k:=Kd.ds.id) (w:=[45,45,45]) (v:=.none) (by decide) (by rw [ha];decide)).ok (by exact rm ht) (by exact rn hu);have h1:=Ci hOk (k:=Kd.ds.id) (w:=[45,45,45]) (v:=.none) (by decide);have h2:=IB (c:=c) hOk (by exact YR hc);have h3:=IB (c:=c) hB1 (by exact YR hc);have h4:=RE (n:=c) hOk (by exact ro hc)
 match h,hh with
 |0,_=> exact Aa [.call _ _ _ _ _ 1 h4]
 |1,_=> exact Aa [.call _ _ _ _ _ 1 h1,.call _ _ _ _ _ 2 h3]
 |2,_=> exact Aa [.call _ _ _ _ _ 2 h2]
theorem uc(p:AK):∃K:Nat,(K=1∨K=2)/\∀d,Be PP (AB PP fu (d+2)) [.var N.Ex,.bin .add (.cst (.int 1)) (.app (.cst (.fn Ob)) [.var N.Ex,.cst (.int 2)]),.cst (.int 2),.cst (.bool false)] (s1 v0 h c p)= .ok [pn,.int K,.int 2,.bool false] (s1 v0 h c p.Aj):=by
 have hd:=Ew (p:=p) (m:=2) (by decide);have hl:=Cg p (m:=2) (by decide);generalize p.dr 2=n at *
 match n,hl with
 |0,_=> exact⟨1,.inl rfl,NS [.call _ _ _ _ _ 1 hd]⟩
 |1,_=> exact⟨2,.inr rfl,NS [.call _ _ _ _ _ 1 hd]⟩
def GY(n:Nat)(p:AK):AK:=match n with
 |0=> p
 |1=> p.Bu 2
 |2=> p.nl 0
 |_=> (p.nl 0).tell Kd.de.id [46,46,46] .none
def E0(p:AK):AK:=(GY (p.dr 4) p.Aj).tell Kd.se.id [] .none
structure Bn(p:AK):Prop where
 text:p.text.length<=80000
 AX:p.AX.length<=3900
 at_:p.at_<=100
 ends:p.ends<=3
 Ca:isLE p.end_=true
 chr:p.text.all CU=true
 pr:∀v∈p.AX,PR v
theorem Bn.ok(h:Bn p):p.Ok:=⟨wC h.text (by decide),wC h.AX (by decide),wC h.ends (by decide),wC h.at_ (by decide),h.Ca⟩
theorem A7.bn(h:A7 p t u)(ht:t<=80000)(hu:u<=3900):Bn p:=⟨wC h.text ht,wC h.AX hu,wC h.at_ (by decide),h.ends,h.Ca,h.chr,h.pr⟩
theorem ZR(hB:A7 p t u)(hn:n<4)(ht:t<=70000)(hu:u<=3800):Bn (GY n p):=by
 match n,hn with
 |0,_=> exact hB.bn (by exact Q0 ht) (by exact JK hu)
 |1,_=>
  refine⟨?_,wC hB.AX (by exact JK hu),?_,hB.ends,hB.Ca,?_,hB.pr⟩
  . show(p.text++[32,32]).length<=_;rw [v9];have:=hB.text;show _+2<=_;exact rp ht this
  . show p.at_+2<=100;have:=hB.at_;exact rq this
  . show(p.text++[32,32]).all CU=true;rw [xf,hB.chr];rfl
 |2,_=> exact(hB.nl (c:=0) (by decide)).bn (by exact YT ht) (by exact JK hu)
 |3,_=> exact((hB.nl (c:=0) (by decide)).tell (k:=Kd.de.id) (w:=[46,46,46]) (v:=.none) (by decide) (by show 0+3<=40;decide)).bn (by exact rt ht) (by exact ru hu)
theorem ud(h:Bn p):(p.tell Kd.se.id [] .none).text.all CU=true/\(p.tell Kd.se.id [] .none).text.length<=80000/\(p.tell Kd.se.id [] .none).AX.length<=3904/\∀v∈(p.tell Kd.se.id [] .none).AX,PR v:=by
 have e:(p.tell Kd.se.id [] .none).text=p.text:=wY _;rw [e];refine⟨h.chr,h.text,?_,fun x hx=> ?_⟩
 . show(p.AX++(wB p.ends _++[_])).length<=_;rw [v9,v9,wc];have:=h.AX;have:=h.ends;show _+(_+1)<=_;omega
 . rcases wV.mp (show x∈p.AX++(wB p.ends (IA p.row p.at_)++[.tup [.str Kd.se.id,.none,.int p.row,.int p.at_,.int p.row,.int (p.at_+0:Nat)]])from hx)with hx |hx
   . exact h.pr x hx
   . rcases wV.mp hx with hx |hx
     . cases(List.mem_replicate.mp hx).2;exact .mk _ _ _ _ _ _ .none
     . cases xH.mp hx;exact .mk _ _ _ _ _ _ .none
set_option maxHeartbeats 4000000 in
theorem ue(hB:A7 p t u)(ht:t<=70000)(hu:u<=3800):∀d,AU PP fu (AB PP fu (d+2)) ((Dz.drop 8).take 3) (s1 v0 h c p)= .ok .next ⟨K3 v0 h c (p.dr 4),(E0 p).hp⟩:=by
 have hd:=Ew (p:=p) (m:=4) (by decide);have hl:=Cg p (m:=4) (by decide);have b1:=ZR hB.Aj hl ht hu;have hq:=hB.Aj;unfold E0;generalize p.dr 4=n at *;generalize p.Aj=q at *;have k1:=RE (n:=2) (hq.bn (by exact Q0 ht) (by exact JK hu)).ok (by decide);have k2:=IB (c:=0) (hq.bn (by exact Q0 ht) (by exact JK hu)).ok (by decide);have hz:=hq.nl (c:=0) (by decide);have k3:=Ci (hz.bn (by exact YT ht) (by exact JK hu)).ok (k:=Kd.de.id) (w:=[46,46,46]) (v:=.none) (by decide);have k4:=Ci b1.ok (k:=Kd.se.id) (w:=[]) (v:=.none) (by decide)
 match n,hl with
 |0,_=> exact Aa [.call _ _ _ _ _ 1 hd,.call _ _ _ _ _ 1 k4]
 |1,_=> exact Aa [.call _ _ _ _ _ 1 hd,.call _ _ _ _ _ 1 k1,.call _ _ _ _ _ 1 k4]
 |2,_=> exact Aa [.call _ _ _ _ _ 1 hd,.call _ _ _ _ _ 2 k2,.call _ _ _ _ _ 1 k4]
 |3,_=> exact Aa [.call _ _ _ _ _ 1 hd,.call _ _ _ _ _ 2 k2,.call _ _ _ _ _ 1 k3,.call _ _ _ _ _ 1 k4]
theorem uf(h1:p.text=[])(h2:p.row=0)(h3:p.at_=0)(h4:p.ends=0)(h5:p.AX=[Dk Ki .none ⟨0,0,0⟩ ⟨0,0,0⟩]):Bj bf p a0 [] 0 [] [-1] [] true:=
 ⟨⟨0,wN _,fun z n c=> c⟩,⟨nofun,nofun,rfl,by decide⟩,fun i c e=> (by cases e),by rw [h1];rfl,by rw [h2];rfl,by rw [h3];rfl,rfl,h4,h5,rfl,wN _,rfl,fun e=> absurd rfl e,rfl⟩
theorem ug(Ae:bf.all (fun c=> c !=65279)=true)(hl:isLE p.end_=true)(R:Bj bf p a0 [] 0 [] [-1] [] true)(h1:p.text=[])(h3:p.at_=0)(hh:h<3)(hc:c<3):Cq bf (Ck h c p) [] [-1] [] true:=by
 match h,hh with
 |0,_=> exact fun hp c' hn=> ⟨a0,[],c,R.Bu (by exact Q1 hc) hp⟩
 |1,_=>
  have A:C6 bf (p.tell Kd.ds.id [45,45,45] .none) [] [-1] false:=fun hp hb=> by obtain⟨x,hx,hbx⟩:=hb;have hp':CK (p.text++[45,45,45]) bf:=hp;have hH:AJ bf p.text.length [45,45,45,x]:=hp'.has.add (by rw [<-v9];exact hx);have G:C5 bf a0 [] 0 45:=⟨by rw [h1]at hH;exact hH.left (u:=[45]) (w:=[45,45,x]),rfl,wN _,rfl,rfl,rfl,Ae⟩;exact Y9 (.inl ⟨rfl,rfl⟩) R G hH hbx h3 nofun
  exact Kt hl (by exact Q1 hc) A
 |2,_=> have A:C6 bf p [] [-1] true:=fun _ _=> ⟨a0,R⟩;exact Kt hl (by exact Q1 hc) A
theorem uh:p.Bu 0=p:=by obtain⟨tp,tx,rw_,at_,du,en,le,ed⟩:=p;show(⟨tp,tx++[],rw_,at_,du,en,le,ed⟩:AK)=_;rw [wY]
theorem ui{T:List Nat}:(T++[0])[T.length]? =some 0:=by rw [yt (wW _),Nat.sub_self];rfl
theorem uj{cc:List Int}(Ae:bf.all (fun c=> c !=65279)=true)(A:Fh bf p cc [-1])(BC:∀x∈cc,x> -1)(he:p.ends=cc.length)(h1:1<=p.ends)(hl:isLE p.end_=true)(hn:n<4)(hb:bf=((GY n p).tell Kd.se.id [] .none).text++[0]):Fin bf ((GY n p).tell Kd.se.id [] .none).AX:=by
 have e:((GY n p).tell Kd.se.id [] .none).text=(GY n p).text:=wY _;rw [e]at hb;have hp:CK (GY n p).text bf:=⟨[0],hb⟩;have h0:bf[(GY n p).text.length]? =some 0:=by rw [hb];exact ui
 have hne:cc≠[]:=fun z=> by rw [z]at he;rw [he]at h1;cases h1
 have ABp:((0:Nat):Int)<=(cc++[-1]).headD 0:=by
  cases cc with
  |nil=> exact absurd rfl hne
  |cons x r=> have:=BC x (.head _);show(0:Int)<=x;exact rv this
 have S:Cq bf (p.nl 0) cc [-1] [] true:=by
  rcases A with⟨al,A⟩ |A
  . exact Kt hl (by decide) A
  . exact Y6 Ae hl (by decide) ABp A
 match n,hn with
 |0,_=>
  have e0:GY 0 p=p.Bu 0:=uh.symm;rw [e0]at hp h0⊢;rcases A with⟨al,A⟩ |A
  . exact ZD Ae (by decide) A BC hp h0
  . exact ZE Ae (.inl rfl) A BC hp h0
 |1,_=>
  rcases A with⟨al,A⟩ |A
  . exact ZD (n:=2) Ae (by decide) A BC hp h0
  . exact ZE (n:=2) Ae (.inr rfl) A BC hp h0
 |2,_=> obtain⟨b,gps,k,R⟩:=S hp 0 (ZC h0);exact RN Ae R BC h0
 |3,_=> have hp':CK ((p.nl 0).text++[46,46,46]) bf:=hp;have hH:AJ bf (p.nl 0).text.length [46,46,46,0]:=hp'.has.add (by rw [<-v9];exact h0);have hN:Fd bf (p.nl 0).text.length 46:=⟨hH.head,rfl,rfl,rfl,.inr ⟨0,hH,rfl⟩⟩;obtain⟨b,gps,k,R⟩:=S hp'.left 46 hN;obtain⟨b2,R2⟩:=Y9 (x:=0) (.inr ⟨rfl,rfl⟩) R (R.G hN Ae) hH rfl rfl BC;exact RN Ae R2 nofun h0
end
theorem um{v w:AV}{a b:Hp}(h:COut.ok v a=COut.ok w b):a=b:=congrArg (fun c=> match c with | .ok _ h=> h |_=> a) h
def ZS(es:List (AV×AV))(i:Nat):List Nat:=((es[i]?).bind fun q=> BJ q.2).getD []
def NZ(es:List (AV×AV))(i:Nat):Int:=((es[i]?).bind fun q=> A4 q.2).getD 0
def uo(es:List (AV×AV))(t d:List AV):AK:=⟨t.filterMap A4,ZS es 1,(NZ es 2).toNat,(NZ es 3).toNat,d,(NZ es 5).toNat,NZ es 6,ZS es 7⟩
def Hp.Ex(h:Hp):AK:=uo ((IJ (CD h.lo 0)).getD []) ((CY (CD h.lo 1)).getD []) ((CY (CD h.lo 2)).getD [])
theorem ZT:∀l:List Int,(l.map AV.int).filterMap A4=l
 | []=> rfl
 |x::l=> by show x::(l.map AV.int).filterMap A4=_;rw [ZT l]
theorem ZU(p:AK):Hp.Ex p.hp=p:=by show(⟨(p.H9.map AV.int).filterMap A4,p.text,p.row,p.at_,p.AX,p.ends,p.left,p.end_⟩:AK)=p;rw [ZT]
theorem uq{p q:AK}(h:p.hp=q.hp):p=q:=(ZU p).symm.trans ((congrArg Hp.Ex h).trans (ZU q))
theorem ur{c:Nat}(h:CU c=true):(c !=65279)=true:=by
 rw [bne_iff_ne]
 rintro rfl
 exact absurd h (by decide)
theorem ZV:iT 2=43000:=rfl
theorem ZW:iD 2=3358:=rfl
theorem uu{e:Nat}(h:e<3):isLE (ZQ e)=true:=by
 match e,h with
 |0,_=> rfl
 |1,_=> rfl
 |2,_=> rfl
theorem uv{k:Nat}{v:AV}:Pz PP fu k FE [v]=Dw (AU PP fu (AB PP fu k) (Dz.take 11++Dz.drop 11) ⟨[(N.Kz,v)],⟨[],[]⟩⟩):=by kernel_rfl!
set_option maxHeartbeats 4000000 in
theorem ux(ns:List Int):∃h',∀d,Pz PP fu (d+13) FE [.Ah (ns.map .int)]= .ok (.bool true) h':=by
 have hs1:=uZ ns;have hh:=Cg (EU ns) (m:=3) (by decide);have hc:=Cg (EU ns).Aj (m:=3) (by decide);have hle:isLE (GW ns).end_=true:=uu (Cg (IE ns) (by decide));have f1:(GW ns).text=[]:=rfl;have f2:(GW ns).row=0:=rfl;have f3:(GW ns).at_=0:=rfl;have f4:(GW ns).ends=0:=rfl;have f5:(GW ns).AX=[Dk Ki .none ⟨0,0,0⟩ ⟨0,0,0⟩]:=rfl;generalize(EU ns).dr 3=h at *;generalize(EU ns).Aj.dr 3=c at *;generalize GW ns=p4 at *;generalize AV.Ah (ns.map .int)=v0 at *;have B4:A7 p4 10 10:=⟨by rw [f1];decide,by rw [f5];decide,by rw [f3];decide,by rw [f4];decide,hle,by rw [f1];rfl,fun v hv=> by rw [f5]at hv;cases xH.mp hv;exact .mk _ _ 0 0 0 0 .none⟩;have hs2:=ua (v0:=v0) hh hc B4 f3 (by decide) (by decide);have hat:(Ck h c p4).at_<=2:=by
  match h,hh with
  |0,_=> show p4.at_+c<=2;exact rx hc f3
  |1,_=> show c<=2;exact YU hc
  |2,_=> show c<=2;exact YU hc
 have B5:A7 (Ck h c p4) 100 20:=by
  match h,hh with
  |0,_=> exact(B4.Bu (n:=c) (by exact ry hc) (by exact rz hc f3)).mono (by decide) (by decide)
  |1,_=> exact((B4.tell (k:=Kd.ds.id) (w:=[45,45,45]) (v:=.none) (by decide) (by rw [f3];decide)).nl (c:=c) (by exact YV hc)).mono (by decide) (by decide)
  |2,_=> exact(B4.nl (c:=c) (by exact YV hc)).mono (by decide) (by decide)
 have e5:(Ck h c p4).ends=0:=by
  match h,hh with
  |0,_=> exact f4
  |1,_=> rfl
  |2,_=> exact f4
 have hS:∀bf:List Nat,bf.all (fun c=> c !=65279)=true->Cq bf (Ck h c p4) [] [-1] [] true:=fun bf Ae=> ug Ae hle (uf f1 f2 f3 f4 f5) f1 f3 hh hc;generalize Ck h c p4=p5 at *;obtain⟨K,hK,hs3⟩:=uc (v0:=v0) (h:=h) (c:=c) p5;have hI:∀bf:List Nat,bf.all (fun c=> c !=65279)=true->∃p',(∀d,AB PP fu (d+8) Lm [pn,.int K,.int (2:Nat),.bool false] [] p5.Aj.hp= .ok .none p'.hp)/\ET bf p' [-1] 3 (100+iT 2) (20+iD 2)/\(false=false->1<=p'.ends):=fun bf Ae=>
  uN Ae (p:=p5.Aj) (K:=K) (C:=p5.at_) (bare:=false) (oc:=[-1]) (t:=100) (u:=20) ⟨(hS bf Ae).cg HM,hK,rfl,by show(-1:Int)<_;exact r7,nofun,AAW ..,by decide,by exact r8 hat,B5.Aj,e5,by rw [ZV];decide,by rw [ZW];decide⟩
 obtain⟨p7,hr,⟨cc0,_,_,_,_,B7⟩,_⟩:=hI [] rfl;rw [ZV,ZW]at B7;have hl4:=Cg p7 (m:=4) (by decide);obtain⟨k1,k2,k3,k4⟩:=ud (ZR (n:=p7.dr 4) B7.Aj hl4 (by decide) (by decide));have Ae:((E0 p7).text++[0]).all (fun c=> c !=65279)=true:=by rw [xf,show(E0 p7).text.all (fun c=> c !=65279)=true from wi.mpr fun c hc=> ur (wi.mp k1 c hc)];rfl
 obtain⟨p7',hr',⟨cc,g1,g2,g3,g4,g5⟩,g6⟩:=hI _ Ae;obtain rfl:p7=p7':=uq (um ((hr 0).symm.trans (hr' 0)));obtain⟨z,m,z1,z2,z3⟩:=uj (p:=p7.Aj) (n:=p7.dr 4) Ae (g1.cg HM) g2 g3 (g6 rfl) B7.Ca hl4 rfl;have z1:m<=(E0 p7).AX.length+1:=z1;have z3:z.T.map Tk.row=(E0 p7).AX:=z3;have k3:(E0 p7).AX.length<=3904:=k3;have hlen:z.T.length=(E0 p7).AX.length:=by rw [<-z3,wo]
 have hR:Runs ((E0 p7).text++[0]) (run (Sc.new (E0 p7).text)) z.T:=by have:=Ch.runs _ 0 m a0 z2 nofun (by exact r9 z1 k3) (wN _) (wW _);exact this
 have hs4:=ue (v0:=v0) (h:=h) (c:=c) B7 (by decide) (by decide);obtain⟨h',hs5⟩:=uW (v0:=v0) (hh:=h) (cc:=c) (nn:=p7.dr 4) hR (fun e=> by have:=z2.keep.1;rw [e]at this;cases this) (by exact sA k3 hlen) k1 (wC k2 (by decide)) k4 z3;refine⟨h',fun d=> ?_⟩;have e3:=uX (cf:=AB PP fu (d+13)) (hs3 (d+11)) (hr (d+5));have e4:AU PP fu (AB PP fu (d+13)) (Dz.take 11) ⟨[(N.Kz,v0)],⟨[],[]⟩⟩= .ok .next ⟨K3 v0 h c (p7.dr 4),(E0 p7).hp⟩:=
  Cb (a:=Dz.take 5) (hs1 (d+11)) (Cb (a:=(Dz.drop 5).take 2) (hs2 (d+11)) (Cb (a:=(Dz.drop 7).take 1) e3 (hs4 (d+11))))
 rw [uv,<-hs5 d];exact congrArg Dw (Cb e4 rfl)
end L4
end Internal
section
set_option maxHeartbeats 0
namespace Internal
theorem uy{R:WRecords}{cl:vz->Option Addr}{P:Params}{h:Heap}{args:List WData}{vals:List R5}{as:List Addr}(ABh:PySem.Challenge.rw_te0052_02.row.toRowW.claim.pre args=true)(ADL:WData.layableAll args=true)(hrd:ReadsAllW R cl h vals args as)(hwl:WellAll P h vals args)(hlo:∀a∈as,(a==sysModules)=false):
 ∃a vs ns,vals=[.ref a]/\args=[ofPy (.list (List.map PyData.int ns))]/\h.IsList a vs.toArray/\IntsAre vs ns/\ns.length<=63:=by
 wrow_args ABh ADL hrd hwl hlo
 refine⟨_,_,_,rfl,rfl,by assumption,by assumption,by omega⟩
theorem uz:L4.Al.all (Jv (progOf L4.DD L4.Al L4.BP))=true:=by decide+kernel
theorem u0(G:Gx)(hp:G.prog=pw)(hk:Oe L4.Lq L4.Al L4.BP L4.Gk L4.FE L4.DD A8 G.K=true)(ht:Lx G.K ((L4.Gk,L4.FE)::L4.DD)=F6 ((L4.Gk,L4.FE)::L4.DD) A8):∀{fl:List (Nat×Fn)},fl.all (fun p=> HY pw G.K (Fz (F0 G.K)) (Fy L4.Al) 0 p.1 p.2 (A8 p.1))=true->Lx G.K fl=F6 fl A8->∀a fn,Cj fl a=some fn->HY G.prog G.K (Fz (F0 G.K)) (Fy L4.Al) 0 a fn (A8 a)=true/\Jw G.K a=some (Ea fn.body (A8 a)):=by
 intro fl h1 h2 a fn e;have hm:=Js e;clear e
 induction fl with
 |nil=> cases hm
 |cons p r ih=>
  obtain⟨g1,g2⟩:=za.inj h2;refine AS (show(HY pw G.K _ _ 0 p.1 p.2 _&&List.all _ _)=true from h1) fun h1 h3=> ?_;cases hm with
  |head=> exact⟨hp▸h1,g1⟩
  |tail _ hm=> exact ih h3 g2 hm
theorem u3{o:Option (Option R5)}{a:Nat}(h:TB o a=true):o=some (some (.ref a)):=by
 cases o with
 |none=> exact cFT h
 |some v=> cases v with
  |none=> exact cFT h
  |some v=> cases v with
   |ref b=> rw [wy h]
   |_=> exact cFT h
theorem u4{XP:(vz->Option R5)->Heap->Prop}{d:DefRec}{kwd:List (vz×Expr)}(hn:d.name=("law":vz)):
 WalkX vw Ij XP (fun s=> YS L4.Lq L4.Al L4.BP L4.Gk L4.FE L4.DD A8 s.heap) (fun _=> True) PySem.Challenge.rw_te0052_02.row.toRowW d kwd fun f vs=> PySem.call f vs:=by
 intro w s₀ s₁ mg mb G Y fa o pm cd doc dV kV ho hd hcd hD hmg hg args vals as L ABh ADL hrd hwl hlo;clear ho hd hcd hD;obtain⟨a,vs,ns,rfl,rfl,hl,hi,hlen⟩:=uy ABh ADL hrd hwl hlo;obtain⟨K,k0,k1,k2⟩:=of_eq_true Y;have c:=JF k1;have DN:∀y r,Fz (F0 K) y=some r->nsIn K mainGlobals y=some r:=l4 (c 0);let GX:Gx:=⟨pw,w,K,vw,looseW vw Ij,ExcName.means s₀.heap,mg,mb,s₁.heap,s₁.os⟩;have X:K.In s₁.heap:=k0.keeps L.keeps;obtain⟨t1,t2⟩:=za.inj k2;have H:G4 GX (progOf L4.DD L4.Al L4.BP) (Fz (F0 K)) (Fy L4.Al):=l0 (G:=GX) (u0 GX rfl k1 k2 (c 4) t2) (c 1) uz DN;obtain⟨fd,F⟩:=P1 (G:=GX) (c 3) t1;have e:=mg_of X G.T.g (DN _ _ (u3 (c 2)));rw [hn,e]at hmg;cases hmg;obtain⟨h',hr⟩:=L4.ux ns;refine wL (enter (fu:=L4.fu) (d:=80) H F rfl X G.T hg rfl (PySem.W.X.script_obj L hl) hi (wC hlen (by decide)) (by decide) (h':=h') ?_) (fun v s' hq=> ?_) fun _ _ z=> z.elim
 . exact hr 67
 . obtain⟨rfl,z1,z2,z3⟩:=hq;exact⟨.inl ⟨_,.bool true,[],rfl,fun _=> rfl,.bool _,(by wrow_post),fun _=> ⟨List.nodup_nil,nofun⟩⟩,.of_keep z1,z3,.of_eq z2⟩
theorem u5:PySem.Challenge.rw_te0052_02.Holds:=by refine holds_law c6 fun said=> ?_;refine holds_openX (q:=vw) (loose:=Ij) (Xt:=Ly) (XP:=PySem.W.XL vw []) (N:=10300) dE (fun s e=> xl_of s (wD.mp e).1) PySem.W.XL.keeps (by rfl) (by rfl) (by rfl) (fun s e=> recFacts_of (wD.mp e).2) rfl (by assumption) (by decide+kernel) ⟨rfl,rfl,rfl,rfl,rfl,by decide+kernel⟩ ⟨[.list []],by decide+kernel,by decide+kernel⟩ (u4 rfl)
end Internal
end
theorem PySem.Challenge.cw_te0052_02_holds : PySem.Challenge.rw_te0052_02.Holds :=
 Internal.u5
