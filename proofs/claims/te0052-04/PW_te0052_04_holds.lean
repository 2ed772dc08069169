import PyProof.Rows.All
import Wide.All
import OpenK.AllK
import Wide.FinOn
import Lean
import PySem.Challenge.RW_te0052_04
set_option genInjectivity false
set_option genSizeOf false
set_option bootstrap.genMatcherCode false
set_option compiler.extract_closed false
set_option Elab.async false
set_option autoImplicit false
set_option tactic.hygienic false
set_option backward.match.sparseCases false
set_option maxRecDepth 100000
set_option linter.all false
open Array renaming mk->wa
open Bool renaming and_eq_true_iff->t6,false_eq_true->ux,false_ne_true->vY,or_eq_true_iff->wH,and_false->wQ,not_false->wU,and_eq_true->wu,false_or->wV,eq_iff_iff->xX,or_eq_false_iff->x7,not_true->xd,and_true->xe
open Int renaming le_trans->ue,natCast_nonneg->u4,ofNat_le->vA,toNat_natCast->vq,fmod_nonneg_of_pos->xG,add_le_add->wR,add_sub_cancel->xP,fmod_lt_of_pos->xQ,not_lt->vv,max_eq_right->xU,toNat_of_nonneg->yC,le_refl->xB,add_neg_cancel_right->yh
open List renaming replicate->tv,length_append->t9,append_assoc->t8,mem_append_right->uC,map_append->uB,mem_append_left->uK,append_nil->uD,all_eq_true->uM,length_map->uL,mem_append->uN,mem_cons->uI,length_replicate->ub,length_singleton->uw,getElem?_eq_getElem->u0,lookup_cons->ug,length_cons->uh,map_cons->ud,size_toArray->uy,length->uY,mem_map->uj,mem_singleton->u5,getD_eq_getElem?_getD->vT,map->uV,isEmpty_iff->u7,getElem?_eq_none->vU,length_eq_zero_iff->vn,mem_of_getElem?->vV,map_congr_left->vW,mem_map_of_mem->vX,nodup_cons->vF,getElem?_eq_some_iff->v8,drop_eq_getElem_cons->v9,drop_eq_nil_of_le->wD,take_of_length_le->wF,all_cons->vH,map_replicate->vo,getElem?_eq_none_iff->wc,mem_of_mem_drop->wG,reverse_cons->vp,length_pos_iff->wJ,cons_append->vr,map_map->vO,contains_cons->wK,getElem?_map->wL,length_drop->wM,length_reverse->wi,nil_append->wN,forIn_cons->wO,contains_iff_mem->xH,getElem_mem->wy,mem_filter->w4,all_append->w5,zip_cons_cons->xM,mem_filterMap->xN,drop_zero->w6,dropLast_eq_take->xx,eraseIdxIfInBounds_toArray->yP,find?_cons->xY,mem_of_mem_take->x8,map_nil->xA,append_toArray->yB,filterMap_cons->yD,any_cons->xc,getLast?_eq_getElem?->yc,getLast?_eq_none_iff->yd,map_id'->xg
open List.cons renaming injEq->xa,inj->xf
open Nat renaming le_of_ble_eq_true->uH,le_trans->t5,add_le_add->uA,le_of_eq->t7,zero_le->uO,eq_of_beq_eq_true->uq,le_antisymm->uc,ble->uJ,le_refl->uW,le_add_right->ur,add_assoc->ui,succ_le_succ->u6,ne_of_lt->uu,zero_add->uv,lt_succ_of_lt->vB,beq->ua,mod_two_eq_zero_or_one->v7,ne_of_gt->vD,le_add_left->vb,lt_or_ge->vI,ble_eq_true_of_le->wg,mul_le_mul_left->wj,sub_add_cancel->wk,le_succ->vf,lt_succ_of_le->wq,not_lt->vg,min_eq_left->wz,not_succ_le_zero->x9,add_le_add_left->yA,lt_of_le_of_lt->yG,add_right_comm->yH,le_succ_of_le->yI,add_right_cancel_iff->yf,le_total->xi,add_comm->xm,min_eq_right->yN,succ_pred_eq_of_pos->yi,lt_add_of_pos_right->yj
open Ne renaming symm->vK
open Option renaming map_eq_some_iff->uF,isSome_iff_exists->wd,bind_eq_some_iff->xC,map_some->xZ,isNone_iff_eq_none->ye
open Option.some renaming inj->uR
open Prod.mk renaming inj->vP
open PyProof.Rows renaming wpAny_release'->vt,markedEach_of_false->xn,assignInOrder_cons->wm,callWith_type->xo,Subscript_->xp,stripBy_eq->xq,tail_any->xv,slot_str_getitem->yQ,assignInOrder_nil->yJ
open PySem renaming Value->R5,Str->tq,wpAny_bind->tu,Shared->tm,wpAny_pure->t4,Around->tx,wpAny_holding->uE,wpAny_mono->uG,wpAny_standAt->uU,DictEntry->uP,Program->uQ,Flow->uo,World->uS,wpAny_execs_nil->vG,intKind->vC,wpAny_Call_NameR->vZ,reprText->vN,FuncData->uz,KeyKind->vd,Model->um,typeIs_str->vR,wpAny_truthy_bool->wo,truthy->vu,wpAny_call->vi,wpAny_Assign_stores->xJ,wpAny_assign_Name->xR,Scope->u3,ExceptHandler->w7,wpAt_of_wpAny->w8,wpAny_execs_cons->xV,OsState->vS,wpAny_allTrue_Or_cons->xu,codeAny_forLoop_any->yE,NameKind->v5,wpAny_loadPart->xb,ks_wpAt_mono->xj,wpAny_isInstance->yL,wpAny_Try_except->yM,wpAny_callSpecial?_slot->yk,Builtin->wb
open PySem.Arg renaming arg->vE
open PySem.Around renaming frames_deeper->xI
open PySem.Builtin renaming divisionGoesByPylong->yR
open PySem.Builtin.List renaming listFitsIndex->yZ,listTooLong->yg
open PySem.Builtin.Range renaming rangeSize->wC,rangeFitsLong->yV
open PySem.Builtin.Str renaming occurrences->xD
open PySem.Calls renaming callWith_builtin->wx,spliced_cons->wW
open PySem.EntryCells renaming newEntry->yF
open PySem.Expr renaming Name->vm
open PySem.F renaming plainAttrs_str->we,plainAttrs_list->xF,slot_list_iadd->xr,slot_str_repr->xy,slot_list_getitem->ya,slot_dict_delitem->yb
open PySem.Heap renaming lt_size->uf,get?_push_of_some->vL,dictOf_iff->vM,get?_push_size->xK,get?_update_other->xt,get?_update_self->xw,FlyingW->xl,SameBut->yO
open PySem.Heap.UpToSlots renaming of_keeps->yl
open PySem.Obj renaming mapFields->w9,mapSeq->wY
open PySem.PyData renaming keyHash->u9
open PySem.Str renaming empty->uX,length->yK
open PySem.Value renaming ref->vj,none->vy,str->wZ
open PySem.W renaming boot_heap->uZ,Looks->uT,InstAt->vc,looks_mroIn->vQ,SharedT->vJ,boot_drawn->vx,callWith_of->wX,boot_toks->vz,nameX_L->xW,looks_findIn->xh,putN->xk
open PySem.W.Fast renaming te10156331382660048174->yS,te11892475500146522536->yT,te14364793385576792824->yU,te6613529449190102663->yW,te4187177175401517315->yX,te5923862056798008813->yY
open PySem PySem.W PyProof.Rows PySem.Calls
namespace Internal
theorem cNS{α:Type _}{a:α}{q:Prop}(h:none=some a):q:=nomatch h
theorem cSN{α:Type _}{a:α}{q:Prop}(h:some a=none):q:=nomatch h
theorem cTF{q:Prop}(h:true=false):q:=nomatch h
theorem cFT{q:Prop}(h:false=true):q:=nomatch h
theorem cNC{α:Type _}{a:α}{l:List α}{q:Prop}(h:[]=a::l):q:=nomatch h
theorem cCN{α:Type _}{a:α}{l:List α}{q:Prop}(h:a::l=[]):q:=nomatch h
theorem Zo{α:Type _}{a b:α}(h:some a=some b):a=b:=uR h
end Internal
namespace Internal
theorem cps{G:Prop}(h:∀P:Prop,(G->P)->P):G:=h G id
theorem AY{α β:Type _}{o:Option α}{k:α->Option β}{b:β}{G:Prop}(e:o.bind k=some b)(h:∀a,o=some a->k a=some b->G):G:=match o,e,h with
 |some a,e,h=> h a rfl e
 |none,e,_=> cNS e
theorem Aa{a b:Bool}{G:Prop}(e:(a&&b)=true)(h:a=true->b=true->G):G:=match a,b,e,h with
 |true,true,_,h=> h rfl rfl
 |false,_,e,_=> cFT e
 |true,false,e,_=> cFT e
theorem Dq{α:Type _}{c:Prop} [Decidable c]{a b r:α}{G:Prop}(e:(if c then a else b)=r)(h1:c->a=r->G)(h2:¬c->b=r->G):G:=
 if q:c then h1 q ((if_pos q).symm.trans e)else h2 q ((if_neg q).symm.trans e)
theorem Ag{a b:Bool}(e:(a&&b)=true):a=true:=Aa e fun h _=> h
theorem AL{a b:Bool}(e:(a&&b)=true):b=true:=Aa e fun _ h=> h
end Internal
namespace Internal
@[elab_as_elim] theorem rwR.{u} {α:Sort u} {a b:α} {P:α->Prop} (h:a=b) (p:P b):P a:=h.symm.rec p
@[elab_as_elim] theorem rwL.{u} {α:Sort u} {a b:α} {P:α->Prop} (h:a=b) (p:P a):P b:=h.rec p
theorem x1{α:Sort _}{P:α->Prop}{G:Prop}(h:∃a,P a)(k:∀a,P a->G):G:=h.elim k
theorem x2{α β:Sort _}{P:α->β->Prop}{G:Prop}(h:∃a b,P a b)(k:∀a b,P a b->G):G:=h.elim fun a h=> h.elim (k a)
theorem x3{α β γ:Sort _}{P:α->β->γ->Prop}{G:Prop}(h:∃a b c,P a b c)(k:∀a b c,P a b c->G):G:=h.elim fun a h=> x2 h (k a)
theorem x4{α β γ δ:Sort _}{P:α->β->γ->δ->Prop}{G:Prop}(h:∃a b c d,P a b c d)(k:∀a b c d,P a b c d->G):G:=h.elim fun a h=> x3 h (k a)
theorem x5{α β γ δ ε:Sort _}{P:α->β->γ->δ->ε->Prop}{G:Prop}(h:∃a b c d e,P a b c d e)(k:∀a b c d e,P a b c d e->G):G:=h.elim fun a h=> x4 h (k a)
theorem x6{α β γ δ ε ζ:Sort _}{P:α->β->γ->δ->ε->ζ->Prop}{G:Prop}(h:∃a b c d e f,P a b c d e f)(k:∀a b c d e f,P a b c d e f->G):G:=h.elim fun a h=> x5 h (k a)
theorem y2{A B G:Prop}(h:A/\B)(k:A->B->G):G:=k h.1 h.2
theorem y3{A B C G:Prop}(h:A/\B/\C)(k:A->B->C->G):G:=y2 h.2 (k h.1)
theorem y4{A B C D G:Prop}(h:A/\B/\C/\D)(k:A->B->C->D->G):G:=y3 h.2 (k h.1)
theorem y5{A B C D E G:Prop}(h:A/\B/\C/\D/\E)(k:A->B->C->D->E->G):G:=y4 h.2 (k h.1)
theorem y6{A B C D E F G:Prop}(h:A/\B/\C/\D/\E/\F)(k:A->B->C->D->E->F->G):G:=y5 h.2 (k h.1)
theorem y7{A B C D E F H G:Prop}(h:A/\B/\C/\D/\E/\F/\H)(k:A->B->C->D->E->F->H->G):G:=y6 h.2 (k h.1)
theorem y8{A B C D E F H I G:Prop}(h:A/\B/\C/\D/\E/\F/\H/\I)(k:A->B->C->D->E->F->H->I->G):G:=y7 h.2 (k h.1)
theorem Ay{a k l:Nat}(h:a<=k:=by assumption)(e:uJ k l=true:=by rfl):a<=l:=t5 h (uH e)
theorem BF{a k l:Nat}(h:a<=k:=by assumption)(e:uJ (k+1) l=true:=by rfl):a<l:=t5 (u6 h) (uH e)
theorem Gi{a i j:Nat}(e:uJ i j=true:=by rfl):a+i<=a+j:=yA (uH e) a
theorem Gj{a b:Nat}(e:uJ a b=true:=by rfl):a<=b:=uH e
theorem JD{a b:Nat}:a<=a+b:=ur ..
theorem Zp{a b:Nat}:b<=a+b:=vb ..
theorem tI{a b k:Nat}(h:a<=k:=by assumption):a<=k+b:=t5 h (ur ..)
theorem Lz{x m k l:Nat}(h:x+m<=k:=by assumption)(e:uJ k l=true:=by rfl):m<=l:=t5 (t5 (vb ..) h) (uH e)
theorem JE{x m k l:Nat}(h:x+m<=k:=by assumption)(e:uJ k l=true:=by rfl):x<=l:=t5 (t5 (ur ..) h) (uH e)
theorem OZ{m:Nat}(h:0<m:=by assumption):m=m - 1+1:=(yi h).symm
theorem Eg{m:Nat}(h:m≠0:=by assumption):(m:Int)≠0:=fun e=> h (Int.ofNat.inj e)
theorem KP{a b:Nat}(h:b<=a:=by assumption):¬a<b:=vg.mpr h
theorem L6{a b:Int}(h:b<=a:=by assumption):¬a<b:=vv.mpr h
theorem SX{a b:Int}(h:¬a<b:=by assumption):b<=a:=vv.mp h
theorem Oa{a b c:Nat}(h:a<=b:=by assumption)(g:b<=c:=by assumption):a<=c:=t5 h g
theorem SY{x:Int}{ym l:Nat}(h:x<=(ym:Int):=by assumption):x<=((ym+l:Nat):Int):=ue h (vA.mpr (ur ..))
theorem AU{H L l r:Nat}(h:H<=L)(v:l+L<=r+H:=by simp+arith only):l<=r:=Nat.le_of_add_le_add_right (t5 (yA h l) v)
theorem A7{H L l r:Nat}(h:H<=L)(v:l+1+L<=r+H:=by simp+arith only):l<r:=AU (l:=l+1) h v
theorem Gk{n:Nat}:(-1:Int)<=(n:Int):=ue (by decide) (u4 n)
theorem IE{a n:Nat}(h:a+1<=n:=by assumption):n=n - 1+1:=(wk (t5 (vb 1 a) h)).symm
theorem Sa{a n:Nat}(h:a+2<=n:=by assumption):n=n - 2+2:=(wk (t5 (vb 2 a) h)).symm
theorem Sb{a b:Nat}(h:0<b):a≠a+b:=uu (yj h)
theorem Ob(k:Nat):(2 * k+1) % 2=1:=Nat.mul_add_mod 2 k 1
theorem Oc(k:Nat):(2 * k+1) / 2=k:=by rw [Nat.mul_add_div (by decide)];rfl
theorem Od(k:Nat):2 * k % 2=0:=Nat.mul_mod_right 2 k
theorem Oe(k:Nat):2 * k / 2=k:=Nat.mul_div_right k (by decide)
theorem Bt{l r:Nat}(v:l<=r:=by simp+arith only):l<=r:=v
theorem Zq{l r:Nat}(v:l+1<=r:=by simp+arith only):l<r:=v
end Internal
section
open Lean
def Internal.tk(n:String)(a:List Syntax):Syntax:=mkNode (.mkStr `Lean.Parser.Tactic n) (mkAtom n::a).toArray
def Internal.JF(l:List Syntax):Syntax:=tk "first" [mkNullNode (l.map fun t=> mkNode `group #[mkAtom "|",t]).toArray]
def Internal.ap(f:Syntax)(l:List Syntax):Syntax:=mkNode `Lean.Parser.Term.app #[f,mkNullNode l.toArray]
def Internal.Eh(n:String):Syntax:=mkIdent n.toName
def Internal.KQ:Syntax:=mkNode `Lean.Parser.Term.hole #[mkAtom "_"]
def Internal.Sd:Syntax:=mkNode `Lean.Parser.Term.syntheticHole #[mkAtom "?",KQ]
def Internal.lam(l:List Syntax)(b:Syntax):Syntax:=mkNode `Lean.Parser.Term.fun #[mkAtom "fun",mkNode `Lean.Parser.Term.basicFun #[mkNullNode l.toArray,mkNullNode,mkAtom "=>",b]]
def Internal.AQ(p:Syntax)(z:String):Syntax×Bool:=
 let q:=p[0][0][0]
 if p[1].isNone&&p[0][0].getNumArgs==1&&q.isOfKind `Lean.Parser.Tactic.rcasesPat.ignore then(KQ,true)
 else if p[1].isNone&&p[0][0].getNumArgs==1&&q.isOfKind `Lean.Parser.Tactic.rcasesPat.one&&q[0].getId != `rfl then(q[0],true)
 else(Eh z,false)
def Internal.JG(p:Syntax)(e:Syntax):Syntax:=tk "obtain" [mkNullNode #[p],mkNullNode,mkNullNode #[mkAtom ":=",mkNullNode #[e]]]
def Internal.tup(l:List Syntax):Syntax:=match l with
 | [p]=> p[0]
 |l=> mkNode `Lean.Parser.Tactic.rcasesPatMed #[mkNullNode #[mkNode `Lean.Parser.Tactic.rcasesPat.tuple #[mkAtom "⟨",mkNullNode (l.foldr (fun p t=> p::mkAtom ","::t) []).toArray,mkAtom "⟩"]]]
def Internal.cut(b:String):Nat->List Syntax->List Syntax×List Syntax
 |_,[]=> ([],[])
 |n,[p]=> let(x,s):=AQ p (b++"z");([x],if s then []else [JG p[0] (Eh (b++"z"))])
 |0,l=> ([Eh (b++"r")],[JG (tup l) (Eh (b++"r"))])
 |n+1,p::l=> match AQ p (b++"z")with
  |(x,true)=> let(y,t):=cut b n l;(x::y,t)
  |(x,false)=> match l with
   | [q]=> let(y,s):=AQ q (b++"r");([x,y],JG p[0] x::if s then []else [JG q[0] y])
   |l=> ([x,Eh (b++"r")],[JG p[0] x,JG (tup l) (Eh (b++"r"))])
def Internal.Zr(e:Syntax)(ps:List Syntax)(k:Nat):Syntax:=
 let b:=if e.isIdent then e.getId.toString else "w"
 let(c,t):=cut b 7 (ps.drop k);let v:=(ps.take k).map fun p=> AQ p ""
 if v.all (·.2)then
  let f:=fun(e:Syntax)=> if c.length<2 then Sd else ap (Eh s!"Internal.y{c.length}") [e,lam c Sd]
  let g:=if c.length<2 then c.headD KQ else Eh (b++"g")
  let u:=if k==0 then f e else ap (Eh s!"Internal.x{k}") [e,lam (v.map (·.1)++[g]) (f g)]
  let cl:=fun(i:Syntax)=> JF [tk "clear" [mkNullNode #[i]],tk "skip" []]
  mkNullNode (tk "refine" [u]::(if e.isIdent then [cl e]else [])++(if k !=0&&c.length>1 then [cl g]else [])++t).toArray
 else tk "fail" [mkNullNode]
def Internal.Zs(e:Syntax)(ps:List Syntax):Syntax:=JF (((List.range (min 7 ps.length)).reverse.map (Zr e ps))++[tk "fail" [mkNullNode]])
def Internal.Zt(s:Syntax):MacroM Syntax:=
 let p:=s[1][0][0][0];let ps:=p[1].getSepArgs.toList
 if s[2].isNone&&s[3][1].getNumArgs==1&&s[1][0][0].getNumArgs==1&&p.isOfKind `Lean.Parser.Tactic.rcasesPat.tuple&&ps.length>1 then pure (Zs s[3][1][0] ps)else Macro.throwUnsupported
def Internal.Zu(r:Syntax):Syntax:=tk "refine" [ap (Eh (if r[0].isNone then "Internal.rwR" else "Internal.rwL")) [ap r[1] [mkNode `Lean.Parser.Term.ellipsis #[mkAtom ".."]],mkNode `Lean.Parser.Term.syntheticHole #[mkAtom "?",mkNode `Lean.Parser.Term.hole #[mkAtom "_"]]]]
def Internal.Zv(s:Syntax):Syntax:=JF [mkNullNode (s[2][1].getSepArgs.map Zu),tk "fail" [mkNullNode]]
def Internal.inj(h:Syntax)(z:String):Syntax:=
 let l:=(z.splitOn " ").map Internal.Eh
 mkNullNode #[tk "injection" [h,mkNullNode #[mkAtom "with",mkNullNode l.toArray]],tk "subst" [mkNullNode l.toArray]]
def Internal.Zw(s:Syntax)(h:Syntax):Syntax:=
 JF ((if s[3].isNone then(("Internal.cNS Internal.cFT Internal.cTF Internal.cSN Internal.cNC Internal.cCN".splitOn " ").map fun n=> tk "exact" [ap (Eh n) [h]])++tk "subst" [mkNullNode #[h]]::["z1","z1 z2","z1 z2 z3"].map (inj h)else [])
  ++(("Bool Option List Nat Internal.AV Internal.AObj Internal.Out Internal.COut Internal.Flow PySem.Flow PySem.Value PySem.Expr PySem.Data Internal.CE Internal.CS Internal.CT Internal.CSrc Internal.COp Internal.BOp Internal.L4.Kd Internal.L4.Tk Internal.L4.Ce Internal.L4.Rs Internal.L4.Kw Internal.L4.Ln Internal.L4.Wd Internal.L4.Ref Internal.L4.WR Internal.L4.Mid".splitOn " ").map fun n=> tk "induction" [s[1],mkNullNode #[mkAtom "using",Eh (n++".casesOn")],mkNullNode,s[3]])++[tk "fail" [mkNullNode]])
def Internal.nc(s:Syntax):MacroM Syntax:=
 if s[0][4].isNone&&(s[1].isOfKind `Lean.Parser.Command.definition||s[1].isOfKind `Lean.Parser.Command.abbrev)then
  pure (s.setArg 0 (s[0].setArg 4 (mkNullNode #[mkNode `Lean.Parser.Command.noncomputable #[mkAtom "noncomputable"]])))
 else Macro.throwUnsupported
end
local macro_rules (kind:=Lean.Parser.Command.declaration) |s=> Internal.nc s
local macro_rules (kind:=Lean.Parser.Tactic.obtain) |s=> Internal.Zt s
local macro_rules (kind:=Lean.Parser.Tactic.rewriteSeq) |s=> if s[3].isNone then pure (Internal.Zv s)else Lean.Macro.throwUnsupported
local macro_rules (kind:=Lean.Parser.Tactic.cases) |s=> if s[1][0][0].isNone&& !s[1][0][1].isIdent then Lean.Macro.throwUnsupported else pure (Internal.Zw s s[1][0][1])
namespace Internal
section
open PySem
abbrev N:=Nat
abbrev N.self:N:=1936026726
abbrev N.L8:N:=6872327479327219551
abbrev N.append:N:=107135549927012
abbrev N.extend:N:=111568023285348
abbrev N.pop:N:=7368560
abbrev N.insert:N:=115923103347316
abbrev N.join:N:=1785686382
abbrev N.split:N:=495807392116
abbrev N.lstrip:N:=119243130694000
abbrev N.rstrip:N:=125840200460656
abbrev N.strip:N:=495874894192
inductive AV where
 |none |bool (b:Bool) |int (i:Int) |str (s:List Nat)
 |tup (xs:List AV) |Ae (xs:List AV)
 |obj (c:Nat) (fs:List (N×AV))
 |ref (i:Nat) |fn (a:Nat) |cls (a:Nat) |Gm
 deriving Inhabited
inductive AObj where
 |lst (xs:List AV)
 |A4 (es:List (AV×AV))
 |ins (c:Nat) (fs:List (N×AV))
 deriving Inhabited
structure Hp where
 lo:List AObj
 hi:List AObj
noncomputable instance:Inhabited Hp:=⟨⟨[],[]⟩⟩
def Cv:List AObj->Nat->AObj
 | [],_=>.lst []
 |o::_,0=> o
 |_::r,n+1=> Cv r n
def DI:List AObj->Nat->AObj->List AObj
 | [],_,_=>[]
 |_::r,0,x=> x::r
 |o::r,n+1,x=> o::DI r n x
def Hp.row(h:Hp):Nat->List AObj
 |0=> h.lo
 |_+1=> h.hi
def Hp.f(h:Hp)(i:Nat):AObj:=Cv (h.row (i % 2)) (i / 2)
def Hp.lv(h:Hp)(i:Nat):Prop:=i / 2<(h.row (i % 2)).length
def Hp.JH(h:Hp)(k:Nat)(o:AObj):Nat->Hp
 |0=> ⟨DI h.lo k o,h.hi⟩
 |_+1=> ⟨h.lo,DI h.hi k o⟩
def Hp.set(h:Hp)(i:Nat)(o:AObj):Hp:=h.JH (i / 2) o (i % 2)
def Hp.nI(h:Hp):Nat:=2 * h.hi.length+1
def Hp.JI(h:Hp)(o:AObj):Hp:=⟨h.lo,h.hi++[o]⟩
def Hp.n(h:Hp):Nat:=match h.hi with
 | []=> 2 * h.lo.length
 |_::_=> h.nI
def Hp.add(h:Hp)(o:AObj):Hp:=match h.hi with
 | []=> ⟨h.lo++[o],[]⟩
 |_::_=> h.JI o
inductive BOp where |add |sub |mul |div |mod
 deriving DecidableEq,Inhabited
inductive COp where |eq |ne |lt |le |gt |ge |Be |De |IF |L9
 deriving DecidableEq,Inhabited
inductive BI where |len |sum |min |list |int
 deriving DecidableEq,Inhabited
inductive CE where
 |cst (v:AV)
 |var (x:N)
 |AF (e:CE) (a:N)
 |app (f:CE) (as:List CE)
 |F7 (f:CE) (as:List CE) (n:N) (k:CE)
 |AH (e:CE) (a:N) (as:List CE)
 |F8 (e:CE) (a:N) (as:List CE) (n:N) (k:CE)
 |sup (f c:Nat) (as:List CE)
 |bi (b:BI) (as:List CE)
 |Cb (e:CE) (c:Nat)
 |isStr (e:CE)
 |bin (op:BOp) (l r:CE)
 |fmt (l r:CE)
 |neg (e:CE)
 |nt (e:CE)
 |Aw (es:List CE)
 |Bk (es:List CE)
 |cmp (l:CE) (rs:List (COp×CE))
 |ite (t b o:CE)
 |tup (es:List CE)
 |lst (yr:Bool) (es:List CE)
 |A4 (ks:List (AV×CE))
 |sub (e i:CE)
 |Bu (yr:Bool) (e:CE) (lo hi:Option CE)
 |Al
 deriving Inhabited
inductive CT where
 |name (x:N) |AF (e:CE) (a:N) |sub (e i:CE) |tup (xs:List N)
 deriving Inhabited
inductive CSrc where
 |it (e:CE) |keys (e:CE) |E5 (as:List CE) |enum (e:CE)
 deriving Inhabited
inductive CS where
 |expr (e:CE)
 |asg (t:CT) (e:CE)
 |aug (t:CT) (op:BOp) (e:CE)
 |ret (e:Option CE)
 |ifs (t:CE) (b o:List CS)
 |BQ (t:CE) (b:List CS)
 |Cc (t:CT) (src:CSrc) (b:List CS)
 |EM (c:Nat) (as:List CE)
 |F9 (b:List CS) (c:Nat) (x:N) (h:List CS)
 |IG (b:List CS)
 |del (e i:CE)
 |pass |brk |cont |Al
 deriving Inhabited
structure Fn where
 ps:List N
 BH:List (N×AV)
 body:List CS
inductive CA where |Aj(f:Nat) |val(v:AV)
inductive Init where
 |BY (fi:Nat) (fs:List (N×N))
 |run (f:Nat)
structure Cl where
 attrs:List (N×CA)
 fields:List N
 mro:List Nat
 exc:Bool
 init:Init
structure Prog where
 fns:Nat->Option Fn
 cls:Nat->Option Cl
 Cb:List Nat
structure St where
 loc:List (N×AV)
 hp:Hp
inductive Out(α:Type)where
 |ok (a:α) (s:St) |exc (e:AV) (s:St) |bad
inductive COut where
 |ok (v:AV) (h:Hp) |exc (e:AV) (h:Hp) |bad
inductive Flow where |next |brk |cont |ret(v:AV)
 deriving Inhabited
def Out.bind{α β:Type}(m:Out α)(f:α->St->Out β):Out β:=match m with
 | .ok a s=> f a s
 | .exc e s=>.exc e s
 | .bad=>.bad
def COut.bind{β:Type}(m:COut)(l:List (N×AV))(f:AV->St->Out β):Out β:=match m with
 | .ok a h=> f a ⟨l,h⟩
 | .exc e h=>.exc e ⟨l,h⟩
 | .bad=>.bad
def AR{α β:Type}(m:Option α)(f:α->Out β):Out β:=match m with
 |some a=> f a
 |none=>.bad
def look{α:Type}(x:N):List (N×α)->Option α
 | []=> none
 |(y,v)::r=> if y=x then some v else look x r
theorem Gn{α:Type}{x y:N}{v:α}{r:List (N×α)}:look x ((y,v)::r)=if y=x then some v else look x r:=rfl
def put{α:Type}(x:N)(v:α):List (N×α)->List (N×α)
 | []=>[(x,v)]
 |(y,w)::r=> if y=x then(x,v)::r else(y,w)::put x v r
theorem Zx{α:Type}{x y:N}{v w:α}{r:List (N×α)}:put x v ((y,w)::r)=if y=x then(x,v)::r else(y,w)::put x v r:=rfl
def C2(len:Nat)(i:Int):Option Nat:=
 if 0<=i then(if i<len then some i.toNat else none)else(if 0<=i+len then some (i+len).toNat else none)
def Dr(len:Nat)(i:Int):Nat:=(max 0 (min (if i<0 then i+len else i) len)).toNat
def CB{α:Type}(xs:List α)(lo hi:Option Int):List α:=
 let a:=(lo.map (Dr xs.length)).getD 0;let b:=(hi.map (Dr xs.length)).getD xs.length
 (xs.drop a).take (b - a)
def strLt:List Nat->List Nat->Bool
 |_,[]=> false
 | [],_::_=> true
 |a::r,b::t=> decide (a<b)||(a==b&&strLt r t)
def BJ(sep:List Nat):List (List Nat)->List Nat
 | []=>[]
 | [x]=> x
 |x::r=> x++sep++BJ sep r
def KR(a:Nat):List (List Nat)->List (List Nat)
 | []=>[[a]]
 |w::ws=> (a::w)::ws
def BV(c:Nat):List Nat->List (List Nat)
 | []=>[[]]
 |a::r=> if a=c then []::BV c r else KR a (BV c r)
theorem MA{c a:Nat}{r:List Nat}:BV c (a::r)=if a=c then []::BV c r else KR a (BV c r):=rfl
def Cd(c:List Nat):List Nat->List Nat
 | []=>[]
 |a::r=> if c.contains a then Cd c r else a::r
theorem Se{c:List Nat}{a:Nat}{r:List Nat}:Cd c (a::r)=if c.contains a then Cd c r else a::r:=rfl
def E6(c:List Nat)(s:List Nat):List Nat:=(Cd c s.reverse).reverse
def lim:Nat:=1000000
def ck{α:Type}(n:Nat)(x:α):Option α:=if n<=lim then some x else none
def C8{α:Type}(xs:List α):Nat->List α
 |0=>[]
 |n+1=> xs++C8 xs n
def alt{α:Type}(x y:Option α):Option α:=match x with
 |some v=> some v
 |none=> y
def Sf:AV->Option Bool
 | .bool b=> some b
 |_=> none
def Bb:AV->Option Int
 | .int i=> some i
 |_=> none
def Bl:AV->Option (List Nat)
 | .str s=> some s
 |_=> none
def E7:AV->Option (List AV)
 | .tup s=> some s
 |_=> none
def JJ:AV->Option (List AV)
 | .Ae s=> some s
 |_=> none
def FU:AV->Option Nat
 | .ref i=> some i
 |_=> none
def C9:AObj->Option (List AV)
 | .lst xs=> some xs
 |_=> none
def KS:AObj->Option (List (AV×AV))
 | .A4 xs=> some xs
 |_=> none
def KU:AObj->Option (Nat×List (N×AV))
 | .ins c fs=> some (c,fs)
 |_=> none
def one{α:Type}:List α->Option α
 | [v]=> some v
 |_=> none
def Zy:AV->Option Bool
 | .none=> some true
 | .int _=> some false
 |_=> none
def Zz(x:Int):AV->Option Bool
 | .int y=> some (x==y)
 | .none=> some false
 |_=> none
mutual
noncomputable def Ds:AV->AV->Option Bool
 | .none,b=> Zy b
 | .bool a,b=> (Sf b).map fun b=> a==b
 | .int a,b=> Zz a b
 | .str a,b=> (Bl b).map fun b=> a==b
 | .tup a,b=> (E7 b).bind fun b=> EN a b
 | .Ae a,b=> (JJ b).bind fun b=> EN a b
 | .obj _ _,_=> none
 | .ref _,_=> none
 | .fn _,_=> none
 | .cls _,_=> none
 | .Gm,_=> none
noncomputable def EN:List AV->List AV->Option Bool
 | [],[]=> some true
 | [],_::_=> some false
 |_::_,[]=> some false
 |a::r,b::t=> (Ds a b).bind fun c=> if c=true then EN r t else some false
end
def atom:AV->Bool
 | .none=> true
 | .bool _=> true
 | .int _=> true
 | .str _=> true
 |_=> false
def kids:AV->Option (List AV)
 | .tup xs=> some xs
 | .Ae xs=> some xs
 |_=> none
def Bz:Nat->AV->Bool
 |0,a=> atom a
 |n+1,a=> atom a||(match kids a with
  |some xs=> xs.all (Bz n)
  |none=> false)
def JK(h:Hp)(a:AV):Option AV:=match FU a with
 |some i=> (C9 (h.f i)).map .Ae
 |none=> some a
def Of:AObj->Option Bool
 | .lst xs=> some (!xs.isEmpty)
 | .A4 es=> some (!es.isEmpty)
 | .ins _ _=> none
def truthy(h:Hp):AV->Option Bool
 | .none=> some false
 | .bool b=> some b
 | .int i=> some (i !=0)
 | .str s=> some (!s.isEmpty)
 | .tup xs=> some (!xs.isEmpty)
 | .Ae xs=> some (!xs.isEmpty)
 | .ref i=> Of (h.f i)
 |_=> none
def Ei(h:Hp):AV->Option (List AV)
 | .Ae xs=> some xs
 | .ref i=> C9 (h.f i)
 |_=> none
def items(h:Hp)(a:AV):Option (List AV):=alt (E7 a) (Ei h a)
def IH:AV->AV->Bool
 | .int a,.int b=> a==b
 | .str a,.str b=> a==b
 |_,_=> false
def keyOk(a:AV):Bool:=(Bb a).isSome||(Bl a).isSome
def Z0(a b:AV):Bool:=((Bb a).isSome&&(Bb b).isSome)||((Bl a).isSome&&(Bl b).isSome)
def Df(k:AV)(l:List (AV×AV)):Bool:=l.all fun p=> Z0 k p.1
def EP(k:AV):List (AV×AV)->Option AV
 | []=> none
 |(k',v)::r=> if IH k' k then some v else EP k r
theorem Z1{k k' v:AV}{r:List (AV×AV)}:EP k ((k',v)::r)=if IH k' k then some v else EP k r:=rfl
def HT(k v:AV):List (AV×AV)->List (AV×AV)
 | []=>[(k,v)]
 |(k',w)::r=> if IH k' k then(k',v)::r else(k',w)::HT k v r
theorem Sg{k v k' w:AV}{r:List (AV×AV)}:HT k v ((k',w)::r)=if IH k' k then(k',v)::r else(k',w)::HT k v r:=rfl
def II(k:AV):List (AV×AV)->List (AV×AV)
 | []=>[]
 |(k',w)::r=> if IH k' k then r else(k',w)::II k r
theorem Sh{k k' w:AV}{r:List (AV×AV)}:II k ((k',w)::r)=if IH k' k then r else(k',w)::II k r:=rfl
def strs? :List AV->Option (List (List Nat))
 | []=> some []
 | .str s::r=> (strs? r).map (s::·)
 |_::_=> none
def KV:List AV->Option (List Int)
 | []=> some []
 | .int s::r=> (KV r).map (s::·)
 |_::_=> none
def Si(h:Hp)(a b:AV):Option AV:=
 alt ((Bb a).bind fun x=> (Bb b).map fun y=>.int (x+y)) (alt ((Bl a).bind fun x=> (Bl b).bind fun y=> ck (x.length+y.length) (.str (x++y)))
  (alt ((E7 a).bind fun x=> (E7 b).bind fun y=> if x.length+y.length<=1000 then some (.tup (x++y))else none)
    ((Ei h a).bind fun xs=> (Ei h b).bind fun ys=> ck (xs.length+ys.length) (.Ae (xs++ys)))))
def KW(h:Hp)(a:AV)(y:Int):Option AV:=if y.natAbs<=lim then
    alt ((Bb a).bind fun x=> if x.natAbs<=lim then some (.int (x * y))else none)
     (alt ((Bl a).bind fun x=> ck (x.length * y.toNat) (.str (C8 x y.toNat)))
       ((Ei h a).bind fun xs=> if xs.length * y.toNat<=256 then some (.Ae (C8 xs y.toNat))else none))
 else none
def binOp(h:Hp)(op:BOp)(a b:AV):Option AV:=match op with
 | .add=> Si h a b
 | .sub=> (Bb a).bind fun x=> (Bb b).map fun y=>.int (x - y)
 | .mul=> (Bb b).bind fun y=> KW h a y
 | .div=> (Bb a).bind fun x=> (Bb b).bind fun y=> if y=0∨y.natAbs>lim then none else some (.int (x.fdiv y))
 | .mod=> (Bb a).bind fun x=> (Bb b).bind fun y=> if y=0 then none else some (.int (x.fmod y))
def IJ(f:Int->Int->Bool)(a b:AV):Option Bool:=(Bb a).bind fun x=> (Bb b).map fun y=> f x y
def Og(f:List Nat->List Nat->Bool)(a b:AV):Option Bool:=(Bl a).bind fun x=> (Bl b).map fun y=> f x y
def MB(h:Hp)(a b:AV):Option Bool:=(JK h a).bind fun a=> (JK h b).bind fun b=> if(Bz 8 a&&Bz 8 b)=true then Ds a b else none
def Sj(y:List Nat):List Nat->Option Bool
 | []=> some true
 | [c]=> some (y.contains c)
 |_=> none
def Oh(a b:AV):Option Bool:=(Bl a).bind fun x=> (Bl b).bind fun y=> Sj y x
def Sk(h:Hp)(k b:AV):Option Bool:=(FU b).bind fun i=> (KS (h.f i)).bind fun es=> if(keyOk k&&Df k es)=true then some (EP k es).isSome else none
def Sl(a b:AV):Option Bool:=(Bl a).bind fun x=> (kids b).bind fun ys=> (strs? ys).map fun l=> l.contains x
def isNone:AV->Bool
 | .none=> true
 |_=> false
def Z2(b:Bool):AV->Option Bool
 | .bool a=> some (a==b)
 | .none=> some false
 |_=> none
def Oi(a:AV):AV->Option Bool
 | .none=> some (isNone a)
 | .bool b=> Z2 b a
 |_=> none
def BZ(h:Hp)(op:COp)(a b:AV):Option Bool:=match op with
 | .eq=> MB h a b
 | .ne=> alt (IJ (fun x y=> x !=y) a b) (Og (fun x y=> x !=y) a b)
 | .lt=> IJ (fun x y=> decide (x<y)) a b
 | .le=> alt (IJ (fun x y=> decide (x<=y)) a b) (Og (fun x y=> !strLt y x) a b)
 | .gt=> IJ (fun x y=> decide (x>y)) a b
 | .ge=> IJ (fun x y=> decide (x>=y)) a b
 | .Be=> alt (Oh a b) (alt (Sk h a b) (Sl a b))
 | .De=> (Oh a b).map fun c=> !c
 | .IF=> Oi a b
 | .L9=> (Oi a b).map fun c=> !c
def HU(xs:List AV)(i:AV):Option AV:=(Bb i).bind fun k=> (C2 xs.length k).bind fun j=> xs[j]?
def Oj(k:AV):AObj->Option AV
 | .lst xs=> HU xs k
 | .A4 es=> if(keyOk k&&Df k es)=true then EP k es else none
 | .ins _ _=> none
def CP(h:Hp)(o i:AV):Option AV:=match o with
 | .str s=> (Bb i).bind fun k=> (C2 s.length k).bind fun j=> s[j]?.map fun c=>.str [c]
 | .tup xs=> HU xs i
 | .Ae xs=> HU xs i
 | .ref r=> Oj i (h.f r)
 |_=> none
def Ol:AV->Option (Option Int)
 | .none=> some none
 | .int i=> some (some i)
 |_=> none
def sliceOf(h:Hp)(l u:Option Int):AV->Option AV
 | .str s=> some (.str (CB s l u))
 | .Ae xs=> some (.Ae (CB xs l u))
 | .ref r=> (C9 (h.f r)).map fun xs=>.Ae (CB xs l u)
 |_=> none
def GA(h:Hp)(o lo hi:AV):Option AV:=(Ol lo).bind fun l=> (Ol hi).bind fun u=> sliceOf h l u o
def putD(h:Hp)(r:Nat)(i v:AV):Option Hp:=(KS (h.f r)).bind fun es=> if(keyOk i&&Df i es)=true then ck (es.length+1) (h.set r (.A4 (HT i v es)))else none
def IK(h:Hp)(o i v:AV):Option Hp:=(FU o).bind fun r=> putD h r i v
def KX(h:Hp)(r:Nat):List (AV×AV)->Option Hp
 | []=> some h
 |(i,v)::es=> (putD h r i v).bind fun h=> KX h r es
def MC(h:Hp)(o i:AV):Option Hp:=(FU o).bind fun r=> (KS (h.f r)).bind fun es=>
 if(keyOk i&&Df i es&&(EP i es).isSome)=true then some (h.set r (.A4 (II i es)))else none
def MD(P:Prog)(c:Nat)(fs:List (N×AV))(a:N):Option AV:=match P.cls c with
 |none=> none
 |some cl=> match look a fs with
  |some v=> if cl.fields.contains a then some v else none
  |none=> match look a cl.attrs with
   |some (.val v)=> some v
   |_=> none
def GB(P:Prog)(h:Hp)(o:AV)(a:N):Option AV:=match o with
 | .obj c fs=> MD P c fs a
 | .ref r=> (KU (h.f r)).bind fun p=> MD P p.1 p.2 a
 |_=> none
def setAt(P:Prog)(h:Hp)(o:AV)(a:N)(v:AV):Option Hp:=(FU o).bind fun r=> (KU (h.f r)).bind fun p=> (P.cls p.1).bind fun cl=>
 if(cl.fields.contains a&& !cl.exc&&decide (p.2.length<100))=true then some (h.set r (.ins p.1 (put a v p.2)))else none
def Om(xs:List AV):List AV->Option (AV×List AV)
 | []=> xs.getLast?.map fun v=> (v,xs.dropLast)
 | [i]=> (Bb i).bind fun k=> if k=0 then xs.head?.map fun v=> (v,xs.tail)else none
 |_=> none
def Sm(xs:List AV):List AV->Option (AV×List AV)
 | [i,v]=> (Bb i).bind fun i=> if 0<=i/\i<=xs.length then ck (xs.length+1) (.none,xs.take i.toNat++v::xs.drop i.toNat)else none
 |_=> none
def Sn(xs as:List AV):Option (AV×List AV):=(one as).bind fun v=> ck (xs.length+1) (.none,xs++[v])
def So(h:Hp)(xs as:List AV):Option (AV×List AV):=(one as).bind fun v=> (Ei h v).bind fun ys=> ck (xs.length+ys.length) (.none,xs++ys)
def KY(h:Hp)(xs:List AV)(m:N)(as:List AV):Option (AV×List AV):=
 if m=N.append then Sn xs as else if m=N.extend then So h xs as else if m=N.pop then Om xs as else if m=N.insert then Sm xs as else none
def Sp(h:Hp)(s:List Nat)(x:AV):Option AV:=((items h x).bind strs?).bind fun l=> if s.length<=16/\(l.map uY).sum+l.length<=60000 then some (.str (BJ s l))else none
def Sq(s:List Nat)(x:AV):Option AV:=(Bl x).bind fun c=> (one c).bind fun c=> ck (s.length+1) (.Ae ((BV c s).map .str))
def Oo(g:List Nat->List Nat)(x:AV):Option AV:=(Bl x).map fun c=>.str (g c)
def Sr(h:Hp)(s:List Nat)(m:N)(x:AV):Option AV:=
 if m=N.join then Sp h s x else if m=N.split then Sq s x else if m=N.lstrip then Oo (fun c=> Cd c s) x else if m=N.rstrip then Oo (fun c=> E6 c s) x
 else if m=N.strip then Oo (fun c=> E6 c (Cd c s)) x else none
def Bv(h:Hp)(o:AV)(m:N)(as:List AV):Option (AV×Hp):=match o with
 | .str s=> (one as).bind fun x=> (Sr h s m x).map fun v=> (v,h)
 | .ref r=> (C9 (h.f r)).bind fun xs=> (KY h xs m as).map fun p=> (p.1,h.set r (.lst p.2))
 |_=> none
def Oq:List Nat:=[102,111,117,110,100,32,99,104,97,114,97,99,116,101,114,32,37,114,32,116,104,97,116,32,99,97,110,110,111,116,32,115,116,97,114,116,32,97,110,121,32,116,111,107,101,110]
def Ot(a b:AV):Option AV:=(Bl a).bind fun f=> (Bl b).bind fun s=> (one s).bind fun c=>
 if f=Oq/\(c=37∨c=64∨c=96∨c=9)then some .Gm else none
def Ss:List Int->Option Int
 | []=> none
 | [a]=> some a
 |a::r=> (Ss r).map fun b=> if b<a then b else a
def lenOf(h:Hp):AV->Option AV
 | .str s=> some (.int s.length)
 | .tup xs=> some (.int xs.length)
 | .Ae xs=> some (.int xs.length)
 | .ref r=> (C9 (h.f r)).map fun xs=>.int xs.length
 |_=> none
def keysOf(h:Hp)(a:AV):Option (List AV):=(FU a).bind fun i=> (KS (h.f i)).bind fun es=> if Df (.int 0) es=true then some (es.map (·.1))else none
def GC(h:Hp)(b:BI)(as:List AV):Option AV:=(one as).bind fun a=> match b with
 | .len=> lenOf h a
 | .sum=> (JJ a).bind fun xs=> (KV xs).map fun l=>.int l.sum
 | .min=> ((Ei h a).bind KV).bind fun l=> (Ss l).map .int
 | .int=> (Bl a).bind fun s=> (one s).bind fun c=> if 48<=c/\c<=57 then some (.int ((c:Int) - 48))else none
 | .list=> (keysOf h a).map .Ae
def Ej(a b c:Int):Nat:=(if c>0 then(if a<b then(b - a - 1) / c+1 else 0)else(if a>b then(a - b - 1) / (-c)+1 else 0)).toNat
def Ek(a b c:Int):List Int:=(List.range (Ej a b c)).map fun(k:Nat)=> a+(k:Int) * c
def B6(i:Int):Bool:=decide (i.natAbs<=lim)
def Z3:List Int->Option (List AV)
 | [b]=> if B6 b=true then some ((Ek 0 b 1).map .int)else none
 | [a,b]=> if(B6 a&&B6 b)=true then some ((Ek a b 1).map .int)else none
 | [a,b,c]=> if(B6 a&&B6 b&&B6 c&&c !=0)=true then some ((Ek a b c).map .int)else none
 |_=> none
def HV(vs:List AV):Option (List AV):=(KV vs).bind Z3
def ER:List N->List AV->List (N×AV)->Option (List (N×AV))
 | [],[],_=> some []
 | [],_::_,_=> none
 |p::ps,v::vs,ds=> (ER ps vs ds).map ((p,v)::·)
 |p::ps,[],ds=> (look p ds).bind fun v=> (ER ps [] ds).map ((p,v)::·)
def JL(ps:List N)(as:List AV):List (N×AV)->Option (List AV)
 | []=> some as
 | [(n,v)]=> if ps[as.length]? =some n then some (as++[v])else none
 |_=> none
def KZ(P:Prog)(v:AV)(c:Nat):Option Bool:=match v with
 | .obj d _=> if P.Cb.contains c=true then(P.cls d).bind fun cl=> if cl.exc=true then none else some (cl.mro.contains c)else none
 |_=> none
def HW(P:Prog)(v:AV)(c:Nat):Bool:=match v with
 | .obj d _=> (P.cls d).any fun cl=> cl.exc&&cl.mro.contains c
 |_=> false
def FV(fn:Fn)(as:List AV)(ks:List (N×AV)):Option (List (N×AV)):=
 (JL fn.ps as ks).bind fun as=> if fn.ps.length<=as.length+fn.BH.length then ER fn.ps as fn.BH else none
def E8(binds:List (N×AV)):List (N×N)->Option (List (N×AV))
 | []=> some []
 |(f,p)::r=> (look p binds).bind fun v=> (E8 binds r).map ((f,v)::·)
def JM(P:Prog)(cl:Cl)(self:AV)(as:List AV)(ks:List (N×AV)):Option (List (N×AV)):=match cl.init with
 | .BY fi fs=> (P.fns fi).bind fun fn=> (FV fn (self::as) ks).bind fun b=> E8 b fs
 | .run _=> none
def excOf(P:Prog)(c:Nat)(self:AV)(as:List AV):Option (List (N×AV)):=(P.cls c).bind fun cl=> if cl.exc=true then JM P cl self as []else none
def Dt(fs:List (N×N)):List CS:=fs.map fun p=>.asg (.AF (.var .self) p.1) (.var p.2)
def freshen(yr:Bool)(v:AV)(s:St):Out AV:=match yr with
 |true=> (match JJ v with
  |some xs=>.ok (.ref s.hp.n) ⟨s.loc,s.hp.add (.lst xs)⟩
  |none=>.ok v s)
 |false=>.ok v s
def Ou(c:Nat)(s:St):Option AV:=(look N.self s.loc).bind fun o=> (FU o).bind fun i=> (KU (s.hp.f i)).bind fun p=> if p.1=c then some (.ref i)else none
section
variable(P:Prog)(cf:Nat->List AV->List (N×AV)->Hp->COut)
def endRun(n:Nat):COut->COut
 | .ok v h=> if isNone v=true then .ok (.ref n) h else .bad
 | .exc e h=>.exc e h
 | .bad=>.bad
def GD{α:Type}(o:Option α)(k:α->COut):COut:=match o with
 |some a=> k a
 |none=>.bad
def ME(cl:Cl)(c:Nat)(as:List AV)(ks:List (N×AV))(h:Hp):COut:=match cl.exc,cl.init with
 |true,_=>.bad
 |false,.BY _ _=> GD (JM P cl (.ref h.n) as ks) fun r=>.ok (.obj c r) h
 |false,.run i=> endRun h.nI (cf i (.ref h.nI::as) ks (h.JI (.ins c [])))
def GF(f:AV)(as:List AV)(ks:List (N×AV))(h:Hp):COut:=match f with
 | .fn a=> cf a as ks h
 | .cls c=> GD (P.cls c) fun cl=> ME P cf cl c as ks h
 |_=>.bad
def HX(m:N):Bool:=[N.append,N.extend,N.pop,N.insert].contains m
def Ov(m:N):Bool:=[N.join,N.split,N.lstrip,N.rstrip,N.strip].contains m
def Ka(m:N)(c:Nat)(fs:List (N×AV)):Option (Option Nat):=match look m fs with
 |some _=> none
 |none=> match(P.cls c).bind (fun cl=> look m cl.attrs)with
  |some (.Aj f)=> some (some f)
  |_=> none
def MF(m:N):AObj->Option (Option Nat)
 | .ins c fs=> Ka P m c fs
 | .lst _=> if HX m=true then some none else none
 | .A4 _=> none
def GG(h:Hp)(o:AV)(m:N):Option (Option Nat):=match o with
 | .ref r=> MF P m (h.f r)
 | .str _=> if Ov m=true then some none else none
 |_=> none
def Gq(k:Option Nat)(o:AV)(m:N)(as:List AV)(h:Hp):COut:=match k with
 |some f=> cf f (o::as) [] h
 |none=> GD (Bv h o m as) fun p=>.ok p.1 p.2
def MG(h:Hp)(o:AV)(m:N):Option Nat:=(GG P h o m).bind id
def Cf(o:Out AV):Out Bool:=o.bind fun v s=> AR (truthy s.hp v) fun b=>.ok b s
mutual
noncomputable def Ai:CE->St->Out AV
 | .cst v,s=>.ok v s
 | .var x,s=> AR (look x s.loc) fun v=>.ok v s
 | .AF e a,s=> (Ai e s).bind fun o s=> AR (GB P s.hp o a) fun v=>.ok v s
 | .app f as,s=> (Ai f s).bind fun fv s=> (Cg as s).bind fun vs s=>
     (GF P cf fv vs [] s.hp).bind s.loc fun v s=>.ok v s
 | .F7 f as n k,s=> (Ai f s).bind fun fv s=> (Cg as s).bind fun vs s=> (Ai k s).bind fun kv s=>
     (GF P cf fv vs [(n,kv)] s.hp).bind s.loc fun v s=>.ok v s
 | .AH e a as,s=> (Ai e s).bind fun o s=> AR (GG P s.hp o a) fun k=> (Cg as s).bind fun vs s=>
     (Gq cf k o a vs s.hp).bind s.loc fun v s=>.ok v s
 | .F8 e a as n x,s=> (Ai e s).bind fun o s=> AR (MG P s.hp o a) fun k=> (Cg as s).bind fun vs s=> (Ai x s).bind fun kv s=>
     (cf k (o::vs) [(n,kv)] s.hp).bind s.loc fun v s=>.ok v s
 | .sup f c as,s=> AR (Ou c s) fun o=> (Cg as s).bind fun vs s=> (cf f (o::vs) [] s.hp).bind s.loc fun v s=>.ok v s
 | .bi b as,s=> (Cg as s).bind fun vs s=> AR (GC s.hp b vs) fun v=>.ok v s
 | .Cb e c,s=> (Ai e s).bind fun v s=> AR (KZ P v c) fun b=>.ok (.bool b) s
 | .isStr e,s=> (Ai e s).bind fun v s=> AR (Bl v) fun _=>.ok (.bool true) s
 | .bin op l r,s=> (Ai l s).bind fun a s=> (Ai r s).bind fun b s=> AR (binOp s.hp op a b) fun v=>.ok v s
 | .fmt l r,s=> (Ai l s).bind fun a s=> (Ai r s).bind fun b s=> AR (Ot a b) fun v=>.ok v s
 | .neg e,s=> (Ai e s).bind fun v s=> AR (Bb v) fun i=>.ok (.int (-i)) s
 | .nt e,s=> (Ai e s).bind fun v s=> AR (truthy s.hp v) fun b=>.ok (.bool (!b)) s
 | .Aw es,s=> MH es s
 | .Bk es,s=> MI es s
 | .cmp l rs,s=> (Ai l s).bind fun a s=> (Kb a rs s).bind fun b s=>.ok (.bool b) s
 | .ite t b o,s=> (A8 t s).bind fun c s=> if c=true then Ai b s else Ai o s
 | .tup es,s=> (Cg es s).bind fun vs s=>.ok (.tup vs) s
 | .lst yr es,s=> (Cg es s).bind fun vs s=>
     if yr=true then .ok (.ref s.hp.n) ⟨s.loc,s.hp.add (.lst vs)⟩else .ok (.Ae vs) s
 | .A4 ks,s=> (MJ ks ⟨s.loc,s.hp.add (.A4 [])⟩).bind fun es t=> AR (KX t.hp s.hp.n es) fun h=>.ok (.ref s.hp.n) ⟨t.loc,h⟩
 | .sub e i,s=> (Ai e s).bind fun o s=> (Ai i s).bind fun k s=> AR (CP s.hp o k) fun v=>.ok v s
 | .Bu yr e lo hi,s=> (Ai e s).bind fun o s=> (ML lo s).bind fun l s=> (ML hi s).bind fun u s=>
     AR (GA s.hp o l u) fun v=> freshen yr v s
 | .Al,_=>.bad
noncomputable def Cg:List CE->St->Out (List AV)
 | [],s=>.ok [] s
 |e::r,s=> (Ai e s).bind fun v s=> (Cg r s).bind fun vs s=>.ok (v::vs) s
noncomputable def MJ:List (AV×CE)->St->Out (List (AV×AV))
 | [],s=>.ok [] s
 |(n,e)::r,s=> (Ai e s).bind fun v s=> (MJ r s).bind fun vs s=>.ok ((n,v)::vs) s
noncomputable def ML:Option CE->St->Out AV
 |none,s=>.ok .none s
 |some e,s=> Ai e s
noncomputable def MH:List CE->St->Out AV
 | [],_=>.bad
 | [e],s=> Ai e s
 |e::e'::r,s=> (Ai e s).bind fun v s=> AR (truthy s.hp v) fun b=> if b=true then MH (e'::r) s else .ok v s
noncomputable def MI:List CE->St->Out AV
 | [],_=>.bad
 | [e],s=> Ai e s
 |e::e'::r,s=> (Ai e s).bind fun v s=> AR (truthy s.hp v) fun b=> if b=true then .ok v s else MI (e'::r) s
noncomputable def Kb(a:AV):List (COp×CE)->St->Out Bool
 | [],_=>.bad
 | [(op,e)],s=> (Ai e s).bind fun b s=> AR (BZ s.hp op a b) fun c=>.ok c s
 |(op,e)::x::r,s=> (Ai e s).bind fun b s=> AR (BZ s.hp op a b) fun c=> if c=true then Kb b (x::r) s else .ok false s
noncomputable def A8:CE->St->Out Bool
 | .nt e,s=> (A8 e s).bind fun b s=>.ok (!b) s
 | .Aw es,s=> MM es s
 | .Bk es,s=> MN es s
 | .ite t b o,s=> (A8 t s).bind fun c s=> if c=true then A8 b s else A8 o s
 | .cmp l rs,s=> (Ai l s).bind fun a s=> Kb a rs s
 | .cst v,s=> Cf (.ok v s)
 | .var x,s=> Cf (AR (look x s.loc) fun v=>.ok v s)
 | .AF e a,s=> Cf ((Ai e s).bind fun o s=> AR (GB P s.hp o a) fun v=>.ok v s)
 | .AH e a as,s=> Cf ((Ai e s).bind fun o s=> AR (GG P s.hp o a) fun k=> (Cg as s).bind fun vs s=> (Gq cf k o a vs s.hp).bind s.loc fun v s=>.ok v s)
 | .app f as,s=> Cf ((Ai f s).bind fun fv s=> (Cg as s).bind fun vs s=> (GF P cf fv vs [] s.hp).bind s.loc fun v s=>.ok v s)
 | .Cb e c,s=> Cf ((Ai e s).bind fun v s=> AR (KZ P v c) fun b=>.ok (.bool b) s)
 | .isStr e,s=> Cf ((Ai e s).bind fun v s=> AR (Bl v) fun _=>.ok (.bool true) s)
 | .sub e i,s=> Cf ((Ai e s).bind fun o s=> (Ai i s).bind fun k s=> AR (CP s.hp o k) fun v=>.ok v s)
 |_,_=>.bad
noncomputable def MM:List CE->St->Out Bool
 | [],s=>.ok true s
 |e::r,s=> (A8 e s).bind fun b s=> if b=true then MM r s else .ok false s
noncomputable def MN:List CE->St->Out Bool
 | [],s=>.ok false s
 |e::r,s=> (A8 e s).bind fun b s=> if b=true then .ok true s else MN r s
end
end
def Z4(h:Hp)(b:AV):AV->Option (AV×Hp)
 | .int x=> (Bb b).map fun y=> (.int (x+y),h)
 | .str x=> (Bl b).bind fun y=> (ck (x.length+y.length) (.str (x++y))).map fun v=> (v,h)
 | .ref r=> (C9 (h.f r)).bind fun xs=> (Ei h b).bind fun ys=> ck (xs.length+ys.length) (.ref r,h.set r (.lst (xs++ys)))
 |_=> none
def Du(h:Hp)(op:BOp)(a b:AV):Option (AV×Hp):=match op with
 | .add=> Z4 h b a
 | .sub=> (Bb a).bind fun x=> (Bb b).map fun y=> (.int (x - y),h)
 |_=> none
def putAll:List N->List AV->List (N×AV)->Option (List (N×AV))
 | [],[],l=> some l
 |x::xs,v::vs,l=> putAll xs vs (put x v l)
 |_,_,_=> none
def ES(x:N):List (N×AV)->List (N×AV)
 | []=>[]
 |(y,v)::r=> if y=x then ES x r else(y,v)::ES x r
theorem Z5{x y:N}{v:AV}{r:List (N×AV)}:ES x ((y,v)::r)=if y=x then ES x r else(y,v)::ES x r:=rfl
section
def B0(test:St->Out Bool)(body:St->Out Flow):Nat->St->Out Flow
 |0,_=>.bad
 |n+1,s=> (test s).bind fun b s=> if b=true then
   (body s).bind fun f s=> match f with
     | .next=> B0 test body n s
     | .cont=> B0 test body n s
     | .brk=>.ok .next s
     | .ret v=>.ok (.ret v) s
  else .ok .next s
def B1(asg:AV->St->Out Unit)(body:St->Out Flow):List AV->St->Out Flow
 | [],s=>.ok .next s
 |v::r,s=> (asg v s).bind fun _ s=> (body s).bind fun f s=> match f with
    | .next=> B1 asg body r s
    | .cont=> B1 asg body r s
    | .brk=>.ok .next s
    | .ret v=>.ok (.ret v) s
variable(P:Prog)(fu:Nat)(cf:Nat->List AV->List (N×AV)->Hp->COut)
def DA(t:CT)(v:AV)(s:St):Out Unit:=match t with
 | .name x=>.ok () ⟨put x v s.loc,s.hp⟩
 | .AF e a=> (Ai P cf e s).bind fun o s=> AR (setAt P s.hp o a v) fun h=>.ok () ⟨s.loc,h⟩
 | .sub e i=> (Ai P cf e s).bind fun o s=> (Ai P cf i s).bind fun k s=> AR (IK s.hp o k v) fun h=>.ok () ⟨s.loc,h⟩
 | .tup xs=> AR (E7 v) fun vs=> AR (putAll xs vs s.loc) fun l=>.ok () ⟨l,s.hp⟩
def Su(t:CT)(op:BOp)(e:CE)(s:St):Out Flow:=match t with
 | .name x=> AR (look x s.loc) fun old=> (Ai P cf e s).bind fun v s=> AR (Du s.hp op old v) fun r=>.ok .next ⟨put x r.1 s.loc,r.2⟩
 | .AF o a=> (Ai P cf o s).bind fun ov s=> AR (GB P s.hp ov a) fun old=> (Ai P cf e s).bind fun v s=>
     AR (Du s.hp op old v) fun r=> AR (setAt P r.2 ov a r.1) fun h=>.ok .next ⟨s.loc,h⟩
 | .sub o i=> (Ai P cf o s).bind fun ov s=> (Ai P cf i s).bind fun k s=> AR (CP s.hp ov k) fun old=> (Ai P cf e s).bind fun v s=>
     AR (Du s.hp op old v) fun r=> AR (IK r.2 ov k r.1) fun h=>.ok .next ⟨s.loc,h⟩
 | .tup _=>.bad
def Ow:AV->Option (List AV)
 | .tup xs=> some xs
 | .Ae xs=> some xs
 | .str s=> some (s.map fun c=>.str [c])
 |_=> none
def FW(t:List Nat):List AV:=(t.zipIdx 0).map fun p=>.tup [.int p.2,.str [p.1]]
def FX(src:CSrc)(s:St):Out (List AV):=match src with
 | .it e=> (Ai P cf e s).bind fun v s=> AR (Ow v) fun xs=>.ok xs s
 | .keys e=> (Ai P cf e s).bind fun v s=> AR (keysOf s.hp v) fun xs=>.ok xs s
 | .E5 as=> (Cg P cf as s).bind fun vs s=> AR (HV vs) fun xs=>.ok xs s
 | .enum e=> (Ai P cf e s).bind fun v s=> AR (Bl v) fun t=>.ok (FW t) s
mutual
noncomputable def Az:CS->St->Out Flow
 | .expr e,s=> (Ai P cf e s).bind fun _ s=>.ok .next s
 | .asg t e,s=> (Ai P cf e s).bind fun v s=> (DA P cf t v s).bind fun _ s=>.ok .next s
 | .aug t op e,s=> Su P cf t op e s
 | .ret none,s=>.ok (.ret .none) s
 | .ret (some e),s=> (Ai P cf e s).bind fun v s=>.ok (.ret v) s
 | .ifs t b o,s=> (A8 P cf t s).bind fun c s=> if c=true then AN b s else AN o s
 | .BQ t b,s=> B0 (fun s=> A8 P cf t s) (fun s=> AN b s) fu s
 | .Cc t src b,s=> (FX P cf src s).bind fun xs s=> B1 (fun v s=> DA P cf t v s) (fun s=> AN b s) xs s
 | .EM c as,s=> (Cg P cf as s).bind fun vs s=> AR (excOf P c (.ref s.hp.n) vs) fun r=>.exc (.obj c r) s
 | .F9 b c x h,s=> match AN b s with
   | .ok f s=>.ok f s
   | .exc e s=> if HW P e c=true then(AN h ⟨put x e s.loc,s.hp⟩).bind fun f s=>.ok f ⟨ES x s.loc,s.hp⟩else .bad
   | .bad=>.bad
 | .IG b,s=> match AN b s with
   | .ok f s=>.ok f s
   |_=>.bad
 | .del e i,s=> (Ai P cf e s).bind fun o s=> (Ai P cf i s).bind fun k s=> AR (MC s.hp o k) fun h=>.ok .next ⟨s.loc,h⟩
 | .Al,_=>.bad
 | .pass,s=>.ok .next s
 | .brk,s=>.ok .brk s
 | .cont,s=>.ok .cont s
noncomputable def AN:List CS->St->Out Flow
 | [],s=>.ok .next s
 |c::r,s=> (Az c s).bind fun f s=> match f with
  | .next=> AN r s
  | .brk=>.ok .brk s
  | .cont=>.ok .cont s
  | .ret v=>.ok (.ret v) s
end
end
def Gr:Out Flow->COut
 | .ok (.ret v) s=>.ok v s.hp
 | .ok _ s=>.ok .none s.hp
 | .exc e s=>.exc e s.hp
 | .bad=>.bad
def AD(P:Prog)(fu:Nat):Nat->Nat->List AV->List (N×AV)->Hp->COut
 |0,_,_,_,_=>.bad
 |d+1,f,as,ks,h=> GD (P.fns f) fun fn=> GD (FV fn as ks) fun loc=> Gr (AN P fu (AD P fu d) fn.body ⟨loc,h⟩)
def DB{α:Type}:List (Nat×α)->Nat->Option α
 | [],_=> none
 |p::r,a=> match ua p.1 a with
  |true=> some p.2
  |false=> DB r a
def progOf(Dv:List (Nat×Fn))(Aq:List (Nat×Cl))(Bm:List Nat):Prog:=⟨DB Dv,DB Aq,Bm⟩
end
section
open PySem
def HY:Nat->Nat->List Nat
 |0,_=>[]
 |f+1,n=> if n=0 then []else(n % 256)::HY f (n / 256)
def Ox:List Nat->Nat
 | []=> 0
 |c::r=> c+256 * Ox r
theorem Z6{f n:Nat}:HY (f+1) n=if n=0 then []else(n % 256)::HY f (n / 256):=rfl
theorem Oy:∀(f n:Nat),n<=f->Ox (HY f n)=n
 |0=>@fun n h=> by cases Nat.le_zero.mp h;rfl
 |f+1=>@fun n h=> by
  rw [Z6];by_cases z:n=0
  . rw [if_pos z,z];rfl
  . rw [if_neg z];show n % 256+256 * Ox (HY f (n / 256))=n;rw [Oy f (n / 256) (by lia)];exact Nat.mod_add_div ..
def Kc(x:N):List Nat:=(HY x x).reverse
def nm(x:N):tq:=⟨(Kc x).toArray⟩
theorem JN{x y:N}(h:nm x=nm y):x=y:=by
 have h1:Kc x=Kc y:=congrArg (fun s:tq=> s.cps.toList) h;have h2:HY x x=HY y y:=by have:=congrArg List.reverse h1;simpa [Kc]using this
 rw [<-Oy x x (uW _),<-Oy y y (uW _),h2]
theorem Sv(x:AObj):∀(l:List AObj) (k:Nat),(DI l k x).length=l.length
 | [],_=> rfl
 |_::_,0=> rfl
 |_::r,k+1=> congrArg (· +1) (Sv x r k)
theorem Oz(x:AObj):∀(l:List AObj) (k j:Nat),k<l.length->Cv (DI l k x) j=if j=k then x else Cv l j
 |o::r,0,j,_=> by cases j<;>rfl
 |o::r,k+1,0,_=> rfl
 |o::r,k+1,j+1,h=> by
  show Cv (DI r k x) j=if j+1=k+1 then x else Cv r j
  rw [Oz x r k j (Nat.lt_of_succ_lt_succ h)];simp only [yf]
theorem Gs(x:AObj):∀(l:List AObj) (j:Nat),Cv (l++[x]) j=if j=l.length then x else Cv l j
 | [],0=> rfl
 | [],j+1=> rfl
 |o::r,0=> rfl
 |o::r,j+1=> by
  show Cv (r++[x]) j=if j+1=r.length+1 then x else Cv r j
  rw [Gs x r j];simp only [yf]
theorem Sw(a b:AObj):∀(l:List AObj) (k:Nat),DI (DI l k a) k b=DI l k b
 | [],_=> rfl
 |_::_,0=> rfl
 |o::r,k+1=> congrArg (o::·) (Sw a b r k)
theorem Sx:∀(l:List AObj) (k:Nat),DI l k (Cv l k)=l
 | [],_=> rfl
 |_::_,0=> rfl
 |o::r,k+1=> congrArg (o::·) (Sx r k)
theorem Hp.Ke(h:Hp)(i:Nat)(x:AObj):(h.set i x).lv=h.lv:=by
 funext j
 unfold Hp.lv Hp.set;cases i % 2<;>cases j % 2<;>simp only [Hp.JH,Hp.row,Sv]
theorem Sy{i j:Nat}(h:j % 2=i % 2):(j / 2=i / 2)=(j=i):=propext ⟨fun e=> by lia,fun e=> by rw [e]⟩
theorem Hp.MP{h:Hp}{i:Nat}(x:AObj)(l:h.lv i)(j:Nat):(h.set i x).f j=if j=i then x else h.f j:=by
 have pi:i % 2=0∨i % 2=1:=by exact v7 _
 have pj:j % 2=0∨j % 2=1:=by exact v7 _
 unfold Hp.lv at l;unfold Hp.f Hp.set;rcases pi with pi |pi<;>rcases pj with pj |pj<;>rw [pi]at l⊢<;>rw [pj]
 . show Cv (DI h.lo (i / 2) x) (j / 2)=_;rw [Oz x h.lo _ _ l];simp only [Sy (pj.trans pi.symm)];rfl
 . rw [if_neg (fun e=> by rw [e]at pj;lia)];rfl
 . rw [if_neg (fun e=> by rw [e]at pj;lia)];rfl
 . show Cv (DI h.hi (i / 2) x) (j / 2)=_;rw [Oz x h.hi _ _ l];simp only [Sy (pj.trans pi.symm)];rfl
theorem Hp.set_set(h:Hp)(i:Nat)(a b:AObj):(h.set i a).set i b=h.set i b:=by unfold Hp.set;cases i % 2<;>simp only [Hp.JH,Sw]
theorem Hp.Z7{h:Hp}{i:Nat}{o:AObj}(e:h.f i=o):h.set i o=h:=by subst e;unfold Hp.set Hp.f;cases i % 2<;>simp only [Hp.JH,Hp.row,Sx]
structure Hp.ET(h h':Hp)(k:Nat)(x:AObj):Prop where
 nl:¬h.lv k
 lv:h'.lv=fun j=> h.lv j∨j=k
 f:∀j,h'.f j=if j=k then x else h.f j
theorem Hp.ET.at{h h':Hp}{k:Nat}{x:AObj}(g:h.ET h' k x):h'.f k=x:=(g.f k).trans (if_pos rfl)
theorem Hp.ET.old{h h':Hp}{k j:Nat}{x:AObj}(g:h.ET h' k x)(l:h.lv j):h'.f j=h.f j:=(g.f j).trans (if_neg fun(e:j=k)=> g.nl (e▸l))
theorem Hp.ET.O0{h h':Hp}{k:Nat}{x:AObj}(g:h.ET h' k x):h'.lv k:=by rw [g.lv];exact .inr rfl
theorem Z8(lo hi:List AObj)(x:AObj):Hp.ET ⟨lo,hi⟩ ⟨lo++[x],hi⟩ (2 * lo.length) x:=by
 have e1:2 * lo.length % 2=0:=by exact Od _
 have e2:2 * lo.length / 2=lo.length:=by exact Oe _
 refine⟨fun l=> ?_,?_,fun j=> ?_⟩
 . unfold Hp.lv at l;rw [e1,e2]at l;exact Nat.lt_irrefl _ l
 . funext j
   unfold Hp.lv;have pj:j % 2=0∨j % 2=1:=by exact v7 _
   rcases pj with pj |pj<;>rw [pj]
   . show(j / 2<(lo++[x]).length)=(j / 2<lo.length∨_);rw [t9];exact propext ⟨fun e=> by have:j / 2<lo.length+1:=e;lia,fun e=> by show j / 2<lo.length+1;lia⟩
   . exact propext ⟨.inl,fun e=> e.elim id fun e=> by lia⟩
 . unfold Hp.f;have pj:j % 2=0∨j % 2=1:=by exact v7 _
   rcases pj with pj |pj<;>rw [pj]
   . show Cv (lo++[x]) (j / 2)=_;rw [Gs];by_cases q:j / 2=lo.length
     . rw [if_pos q,if_pos (by lia)]
     . rw [if_neg q,if_neg (by lia)];rfl
   . rw [if_neg (by lia)];rfl
theorem Sz(lo hi:List AObj)(x:AObj):Hp.ET ⟨lo,hi⟩ ⟨lo,hi++[x]⟩ (2 * hi.length+1) x:=by
 have e1:(2 * hi.length+1) % 2=1:=by exact Ob _
 have e2:(2 * hi.length+1) / 2=hi.length:=by exact Oc _
 refine⟨fun l=> ?_,?_,fun j=> ?_⟩
 . unfold Hp.lv at l;rw [e1,e2]at l;exact Nat.lt_irrefl _ l
 . funext j
   unfold Hp.lv;have pj:j % 2=0∨j % 2=1:=by exact v7 _
   rcases pj with pj |pj<;>rw [pj]
   . exact propext ⟨.inl,fun e=> e.elim id fun e=> by lia⟩
   . show(j / 2<(hi++[x]).length)=(j / 2<hi.length∨_);rw [t9];exact propext ⟨fun e=> by have:j / 2<hi.length+1:=e;lia,fun e=> by show j / 2<hi.length+1;lia⟩
 . unfold Hp.f;have pj:j % 2=0∨j % 2=1:=by exact v7 _
   rcases pj with pj |pj<;>rw [pj]
   . rw [if_neg (by lia)];rfl
   . show Cv (hi++[x]) (j / 2)=_;rw [Gs];by_cases q:j / 2=hi.length
     . rw [if_pos q,if_pos (by lia)]
     . rw [if_neg q,if_neg (by lia)];rfl
theorem Hp.Z9(h:Hp)(x:AObj):h.ET (h.JI x) h.nI x:=Sz h.lo h.hi x
theorem Hp.MQ(h:Hp)(x:AObj):h.ET (h.add x) h.n x:=by
 obtain⟨lo,hi⟩:=h;cases hi with
 |nil=> exact Z8 lo [] x
 |cons o r=> exact Sz lo (o::r) x
end
section
def AJ(s:List Nat):tq:=⟨s.toArray⟩
def HZ:COp->CmpOp
 | .eq=>.Eq | .ne=>.NotEq | .lt=>.Lt | .le=>.LtE | .gt=>.Gt | .ge=>.GtE | .Be=>.In | .De=>.NotIn | .IF=>.Is | .L9=>.IsNot
def Gu:BOp->Operator
 | .add=>.Add | .sub=>.Sub | .mul=>.Mult | .div=>.FloorDiv | .mod=>.Mod
def noStar:Expr->Bool
 | .Starred _ _=> false
 |_=> true
def IL:Expr->Bool
 | .Slice .. => false
 |_=> true
def FY:Expr->Bool
 | .ListComp .. => false
 | .SetComp .. => false
 | .DictComp .. => false
 |_=> true
def El:Expr->Bool
 | .Name .. => true
 | .Attribute .. => true
 | .Subscript .. => true
 |_=> false
def Kf:Expr->Bool
 | .Set .. => false
 |_=> true
def GH(ps:List (N×Pos)):List Expr:=ps.map fun p=>.Name (nm p.1) p.2
def O1(v:Expr):Bool:=match v with
 | .Tuple vs _ _=> vs.all (foldedForSure 8)
 |_=> true
def JO(ts:List Expr)(v:Expr):Bool:=match v with
 | .Tuple vs _ _=> ua vs.length 2&&vs.all noStar&& !(vs.all (foldedForSure 8))&& !(vs.all (constantsAlone 8))&&(match ts with
   | [.Name x p,.Name y q]=> q.line==p.line&& !(x==y)
   |_=> false)
 |_=> false
def allB:List Bool->Bool
 | []=> true
 |b::r=> b&&allB r
def excIn(K:Frag)(C:Addr):Bool:=match K.lookup C with
 |some ⟨_,_,.cls cd,sl⟩=> allB [(sl.toList[4]?).join==some (.builtin "Exception.__new__"),!cd.mro.isEmpty,!cd.hasDel,cd.mro.contains (.ref C),cd.mro.contains (.type "Exception"),!cd.mro.contains (.type "AttributeError"),!cd.mro.contains (.type "NameError"),
   specialIn K (.ref C) "__call__"==some (some (.builtin "type.__call__")),instIn K (.ref C) (.type "type")==some true]
 |_=> false
def JP:List R5->Bool
 | []=> false
 |a::r=> match a with
  | .ref _=> JP r
  |_=> (a::r)==[.type "Exception",.type "BaseException",.type "object"]
def IM(K:Frag)(C:Addr):Bool:=(clsIn K C).any fun cd=> JP cd.mro
def C3:List Nat->List Nat->Bool
 | [],b=> b.isEmpty
 |a::r,b=> match b with
  | []=> false
  |c::t=> ua a c&&C3 r t
def isNm(x:tq)(n:N):Bool:=C3 x.cps.toList (Kc n)
def JQ:List (tq×v5)->List Nat->Option v5
 | [],_=> none
 |p::r,l=> match C3 p.1.cps.toList l with
  |true=> some p.2
  |false=> JQ r l
def MR:List Nat:=[95,95,100,101,98,117,103,95,95]
def O2(l:List Nat):Bool:=uJ l.length lim&&l.all fun c=> Nat.blt c 1114112
def Ha{α:Type}(b:Bool)(o:Option α):Option α:=match b with
 |true=> o
 |false=> none
def O3:Option v5->Bool
 |some .local=> true
 |_=> false
def S0:Option v5->Bool
 |some .globalImplicit=> true
 |_=> false
def O4(o:Expr):Bool:=match o with | .Call (.Name _ _) [] [] _=> false |_=> true
def O5(o:Option (Option R5))(a:Nat):Bool:=match o with
 |some (some (.ref b))=> ua b a
 |_=> false
def S1:Option (Option R5)->Bool
 |some none=> true
 |_=> false
def O6:List Nat:=[108,101,110]
def O7:List Nat:=[105,110,116]
def O8:List Nat:=[108,105,115,116]
def O9:List Nat:=[115,116,114]
def Kg:List Nat:=[105,115,105,110,115,116,97,110,99,101]
def PA:List Nat:=[114,97,110,103,101]
def PB:List Nat:=[101,110,117,109,101,114,97,116,101]
def Dw(sc:u3)(x:N):Bool:=O3 (JQ sc.names (nm x).cps.toList)&& !(C3 (nm x).cps.toList MR)
section
variable(sc:u3)(gl:tq->Option (Option R5))
def MS(l:List Nat):Bool:=S0 (JQ sc.names l)&& !(C3 l MR)
def GI(y:tq)(b:Nat):Bool:=MS sc y.cps.toList&&O5 (gl y) b
def Gv(l:List Nat):Bool:=MS sc l&&S1 (gl ⟨l.toArray⟩)
end
inductive PT where
 |nd (p:Pos) (k:Nat) (y:tq) (cs:List PT) (x:Expr)
def PT.p:PT->Pos
 | .nd p _ _ _ _=> p
def PT.k:PT->Nat
 | .nd _ k _ _ _=> k
def PT.y:PT->tq
 | .nd _ _ y _ _=> y
def PT.cs:PT->List PT
 | .nd _ _ _ cs _=> cs
def PT.x:PT->Expr
 | .nd _ _ _ _ x=> x
def MT:List PT->Nat->PT
 | [],_=>.nd ⟨0,0,0,0⟩ 0 uX [] (.Name uX ⟨0,0,0,0⟩)
 |t::_,0=> t
 |_::r,i+1=> MT r i
def PT.AO(t:PT)(i:Nat):PT:=MT t.cs i
def PT.JR:PT:=MT [] 0
def Bf:Nat->Expr->PT
 |0,e=>.nd ⟨0,0,0,0⟩ 0 uX [] e
 |n+1,e=> match e with
  | .Constant _ k p=>.nd p k uX [] e
  | .Name y p=>.nd p 0 y [] e
  | .Attribute o y p=>.nd p 0 y [Bf n o] e
  | .Call g as ks p=>.nd p 0 uX (Bf n g::(as.map (Bf n)++ks.map fun k=>.nd k.pos 0 uX [Bf n k.value] e)) e
  | .UnaryOp _ a p=>.nd p 0 uX [Bf n a] e
  | .BinOp l _ r p=>.nd p 0 uX [Bf n l,Bf n r] e
  | .BoolOp _ es p=>.nd p 0 uX (es.map (Bf n)) e
  | .Compare l _ es p=>.nd p 0 uX (Bf n l::es.map (Bf n)) e
  | .IfExp t b o p=>.nd p 0 uX [Bf n t,Bf n b,Bf n o] e
  | .Tuple es k p=>.nd p k uX (es.map (Bf n)) e
  | .List es p=>.nd p 0 uX (es.map (Bf n)) e
  | .Dict xs ys p=>.nd p 0 uX [.nd p 0 uX (xs.map fun o=> (o.map (Bf n)).getD .JR) e,.nd p 0 uX (ys.map (Bf n)) e] e
  | .Subscript c i p=>.nd p 0 uX [Bf n c,Bf n i] e
  | .Slice lo hi _ p=>.nd p 0 uX [(lo.map (Bf n)).getD .JR,(hi.map (Bf n)).getD .JR] e
  |_=>.nd ⟨0,0,0,0⟩ 0 uX [] e
def Kh(v:AV)(t:PT):Expr:=match v with
 | .none=>.Constant .none t.k t.p
 | .bool b=>.Constant (.bool b) t.k t.p
 | .int i=>.Constant (.int i) t.k t.p
 | .str s=>.Constant (.str (AJ s)) t.k t.p
 |_=>.Name t.y t.p
def PC(f:CE)(t:PT):tq:=match f with
 | .var x=> nm x
 |_=> t.y
def S2:BI->List Nat
 | .len=> O6
 | .int=> O7
 | .list=> O8
 |_=>[]
def MU:List (AV×CE)->PT->Nat->List (Option Expr)
 | [],_,_=>[]
 |p::r,t,i=> some (Kh p.1 (t.AO i))::MU r t (i+1)
abbrev IP(l:List Nat)(p:Pos):Expr:=.Name ⟨l.toArray⟩ p
mutual
noncomputable def Am:CE->PT->Expr
 | .cst v,t=> Kh v t
 | .var x,t=>.Name (nm x) t.p
 | .AF e a,t=>.Attribute (Am e (t.AO 0)) (nm a) t.p
 | .app f as,t=>.Call (.Name (PC f (t.AO 0)) (t.AO 0).p) (Bi as t 1) [] t.p
 | .F7 f as n k,t=>.Call (.Name (PC f (t.AO 0)) (t.AO 0).p) (Bi as t 1) [⟨some (nm n),Am k ((t.AO (as.length+1)).AO 0),(t.AO (as.length+1)).p⟩] t.p
 | .AH e a as,t=>.Call (.Attribute (Am e ((t.AO 0).AO 0)) (nm a) (t.AO 0).p) (Bi as t 1) [] t.p
 | .F8 e a as n k,t=>.Call (.Attribute (Am e ((t.AO 0).AO 0)) (nm a) (t.AO 0).p) (Bi as t 1) [⟨some (nm n),Am k ((t.AO (as.length+1)).AO 0),(t.AO (as.length+1)).p⟩] t.p
 | .sup _ _ _,t=>.Name t.y t.p
 | .bi b as,t=>.Call (IP (S2 b) (t.AO 0).p) (Bi as t 1) [] t.p
 | .Cb e _,t=>.Call (IP Kg (t.AO 0).p) [Am e (t.AO 1),.Name (t.AO 2).y (t.AO 2).p] [] t.p
 | .isStr e,t=>.Call (IP Kg (t.AO 0).p) [Am e (t.AO 1),IP O9 (t.AO 2).p] [] t.p
 | .bin op l r,t=>.BinOp (Am l (t.AO 0)) (Gu op) (Am r (t.AO 1)) t.p
 | .fmt l r,t=>.BinOp (Am l (t.AO 0)) .Mod (Am r (t.AO 1)) t.p
 | .neg e,t=>.UnaryOp .USub (Am e (t.AO 0)) t.p
 | .nt e,t=>.UnaryOp .Not (Am e (t.AO 0)) t.p
 | .Aw es,t=>.BoolOp .And (Bi es t 0) t.p
 | .Bk es,t=>.BoolOp .Or (Bi es t 0) t.p
 | .cmp l rs,t=>.Compare (Am l (t.AO 0)) (rs.map fun p=> HZ p.1) (MV rs t 1) t.p
 | .ite c b o,t=>.IfExp (Am c (t.AO 0)) (Am b (t.AO 1)) (Am o (t.AO 2)) t.p
 | .tup es,t=>.Tuple (Bi es t 0) t.k t.p
 | .lst _ es,t=>.List (Bi es t 0) t.p
 | .A4 ks,t=>.Dict (MU ks (t.AO 0) 0) (PD ks (t.AO 1) 0) t.p
 | .sub e i,t=>.Subscript (Am e (t.AO 0)) (Am i (t.AO 1)) t.p
 | .Bu _ e lo hi,t=>.Subscript (Am e (t.AO 0)) (.Slice (MW lo ((t.AO 1).AO 0)) (MW hi ((t.AO 1).AO 1)) none (t.AO 1).p) t.p
 | .Al,t=> t.x
noncomputable def Bi:List CE->PT->Nat->List Expr
 | [],_,_=>[]
 |c::r,t,i=> Am c (t.AO i)::Bi r t (i+1)
noncomputable def MV:List (COp×CE)->PT->Nat->List Expr
 | [],_,_=>[]
 |(_,c)::r,t,i=> Am c (t.AO i)::MV r t (i+1)
noncomputable def PD:List (AV×CE)->PT->Nat->List Expr
 | [],_,_=>[]
 |(_,c)::r,t,i=> Am c (t.AO i)::PD r t (i+1)
noncomputable def MW:Option CE->PT->Option Expr
 |none,_=> none
 |some c,t=> some (Am c t)
end
section
variable(sc:u3)(gl:tq->Option (Option R5))
def Hb(v:AV):Bool:=match v with
 | .none=> true
 | .bool _=> true
 | .int _=> true
 | .str s=> O2 s
 |_=> false
def PE(v:AV)(t:PT):Bool:=match v with
 | .cls b=> GI sc gl t.y b
 | .fn b=> GI sc gl t.y b
 |v=> Hb v
def PF(f:CE)(t:PT):Bool:=match f with
 | .var x=> Dw sc x
 | .cst (.fn b)=> GI sc gl t.y b
 | .cst (.cls b)=> GI sc gl t.y b
 | .Al=> true
 |_=> false
def S3:BI->Bool
 | .len=> Gv sc gl O6
 | .int=> Gv sc gl O7
 | .list=> Gv sc gl O8
 |_=> false
mutual
noncomputable def A1:CE->PT->Bool
 | .cst v,t=> PE sc gl v t
 | .var x,t=> Dw sc x
 | .AF e a,t=> A1 e (t.AO 0)&&O4 (Am e (t.AO 0))
 | .app f as,t=> Dg as t 1&&(PF sc gl f (t.AO 0)&&(Bi as t 1).all noStar)
 | .F7 f as n k,t=> Dg as t 1&&(A1 k ((t.AO (as.length+1)).AO 0)&&(PF sc gl f (t.AO 0)&&(Bi as t 1).all noStar))
 | .AH e a as,t=> Dg as t 1&&(A1 e ((t.AO 0).AO 0)&&(O4 (Am e ((t.AO 0).AO 0))&&(((t.AO 0).p.endLine==t.p.line)&&((Bi as t 1).all noStar&&uJ (Bi as t 1).length 27))))
 | .F8 e a as n k,t=> A1 k ((t.AO (as.length+1)).AO 0)&&(Dg as t 1&&(A1 e ((t.AO 0).AO 0)&&(O4 (Am e ((t.AO 0).AO 0))&&(((t.AO 0).p.endLine==t.p.line)&&((Bi as t 1).all noStar&&uJ (Bi as t 1).length 27)))))
 | .sup _ _ _,_=> false
 | .bi b as,t=> Dg as t 1&&(S3 sc gl b&&(Bi as t 1).all noStar)
 | .Cb e c,t=> A1 e (t.AO 1)&&(Gv sc gl Kg&&(noStar (Am e (t.AO 1))&&GI sc gl (t.AO 2).y c))
 | .isStr e,t=> A1 e (t.AO 1)&&(Gv sc gl Kg&&(noStar (Am e (t.AO 1))&&Gv sc gl O9))
 | .bin op l r,t=> A1 l (t.AO 0)&&A1 r (t.AO 1)
 | .fmt l r,t=> A1 l (t.AO 0)&&A1 r (t.AO 1)
 | .neg e,t=> A1 e (t.AO 0)
 | .nt e,t=> A1 e (t.AO 0)
 | .Aw es,t=> Dg es t 0
 | .Bk es,t=> Dg es t 0
 | .cmp l rs,t=> A1 l (t.AO 0)&&(PG rs t 1&&((!rs.isEmpty)&& !(lastMarks (rs.map fun p=> HZ p.1) (MV rs t 1))))
 | .ite c b o,t=> A1 c (t.AO 0)&&(A1 b (t.AO 1)&&A1 o (t.AO 2))
 | .tup es,t=> Dg es t 0&&((Bi es t 0).all noStar&&uJ es.length 1000)
 | .lst _ es,t=> Dg es t 0&&((Bi es t 0).all noStar&&uJ es.length 1000)
 | .A4 ks,t=> PH ks (t.AO 1) 0&&(uJ ks.length 15&&ks.all fun p=> Hb p.1)
 | .sub e i,t=> A1 e (t.AO 0)&&(A1 i (t.AO 1)&&IL (Am i (t.AO 1)))
 | .Bu _ e lo hi,t=> A1 e (t.AO 0)&&(MX lo ((t.AO 1).AO 0)&&MX hi ((t.AO 1).AO 1))
 | .Al,_=> true
noncomputable def Dg:List CE->PT->Nat->Bool
 | [],_,_=> true
 |c::r,t,i=> A1 c (t.AO i)&&Dg r t (i+1)
noncomputable def PG:List (COp×CE)->PT->Nat->Bool
 | [],_,_=> true
 |(_,c)::r,t,i=> A1 c (t.AO i)&&PG r t (i+1)
noncomputable def PH:List (AV×CE)->PT->Nat->Bool
 | [],_,_=> true
 |(_,c)::r,t,i=> A1 c (t.AO i)&&PH r t (i+1)
noncomputable def MX:Option CE->PT->Bool
 |none,_=> true
 |some c,t=> A1 c t
end
end
inductive PS where
 |nd (p:Pos) (es:List PT) (hs:List w7) (b o:List PS) (x:Stmt)
def PS.p:PS->Pos
 | .nd p _ _ _ _ _=> p
def PS.e(t:PS)(i:Nat):PT:=match t with
 | .nd _ es _ _ _ _=> MT es i
def PS.hs:PS->List w7
 | .nd _ _ hs _ _ _=> hs
def PS.b:PS->List PS
 | .nd _ _ _ b _ _=> b
def PS.o:PS->List PS
 | .nd _ _ _ _ o _=> o
def PS.x:PS->Stmt
 | .nd _ _ _ _ _ x=> x
def GJ:List PS->PS
 | []=>.nd ⟨0,0,0,0⟩ [] [] [] [] (.Pass ⟨0,0,0,0⟩)
 |t::_=> t
def PI(o:Option Expr):PT:=(o.map (Bf 60)).getD .JR
def IQ:Nat->Stmt->PS
 |0,s=>.nd ⟨0,0,0,0⟩ [] [] [] [] s
 |n+1,s=> match s with
  | .Expr e p=>.nd p [Bf 60 e] [] [] [] s
  | .Assign ts v p=>.nd p [(ts.map (Bf 60)).headD .JR,Bf 60 v] [] [] [] s
  | .AugAssign t _ v p=>.nd p [Bf 60 t,Bf 60 v] [] [] [] s
  | .Return o p=>.nd p [PI o] [] [] [] s
  | .If c b o p=>.nd p [Bf 60 c] [] (b.map (IQ n)) (o.map (IQ n)) s
  | .While c b _ p=>.nd p [Bf 60 c] [] (b.map (IQ n)) [] s
  | .For g e b _ p=>.nd p [Bf 60 g,Bf 60 e] [] (b.map (IQ n)) [] s
  | .Raise e _ p=>.nd p [PI e] [] [] [] s
  | .Try b hs _ _ p=>.nd p (hs.flatMap fun h=> match h with | .ExceptHandler ty _ _ q=>[PI ty,.nd q 0 uX [] (.Name uX q)]) hs (b.map (IQ n)) (hs.flatMap fun h=> match h with | .ExceptHandler _ _ su _=> su.map (IQ n)) s
  | .Delete ts p=>.nd p [(ts.map (Bf 60)).headD .JR] [] [] [] s
  | .Pass p=>.nd p [] [] [] [] s
  | .Break p=>.nd p [] [] [] [] s
  | .Continue p=>.nd p [] [] [] [] s
  |_=>.nd ⟨0,0,0,0⟩ [] [] [] [] s
def JS:List N->PT->Nat->List (N×Pos)
 | [],_,_=>[]
 |x::r,t,i=> (x,(t.AO i).p)::JS r t (i+1)
def toT(g:CT)(t:PT):Expr:=match g with
 | .name x=>.Name (nm x) t.p
 | .AF e a=>.Attribute (Am e (t.AO 0)) (nm a) t.p
 | .sub e i=>.Subscript (Am e (t.AO 0)) (Am i (t.AO 1)) t.p
 | .tup xs=>.Tuple (GH (JS xs t 0)) t.k t.p
def S4(src:CSrc)(t:PT):Expr:=match src with
 | .it e=> Am e t
 | .keys e=> Am e t
 | .E5 as=>.Call (IP PA (t.AO 0).p) (Bi as t 1) [] t.p
 | .enum e=>.Call (IP PB (t.AO 0).p) [Am e (t.AO 1)] [] t.p
mutual
noncomputable def toS:CS->PS->Stmt
 | .expr e,t=>.Expr (Am e (t.e 0)) t.p
 | .asg g e,t=>.Assign [toT g (t.e 0)] (Am e (t.e 1)) t.p
 | .aug g op e,t=>.AugAssign (toT g (t.e 0)) (Gu op) (Am e (t.e 1)) t.p
 | .ret o,t=>.Return (MW o (t.e 0)) t.p
 | .ifs c b o,t=>.If (Am c (t.e 0)) (C4 b t.b) (C4 o t.o) t.p
 | .BQ c b,t=>.While (Am c (t.e 0)) (C4 b t.b) [] t.p
 | .Cc g src b,t=>.For (toT g (t.e 0)) (S4 src (t.e 1)) (C4 b t.b) [] t.p
 | .EM c as,t=>.Raise (some (.Call (.Name ((t.e 0).AO 0).y ((t.e 0).AO 0).p) (Bi as (t.e 0) 1) [] (t.e 0).p)) none t.p
 | .F9 b c x h,t=>.Try (C4 b t.b) (.ExceptHandler (some (.Name (t.e 0).y (t.e 0).p)) (some (nm x)) (C4 h t.o) (t.e 1).p::t.hs.tail) [] [] t.p
 | .IG b,t=>.Try (C4 b t.b) t.hs [] [] t.p
 | .del e i,t=>.Delete [.Subscript (Am e ((t.e 0).AO 0)) (Am i ((t.e 0).AO 1)) (t.e 0).p] t.p
 | .pass,t=>.Pass t.p
 | .brk,t=>.Break t.p
 | .cont,t=>.Continue t.p
 | .Al,t=> t.x
noncomputable def C4:List CS->List PS->List Stmt
 | [],_=>[]
 |c::r,ts=> toS c (GJ ts)::C4 r ts.tail
end
def PJ(c:CE):Option (CE×COp×CE):=match c with
 | .cmp l rs=> (match rs with
   | [p]=> some (l,p.1,p.2)
   |_=> none)
 |_=> none
def S5(c:CE):Option (CE×CE):=match c with
 | .Bk es=> (match es with
   | [a,b]=> some (a,b)
   |_=> none)
 |_=> none
def S6(c:CE):Option N:=match c with
 | .var x=> some x
 |_=> none
def S7(c:CE):Option AV:=match c with
 | .cst x=> some x
 |_=> none
def S8(c:CE):Option (List CE):=match c with
 | .tup x=> some x
 |_=> none
def PK(c:CS):Option (CT×CE):=match c with
 | .asg g e=> some (g,e)
 |_=> none
def PM(c:CS):Option CE:=match c with
 | .ret o=> o
 |_=> none
def MY(g:CT):Option N:=match g with
 | .name x=> some x
 |_=> none
def S9(g:CT):Option (List N):=match g with
 | .tup x=> some x
 |_=> none
def two{α:Type}(l:List α):Option (α×α):=match l with
 | [x,y]=> some (x,y)
 |_=> none
def FZ{α:Type}(o:Option α)(k:α->Bool):Bool:=match o with
 |some a=> k a
 |none=> false
def aA:AV->Bool
 | .none=> true
 |_=> false
def pE:CE->Bool
 | .cst v=> aA v
 | .var _=> true
 | .AF e _=> pE e
 | .sub e i=> pE e&&pE i
 |_=> false
def pC(c:CE):Bool:=FZ (PJ c) fun q=> pE q.1&&pE q.2.2
def pT(c:CE):Bool:=FZ (S5 c) fun q=> pC q.1&&pC q.2
def pA(c:CS):Bool:=FZ (PK c) fun q=> (MY q.1).isSome&&pE q.2
def pS(c:CS):Bool:=match c with
 | .ifs c b o=> pT c&&(o.isEmpty&&b.all pA)
 |c=> pA c
def hC(c:CE):Bool:=FZ (PJ c) fun q=> (S6 q.1).isSome&&FZ (S7 q.2.2) Hb
mutual
noncomputable def hE:CE->Bool
 | .cst v=> Hb v
 | .var _=> true
 | .AF e _=> hE e
 | .tup es=> MZ es
 | .lst _ es=> MZ es
 | .ite c b o=> hC c&&(hE b&&hE o)
 |_=> false
noncomputable def MZ:List CE->Bool
 | []=> true
 |c::r=> hE c&&MZ r
end
section
variable(sc:u3)(gl:tq->Option (Option R5))
def PN(xs:List N)(e:CE)(t:PS):Bool:=FZ (two xs) fun q=> FZ (S8 e) fun es=> JO (GH (JS [q.1,q.2] (t.e 0) 0)) (Am (.tup es) (t.e 1))
def hA(g:CT)(e:CE)(t:PS):Bool:=match MY g with
 |some x=> Dw sc x
 |none=> FZ (S9 g) fun xs=> xs.all (Dw sc)&&PN xs e t
def hS(c:CS)(t:PS):Bool:=match PM c with
 |some e=> hE e&&A1 sc gl e (t.e 0)
 |none=> FZ (PK c) fun q=> hE q.2&&(A1 sc gl q.2 (t.e 1)&&(FY (Am q.2 (t.e 1))&&hA sc q.1 q.2 t))
def Ma:List CS->List PS->Bool
 | [],_=> true
 |c::r,ts=> hS sc gl c (GJ ts)&&Ma r ts.tail
def Ki(g:CT)(t:PT):Bool:=match g with
 | .name x=> Dw sc x
 | .AF e a=> A1 sc gl e (t.AO 0)
 | .sub e i=> A1 sc gl e (t.AO 0)&&A1 sc gl i (t.AO 1)
 | .tup xs=> xs.all (Dw sc)
def TA(g:CT)(e:CE)(t:PS):Bool:=match g with
 | .tup xs=> O1 (Am e (t.e 1))||PN xs e t
 |g=> El (toT g (t.e 0))
def TB(g:CT)(t:PT):Bool:=match g with
 | .name x=> Dw sc x
 | .AF e a=> A1 sc gl e (t.AO 0)
 | .sub e i=> A1 sc gl e (t.AO 0)&&(A1 sc gl i (t.AO 1)&&IL (Am i (t.AO 1)))
 | .tup xs=> false
def TC(g:CT)(src:CSrc)(b:List CS)(t:PS):Bool:=match src with
 | .it e=> Ki sc gl g (t.e 0)&&(A1 sc gl e (t.e 1)&&(Kf (Am e (t.e 1))&&El (toT g (t.e 0))))
 | .keys e=> (match g with | .name x=> Dw sc x |_=> false)&&(A1 sc gl e (t.e 1)&&(Kf (Am e (t.e 1))&&b.all pS))
 | .E5 as=> Ki sc gl g (t.e 0)&&(Dg sc gl as (t.e 1) 1&&(Gv sc gl PA&&(El (toT g (t.e 0))&&(Bi as (t.e 1) 1).all noStar)))
 | .enum e=> (match g with | .tup xs=> xs.all (Dw sc) |_=> false)&&(A1 sc gl e ((t.e 1).AO 1)&&(Gv sc gl PB&&noStar (Am e ((t.e 1).AO 1))))
variable(yw:Nat->Bool)
mutual
noncomputable def Kj:CS->Nat->PS->Bool
 | .expr e,_,t=> A1 sc gl e (t.e 0)&&FY (Am e (t.e 0))
 | .asg g e,_,t=> Ki sc gl g (t.e 0)&&(A1 sc gl e (t.e 1)&&(FY (Am e (t.e 1))&&TA g e t))
 | .aug g op e,_,t=> A1 sc gl e (t.e 1)&&TB sc gl g (t.e 0)
 | .ret o,_,t=> MX sc gl o (t.e 0)
 | .ifs c b o,md,t=> A1 sc gl c (t.e 0)&&(Dx b md t.b&&Dx o md t.o)
 | .BQ c b,md,t=> A1 sc gl c (t.e 0)&&Dx b md t.b
 | .Cc g src b,md,t=> Dx b md t.b&&TC sc gl g src b t
 | .EM c as,md,t=> ua md 0&&(Dg sc gl as (t.e 0) 1&&(yw c&&(GI sc gl ((t.e 0).AO 0).y c&&((Bi as (t.e 0) 1).all noStar&&(uJ (Bi as (t.e 0) 1).length 1000&&uJ as.length 1000)))))
 | .F9 b c x h,md,t=> ua md 1&&(Dx b 2 t.b&&(yw c&&(GI sc gl (t.e 0).y c&&(Dw sc x&&((!h.isEmpty)&&Ma sc gl h t.o)))))
 | .IG b,md,t=> ua md 0&&(Dx b md t.b&& !t.hs.isEmpty)
 | .del e i,_,t=> A1 sc gl e ((t.e 0).AO 0)&&A1 sc gl i ((t.e 0).AO 1)
 |_,_,_=> true
noncomputable def Dx:List CS->Nat->List PS->Bool
 | [],_,_=> true
 |c::r,md,ts=> Kj c md (GJ ts)&&Dx r md ts.tail
end
end
def Em(K:Frag)(a:Nat):Option Data:=(K.lookup a).map (·.data)
structure Mb where
 Hc:Addr
 cc:Addr
 D:Addr
 ar:Arg
 vs:Array R5
 file:tq
 tf:Tok
 Kk:ClassData
def refOf:Option (Option R5)->Option Nat
 |some (some (.ref b))=> some b
 |_=> none
def TF:List Nat:=[95,95,99,108,97,115,115,95,95]
def Mc:Data->Option uz
 | .func fd=> some fd
 |_=> none
def Md:Data->Option (Array R5)
 | .fields vs=> some vs
 |_=> none
def DJ:R5->Option Nat
 | .ref a=> some a
 |_=> none
def TG:Data->Option R5
 | .cell v=> v
 |_=> none
def Me:R5->Option (tq×Tok)
 | .str s t=> some (s,t)
 |_=> none
def TH(l:List (tq×Addr)):Option Addr:=match l with
 | []=> none
 |p::r=> Ha (C3 p.1.cps.toList TF&&r.isEmpty) (some p.2)
section
variable(pr:uQ)(K:Frag)(fd:uz)
def aB:Option Mb:=
 (DJ fd.code).bind fun Hc=> (TH fd.closure).bind fun cc=> ((fd.params.posonlyargs++fd.params.args).head?).bind fun ar=>
 ((Em K Hc).bind Md).bind fun vs=> ((vs[2]?).bind Me).bind fun ft=> (((Em K cc).bind TG).bind DJ).bind fun D=> (clsIn K D).map fun Kk=> ⟨Hc,cc,D,ar,vs,ft.1,ft.2,Kk⟩
def aC(q:Mb)(g:Nat):Bool:=allB [isNm q.ar.arg N.self,(pr.main.file:tq)==q.file,mroIn K q.D (.ref q.D)==some true,ks_superIn K q.D q.D (nm N.L8)==some (some (.ref g)),nsIn K mainGlobals "super"==some none,nsIn K cStatics "thirdparty.any"==some none,
 fd.scope.names.lookup ("super":tq)==some .globalImplicit,fd.scope.names.lookup ("__class__":tq)==some .free,fd.scope.names.lookup (nm N.self)==some .local,typeIn K (.ref g)==some (.type "function"),fnIn K g,!((pr.main.scope.names.lookup ("super":tq)).isSome)]
def TJ:Option (Nat×Nat):=(aB K fd).bind fun q=> (refOf (ks_superIn K q.D q.D (nm N.L8))).bind fun g=> Ha (aC pr K fd q g) (some (g,q.D))
end
def aD(args:List Expr)(t:PS):Stmt:=
 .Expr (.Call (.Attribute (.Call (.Name "super" ((((t.e 0).AO 0).AO 0).AO 0).p) [] [] (((t.e 0).AO 0).AO 0).p) (nm N.L8) ((t.e 0).AO 0).p) args [] (t.e 0).p) t.p
def Mf(c:CS):Option (Nat×Nat×List CE):=match c with
 | .expr e=> (match e with
   | .sup g c as=> some (g,c,as)
   |_=> none)
 |_=> none
def Fb(cs:List CS)(ts:List PS):List Stmt:=match cs with
 | []=>[]
 |c::r=> (match Mf c with
  |some q=> aD (Bi q.2.2 ((GJ ts).e 0) 1) (GJ ts)::C4 r ts.tail
  |none=> C4 (c::r) ts)
def TK(o:Option (Nat×Nat))(g c:Nat):Bool:=match o with
 |some p=> ua p.1 g&&ua p.2 c
 |none=> false
def Mg(pr:uQ)(K:Frag)(gl:tq->Option (Option R5))(yw:Nat->Bool)(md:Nat)(fd:uz)(cs:List CS)(ts:List PS):Bool:=match cs with
 | []=> true
 |c::r=> (match Mf c with
  |some q=> TK (TJ pr K fd) q.1 q.2.1&&(Dg fd.scope gl q.2.2 ((GJ ts).e 0) 1&&((((GJ ts).e 0).AO 0).p.endLine==((GJ ts).e 0).p.line&&((Bi q.2.2 ((GJ ts).e 0) 1).all noStar&&(uJ (Bi q.2.2 ((GJ ts).e 0) 1).length 27&&Dx fd.scope gl yw r md ts.tail))))
  |none=> Dx fd.scope gl yw (c::r) md ts)
theorem Kl{α:Type}:∀{l:List (Nat×α)} {a:Nat} {v:α},DB l a=some v->(a,v)∈l
 |(b,w)::r,a,v,h=> by
  have h:(match ua b a with
   |true=> some w
   |false=> DB r a)=some v:=h
  cases e:ua b a with
  |true=> rw [e]at h;cases h;rw [uq e];exact .head _
  |false=> rw [e]at h;exact .tail _ (Kl h)
def JT:R5->Option AV
 | .str x _=> Ha (O2 x.cps.toList) (some (.str x.cps.toList))
 | .int j _=> some (.int j)
 | .none=> some .none
 | .bool b=> some (.bool b)
 |_=> none
def Km:List R5->Option (List AV)
 | []=> some []
 |u::r=> (JT u).bind fun v=> (Km r).map (v::·)
def PO:AV->AV->Bool
 | .str s,b=> match b with | .str t=> C3 s t |_=> false
 | .int i,b=> match b with | .int j=> decide (i=j) |_=> false
 | .none,b=> match b with | .none=> true |_=> false
 | .bool x,b=> match b with | .bool y=> x==y |_=> false
 |_,_=> false
def isTup(o:Obj):Option (List R5):=match o with
 |⟨c,d,dat,sl⟩=> match dat with
  | .seq vs _=> Ha (c==.type "tuple"&&d.isNone&&sl.isEmpty) (some vs.toList)
  |_=> none
def PQ(o:Option AV)(v:AV):Bool:=match o with
 |some v'=> PO v' v
 |none=> false
def codeB(K:Frag)(cd:R5)(q:tq):Bool:=FZ (((DJ cd).bind fun c=> (Em K c).bind Md).bind fun vs=> (vs.toList[1]?).bind Me) fun n=> C3 n.1.cps.toList q.cps.toList
section
variable(pr:uQ)(K:Frag)(gl:tq->Option (Option R5))(yw:Nat->Bool)(md:Nat)
def PU(c:Nat)(x:N)(v:AV):Bool:=match findIn K (.ref c) (nm x)with
 |some (some u)=> PQ (JT u) v&&((specialIn K u "__get__"==some none)&& !(copiedNames.contains (nm x)))
 |_=> false
def TL(c:Nat)(x:N)(g:Nat):Bool:=O5 (findIn K (.ref c) (nm x)) g&&(isFn K (.ref g)&&keepIn K (.ref g))
def TM(c:Nat)(cl:Cl)(p:N×CA):Bool:= !(cl.fields.contains p.1)&&(match p.2 with
 | .val v=> PU K c p.1 v
 | .Aj g=> TL K c p.1 g)
def Mh(c:Nat)(a:N):Bool:=(match findIn K (.ref c) (nm a)with |some attr=> noGet K attr |none=> false)&&(takerIn K c (nm a)==some none)
def Ko(c i:Nat):Bool:=(findIn K (.ref c) "__init__"==some (some (.ref i)))&&(typeIn K (.ref i)==some (.type "function"))
def JU(p:Nat×Cl):Bool:=match p.2.init with
 | .BY i _=> Ko K p.1 i
 | .run i=> Ko K p.1 i
def TN(p:Nat×Cl):List Bool:=[excIn K p.1,keepIn K (.ref p.1),typeIn K (.ref p.1)==some (.type "type"),hasDictIn K p.1,findIn K (.ref p.1) "__getattribute__"==some (some (.builtin "BaseException.__getattribute__")),findIn K (.ref p.1) "__getattr__"==some none,
 mroIn K p.1 (.type "BaseException")==some true,p.2.attrs.isEmpty,p.2.fields.all (Mh K p.1),findIn K (.ref p.1) "__setattr__"==some (some (.builtin "object.__setattr__")),IM K p.1,p.2.mro.all (fun b=> mroIn K p.1 (.ref b)==some true),JU K p,(clsIn K p.1).isSome]
def TP(p:Nat×Cl):List Bool:=[plainGet K p.1 uX,hasDictIn K p.1,p.2.fields.all (Mh K p.1),p.2.attrs.all (TM K p.1 p.2),
 findIn K (.ref p.1) "__setattr__"==some (some (.builtin "object.__setattr__")),plainOver K p.1,keepIn K (.ref p.1),makesIn K p.1,
 findIn K (.ref p.1) "__class__"==some (some (.builtin "object.__class__")),mroIn K p.1 (.type "object")==some true,JU K p]
def JV(p:Nat×Cl):Bool:=match p.2.exc with
 |true=> allB (TN K p)
 |false=> allB (TP K p)
def Mi(p:Nat×Cl)(c:Nat):Bool:=match p.2.mro.contains c with
 |true=> isIn K (.ref p.1) c
 |false=> kin_not K p.1 c
def aE:List N->Bool
 | []=> false
 |x::_=> ua x N.self
def Mj(c:CS):Option (N×N×N):=match c with
 | .asg g e=> (match g with
   | .AF o x=> (match o with
     | .var s=> (match e with
       | .var q=> some (s,x,q)
       |_=> none)
     |_=> none)
   |_=> none)
 |_=> none
def TQ(o:Option (N×N×N))(p:N×N):Bool:=match o with
 |some t=> ua t.1 N.self&&(ua t.2.1 p.1&&ua t.2.2 p.2)
 |none=> false
def PW:List (N×N)->List CS->Bool
 | [],b=> b.isEmpty
 |p::fs,b=> match b with
  | []=> false
  |c::r=> TQ (Mj c) p&&PW fs r
def Kp(P:Prog)(p:Nat×Cl):Bool:=match p.2.init with
 | .BY fi fs=> (match P.fns fi with
   |some fn=> allB [fs.all (fun q=> p.2.fields.contains q.1),decide (fs.map (·.1)).Nodup,uJ fs.length 99,fs.all (fun q=> !(ua q.2 N.self)),aE fn.ps,PW fs fn.body,!(p.2.exc&&fs.isEmpty)]
   |none=> false)
 | .run _=> !p.2.exc
def TU(ps:List N)(dV:R5):Option (List (N×AV)):=match dV with
 | .none=> some []
 | .ref T=> (K.lookup T).bind fun o=> (isTup o).bind fun us=> (Km us).bind fun vs=> Ha (uJ vs.length ps.length) (some ((ps.drop (ps.length - vs.length)).zip vs))
 |_=> none
def PX:List Arg->List N->Bool
 | [],b=> b.isEmpty
 |a::r,b=> match b with
  | []=> false
  |n::t=> isNm a.arg n&&PX r t
def PY:List (N×AV)->List (N×AV)->Bool
 | [],b=> b.isEmpty
 |p::r,b=> match b with
  | []=> false
  |q::t=> ua p.1 q.1&&(PO p.2 q.2&&PY r t)
def TV(o:Option (List (N×AV)))(b:List (N×AV)):Bool:=match o with
 |some d=> PY d b
 |none=> false
def Dv(fd:uz)(fn:Fn)(ts:List PS):List Bool:=[ua fd.globals mainGlobals,ua fd.builtins builtinsNs,fd.params.posonlyargs.isEmpty,PX fd.params.args fn.ps,fd.params.vararg.isNone,fd.params.kwonlyargs.isEmpty,fd.params.kwarg.isNone,
 codeB K fd.code fd.qualname,decide fn.ps.Nodup,fn.ps.all (fun n=> O3 (JQ fd.scope.names (nm n).cps.toList)),!fd.scope.isCoroutine,!fd.scope.isGenerator,fd.scope.kind==.function,fd.scope.names.all (fun x=> x.2 != .cell),
 TV (TU K fn.ps fd.defaults) fn.BH,Mg pr K gl yw md fd fn.body ts]
def IT(a:Nat)(fn:Fn)(ts:List PS):Bool:=keepIn K (.ref a)&&(match(Em K a).bind Mc with
 |some fd=> allB (Dv pr K gl yw md fd fn ts)
 |none=> false)
def Kq(a:Nat):Option (List Stmt):=match(Em K a).bind Mc with
 |some fd=> (match fd.body with
  | .stmts b=> some b
  |_=> none)
 |none=> none
def TX(Aq:List (Nat×Cl))(Bm:List Nat):Bool:=allB [Aq.all (JV K),Aq.all (fun p=> p.2.exc||Bm.all (Mi K p)),specialIn K (.builtin "object.__class__") "__get__"==some (some (.builtin "getset_descriptor.__get__")),takesIn K (.builtin "object.__class__")==some true]
end
def Gw(Aq:List (Nat×Cl))(b:Nat):Bool:=(DB Aq b).any (·.exc)
def JW:List uP->List Nat->Option R5
 | [],_=> none
 |e::r,l=> match e.key with
  | .str x _=> if C3 x.cps.toList l=true then some e.val else JW r l
  |_=> JW r l
def Gy(es:List uP)(y:tq):Option (Option R5):=match JW es y.cps.toList with
 |some v=> some (some v)
 |none=> if es.any (·.refKey)then none else some none
def Gz(K:Frag):List uP:=match K.lookup mainGlobals with
 |some ⟨_,_,.dict es _,_⟩=> es.toList
 |_=>[]
end
end Internal
namespace Internal
namespace L4
abbrev sf:CE:=.var 1936026726
abbrev Af:N:=545218989645281737405035
abbrev An:N:=7308889606288667243
abbrev Ar:N:=1936026726
abbrev BB:N:=119182899770472
abbrev BO:N:=1885693291
abbrev BP:N:=109330212154734
abbrev Bn:N:=7450489111760171627
abbrev B2:N:=107135549927012
abbrev CQ:N:=28832985044316772
abbrev Bp:N:=1835102827
abbrev Bw:N:=7038329
abbrev B4:N:=483681661606044045305196
abbrev CR:N:=452823639416
abbrev CU:N:=1818848869
abbrev Ci:N:=508440638821
abbrev E9:N:=109300297919347
abbrev Cw:N:=1851878757
abbrev Cq:N:=128021892001395
abbrev C5:N:=2003792484
abbrev DM:N:=31647696006964594
abbrev DN:N:=129498082983365943657840870465989207417
abbrev G0:N:=123636629793144
abbrev Dh:N:=108256368682354
abbrev DO:N:=1919907699
abbrev Dy:N:=641892406234741257400485027431320278878166284659
abbrev Dz:N:=6872327479327219551
abbrev En:N:=495875353701
abbrev Eo:N:=115922851688052
abbrev FA:N:=36034959069541267224754546034
abbrev Fc:N:=27988542884247668
abbrev Fd:N:=7308888575346044519
abbrev IU:N:=110429873532005
abbrev GK:N:=8243119442065778020
abbrev G1:N:=126943972647277
abbrev Hd:N:=30773728345737535801669022315
abbrev He:N:=34800664641698002562615177835
abbrev Hf:N:=183827607669007229023581801743932684454154522881659323317708153
abbrev IV:N:=36034959069546880227118638446
abbrev PZ:N:=599129816572741569948218615260340587
abbrev Kr:N:=9303882725306664761746388250228
abbrev Ks:N:=145433281338468786655910644494196958578
abbrev Pa:N:=185528407706441132242969054637315584717608875189555691342100851
abbrev Pb:N:=2510750146831993174603336205809339154659260563747109105522
abbrev Pc:N:=2829126846607722328359823057131131758135423089070322705785
abbrev Pd:N:=185421697166294548125770639092239813190832426668621169795687794
abbrev TY:N:=47467954474564311664414611570754874207935278067716646366108411251
def aF:List CS:=
 [.asg (.AF sf Cw) (.var Cw),.asg (.AF sf CR) (.var CR),.asg (.AF sf CU) (.var CU),.asg (.AF sf BP) (.var BP),.asg (.AF sf Dh) (.var Dh),.asg (.AF sf DM) (.var DM)]
def aG:Fn:=⟨[Ar,Cw,CR,CU,BP,Dh,DM],[],aF⟩
def aH:List CS:=
 [.asg (.AF sf Fc) (.var Fc),.asg (.AF sf Hd) (.var Hd),.asg (.AF sf 31651020109800813) (.var 31651020109800813),.asg (.AF sf He) (.var He),.asg (.AF sf 1852798053) (.var 1852798053)]
def aI:Fn:=⟨[Ar,Fc,Hd,31651020109800813,He,1852798053],[(Fc,.none),(Hd,.none),(31651020109800813,.none),(He,.none),(1852798053,.none)],aH⟩
def aJ:List CS:=
 [.ret (some (.Bk [(.cmp (.var 25448) [(.Be,(.cst (.str [9,10,13,133])))]),(.cmp (.cst (.str [32])) [(.le,(.var 25448)),(.le,(.cst (.str [126])))]),(.cmp (.cst (.str [160])) [(.le,(.var 25448)),(.le,(.cst (.str [55295])))]),(.cmp (.cst (.str [57344])) [(.le,(.var 25448)),(.le,(.cst (.str [65533])))]),(.cmp (.cst (.str [65536])) [(.le,(.var 25448)),(.le,(.cst (.str [1114111])))])]))]
def aK:Fn:=⟨[25448],[],aJ⟩
def aL:List CS:=
 [.asg (.AF sf Cw) (.cst .none),.asg (.AF sf G1) (.cst .none),.asg (.AF sf 2341702975124311297391685803468146) (.cst (.int 0)),.asg (.AF sf 6647654) (.cst (.bool true)),.asg (.AF sf Dh) (.cst (.str [])),.asg (.AF sf DM) (.cst (.int 0)),.asg (.AF sf 540147714924359050487154) (.cst .none),.asg (.AF sf 540147714926489304523877) (.cst .none),.asg (.AF sf Fd) (.cst .none),.asg (.AF sf CR) (.cst (.int 0)),.asg (.AF sf CU) (.cst (.int 0)),.asg (.AF sf BP) (.cst (.int 0)),.ifs (.isStr (.var G1)) [.asg (.AF sf Cw) (.cst (.str [60,117,110,105,99,111,100,101,32,115,116,114,105,110,103,62])),.expr (.AH sf 516154792406963383754084634884992101 [(.var G1)]),.asg (.AF sf Dh) (.bin .add (.var G1) (.cst (.str [0])))] []]
def aM:Fn:=⟨[Ar,G1],[],aL⟩
def aN:List CS:=
 [.IG [.ret (some (.sub (.AF sf Dh) (.bin .add (.AF sf DM) (.var CR))))]]
def aO:Fn:=⟨[Ar,CR],[(CR,(.int 0))],aN⟩
def aP:List CS:=
 [.ifs (.cmp (.bin .add (.AF sf DM) (.var BB)) [(.ge,(.bi .len [(.AF sf Dh)]))]) [.expr (.AH sf 129125580895333 [(.var BB)])] [],.ret (some (.Bu false (.AF sf Dh) (some (.AF sf DM)) (some (.bin .add (.AF sf DM) (.var BB)))))]
def aQ:Fn:=⟨[Ar,BB],[(BB,(.int 1))],aP⟩
def TZ:List CS:=
 [.ifs (.cmp (.bin .add (.bin .add (.AF sf DM) (.var BB)) (.cst (.int 1))) [(.ge,(.bi .len [(.AF sf Dh)]))]) [.expr (.AH sf 129125580895333 [(.bin .add (.var BB) (.cst (.int 1)))])] [],.BQ (.var BB) [.asg (.name 25448) (.sub (.AF sf Dh) (.AF sf DM)),.aug (.AF sf DM) .add (.cst (.int 1)),.aug (.AF sf CR) .add (.cst (.int 1)),.ifs (.Bk [(.cmp (.var 25448) [(.Be,(.cst (.str [10,133,8232,8233])))]),(.Aw [(.cmp (.var 25448) [(.eq,(.cst (.str [13])))]),(.cmp (.sub (.AF sf Dh) (.AF sf DM)) [(.ne,(.cst (.str [10])))])])]) [.aug (.AF sf CU) .add (.cst (.int 1)),.asg (.AF sf BP) (.cst (.int 0))] [.ifs (.cmp (.var 25448) [(.ne,(.cst (.str [65279])))]) [.aug (.AF sf BP) .add (.cst (.int 1))] []],.aug (.name BB) .sub (.cst (.int 1))]]
def aR:Fn:=⟨[Ar,BB],[(BB,(.int 1))],TZ⟩
def aS:List CS:=
 [.ifs (.cmp (.AF sf G1) [(.IF,(.cst .none))]) [.ret (some (.app (.cst (.cls 53)) [(.AF sf Cw),(.AF sf CR),(.AF sf CU),(.AF sf BP),(.AF sf Dh),(.AF sf DM)]))] [.Al]]
def aT:Fn:=⟨[Ar],[],aS⟩
def Ta:List CS:=
 [.Cc (.tup [495873782388,1833749081912537015666]) (.enum (.var 1684108385)) [.ifs (.nt (.app (.cst (.fn 130)) [(.var 1833749081912537015666)])) [.Al,.Al] []]]
def aU:Fn:=⟨[Ar,1684108385],[],Ta⟩
def aV:List CS:=
 [.ifs (.cmp (.AF sf 540147714924359050487154) [(.IF,(.cst .none))]) [.ret none] []]
def aW:Fn:=⟨[Ar,BB],[],aV⟩
def aX:List CS:=
 [.asg (.AF sf Af) (.var Af),.asg (.AF sf An) (.var An)]
def aY:Fn:=⟨[Ar,Af,An],[],aX⟩
def aZ:List CS:=
 [.asg (.AF sf Cw) (.var Cw),.asg (.AF sf Ci) (.var Ci),.asg (.AF sf Af) (.var Af),.asg (.AF sf An) (.var An)]
def aa:Fn:=⟨[Ar,Cw,Ci,Af,An],[],aZ⟩
def ab:List CS:=
 [.asg (.AF sf Af) (.var Af),.asg (.AF sf An) (.var An),.asg (.AF sf Fd) (.var Fd)]
def ae:Fn:=⟨[Ar,Af,An,Fd],[(Af,.none),(An,.none),(Fd,.none)],ab⟩
def af:List CS:=
 [.asg (.AF sf Ci) (.var Ci),.asg (.AF sf 482854660462) (.var 482854660462),.asg (.AF sf Af) (.var Af),.asg (.AF sf An) (.var An),.asg (.AF sf En) (.var En)]
def ag:Fn:=⟨[Ar,Ci,482854660462,Af,An,En],[(En,.none)],af⟩
def ah:List CS:=
 [.asg (.AF sf FA) (.var FA),.asg (.AF sf GK) (.var GK),.asg (.AF sf CR) (.var CR),.asg (.AF sf CU) (.var CU),.asg (.AF sf BP) (.var BP),.asg (.AF sf Bp) (.var Bp)]
def ai:Fn:=⟨[Ar,FA,GK,CR,CU,BP,Bp],[],ah⟩
def aj:List CS:=
 [.expr (.sup 144 1048 [(.var G1)]),.asg (.AF sf 1685024357) (.cst (.bool false)),.asg (.AF sf B4) (.cst (.int 0)),.asg (.AF sf Cq) (.lst true []),.expr (.AH sf 8919976390700392993725003937459785502388852 []),.asg (.AF sf IV) (.cst (.int 0)),.asg (.AF sf Eo) (.neg (.cst (.int 1))),.asg (.AF sf 29676250032141427) (.lst true []),.asg (.AF sf DN) (.cst (.bool true)),.asg (.AF sf Dy) (.A4 [])]
def ak:Fn:=⟨[Ar,G1],[],aj⟩
def Tb:List CS:=
 [.BQ (.AH sf 146741557994772358995325818971779067507 []) [.expr (.AH sf 34843657776173402854571545973394225065587 [])],.ifs (.AF sf Cq) [.aug (.AF sf IV) .add (.cst (.int 1)),.ret (some (.AH (.AF sf Cq) 7368560 [(.cst (.int 0))]))] []]
def ao:Fn:=⟨[Ar],[],Tb⟩
def aq:List CS:=
 [.ifs (.AF sf 1685024357) [.ret (some (.cst (.bool false)))] [],.ifs (.nt (.AF sf Cq)) [.ret (some (.cst (.bool true)))] [],.expr (.AH sf Pa []),.ifs (.cmp (.AH sf 2706911097435030565291582775057801442222980002752630580601 []) [(.eq,(.AF sf IV))]) [.ret (some (.cst (.bool true)))] []]
def au:Fn:=⟨[Ar],[],aq⟩
def av:List CS:=
 [.expr (.AH sf 10051730344681900695319271836629125802190190 []),.expr (.AH sf Pa []),.expr (.AH sf Kr [(.AF sf BP)]),.asg (.name 25448) (.AH sf BO []),.ifs (.cmp (.var 25448) [(.eq,(.cst (.str [0])))]) [.ret (some (.AH sf 136108038188177383327102721213679890020 []))] [],.ifs (.Aw [(.cmp (.var 25448) [(.eq,(.cst (.str [37])))]),(.AH sf 516154792406963161747160710519551589 [])]) [.ret (some (.AH sf 531672024172567626127700373388490341 []))] [],.ifs (.Aw [(.cmp (.var 25448) [(.eq,(.cst (.str [45])))]),(.AH sf 567518195983763431480234338668327964402033717876 [])]) [.ret (some (.AH sf 584579572740940650599854114886685077763199693428 []))] [],.ifs (.Aw [(.cmp (.var 25448) [(.eq,(.cst (.str [46])))]),(.AH sf 8659640441646780875858067911809203557461604 [])]) [.ret (some (.AH sf 8919976390700388345334688032328568690536036 []))] [],.ifs (.cmp (.var 25448) [(.eq,(.cst (.str [91])))]) [.Al] [],.ifs (.cmp (.var 25448) [(.eq,(.cst (.str [123])))]) [.Al] [],.ifs (.cmp (.var 25448) [(.eq,(.cst (.str [93])))]) [.Al] [],.ifs (.cmp (.var 25448) [(.eq,(.cst (.str [125])))]) [.Al] [],.ifs (.cmp (.var 25448) [(.eq,(.cst (.str [44])))]) [.Al] [],.ifs (.Aw [(.cmp (.var 25448) [(.eq,(.cst (.str [45])))]),(.AH sf 33826720475182735364521902425243471082105 [])]) [.ret (some (.AH sf 34843657776173389542164949771022241133177 []))] [],.ifs (.Aw [(.cmp (.var 25448) [(.eq,(.cst (.str [63])))]),(.AH sf 1833750191362651415929 [])]) [.ret (some (.AH sf 1888878472913432044921 []))] [],.ifs (.Aw [(.cmp (.var 25448) [(.eq,(.cst (.str [58])))]),(.AH sf 120176652541142770371032421 [])]) [.ret (some (.AH sf 123789539600854729672652133 []))] [],.ifs (.cmp (.var 25448) [(.eq,(.cst (.str [42])))]) [.Al] [],.ifs (.cmp (.var 25448) [(.eq,(.cst (.str [38])))]) [.Al] [],.ifs (.cmp (.var 25448) [(.eq,(.cst (.str [33])))]) [.Al] [],.ifs (.Aw [(.cmp (.var 25448) [(.eq,(.cst (.str [124])))]),(.nt (.AF sf B4))]) [.Al] [],.ifs (.Aw [(.cmp (.var 25448) [(.eq,(.cst (.str [62])))]),(.nt (.AF sf B4))]) [.Al] [],.ifs (.cmp (.var 25448) [(.eq,(.cst (.str [39])))]) [.ret (some (.AH sf 31690122137818807532056439909 []))] [],.ifs (.cmp (.var 25448) [(.eq,(.cst (.str [34])))]) [.Al] [],.ifs (.AH sf 120176652541142744785054062 []) [.ret (some (.AH sf 123789539600854704086673774 []))] [],.EM 511 [(.cst (.str [119,104,105,108,101,32,115,99,97,110,110,105,110,103,32,102,111,114,32,116,104,101,32,110,101,120,116,32,116,111,107,101,110])),(.cst .none),(.fmt (.cst (.str [102,111,117,110,100,32,99,104,97,114,97,99,116,101,114,32,37,114,32,116,104,97,116,32,99,97,110,110,111,116,32,115,116,97,114,116,32,97,110,121,32,116,111,107,101,110])) (.var 25448)),(.AH sf Bn [])]]
def aw:Fn:=⟨[Ar],[],av⟩
def ax:List CS:=
 [.asg (.name Ks) (.cst .none),.Cc (.name 465558725996) (.keys (.AF sf Dy)) [.asg (.name Bw) (.sub (.AF sf Dy) (.var 465558725996)),.ifs (.Bk [(.cmp (.var Ks) [(.IF,(.cst .none))]),(.cmp (.AF (.var Bw) FA) [(.lt,(.var Ks))])]) [.asg (.name Ks) (.AF (.var Bw) FA)] []],.ret (some (.var Ks))]
def ay:Fn:=⟨[Ar],[],ax⟩
def az:List CS:=
 [.Cc (.name 465558725996) (.it (.bi .list [(.AF sf Dy)])) [.asg (.name Bw) (.sub (.AF sf Dy) (.var 465558725996)),.ifs (.Bk [(.cmp (.AF (.var Bw) CU) [(.ne,(.AF sf CU))]),(.cmp (.bin .sub (.AF sf CR) (.AF (.var Bw) CR)) [(.gt,(.cst (.int 1024)))])]) [.ifs (.AF (.var Bw) GK) [.EM 511 [(.cst (.str [119,104,105,108,101,32,115,99,97,110,110,105,110,103,32,97,32,115,105,109,112,108,101,32,107,101,121])),(.AF (.var Bw) Bp),(.cst (.str [99,111,117,108,100,32,110,111,116,32,102,105,110,100,32,101,120,112,101,99,116,101,100,32,39,58,39])),(.AH sf Bn [])]] [],.del (.AF sf Dy) (.var 465558725996)] []]]
def a6:Fn:=⟨[Ar],[],az⟩
def a7:List CS:=
 [.asg (.name GK) (.Aw [(.nt (.AF sf B4)),(.cmp (.AF sf Eo) [(.eq,(.AF sf BP))])]),.ifs (.AF sf DN) [.expr (.AH sf Hf []),.asg (.name FA) (.bin .add (.AF sf IV) (.bi .len [(.AF sf Cq)])),.asg (.name Bw) (.app (.cst (.cls 530)) [(.var FA),(.var GK),(.AF sf CR),(.AF sf CU),(.AF sf BP),(.AH sf Bn [])]),.asg (.sub (.AF sf Dy) (.AF sf B4)) (.var Bw)] []]
def a8:Fn:=⟨[Ar],[],a7⟩
def a9:List CS:=
 [.ifs (.cmp (.AF sf B4) [(.Be,(.AF sf Dy))]) [.asg (.name Bw) (.sub (.AF sf Dy) (.AF sf B4)),.ifs (.AF (.var Bw) GK) [.EM 511 [(.cst (.str [119,104,105,108,101,32,115,99,97,110,110,105,110,103,32,97,32,115,105,109,112,108,101,32,107,101,121])),(.AF (.var Bw) Bp),(.cst (.str [99,111,117,108,100,32,110,111,116,32,102,105,110,100,32,101,120,112,101,99,116,101,100,32,39,58,39])),(.AH sf Bn [])]] [],.del (.AF sf Dy) (.AF sf B4)] []]
def bA:Fn:=⟨[Ar],[],a9⟩
def Tc:List CS:=
 [.ifs (.AF sf B4) [.Al] [],.BQ (.cmp (.AF sf Eo) [(.gt,(.var BP))]) [.asg (.name Bp) (.AH sf Bn []),.asg (.AF sf Eo) (.AH (.AF sf 29676250032141427) 7368560 []),.expr (.AH (.AF sf Cq) B2 [(.app (.cst (.cls 326)) [(.var Bp),(.var Bp)])])]]
def bB:Fn:=⟨[Ar,BP],[],Tc⟩
def bC:List CS:=
 [.ifs (.cmp (.AF sf Eo) [(.lt,(.var BP))]) [.expr (.AH (.AF sf 29676250032141427) B2 [(.AF sf Eo)]),.asg (.AF sf Eo) (.var BP),.ret (some (.cst (.bool true)))] [],.ret (some (.cst (.bool false)))]
def bD:Fn:=⟨[Ar,BP],[],bC⟩
def bE:List CS:=
 [.asg (.name Bp) (.AH sf Bn []),.expr (.AH (.AF sf Cq) B2 [(.F7 (.cst (.cls 278)) [(.var Bp),(.var Bp)] Fd (.AF sf Fd))])]
def bF:Fn:=⟨[Ar],[],bE⟩
def bG:List CS:=
 [.expr (.AH sf Kr [(.neg (.cst (.int 1)))]),.expr (.AH sf Hf []),.asg (.AF sf DN) (.cst (.bool false)),.asg (.AF sf Dy) (.A4 []),.asg (.name Bp) (.AH sf Bn []),.expr (.AH (.AF sf Cq) B2 [(.app (.cst (.cls 290)) [(.var Bp),(.var Bp)])]),.asg (.AF sf 1685024357) (.cst (.bool true))]
def bH:Fn:=⟨[Ar],[],bG⟩
def bI:List CS:=
 [.expr (.AH sf Kr [(.neg (.cst (.int 1)))]),.expr (.AH sf Hf []),.asg (.AF sf DN) (.cst (.bool false)),.expr (.AH (.AF sf Cq) B2 [(.AH sf 2340350845987124184783556677564005 [])])]
def bJ:Fn:=⟨[Ar],[],bI⟩
def bK:List CS:=
 [.expr (.AH sf Pb [(.cst (.cls 246))])]
def bL:Fn:=⟨[Ar],[],bK⟩
def bM:List CS:=
 [.expr (.AH sf Pb [(.cst (.cls 258))])]
def bN:Fn:=⟨[Ar],[],bM⟩
def bO:List CS:=
 [.expr (.AH sf Kr [(.neg (.cst (.int 1)))]),.expr (.AH sf Hf []),.asg (.AF sf DN) (.cst (.bool false)),.asg (.name Af) (.AH sf Bn []),.expr (.AH sf CQ [(.cst (.int 3))]),.asg (.name An) (.AH sf Bn []),.expr (.AH (.AF sf Cq) B2 [(.app (.var 398734111866002524435315) [(.var Af),(.var An)])])]
def bP:Fn:=⟨[Ar,398734111866002524435315],[],bO⟩
def bQ:List CS:=
 [.ifs (.nt (.AF sf B4)) [.ifs (.nt (.AF sf DN)) [.EM 511 [(.cst .none),(.cst .none),(.cst (.str [115,101,113,117,101,110,99,101,32,101,110,116,114,105,101,115,32,97,114,101,32,110,111,116,32,97,108,108,111,119,101,100,32,104,101,114,101])),(.AH sf Bn [])]] [],.ifs (.AH sf 459921455861175972884084 [(.AF sf BP)]) [.asg (.name Bp) (.AH sf Bn []),.expr (.AH (.AF sf Cq) B2 [(.app (.cst (.cls 302)) [(.var Bp),(.var Bp)])])] []] [.Al],.asg (.AF sf DN) (.cst (.bool true)),.expr (.AH sf Hf []),.asg (.name Af) (.AH sf Bn []),.expr (.AH sf CQ []),.asg (.name An) (.AH sf Bn []),.expr (.AH (.AF sf Cq) B2 [(.app (.cst (.cls 410)) [(.var Af),(.var An)])])]
def bR:Fn:=⟨[Ar],[],bQ⟩
def bS:List CS:=
 [.ifs (.nt (.AF sf B4)) [.ifs (.nt (.AF sf DN)) [.EM 511 [(.cst .none),(.cst .none),(.cst (.str [109,97,112,112,105,110,103,32,107,101,121,115,32,97,114,101,32,110,111,116,32,97,108,108,111,119,101,100,32,104,101,114,101])),(.AH sf Bn [])]] [],.ifs (.AH sf 459921455861175972884084 [(.AF sf BP)]) [.asg (.name Bp) (.AH sf Bn []),.expr (.AH (.AF sf Cq) B2 [(.app (.cst (.cls 314)) [(.var Bp),(.var Bp)])])] []] [],.asg (.AF sf DN) (.nt (.AF sf B4)),.expr (.AH sf Hf []),.asg (.name Af) (.AH sf Bn []),.expr (.AH sf CQ []),.asg (.name An) (.AH sf Bn []),.expr (.AH (.AF sf Cq) B2 [(.app (.cst (.cls 386)) [(.var Af),(.var An)])])]
def bT:Fn:=⟨[Ar],[],bS⟩
def bU:List CS:=
 [.ifs (.cmp (.AF sf B4) [(.Be,(.AF sf Dy))]) [.asg (.name Bw) (.sub (.AF sf Dy) (.AF sf B4)),.del (.AF sf Dy) (.AF sf B4),.expr (.AH (.AF sf Cq) 115923103347316 [(.bin .sub (.AF (.var Bw) FA) (.AF sf IV)),(.app (.cst (.cls 386)) [(.AF (.var Bw) Bp),(.AF (.var Bw) Bp)])]),.ifs (.nt (.AF sf B4)) [.ifs (.AH sf 459921455861175972884084 [(.AF (.var Bw) BP)]) [.expr (.AH (.AF sf Cq) 115923103347316 [(.bin .sub (.AF (.var Bw) FA) (.AF sf IV)),(.app (.cst (.cls 314)) [(.AF (.var Bw) Bp),(.AF (.var Bw) Bp)])])] []] [],.asg (.AF sf DN) (.cst (.bool false))] [.ifs (.nt (.AF sf B4)) [.ifs (.nt (.AF sf DN)) [.EM 511 [(.cst .none),(.cst .none),(.cst (.str [109,97,112,112,105,110,103,32,118,97,108,117,101,115,32,97,114,101,32,110,111,116,32,97,108,108,111,119,101,100,32,104,101,114,101])),(.AH sf Bn [])]] []] [],.ifs (.nt (.AF sf B4)) [.ifs (.AH sf 459921455861175972884084 [(.AF sf BP)]) [.asg (.name Bp) (.AH sf Bn []),.expr (.AH (.AF sf Cq) B2 [(.app (.cst (.cls 314)) [(.var Bp),(.var Bp)])])] []] [],.asg (.AF sf DN) (.nt (.AF sf B4)),.expr (.AH sf Hf [])],.asg (.name Af) (.AH sf Bn []),.expr (.AH sf CQ []),.asg (.name An) (.AH sf Bn []),.expr (.AH (.AF sf Cq) B2 [(.app (.cst (.cls 398)) [(.var Af),(.var An)])])]
def bV:Fn:=⟨[Ar],[],bU⟩
def bW:List CS:=
 [.expr (.F8 sf 34843657776173394377869666025701401977202 [] En (.cst (.str [39])))]
def bY:Fn:=⟨[Ar],[],bW⟩
def bZ:List CS:=
 [.expr (.AH sf Pc []),.asg (.AF sf DN) (.cst (.bool false)),.expr (.AH (.AF sf Cq) B2 [(.AH sf 153377233042614602538669525734133621106 [(.var En)])])]
def ba:Fn:=⟨[Ar,En],[],bZ⟩
def bg:List CS:=
 [.expr (.AH sf Pc []),.asg (.AF sf DN) (.cst (.bool false)),.expr (.AH (.AF sf Cq) B2 [(.AH sf 544905393847112021666158 [])])]
def bh:Fn:=⟨[Ar],[],bg⟩
def bj:List CS:=
 [.ifs (.cmp (.AF sf BP) [(.eq,(.cst (.int 0)))]) [.ret (some (.cst (.bool true)))] []]
def bk:Fn:=⟨[Ar],[],bj⟩
def bp:List CS:=
 [.ifs (.cmp (.AF sf BP) [(.eq,(.cst (.int 0)))]) [.ifs (.Aw [(.cmp (.AH sf G0 [(.cst (.int 3))]) [(.eq,(.cst (.str [45,45,45])))]),(.cmp (.AH sf BO [(.cst (.int 3))]) [(.Be,(.cst (.str [0,32,9,13,10,133,8232,8233])))])]) [.ret (some (.cst (.bool true)))] []] []]
def bq:Fn:=⟨[Ar],[],bp⟩
def bt:List CS:=
 [.ifs (.cmp (.AF sf BP) [(.eq,(.cst (.int 0)))]) [.ifs (.Aw [(.cmp (.AH sf G0 [(.cst (.int 3))]) [(.eq,(.cst (.str [46,46,46])))]),(.cmp (.AH sf BO [(.cst (.int 3))]) [(.Be,(.cst (.str [0,32,9,13,10,133,8232,8233])))])]) [.ret (some (.cst (.bool true)))] []] []]
def bu:Fn:=⟨[Ar],[],bt⟩
def bw:List CS:=
 [.ret (some (.cmp (.AH sf BO [(.cst (.int 1))]) [(.Be,(.cst (.str [0,32,9,13,10,133,8232,8233])))]))]
def bx:Fn:=⟨[Ar],[],bw⟩
def bz:List CS:=
 [.ifs (.AF sf B4) [.Al] [.ret (some (.cmp (.AH sf BO [(.cst (.int 1))]) [(.Be,(.cst (.str [0,32,9,13,10,133,8232,8233])))]))]]
def cA:Fn:=⟨[Ar],[],bz⟩
def cB:List CS:=
 [.ifs (.AF sf B4) [.Al] [.ret (some (.cmp (.AH sf BO [(.cst (.int 1))]) [(.Be,(.cst (.str [0,32,9,13,10,133,8232,8233])))]))]]
def cC:Fn:=⟨[Ar],[],cB⟩
def cD:List CS:=
 [.asg (.name 25448) (.AH sf BO []),.ret (some (.Bk [(.cmp (.var 25448) [(.De,(.cst (.str [0,32,9,13,10,133,8232,8233,45,63,58,44,91,93,123,125,35,38,42,33,124,62,39,34,37,64,96])))]),(.Aw [(.cmp (.AH sf BO [(.cst (.int 1))]) [(.De,(.cst (.str [0,32,9,13,10,133,8232,8233])))]),(.Bk [(.cmp (.var 25448) [(.eq,(.cst (.str [45])))]),(.Aw [(.nt (.AF sf B4)),(.cmp (.var 25448) [(.Be,(.cst (.str [63,58])))])])])])]))]
def cE:Fn:=⟨[Ar],[],cD⟩
def Td:List CS:=
 [.ifs (.Aw [(.cmp (.AF sf CR) [(.eq,(.cst (.int 0)))]),(.cmp (.AH sf BO []) [(.eq,(.cst (.str [65279])))])]) [.Al] [],.asg (.name 439956631140) (.cst (.bool false)),.BQ (.nt (.var 439956631140)) [.BQ (.cmp (.AH sf BO []) [(.eq,(.cst (.str [32])))]) [.expr (.AH sf CQ [])],.ifs (.cmp (.AH sf BO []) [(.eq,(.cst (.str [35])))]) [.BQ (.cmp (.AH sf BO []) [(.De,(.cst (.str [0,13,10,133,8232,8233])))]) [.expr (.AH sf CQ [])]] [],.ifs (.AH sf PZ []) [.ifs (.nt (.AF sf B4)) [.asg (.AF sf DN) (.cst (.bool true))] []] [.asg (.name 439956631140) (.cst (.bool true))]]]
def cF:Fn:=⟨[Ar],[],Td⟩
def cG:List CS:=
 [.asg (.name Af) (.AH sf Bn []),.expr (.AH sf CQ []),.asg (.name Cw) (.AH sf 2573242968238241589948425412787153925849574757 [(.var Af)]),.asg (.name Ci) (.cst .none),.ifs (.cmp (.var Cw) [(.eq,(.cst (.str [89,65,77,76])))]) [.asg (.name Ci) (.AH sf 724303504555838078616291558954061770276689166674335468647781 [(.var Af)]),.asg (.name An) (.AH sf Bn [])] [.ifs (.cmp (.var Cw) [(.eq,(.cst (.str [84,65,71])))]) [.Al,.Al] [.asg (.name An) (.AH sf Bn []),.BQ (.cmp (.AH sf BO []) [(.De,(.cst (.str [0,13,10,133,8232,8233])))]) [.expr (.AH sf CQ [])]]],.expr (.AH sf 47467954474563559007797293852160324698962750191275466294882299493 [(.var Af)]),.ret (some (.app (.cst (.cls 234)) [(.var Cw),(.var Ci),(.var Af),(.var An)]))]
def cH:Fn:=⟨[Ar],[],cG⟩
def cI:List CS:=
 [.asg (.name BB) (.cst (.int 0)),.asg (.name 25448) (.AH sf BO [(.var BB)]),.BQ (.Bk [(.cmp (.cst (.str [48])) [(.le,(.var 25448)),(.le,(.cst (.str [57])))]),(.cmp (.cst (.str [65])) [(.le,(.var 25448)),(.le,(.cst (.str [90])))]),(.cmp (.cst (.str [97])) [(.le,(.var 25448)),(.le,(.cst (.str [122])))]),(.cmp (.var 25448) [(.Be,(.cst (.str [45,95])))])]) [.aug (.name BB) .add (.cst (.int 1)),.asg (.name 25448) (.AH sf BO [(.var BB)])],.ifs (.nt (.var BB)) [.Al] [],.asg (.name Ci) (.AH sf G0 [(.var BB)]),.expr (.AH sf CQ [(.var BB)]),.asg (.name 25448) (.AH sf BO []),.ifs (.cmp (.var 25448) [(.De,(.cst (.str [0,32,13,10,133,8232,8233])))]) [.Al] [],.ret (some (.var Ci))]
def cJ:Fn:=⟨[Ar,Af],[],cI⟩
def cK:List CS:=
 [.BQ (.cmp (.AH sf BO []) [(.eq,(.cst (.str [32])))]) [.expr (.AH sf CQ [])],.asg (.name 469785800562) (.AH sf Pd [(.var Af)]),.ifs (.cmp (.AH sf BO []) [(.ne,(.cst (.str [46])))]) [.Al] [],.expr (.AH sf CQ []),.asg (.name 469920280434) (.AH sf Pd [(.var Af)]),.ifs (.cmp (.AH sf BO []) [(.De,(.cst (.str [0,32,13,10,133,8232,8233])))]) [.Al] [],.ret (some (.tup [(.var 469785800562),(.var 469920280434)]))]
def cL:Fn:=⟨[Ar,Af],[],cK⟩
def cM:List CS:=
 [.asg (.name 25448) (.AH sf BO []),.ifs (.nt (.cmp (.cst (.str [48])) [(.le,(.var 25448)),(.le,(.cst (.str [57])))])) [.Al] [],.asg (.name BB) (.cst (.int 0)),.BQ (.cmp (.cst (.str [48])) [(.le,(.AH sf BO [(.var BB)])),(.le,(.cst (.str [57])))]) [.aug (.name BB) .add (.cst (.int 1))],.asg (.name Ci) (.bi .int [(.AH sf G0 [(.var BB)])]),.expr (.AH sf CQ [(.var BB)]),.ret (some (.var Ci))]
def cN:Fn:=⟨[Ar,Af],[],cM⟩
def cO:List CS:=
 [.BQ (.cmp (.AH sf BO []) [(.eq,(.cst (.str [32])))]) [.expr (.AH sf CQ [])],
 .ifs (.cmp (.AH sf BO []) [(.eq,(.cst (.str [35])))]) [.BQ (.cmp (.AH sf BO []) [(.De,(.cst (.str [0,13,10,133,8232,8233])))]) [.expr (.AH sf CQ [])]] [],
 .asg (.name 25448) (.AH sf BO []),
 .ifs (.cmp (.var 25448) [(.De,(.cst (.str [0,13,10,133,8232,8233])))]) [.EM 511 [(.cst (.str [119,104,105,108,101,32,115,99,97,110,110,105,110,103,32,97,32,100,105,114,101,99,116,105,118,101])),(.var Af),(.fmt (.cst (.str [101,120,112,101,99,116,101,100,32,97,32,99,111,109,109,101,110,116,32,111,114,32,97,32,108,105,110,101,32,98,114,101,97,107,44,32,98,117,116,32,102,111,117,110,100,32,37,114])) (.var 25448)),(.AH sf Bn [])]] [],
 .expr (.AH sf PZ [])]
def cP:Fn:=⟨[Ar,Af],[],cO⟩
def cQ:List CS:=
 [.ifs (.cmp (.var En) [(.eq,(.cst (.str [34])))]) [.Al] [.asg (.name IU) (.cst (.bool false))],.asg (.name E9) (.lst true []),.asg (.name Af) (.AH sf Bn []),.asg (.name 487301543013) (.AH sf BO []),.expr (.AH sf CQ []),.expr (.AH (.var E9) 111568023285348 [(.AH sf TY [(.var IU),(.var Af)])]),.BQ (.cmp (.AH sf BO []) [(.ne,(.var 487301543013))]) [.Al,.Al],.expr (.AH sf CQ []),.asg (.name An) (.AH sf Bn []),.ret (some (.app (.cst (.cls 499)) [(.AH (.cst (.str [])) 1785686382 [(.var E9)]),(.cst (.bool false)),(.var Af),(.var An),(.var En)]))]
def cR:Fn:=⟨[Ar,En],[],cQ⟩
def cS:List CS:=
 [.asg (.name E9) (.lst true []),.BQ (.cst (.bool true)) [.asg (.name BB) (.cst (.int 0)),.BQ (.cmp (.AH sf BO [(.var BB)]) [(.De,(.cst (.str [39,34,92,0,32,9,13,10,133,8232,8233])))]) [.aug (.name BB) .add (.cst (.int 1))],.ifs (.var BB) [.expr (.AH (.var E9) B2 [(.AH sf G0 [(.var BB)])]),.expr (.AH sf CQ [(.var BB)])] [],.asg (.name 25448) (.AH sf BO []),.ifs (.Aw [(.nt (.var IU)),(.cmp (.var 25448) [(.eq,(.cst (.str [39])))]),(.cmp (.AH sf BO [(.cst (.int 1))]) [(.eq,(.cst (.str [39])))])]) [.Al,.Al] [.ifs (.Bk [(.Aw [(.var IU),(.cmp (.var 25448) [(.eq,(.cst (.str [39])))])]),(.Aw [(.nt (.var IU)),(.cmp (.var 25448) [(.Be,(.cst (.str [34,92])))])])]) [.Al,.Al] [.ifs (.Aw [(.var IU),(.cmp (.var 25448) [(.eq,(.cst (.str [92])))])]) [.Al,.Al,.Al] [.ret (some (.var E9))]]]]]
def cT:Fn:=⟨[Ar,IU,Af],[],cS⟩
def Te:List CS:=
 [.asg (.name E9) (.lst true []),.asg (.name Af) (.AH sf Bn []),.asg (.name An) (.var Af),.asg (.name Eo) (.bin .add (.AF sf Eo) (.cst (.int 1))),.asg (.name 126926507435379) (.lst true []),.BQ (.cst (.bool true)) [.asg (.name BB) (.cst (.int 0)),.ifs (.cmp (.AH sf BO []) [(.eq,(.cst (.str [35])))]) [.Al] [],.BQ (.cst (.bool true)) [.asg (.name 25448) (.AH sf BO [(.var BB)]),.ifs (.Bk [(.cmp (.var 25448) [(.Be,(.cst (.str [0,32,9,13,10,133,8232,8233])))]),(.Aw [(.cmp (.var 25448) [(.eq,(.cst (.str [58])))]),(.cmp (.AH sf BO [(.bin .add (.var BB) (.cst (.int 1)))]) [(.Be,(.bin .add (.cst (.str [0,32,9,13,10,133,8232,8233])) (.ite (.AF sf B4) (.cst (.str [44,91,93,123,125])) (.cst (.str [])))))])]),(.Aw [(.AF sf B4),(.cmp (.var 25448) [(.Be,(.cst (.str [44,63,91,93,123,125])))])])]) [.brk] [],.aug (.name BB) .add (.cst (.int 1))],.ifs (.cmp (.var BB) [(.eq,(.cst (.int 0)))]) [.Al] [],.asg (.AF sf DN) (.cst (.bool false)),.expr (.AH (.var E9) 111568023285348 [(.var 126926507435379)]),.expr (.AH (.var E9) B2 [(.AH sf G0 [(.var BB)])]),.expr (.AH sf CQ [(.var BB)]),.asg (.name An) (.AH sf Bn []),.asg (.name 126926507435379) (.AH sf 39264571658912433033627302113485948937587 [(.var Eo),(.var Af)]),.ifs (.Bk [(.nt (.var 126926507435379)),(.cmp (.AH sf BO []) [(.eq,(.cst (.str [35])))]),(.Aw [(.nt (.AF sf B4)),(.cmp (.AF sf BP) [(.lt,(.var Eo))])])]) [.brk] []],.ret (some (.app (.cst (.cls 499)) [(.AH (.cst (.str [])) 1785686382 [(.var E9)]),(.cst (.bool true)),(.var Af),(.var An)]))]
def cU:Fn:=⟨[Ar],[],Te⟩
def cV:List CS:=
 [.asg (.name E9) (.lst true []),.asg (.name BB) (.cst (.int 0)),.BQ (.cmp (.AH sf BO [(.var BB)]) [(.Be,(.cst (.str [32])))]) [.Al],.asg (.name 144355243943723861950031219) (.AH sf G0 [(.var BB)]),.expr (.AH sf CQ [(.var BB)]),.asg (.name 25448) (.AH sf BO []),.ifs (.cmp (.var 25448) [(.Be,(.cst (.str [13,10,133,8232,8233])))]) [.Al,.Al,.Al,.Al,.Al,.Al,.Al,.Al] [.ifs (.var 144355243943723861950031219) [.Al] []],.ret (some (.var E9))]
def cW:Fn:=⟨[Ar,Eo,Af],[],cV⟩
def cY:List CS:=
 [.asg (.name 25448) (.AH sf BO []),
 .ifs (.cmp (.var 25448) [(.Be,(.cst (.str [13,10,133])))]) [.ifs (.cmp (.AH sf G0 [(.cst (.int 2))]) [(.eq,(.cst (.str [13,10])))]) [.expr (.AH sf CQ [(.cst (.int 2))])] [.expr (.AH sf CQ [])],
   .ret (some (.cst (.str [10])))] [.ifs (.cmp (.var 25448) [(.Be,(.cst (.str [8232,8233])))]) [.expr (.AH sf CQ []),
     .ret (some (.var 25448))] []],
 .ret (some (.cst (.str [])))]
def cZ:Fn:=⟨[Ar],[],cY⟩
def cb:List CS:=
 [.ret (some (.lst false [(.cst (.str [45,45,45])),(.cst (.str [46,46,46])),(.cst (.str [37,100,32,119])),(.cst (.str [119,58])),(.cst (.str [45,32,39,113,39])),(.cst (.str [32,32,119,58,32,39,113,39])),(.cst (.str [32,32,45,32,39,113,39])),(.cst (.str [])),(.cst (.str [35,119])),(.cst (.str [63,32,39,113,39])),(.cst (.str [58,32,39,113,39])),(.cst (.str [45,45,45,32,39,113,39])),(.cst (.str [45,45,45,32,35,119])),(.cst (.str [32,45,45,45,58])),(.cst (.str [45,45,45,119,58,32,39,113,39])),(.cst (.str [46,46,46,32,39,113,39])),(.cst (.str [46,46,46,119,58])),(.cst (.str [45])),(.cst (.str [32,32,63,32,119,58])),(.cst (.str [45,45,45,32,119,58,32,39,113,39])),(.cst (.str [45,45,45,32,45,32,39,113,39])),(.cst (.str [32,37,100])),(.cst (.str [45,32,45,32,119,58])),(.cst (.str [37,89,65,77,76,32,49,46,49])),(.cst (.str [39,113,39])),(.cst (.str [32,32,39,113,39,58,32,39,113,39]))]))]
def cg:Fn:=⟨[],[],cb⟩
def Ep:List CS:=
 [.asg (.name 6583653) (.lst true [(.tup [(.cst (.str [60,115,116,114,101,97,109,32,115,116,97,114,116,62])),(.cst .none),(.cst (.int 0)),(.cst (.int 0)),(.cst (.int 0)),(.cst (.int 0))])]),.asg (.name 110386841151603) (.lst true [(.neg (.cst (.int 1)))]),.asg (.tup [440005915496,512735409267]) (.tup [(.cst (.bool true)),(.cst (.bool false))]),.Cc (.name 110) (.E5 [(.bi .len [(.var DO)])]) [.asg (.name 1718773093) (.var 440005915496),.asg (.name 440005915496) (.cst (.bool true)),.asg (.name 24948) (.cst (.int 0)),.Cc (.name C5) (.it (.AH (.sub (.var DO) (.var 110)) 495807392116 [(.cst (.str [32]))])) [.ifs (.cmp (.Bu false (.var C5) none (some (.cst (.int 1)))) [(.eq,(.cst (.str [35])))]) [.brk] [],.ifs (.cmp (.var C5) [(.eq,(.cst (.str [])))]) [.aug (.name 24948) .add (.cst (.int 1)),.cont] [],.asg (.name 109317377451379) (.Aw [(.cmp (.var 24948) [(.eq,(.cst (.int 0)))]),(.Bk [(.cmp (.var C5) [(.Be,(.lst false [(.cst (.str [45,45,45])),(.cst (.str [46,46,46]))]))]),(.cmp (.sub (.var C5) (.cst (.int 0))) [(.eq,(.cst (.str [37])))])])]),.asg (.name 1701733491) (.lst true []),.BQ (.cmp (.sub (.var 110386841151603) (.neg (.cst (.int 1)))) [(.gt,(.ite (.var 109317377451379) (.neg (.cst (.int 1))) (.var 24948)))]) [.expr (.AH (.var 110386841151603) 7368560 []),.expr (.AH (.var 1701733491) B2 [(.tup [(.cst (.str [60,98,108,111,99,107,32,101,110,100,62])),(.cst .none),(.var 110),(.var 24948),(.var 110),(.var 24948)])])],.ifs (.Aw [(.cmp (.sub (.var C5) (.cst (.int 0))) [(.eq,(.cst (.str [37])))]),(.nt (.var 109317377451379))]) [.ret (some (.tup [(.ite (.var 512735409267) (.Bu false (.var 6583653) none (some (.neg (.cst (.int 1))))) (.var 6583653)),(.tup [(.tup [(.var 110),(.var 24948)]),(.cst .none)])]))] [],.aug (.name 6583653) .add (.var 1701733491),.asg (.name 512735409267) (.cst (.bool false)),.ifs (.Aw [(.var 109317377451379),(.cmp (.sub (.var C5) (.cst (.int 0))) [(.eq,(.cst (.str [37])))])]) [.asg (.name 33325589488824174) (.ite (.cmp (.var C5) [(.eq,(.cst (.str [37,89,65,77,76])))]) (.tup [(.cst (.int 1)),(.cst (.int 1))]) (.cst .none)),.expr (.AH (.var 6583653) B2 [(.tup [(.cst (.str [60,100,105,114,101,99,116,105,118,101,62])),(.var 33325589488824174),(.var 110),(.cst (.int 0)),(.var 110),(.ite (.var 33325589488824174) (.bi .len [(.sub (.var DO) (.var 110))]) (.bi .len [(.var C5)]))])]),.asg (.name 440005915496) (.cst (.bool false)),.brk] [],.asg (.name Bw) (.Aw [(.cmp (.sub (.var C5) (.neg (.cst (.int 1)))) [(.eq,(.cst (.str [58])))]),(.cmp (.var C5) [(.ne,(.cst (.str [58])))])]),.asg (.name 1819242085) (.cmp (.var C5) [(.Be,(.lst false [(.cst (.str [45])),(.cst (.str [63])),(.cst (.str [58]))]))]),.asg (.name 1953459300) (.ite (.var Bw) (.Bu false (.var C5) none (some (.neg (.cst (.int 1))))) (.var C5)),.ifs (.Aw [(.var 1819242085),(.nt (.var 1718773093))]) [.ret (some (.tup [(.var 6583653),(.tup [(.tup [(.var 110),(.var 24948)]),(.cst .none)])]))] [],.ifs (.Aw [(.nt (.Bk [(.var 1819242085),(.var Bw),(.var 109317377451379)])),(.var 1718773093),(.cmp (.sub (.var 110386841151603) (.neg (.cst (.int 1)))) [(.eq,(.var 24948))])]) [.ret (some (.tup [(.var 6583653),(.tup [(.cst .none),(.tup [(.var 110),(.var 24948)])])]))] [],.ifs (.Aw [(.Bk [(.var 1819242085),(.Aw [(.var Bw),(.var 1718773093)])]),(.cmp (.sub (.var 110386841151603) (.neg (.cst (.int 1)))) [(.lt,(.var 24948))])]) [.expr (.AH (.var 110386841151603) B2 [(.var 24948)]),.expr (.AH (.var 6583653) B2 [(.tup [(.ite (.cmp (.var C5) [(.eq,(.cst (.str [45])))]) (.cst (.str [60,98,108,111,99,107,32,115,101,113,117,101,110,99,101,32,115,116,97,114,116,62])) (.cst (.str [60,98,108,111,99,107,32,109,97,112,112,105,110,103,32,115,116,97,114,116,62]))),(.cst .none),(.var 110),(.var 24948),(.var 110),(.var 24948)])])] [],.ifs (.var 109317377451379) [.expr (.AH (.var 6583653) B2 [(.tup [(.ite (.cmp (.var C5) [(.eq,(.cst (.str [45,45,45])))]) (.cst (.str [60,100,111,99,117,109,101,110,116,32,115,116,97,114,116,62])) (.cst (.str [60,100,111,99,117,109,101,110,116,32,101,110,100,62]))),(.cst .none),(.var 110),(.cst (.int 0)),(.var 110),(.cst (.int 3))])])] [.ifs (.var 1819242085) [.expr (.AH (.var 6583653) B2 [(.tup [(.var C5),(.cst .none),(.var 110),(.var 24948),(.var 110),(.bin .add (.var 24948) (.cst (.int 1)))])])] [.ifs (.Aw [(.var Bw),(.var 1718773093)]) [.expr (.AH (.var 6583653) B2 [(.tup [(.cst (.str [63])),(.cst .none),(.var 110),(.var 24948),(.var 110),(.var 24948)])])] [],.expr (.AH (.var 6583653) B2 [(.tup [(.cst (.str [60,115,99,97,108,97,114,62])),(.AH (.var 1953459300) 495874894192 [(.cst (.str [39]))]),(.var 110),(.var 24948),(.var 110),(.bin .add (.var 24948) (.bi .len [(.var 1953459300)]))])]),.ifs (.Aw [(.var Bw),(.nt (.var 1718773093))]) [.ret (some (.tup [(.var 6583653),(.tup [(.tup [(.var 110),(.bin .add (.var 24948) (.bi .len [(.var 1953459300)]))]),(.cst .none)])]))] [],.ifs (.var Bw) [.expr (.AH (.var 6583653) B2 [(.tup [(.cst (.str [58])),(.cst .none),(.var 110),(.bin .add (.var 24948) (.bi .len [(.var 1953459300)])),(.var 110),(.bin .add (.var 24948) (.bi .len [(.var C5)]))])])] [],.asg (.name 512735409267) (.Aw [(.var 1718773093),(.nt (.var Bw))])]],.asg (.name 1718773093) (.Aw [(.var 1718773093),(.var 1819242085)]),.aug (.name 24948) .add (.bin .add (.bi .len [(.var C5)]) (.cst (.int 1)))]],.asg (.name 6647396) (.tup [(.bin .sub (.bi .len [(.var DO)]) (.cst (.int 1))),(.bi .len [(.sub (.var DO) (.neg (.cst (.int 1))))])]),.ret (some (.tup [(.bin .add (.bin .add (.var 6583653) (.bin .mul (.lst false [(.bin .add (.bin .add (.tup [(.cst (.str [60,98,108,111,99,107,32,101,110,100,62])),(.cst .none)]) (.var 6647396)) (.var 6647396))]) (.bin .sub (.bi .len [(.var 110386841151603)]) (.cst (.int 1))))) (.lst false [(.bin .add (.bin .add (.tup [(.cst (.str [60,115,116,114,101,97,109,32,101,110,100,62])),(.cst .none)]) (.var 6647396)) (.var 6647396))])),(.cst .none)]))]
def cj:Fn:=⟨[DO],[],Ep⟩
def Kt:List CS:=
 [.asg (.name DO) (.lst true []),.Cc (.name 110) (.it (.Bk [(.Bu false (.var 126870958469236) none (some (.cst (.int 20)))),(.lst false [(.cst (.int 3))])])) [.asg (.name 7499639) (.sub (.app (.cst (.fn 1057)) []) (.bin .mod (.var 110) (.cst (.int 26)))),.ifs (.cmp (.bi .len [(.AH (.cst (.str [10])) 1785686382 [(.bin .add (.var DO) (.lst false [(.var 7499639)]))])]) [(.le,(.cst (.int 36)))]) [.expr (.AH (.var DO) B2 [(.var 7499639)])] []],.ifs (.cmp (.bin .mod (.bi .len [(.var 126870958469236)]) (.cst (.int 2))) [(.eq,(.cst (.int 1)))]) [.expr (.AH (.var DO) B2 [(.cst (.str []))])] [],.asg (.tup [6583653,32199638076581220]) (.app (.cst (.fn 1064)) [(.var DO)]),.ifs (.Aw [(.cmp (.var 32199638076581220) [(.L9,(.cst .none))]),(.cmp (.sub (.var 32199638076581220) (.cst (.int 0))) [(.IF,(.cst .none))])]) [.asg (.name 482854658917) (.tup [(.bin .sub (.bi .len [(.var DO)]) (.cst (.int 1))),(.bi .len [(.sub (.var DO) (.neg (.cst (.int 1))))])]),.Cc (.name 110) (.E5 [(.bin .sub (.bi .len [(.var DO)]) (.cst (.int 1))),(.sub (.sub (.var 32199638076581220) (.cst (.int 1))) (.cst (.int 0))),(.neg (.cst (.int 1)))]) [.asg (.name 1650553445) (.AH (.sub (.var DO) (.var 110)) 119243130694000 [(.cst (.str [32]))]),.ifs (.Aw [(.var 1650553445),(.cmp (.sub (.var 1650553445) (.cst (.int 0))) [(.ne,(.cst (.str [35])))])]) [.asg (.name 482854658917) (.tup [(.var 110),(.bin .sub (.bi .len [(.sub (.var DO) (.var 110))]) (.bi .len [(.var 1650553445)]))])] []],.asg (.name 32199638076581220) (.tup [(.var 482854658917),(.sub (.var 32199638076581220) (.cst (.int 1)))])] [],.asg (.name 32478892437431666) (.app (.cst (.cls 1048)) [(.AH (.sub (.lst false [(.cst (.str [10])),(.cst (.str [13,10])),(.cst (.str [133]))]) (.bin .mod (.bi .len [(.var 126870958469236)]) (.cst (.int 3)))) 1785686382 [(.var DO)])]),.asg (.name 6778740) (.lst true []),.asg (.name 7169396) (.cst .none),.F9 [.asg (.name 500085515630) (.AH (.var 32478892437431666) 1907325212640903128430 []),.BQ (.cmp (.var 500085515630) [(.L9,(.cst .none))]) [.asg (.name Ci) (.ite (.Bk [(.Cb (.var 500085515630) 499),(.Cb (.var 500085515630) 234)]) (.AF (.var 500085515630) Ci) (.cst .none)),.expr (.AH (.var 6778740) B2 [(.tup [(.AF (.var 500085515630) 26980),(.var Ci),(.AF (.AF (.var 500085515630) Af) CU),(.AF (.AF (.var 500085515630) Af) BP),(.AF (.AF (.var 500085515630) An) CU),(.AF (.AF (.var 500085515630) An) BP)])]),.asg (.name 500085515630) (.AH (.var 32478892437431666) 1907325212640903128430 [])]] 511 435711799154 [.asg (.tup [512852587109,Fc]) (.tup [(.AF (.var 435711799154) He),(.AF (.var 435711799154) Hd)]),.asg (.name 7169396) (.tup [(.tup [(.AF (.var 512852587109) CU),(.AF (.var 512852587109) BP)]),(.ite (.cmp (.var Fc) [(.IF,(.cst .none))]) (.cst .none) (.tup [(.AF (.var Fc) CU),(.AF (.var Fc) BP)]))])],.ret (some (.Aw [(.cmp (.var 6778740) [(.eq,(.var 6583653))]),(.cmp (.var 7169396) [(.eq,(.var 32199638076581220))])]))]
def Hg:Fn:=⟨[126870958469236],[],Kt⟩
abbrev Hh:Nat:=1071
def cq:Cl:=⟨[(Dz,.Aj 35)],[Cw,CR,CU,BP,Dh,DM],[53],false,.BY 35 [(Cw,Cw),(CR,CR),(CU,CU),(BP,BP),(Dh,Dh),(DM,DM)]⟩
def cu:Cl:=⟨[(Dz,.Aj 231),(26980,.val (.str [60,100,105,114,101,99,116,105,118,101,62]))],[Af,An,Cw,Ci],[234,213],false,.BY 231 [(Cw,Cw),(Ci,Ci),(Af,Af),(An,An)]⟩
def cw:Cl:=⟨[(Dz,.Aj 210),(26980,.val (.str [60,100,111,99,117,109,101,110,116,32,115,116,97,114,116,62]))],[Af,An],[246,213],false,.BY 210 [(Af,Af),(An,An)]⟩
def cy:Cl:=⟨[(Dz,.Aj 210),(26980,.val (.str [60,100,111,99,117,109,101,110,116,32,101,110,100,62]))],[Af,An],[258,213],false,.BY 210 [(Af,Af),(An,An)]⟩
def cz:Cl:=⟨[(Dz,.Aj 275),(26980,.val (.str [60,115,116,114,101,97,109,32,115,116,97,114,116,62]))],[Af,An,Fd],[278,213],false,.BY 275 [(Af,Af),(An,An),(Fd,Fd)]⟩
def c5:Cl:=⟨[(Dz,.Aj 210),(26980,.val (.str [60,115,116,114,101,97,109,32,101,110,100,62]))],[Af,An],[290,213],false,.BY 210 [(Af,Af),(An,An)]⟩
def c6:Cl:=⟨[(Dz,.Aj 210),(26980,.val (.str [60,98,108,111,99,107,32,115,101,113,117,101,110,99,101,32,115,116,97,114,116,62]))],[Af,An],[302,213],false,.BY 210 [(Af,Af),(An,An)]⟩
def c7:Cl:=⟨[(Dz,.Aj 210),(26980,.val (.str [60,98,108,111,99,107,32,109,97,112,112,105,110,103,32,115,116,97,114,116,62]))],[Af,An],[314,213],false,.BY 210 [(Af,Af),(An,An)]⟩
def c8:Cl:=⟨[(Dz,.Aj 210),(26980,.val (.str [60,98,108,111,99,107,32,101,110,100,62]))],[Af,An],[326,213],false,.BY 210 [(Af,Af),(An,An)]⟩
def c9:Cl:=⟨[(Dz,.Aj 210),(26980,.val (.str [63]))],[Af,An],[386,213],false,.BY 210 [(Af,Af),(An,An)]⟩
def dA:Cl:=⟨[(Dz,.Aj 210),(26980,.val (.str [58]))],[Af,An],[398,213],false,.BY 210 [(Af,Af),(An,An)]⟩
def dB:Cl:=⟨[(Dz,.Aj 210),(26980,.val (.str [45]))],[Af,An],[410,213],false,.BY 210 [(Af,Af),(An,An)]⟩
def dC:Cl:=⟨[(Dz,.Aj 496),(26980,.val (.str [60,115,99,97,108,97,114,62]))],[Af,An,Ci,482854660462,En],[499,213],false,.BY 496 [(Ci,Ci),(482854660462,482854660462),(Af,Af),(An,An),(En,En)]⟩
def dD:Cl:=⟨[],[Fc,Hd,31651020109800813,He,1852798053],[511,95,67],true,.BY 85 [(Fc,Fc),(Hd,Hd),(31651020109800813,31651020109800813),(He,He),(1852798053,1852798053)]⟩
def dE:Cl:=⟨[(Dz,.Aj 527)],[FA,GK,CR,CU,BP,Bp],[530],false,.BY 527 [(FA,FA),(GK,GK),(CR,CR),(CU,CU),(BP,BP),(Bp,Bp)]⟩
def dF:Cl:=⟨[(Dz,.Aj 550),(BO,.Aj 152),(G0,.Aj 160),(CQ,.Aj 168),(Bn,.Aj 175),(516154792406963383754084634884992101,.Aj 182),(129125580895333,.Aj 189),(1907325212640903128430,.Aj 573),(146741557994772358995325818971779067507,.Aj 580),(34843657776173402854571545973394225065587,.Aj 587),(2706911097435030565291582775057801442222980002752630580601,.Aj 594),(Pa,.Aj 601),(Pc,.Aj 608),(Hf,.Aj 615),(Kr,.Aj 622),(459921455861175972884084,.Aj 629),(8919976390700392993725003937459785502388852,.Aj 636),(136108038188177383327102721213679890020,.Aj 643),(531672024172567626127700373388490341,.Aj 650),(584579572740940650599854114886685077763199693428,.Aj 657),(8919976390700388345334688032328568690536036,.Aj 664),(Pb,.Aj 671),(34843657776173389542164949771022241133177,.Aj 727),(1888878472913432044921,.Aj 734),(123789539600854729672652133,.Aj 741),(31690122137818807532056439909,.Aj 790),(34843657776173394377869666025701401977202,.Aj 804),(123789539600854704086673774,.Aj 811),(516154792406963161747160710519551589,.Aj 818),(567518195983763431480234338668327964402033717876,.Aj 825),(8659640441646780875858067911809203557461604,.Aj 832),(33826720475182735364521902425243471082105,.Aj 839),(1833750191362651415929,.Aj 846),(120176652541142770371032421,.Aj 853),(120176652541142744785054062,.Aj 860),(10051730344681900695319271836629125802190190,.Aj 867),(2340350845987124184783556677564005,.Aj 874),(2573242968238241589948425412787153925849574757,.Aj 881),(724303504555838078616291558954061770276689166674335468647781,.Aj 888),(Pd,.Aj 895),(47467954474563559007797293852160324698962750191275466294882299493,.Aj 923),(153377233042614602538669525734133621106,.Aj 979),(TY,.Aj 989),(544905393847112021666158,.Aj 1010),(39264571658912433033627302113485948937587,.Aj 1017),(PZ,.Aj 1045)],[Cw,G1,2341702975124311297391685803468146,6647654,Dh,DM,540147714924359050487154,540147714926489304523877,Fd,CR,CU,BP,1685024357,B4,Cq,IV,Eo,29676250032141427,DN,Dy],[1048,192],false,.run 550⟩
abbrev tJ:Nat:=35
abbrev tK:Nat:=85
abbrev dG:Nat:=130
abbrev tL:Nat:=144
abbrev DP:Nat:=152
abbrev IW:Nat:=160
abbrev Er:Nat:=168
abbrev tM:Nat:=175
abbrev dH:Nat:=182
abbrev tN:Nat:=189
abbrev tO:Nat:=210
abbrev tP:Nat:=231
abbrev tQ:Nat:=496
abbrev dI:Nat:=550
abbrev Ml:Nat:=573
abbrev IX:Nat:=580
abbrev CJ:Nat:=587
abbrev G2:Nat:=601
abbrev JX:Nat:=608
abbrev JY:Nat:=615
abbrev Ku:Nat:=622
abbrev Tf:Nat:=629
abbrev Mm:Nat:=643
abbrev Tg:Nat:=650
abbrev Th:Nat:=657
abbrev Ti:Nat:=664
abbrev Mn:Nat:=727
abbrev Mo:Nat:=734
abbrev Kx:Nat:=741
abbrev Tj:Nat:=790
abbrev Mp:Nat:=811
abbrev G3:Nat:=825
abbrev Kz:Nat:=832
abbrev tR:Nat:=846
abbrev tS:Nat:=853
abbrev tT:Nat:=860
abbrev Mq:Nat:=867
abbrev Mr:Nat:=874
abbrev dJ:Nat:=923
abbrev dK:Nat:=979
abbrev dM:Nat:=989
abbrev dN:Nat:=1010
abbrev dO:Nat:=1017
abbrev GL:Nat:=1045
abbrev dP:Nat:=1057
abbrev dQ:Nat:=1064
abbrev dR:Nat:=234
abbrev K3:Nat:=246
abbrev K4:Nat:=258
abbrev dS:Nat:=278
abbrev Tn:Nat:=290
abbrev JZ:Nat:=302
abbrev D5:Nat:=314
abbrev dT:Nat:=326
abbrev EU:Nat:=386
abbrev IY:Nat:=398
abbrev Ms:Nat:=410
abbrev tU:Nat:=499
abbrev tV:Nat:=511
abbrev tW:Nat:=530
abbrev tX:Nat:=1048
def Dv:List (Nat×Fn):=[(35,aG),(85,aI),(130,aK),(144,aM),(152,aO),(160,aQ),(168,aR),(175,aT),(182,aU),(189,aW),(210,aY),(231,aa),(275,ae),(496,ag),(527,ai),(550,ak),(573,ao),(580,au),(587,aw),(594,ay),(601,a6),(608,a8),(615,bA),(622,bB),(629,bD),(636,bF),(643,bH),(650,bJ),(657,bL),(664,bN),(671,bP),(727,bR),(734,bT),(741,bV),(790,bY),(804,ba),(811,bh),(818,bk),(825,bq),(832,bu),(839,bx),(846,cA),(853,cC),(860,cE),(867,cF),(874,cH),(881,cJ),(888,cL),(895,cN),(923,cP),(979,cR),(989,cT),(1010,cU),(1017,cW),(1045,cZ),(1057,cg),(1064,cj)]
def Aq:List (Nat×Cl):=[(53,cq),(234,cu),(246,cw),(258,cy),(278,cz),(290,c5),(302,c6),(314,c7),(326,c8),(386,c9),(398,dA),(410,dB),(499,dC),(511,dD),(530,dE),(1048,dF)]
def Bm:List Nat:=[234,499]
def CV:Nat:=1071
def Mt:List Nat:=[3,2,1048,1047,530,529,511,510,499,498,410,409,398,397,386,385,326,325,314,313,302,301,290,289,278,277,258,257,246,245,234,233,213,212,192,191,95,94,67,66,53,52,35,85,130,144,152,160,168,175,182,189,210,231,275,496,527,550,573,580,587,594,601,608,615,622,629,636,643,650,657,664,671,727,734,741,790,804,811,818,825,832,839,846,853,860,867,874,881,888,895,923,979,989,1010,1017,1045,1057,1064,1071,34,84,129,143,151,159,167,174,181,188,209,230,274,495,526,549,572,579,586,593,600,607,614,621,628,635,642,649,656,663,670,726,733,740,789,803,810,817,824,831,838,845,852,859,866,873,880,887,894,922,978,988,1009,1016,1044,1056,1063,1070,78,145,153,161,268,489,538]
end L4
end Internal
section
set_option maxHeartbeats 0
namespace Internal
abbrev pw:uQ:=PySem.Challenge.pw_te0052_04
def K5(ok:Thread->Bool)(stp:vJ->Thread->Option (vJ×Thread)):Nat->vJ->Thread->Option vJ
 |0,_,_=> none
 |n+1,s,t=> match through t with
  |true=> some s
  |false=> match ok t with
   |false=> none
   |true=> match stp s t with
    |some (s',t')=> K5 ok stp n s' t'
    |none=> none
theorem Pe{tb:String->Option wb}{p:uQ}{w:uS}{n₀:Nat}{ann:Option R5}:∀{n:Nat} {s s':vJ} {t:Thread},
 K5 (stepOk n₀ ann) (stepT (denote tb) p w) n s t=some s'->topRun tb p w n₀ ann n s.abs t=some s'.abs
 |0,_,_,_,h=> by cases h
 |n+1,s,s',t,h=> by
  unfold K5 at h;unfold topRun;cases ht:through t with
  |true=> rw [ht]at h;cases h;rfl
  |false=>
   rw [ht]at h;cases hk:stepOk n₀ ann t with
   |false=> rw [hk]at h;cases h
   |true=>
    rw [hk]at h;cases hs:stepT (denote tb) p w s t with
    |none=> rw [hs]at h;cases h
    |some r=> obtain⟨s₂,t₂⟩:=r;rw [hs]at h;rw [stepT_spec hs];exact Pe h
def Tp:Nat->BT->List Obj->BT
 |_,T,[]=> T
 |n,T,o::r=> Tp (n+1) (T.ins n o) r
def Mu(P:Params):BT:=Tp 0 .nil (uZ P).objs.toList
theorem Tq(P:Params):absHeap (Mu P) 11 (uZ P).life=uZ P:=by rfl
def Mv(P:Params)(os:vS):vJ:=⟨Mu P,11,(uZ P).life,#[],vx,vz,os⟩
end Internal
namespace Internal
def vw:uQ:=view pw [38]
def Ja:List Str:=pw.boundNames.filter fun n=> !(n==Str.ofString "law")
end Internal
namespace Internal
theorem Ts(P:Params):((uZ P).isNs mainGlobals&&(#[]:Array GenState).size==0)=true/\(uZ P).objs.size=11/\(uZ P).nsMap mainGlobals "__annotations__"=some (.ref 6):=by refine⟨?_,?_,?_⟩<;>kernel_rfl
theorem tY{p q:uQ}{loose:List Str}{Xt:tm->Bool}{α:Type}{Yf:tm->α}{Ya:uS->α}{N:Nat}(e:opening p=plainProg p.main.scope.names)(hN:uJ 600 N=true)(f:∀s,fenceModules? p s=some s)
 (run:∀(w:uS) (os:vS),(K5 (stepOk 11 (some (.ref 6))) (stepT (denote treeTable) p w) N (Mv w.params os) (topStub p)).map (fun s=>
   (staticsOk (importedModules p.main.body) (uZ w.params) s.abs.heap&&namesBound p s.abs.heap&&gensDone s.abs&&laidKept (uZ w.params) s.abs.heap,
     openSeen q loose (importedModules p.main.body) Xt true s.abs,Yf s.abs))=some (true,openGood q loose,Ya w)):LeftO p q loose Xt Yf Ya N:=fun w=> by
 obtain⟨⟨h,gs,d,k,os⟩,e1,e2⟩:=uF.mp (boot_open e hN f w);obtain⟨rfl,rfl,rfl,rfl⟩:h=uZ w.params/\gs=wa []/\d=vx/\k=vz:=by simpa using e2
 obtain⟨s1,r1,r2⟩:=uF.mp (run w os);obtain⟨l1,l2,l3⟩:_/\_/\_:=by simpa only [Prod.mk.injEq]using r2
 have r:=Pe r1;have eb:(Mv w.params os).abs=⟨uZ w.params,wa [],vx,vz,os⟩:=by show(⟨absHeap (Mu w.params) 11 (uZ w.params).life,_,_,_,_⟩:tm)=_;rw [Tq];rfl
 rw [eb]at r;obtain⟨z1,z2,z3⟩:=Ts w.params;have t:topFrom treeTable p w N ⟨uZ w.params,wa [],vx,vz,os⟩=some s1.abs:=by unfold topFrom;dsimp only;rw [z1,z2,z3,r];show(match staticsOk (importedModules p.main.body) (uZ w.params) s1.abs.heap&&namesBound p s1.abs.heap&&gensDone s1.abs&&laidKept (uZ w.params) s1.abs.heap with |true=> _ |false=> _)=_;rw [l1]
 unfold openEnds;rw [e1];show(topFrom treeTable p w N _).map _=_;rw [t];exact congrArg some (Prod.ext l2 l3)
end Internal
end
section
set_option maxHeartbeats 0
namespace Internal
theorem dU:PySem.Challenge.rw_te0052_04.wellSaid=true:=by
 unfold OpenLaw.wellSaid OpenRow.wellSaid OpenRow.partSaid
 repeat' with_reducible refine look_both ?_ ?_
 all_goals first
  |(rw [Fast.te12908688711261696721];decide+kernel)
  |(rw [Fast.te8326940854005059898];decide+kernel)
  |(rw [Fast.te17119622794617984870];decide+kernel)
  |(rw [Fast.te8179353310426384613];decide+kernel)
  |(rw [Fast.te9558739934217749035];decide+kernel)
  |(rw [Fast.te16286561074155671207];decide+kernel)
  |(rw [Fast.te10501279942588096481];decide+kernel)
  |(rw [Fast.named_eq];decide+kernel)
  |decide+kernel
end Internal
end
section
set_option maxHeartbeats 0
namespace Internal
def Mw(L:List Nat)(T:BT):Frag:=L.map fun a=> (a,((T.get a).bind alive).getD ⟨.none,none,.plain,#[]⟩)
def Pf(L:List Nat)(T:BT)(n:Nat):Bool:=L.all (fun a=> Nat.blt a n&&(match T.get a with |some o=> (alive o).isSome |none=> false))
def Tt(o:Option (Option R5))(a:Nat):Bool:=match o with
 |some (some (.ref b))=> ua b a
 |_=> false
def Pg(L:List Nat)(Aq:List (Nat×Cl))(Bm:List Nat)(CV:Nat)(zN:Fn)(fl:List (Nat×Fn))(BR:Nat->List PS)(K:Frag):Bool:=
 allB [(K.lookup mainGlobals).any (fun o=> match o.data with | .dict _ _=> true |_=> false),TX K Aq Bm,Tt (Gy (Gz K) ("law":tq)) CV,IT pw K (Gy (Gz K)) (Gw Aq) 1 CV zN (BR CV),fl.all fun p=> IT pw K (Gy (Gz K)) (Gw Aq) 0 p.1 p.2 (BR p.1)]
def Mx(K:Frag)(fl:List (Nat×Fn)):List (Option (List Stmt)):=fl.map fun p=> Kq K p.1
def G4(fl:List (Nat×Fn))(BR:Nat->List PS):List (Option (List Stmt)):=fl.map fun p=> some (Fb p.2.body (BR p.1))
theorem dW{L:List Nat}{T:BT}{n:Nat}{life:Life}(h:Pf L T n=true):(Mw L T).In (absHeap T n life):=by
 intro a o e;unfold Mw at e
 induction L with
 |nil=> cases e
 |cons b r ih=>
  obtain⟨h1,h2⟩:=t6.mp (show((Nat.blt b n&&(match T.get b with |some o=> (alive o).isSome |none=> false))&&Pf r T n)=true from h);rw [ud,ug]at e;by_cases hab:(a==b)=true
  . rw [hab]at e;cases e;rw [eq_of_beq hab];obtain⟨g1,g2⟩:=t6.mp h1;have g1:b<n:=uH g1;cases ht:T.get b with
    |none=> rw [ht]at g2;cases g2
    |some o=> rw [ht]at g2;rw [abs_get g1 ht];obtain⟨o',ho⟩:=wd.mp (show(alive o).isSome=true from g2);rw [ho];show some o'=some (((some o).bind alive).getD _);show some o'=some ((alive o).getD _);rw [ho];rfl
  . rw [Bool.not_eq_true]at hab;rw [hab]at e;exact ih h2 e
def YS(L:List Nat)(Aq:List (Nat×Cl))(Bm:List Nat)(CV:Nat)(zN:Fn)(fl:List (Nat×Fn))(BR:Nat->List PS)(h:Heap):Prop:=
 ∃K:Frag,K.In h/\Pg L Aq Bm CV zN fl BR K=true/\Mx K ((CV,zN)::fl)=G4 ((CV,zN)::fl) BR
abbrev K6(L:List Nat)(Aq:List (Nat×Cl))(Bm:List Nat)(CV:Nat)(zN:Fn)(fl:List (Nat×Fn))(BR:Nat->List PS)(s:vJ):Bool×Bool×List (Option (List Stmt)):=
 (Pf L s.tree s.n,Pg L Aq Bm CV zN fl BR (Mw L s.tree),Mx (Mw L s.tree) ((CV,zN)::fl))
theorem dX{L:List Nat}{Aq:List (Nat×Cl)}{Bm:List Nat}{CV:Nat}{zN:Fn}{fl:List (Nat×Fn)}{BR:Nat->List PS}{s:vJ}(h:K6 L Aq Bm CV zN fl BR s=(true,true,G4 ((CV,zN)::fl) BR)):YS L Aq Bm CV zN fl BR s.abs.heap:=by obtain⟨h1,h2⟩:=vP h;obtain⟨h2,h3⟩:=vP h2;exact⟨_,dW h1,h2,h3⟩
abbrev Hi(w:uS)(b:Bool)(N:Nat)(q:uQ)(loose:List Str)(Xt:tm->Bool)(see:vJ->Bool×Bool×List (Option (List Stmt)))(R:List (Option (List Stmt)))(os:vS):Prop:=
 (K5 (stepOk 11 (some (.ref 6))) (stepT (denote treeTable) pw (w.withFollow "special-get-raises" b)) N (Mv w.params os) (topStub pw)).map (fun s=>
   (staticsOk (importedModules pw.main.body) (uZ w.params) s.abs.heap&&namesBound pw s.abs.heap&&gensDone s.abs&&laidKept (uZ w.params) s.abs.heap,
     openSeen q loose (importedModules pw.main.body) Xt true s.abs,see s))=some (true,openGood q loose,true,true,R)
theorem dY{q:uQ}{loose:List Str}{Xt:tm->Bool}{N:Nat}{L:List Nat}{Aq:List (Nat×Cl)}{Bm:List Nat}{CV:Nat}{zN:Fn}{fl:List (Nat×Fn)}{BR:Nat->List PS}
 (e:opening pw=plainProg pw.main.scope.names) (hN:uJ 600 N=true) (f:∀s,fenceModules? pw s=some s)
 (ACB:∀(w:uS) (os:vS),Hi w false N q loose Xt (K6 L Aq Bm CV zN fl BR) (G4 ((CV,zN)::fl) BR) os) (ACC:∀(w:uS) (os:vS),Hi w true N q loose Xt (K6 L Aq Bm CV zN fl BR) (G4 ((CV,zN)::fl) BR) os):
 LeftO pw q loose Xt (fun s=> YS L Aq Bm CV zN fl BR s.heap) (fun _=> True) N:=fun w=> by
 obtain(⟨⟨h,gs,d,k,os⟩,e1,e2⟩):=uF.mp (boot_open e hN f w);obtain(⟨rfl,rfl,rfl,rfl⟩):h=uZ w.params/\gs=wa []/\d=vx/\k=vz:=by simpa using e2
 have run:∃b,w.withFollow "special-get-raises" b=w/\Hi w b N q loose Xt (K6 L Aq Bm CV zN fl BR) (G4 ((CV,zN)::fl) BR) os:=by
  refine⟨w.params.followText "special-get-raises",World.withFollow_self w _,?_⟩;cases w.params.followText "special-get-raises"
  . exact ACB w os
  . exact ACC w os
 obtain(⟨b,hb,run⟩):=run;unfold Hi at run;rw [hb]at run;obtain(⟨s1,r1,r2⟩):=uF.mp run;obtain(⟨l1,r2⟩):=vP r2;obtain(⟨l2,l3⟩):=vP r2;have r:=Pe r1;have eb:(Mv w.params os).abs=⟨uZ w.params,wa [],vx,vz,os⟩:=by show(⟨absHeap (Mu w.params) 11 (uZ w.params).life,_,_,_,_⟩:tm)=_;rw [Tq];rfl
 rw [eb]at r;obtain(⟨z1,z2,z3⟩):=Ts w.params;have t:topFrom treeTable pw w N ⟨uZ w.params,wa [],vx,vz,os⟩=some s1.abs:=by unfold topFrom;dsimp only;rw [z1,z2,z3,r];show(match staticsOk (importedModules pw.main.body) (uZ w.params) s1.abs.heap&&namesBound pw s1.abs.heap&&gensDone s1.abs&&laidKept (uZ w.params) s1.abs.heap with |true=> _ |false=> _)=_;rw [l1]
 unfold openEnds;rw [e1];show(topFrom treeTable pw w N _).map _=_;rw [t];exact congrArg some (Prod.ext l2 (eq_true (dX l3)))
end Internal
end
section
set_option maxHeartbeats 0
namespace Internal
def Tu(s:Stmt):List (List Stmt):=match s with
 | .FunctionDef _ _ b .. =>[b]
 |_=>[]
def dZ(s:Stmt):List (List Stmt):=match s with
 | .ClassDef _ _ _ b .. => b.flatMap Tu
 |s=> Tu s
def dc:List (Nat×Nat):=[(35,1),(85,4),(130,8),(144,9),(152,10),(160,11),(168,12),(175,13),(182,14),(189,15),(210,16),(231,17),(275,18),(496,22),(527,23),(550,24),(573,27),(580,28),(587,29),(594,30),(601,31),(608,32),(615,33),(622,34),(629,35),(636,36),(643,37),(650,38),(657,39),(664,40),(671,41),(727,49),(734,50),(741,51),(790,58),(804,60),(811,61),(818,62),(825,63),(832,64),(839,65),(846,66),(853,67),(860,68),(867,69),(874,70),(881,71),(888,72),(895,73),(923,77),(979,85),(989,86),(1010,89),(1017,90),(1045,94),(1057,95),(1064,96),(1071,97)]
def BR(a:Nat):List PS:=(((pw.main.body.flatMap dZ)[(DB dc a).getD 0]?).getD []).map (IQ 60)
abbrev My:tm->Bool:=fun s=> xlAt vw [] s&&recOk [] s
abbrev Tv:vJ->Bool×Bool×List (Option (List Stmt)):=K6 L4.Mt L4.Aq L4.Bm L4.Hh L4.Hg L4.Dv BR
theorem dg(w:uS)(os:vS):Hi w false 10300 vw Ja My Tv (G4 ((L4.Hh,L4.Hg)::L4.Dv) BR) os:=by
 unfold Hi;rw [yW,yS,yT,yU,yX,yY]
 kernel_rfl
theorem dh(w:uS)(os:vS):Hi w true 10300 vw Ja My Tv (G4 ((L4.Hh,L4.Hg)::L4.Dv) BR) os:=by
 unfold Hi;rw [yW,yS,yT,yU,yX,yY]
 kernel_rfl
theorem dk:LeftO pw vw Ja My (fun s=> YS L4.Mt L4.Aq L4.Bm L4.Hh L4.Hg L4.Dv BR s.heap) (fun _=> True) 10300:=
 dY (by kernel_rfl) rfl (fun _=> rfl) dg dh
end Internal
end
namespace Internal
abbrev Led:=List (Addr×Obj)
structure Wd where
 r:Nat->Addr
 lv:Nat->Prop
 fz:Led
structure Wd.le(W V:Wd):Prop where
 lv:∀i,W.lv i->V.lv i
 r:∀i,W.lv i->V.r i=W.r i
 fz:∀p∈W.fz,p∈V.fz
theorem Wd.le_rfl(W:Wd):W.le W:=⟨fun _ h=> h,fun _ _=> rfl,fun _ h=> h⟩
theorem Wd.le.trans{U V W:Wd}(a:U.le V)(b:V.le W):U.le W:=
 ⟨fun i h=> b.lv i (a.lv i h),fun i h=> (b.r i (a.lv i h)).trans (a.r i h),fun p h=> b.fz p (a.fz p h)⟩
abbrev G5(vs:List R5)(n:Nat):Obj:={cls:=.type "tuple",data:=.seq vs.toArray n}
def Kn(B:Heap)(W:Wd)(a:Addr)(o:Obj):Prop:=(a,o)∈W.fz∨B.get? a=some o
theorem Kn.mono{B:Heap}{W V:Wd}{a:Addr}{o:Obj}(x:Kn B W a o)(h:W.le V):Kn B V a o:=x.imp (h.fz _) id
def BN(s:List Nat):Prop:=s.length<=lim/\∀c∈s,c<1114112
inductive TupAt(B:Heap)(W:Wd)(R:List R5->Prop):R5->Prop
 |mk {v:R5} (a:Addr) (vs:List R5) (k:Nat) (e:v= .ref a) (q:Kn B W a (G5 vs k)) (m:R vs):TupAt B W R v
inductive Tw(B:Heap)(W:Wd)(R:List R5->Prop):R5->Prop
 |mk {v:R5} (a:Addr) (vs:List R5) (k:Nat) (e:v= .ref a) (q:Kn B W a (listOf vs.toArray k)) (m:R vs):Tw B W R v
inductive Tx(B:Heap)(W:Wd)(c:Addr)(R:List uP->Prop):R5->Prop
 |mk {v:R5} (x:Addr) (ox:Obj) (dx:Addr) (es:List uP) (k:Nat) (e:v= .ref x) (q:Kn B W x ox) (c1:ox.cls= .ref c) (c2:ox.dict=some dx) (c3:notCls ox=true) (q2:Kn B W dx (dictOf es k)) (m:R es):Tx B W c R v
mutual
def AK(B:Heap)(W:Wd):AV->R5->Prop
 | .none,v=> v= .none
 | .bool b,v=> v= .bool b
 | .int i,v=> ∃t,v= .int i t
 | .str s,v=> (∃t,v= .str (AJ s) t)/\BN s
 | .tup xs,v=> TupAt B W (AX B W xs) v/\xs.length<=lim
 | .Ae xs,v=> Tw B W (AX B W xs) v/\xs.length<=lim
 | .obj c fs,v=> Tx B W c (A5 B W fs) v
 | .ref i,v=> v= .ref (W.r i)/\W.lv i
 | .fn a,v=> v= .ref a
 | .cls a,v=> v= .ref a
 | .Gm,v=> ∃s t,v= .str s t
def AX(B:Heap)(W:Wd):List AV->List R5->Prop
 | [],[]=> True
 |x::xs,v::vs=> AK B W x v/\AX B W xs vs
 | [],_::_=> False
 |_::_,[]=> False
def A5(B:Heap)(W:Wd):List (N×AV)->List uP->Prop
 | [],[]=> True
 |p::xs,e::es=> ((∃t,e.key= .str (nm p.1) t)/\AK B W p.2 e.val)/\A5 B W xs es
 | [],_::_=> False
 |_::_,[]=> False
end
def D6(o:Obj):Prop:=o.cls= .type "tuple"∨o.cls= .type "list"∨o.cls= .type "dict"∨∃c,o.cls= .ref c
mutual
def Es(n:Nat->Prop):AV->Prop
 | .ref i=> n i
 | .tup xs=> IZ n xs
 | .Ae xs=> IZ n xs
 | .obj _ fs=> G6 n fs
 |_=> True
def IZ(n:Nat->Prop):List AV->Prop
 | []=> True
 |x::xs=> Es n x/\IZ n xs
def G6(n:Nat->Prop):List (N×AV)->Prop
 | []=> True
 |x::xs=> Es n x.2/\G6 n xs
end
mutual
theorem AK.lt'{B:Heap}{W:Wd}:∀{x:AV} {v:R5},AK B W x v->Es W.lv x
 | .none,_,_=> trivial
 | .bool _,_,_=> trivial
 | .int _,_,_=> trivial
 | .str _,_,_=> trivial
 | .tup _,_,h=> let⟨⟨_,_,_,_,_,m⟩,_⟩:=h;AX.lt' m
 | .Ae _,_,h=> let⟨⟨_,_,_,_,_,m⟩,_⟩:=h;AX.lt' m
 | .obj _ _,_,h=> let⟨_,_,_,_,_,_,_,_,_,_,_,m⟩:=h;A5.lt' m
 | .ref _,_,h=> h.2
 | .fn _,_,_=> trivial
 | .cls _,_,_=> trivial
 | .Gm,_,_=> trivial
theorem AX.lt'{B:Heap}{W:Wd}:∀{x:List AV} {v:List R5},AX B W x v->IZ W.lv x
 | [],_,_=> trivial
 |_::_,_::_,r=> ⟨AK.lt' r.1,AX.lt' r.2⟩
 |_::_,[],r=> r.elim
theorem A5.lt'{B:Heap}{W:Wd}:∀{x:List (N×AV)} {v:List uP},A5 B W x v->G6 W.lv x
 | [],_,_=> trivial
 |_::_,_::_,r=> ⟨AK.lt' r.1.2,A5.lt' r.2⟩
 |_::_,[],r=> r.elim
end
structure Wd.To(B:Heap)(W V:Wd)(n:Nat->Prop):Prop where
 kn:∀a o,D6 o->Kn B W a o->Kn B V a o
 r:∀i,n i->V.r i=W.r i/\V.lv i
mutual
theorem AK.gen{B:Heap}{W V:Wd}{n:Nat->Prop}(T:Wd.To B W V n):∀{x:AV} {v:R5},AK B W x v->Es n x->AK B V x v
 | .none,_,r,_=> r
 | .bool _,_,r,_=> r
 | .int _,_,r,_=> r
 | .str _,_,r,_=> r
 | .tup _,_,h,b=> let⟨⟨a,vs,k,e,q,m⟩,l⟩:=h;⟨⟨a,vs,k,e,T.kn _ _ (.inl rfl) q,AX.gen T m b⟩,l⟩
 | .Ae _,_,h,b=> let⟨⟨a,vs,k,e,q,m⟩,l⟩:=h;⟨⟨a,vs,k,e,T.kn _ _ (.inr (.inl rfl)) q,AX.gen T m b⟩,l⟩
 | .obj c _,_,h,b=> let⟨x,ox,dx,es,k,e,q,c1,c2,c3,q2,m⟩:=h;⟨x,ox,dx,es,k,e,T.kn _ _ (.inr (.inr (.inr ⟨c,c1⟩))) q,c1,c2,c3,T.kn _ _ (.inr (.inr (.inl rfl))) q2,A5.gen T m b⟩
 | .ref i,_,h,b=> ⟨(T.r i b).1▸h.1,(T.r i b).2⟩
 | .fn _,_,r,_=> r
 | .cls _,_,r,_=> r
 | .Gm,_,r,_=> r
theorem AX.gen{B:Heap}{W V:Wd}{n:Nat->Prop}(T:Wd.To B W V n):∀{x:List AV} {v:List R5},AX B W x v->IZ n x->AX B V x v
 | [],v,r,_=> by
   cases v with
   |nil=> trivial
   |cons _ _=> exact r.elim
 |_::_,v,r,b=> by
  cases v with
  |nil=> exact r.elim
  |cons _ _=> exact⟨AK.gen T r.1 b.1,AX.gen T r.2 b.2⟩
theorem A5.gen{B:Heap}{W V:Wd}{n:Nat->Prop}(T:Wd.To B W V n):∀{x:List (N×AV)} {v:List uP},A5 B W x v->G6 n x->A5 B V x v
 | [],v,r,_=> by
   cases v with
   |nil=> trivial
   |cons _ _=> exact r.elim
 |_::_,v,r,b=> by
  cases v with
  |nil=> exact r.elim
  |cons _ _=> exact⟨⟨r.1.1,AK.gen T r.1.2 b.1⟩,A5.gen T r.2 b.2⟩
end
theorem Wd.le.to{B:Heap}{W V:Wd}(h:W.le V):Wd.To B W V W.lv:=⟨fun _ _ _ k=> k.mono h,fun i l=> ⟨h.r i l,h.lv i l⟩⟩
theorem AK.mono{B:Heap}{W V:Wd}(h:W.le V){x:AV}{v:R5}(r:AK B W x v):AK B V x v:=r.gen h.to r.lt'
theorem AX.mono{B:Heap}{W V:Wd}(h:W.le V){x:List AV}{v:List R5}(r:AX B W x v):AX B V x v:=r.gen h.to r.lt'
theorem A5.mono{B:Heap}{W V:Wd}(h:W.le V){x:List (N×AV)}{v:List uP}(r:A5 B W x v):A5 B V x v:=r.gen h.to r.lt'
theorem AX.length{B:Heap}{W:Wd}:∀{x:List AV} {v:List R5},AX B W x v->x.length=v.length
 | [],v,r=> by
   cases v with
   |nil=> rfl
   |cons _ _=> exact r.elim
 |_::_,v,r=> by
  cases v with
  |nil=> exact r.elim
  |cons _ _=> exact congrArg (· +1) (AX.length r.2)
theorem AX.append{B:Heap}{W:Wd}:∀{x y:List AV} {v u:List R5},AX B W x v->AX B W y u->AX B W (x++y) (v++u)
 | [],_,v,_,r,h=> by
   cases v with
   |nil=> exact h
   |cons _ _=> exact r.elim
 |_::_,_,v,_,r,h=> by
  cases v with
  |nil=> exact r.elim
  |cons _ _=> exact⟨r.1,AX.append r.2 h⟩
theorem AX.get{B:Heap}{W:Wd}:∀{x:List AV} {v:List R5} {i:Nat} {a:AV},AX B W x v->x[i]? =some a->∃b,v[i]? =some b/\AK B W a b
 | [],_,_,_,_,e=> nomatch e
 |_::_,v,i,_,r,e=> by
  cases v with
  |nil=> exact r.elim
  |cons b _=>
   cases i with
   |zero=> exact⟨b,rfl,uR e▸r.1⟩
   |succ i=> exact AX.get (i:=i) r.2 e
theorem AX.take{B:Heap}{W:Wd}:∀{x:List AV} {v:List R5} (k:Nat),AX B W x v->AX B W (x.take k) (v.take k)
 | [],v,k,r=> by
   cases v with
   |nil=> rw [List.take_nil,List.take_nil];trivial
   |cons _ _=> exact r.elim
 |_::_,v,k,r=> by
  cases v with
  |nil=> exact r.elim
  |cons _ _=>
   cases k with
   |zero=> trivial
   |succ k=> exact⟨r.1,AX.take k r.2⟩
theorem AX.drop{B:Heap}{W:Wd}:∀{x:List AV} {v:List R5} (k:Nat),AX B W x v->AX B W (x.drop k) (v.drop k)
 | [],v,k,r=> by
   cases v with
   |nil=> rw [List.drop_nil,List.drop_nil];trivial
   |cons _ _=> exact r.elim
 |_::_,v,k,r=> by
  cases v with
  |nil=> exact r.elim
  |cons _ _=>
   cases k with
   |zero=> exact r
   |succ k=> exact AX.drop k r.2
theorem Tz{e:uP}{n:N}{t:Tok}(h:e.key= .str (nm n) t):e.key.isStr (nm n)=true:=by rw [h];exact beq_self_eq_true (nm n)
theorem Pj{e:uP}{n a:N}{t:Tok}(h:e.key= .str (nm n) t)(hn:¬n=a):e.key.isStr (nm a)=false:=by rw [h];exact beq_eq_false_iff_ne.mpr fun q=> hn (JN q)
theorem T3{e:uP}{n:tq}{t:Tok}(h:e.key= .str n t):e.refKey=false:=by rw [DictEntry.refKey,h]
theorem dm{n:tq}{e:uP}{es:List uP}(h:e.key.isStr n=true):getL n (e::es)=some (some e.val):=by have q:(e::es).find? (·.key.isStr n)=some e:=List.find?_cons_of_pos h;unfold getL;rw [q]
theorem T5{n:tq}{e:uP}{es:List uP}(h:e.key.isStr n=false)(hr:e.refKey=false):getL n (e::es)=getL n es:=by have q:(e::es).find? (·.key.isStr n)=es.find? (·.key.isStr n):=List.find?_cons_of_neg (by rw [h];exact nofun);unfold getL;rw [q,xc,hr,wV]
theorem A5.look{B:Heap}{W:Wd}{a:N}:∀{fs:List (N×AV)} {es:List uP} {x:AV},A5 B W fs es->Internal.look a fs=some x->∃v,getL (nm a) es=some (some v)/\AK B W x v
 | [],_,_,_,e=> cNS e
 |(n,y)::fs,e'::es,x,r,e=> by
  obtain⟨⟨⟨t,hk⟩,hv⟩,r2⟩:=r;refine Dq (show(if n=a then some y else Internal.look a fs)=some x from e) (fun hn e=> ?_) (fun hn e=> ?_)
  . exact⟨e'.val,dm (hn▸Tz hk),uR e▸hv⟩
  . obtain⟨v,h1,h2⟩:=A5.look r2 e;exact⟨v,(T5 (Pj hk hn) (T3 hk)).trans h1,h2⟩
 |_::_,[],_,r,_=> r.elim
theorem A5.miss{B:Heap}{W:Wd}{a:N}:∀{fs:List (N×AV)} {es:List uP},A5 B W fs es->Internal.look a fs=none->getL (nm a) es=some none
 | [],[],_,_=> rfl
 |(n,y)::fs,e'::es,r,e=> by obtain⟨⟨⟨t,hk⟩,hv⟩,r2⟩:=r;exact Dq (show(if n=a then some y else Internal.look a fs)=none from e) (fun hn e=> cSN e) (fun hn e=> (T5 (Pj hk hn) (T3 hk)).trans (A5.miss r2 e))
 | [],_::_,r,_=> r.elim
 |(_,_)::_,[],r,_=> r.elim
theorem A5.put{B:Heap}{W:Wd}{a:N}{x:AV}{v:R5}(hx:AK B W x v)(zy:Int)(t:Tok):∀{fs:List (N×AV)} {es:List uP},A5 B W fs es->
 A5 B W (Internal.put a x fs) (putL (nm a) zy (.str (nm a) t) v es)
 | [],[],_=> ⟨⟨⟨t,rfl⟩,hx⟩,trivial⟩
 |(n,y)::fs,e'::es,r=> by
  obtain⟨⟨⟨t',hk⟩,hv⟩,r2⟩:=r;rw [Zx];unfold putL;by_cases hn:n=a
  . rw [if_pos hn,if_pos (hn▸Tz hk)];exact⟨⟨⟨t',hn▸hk⟩,hx⟩,r2⟩
  . rw [if_neg hn,if_neg (by rw [Pj hk hn];exact nofun)];exact⟨⟨⟨t',hk⟩,hv⟩,A5.put hx zy t r2⟩
 | [],_::_,r=> r.elim
 |(_,_)::_,[],r=> r.elim
theorem A5.len{B:Heap}{W:Wd}:∀{fs:List (N×AV)} {es:List uP},A5 B W fs es->fs.length=es.length
 | [],[],_=> rfl
 |(_,_)::_,_::_,r=> by simp [A5.len r.2]
 | [],_::_,r=> r.elim
 |(_,_)::_,[],r=> r.elim
def DQ(B:Heap)(W:Wd)(l:List (N×AV))(m:tq->Option R5):Prop:=∀x a,look x l=some a->∃v,m (nm x)=some v/\AK B W a v
theorem DQ.mono{B:Heap}{W V:Wd}{l:List (N×AV)}{m:tq->Option R5}(r:DQ B W l m)(h:W.le V):DQ B V l m:=fun x a e=> let⟨v,h1,h2⟩:=r x a e;⟨v,h1,h2.mono h⟩
theorem Jb{α:Type}(x y:N)(v:α):∀l:List (N×α),look x (put y v l)=if x=y then some v else look x l
 | []=> by
   show(if y=x then some v else none)=_;by_cases h:y=x
   . subst h;simp
   . rw [if_neg h,if_neg (vK h)];rfl
 |(z,w)::r=> by
  unfold put;by_cases h:z=y
  . subst h;rw [if_pos rfl];show(if z=x then some v else look x r)=if x=z then some v else(if z=x then some w else look x r)
    by_cases q:z=x
    . subst q;simp
    . rw [if_neg q,if_neg (vK q),if_neg q]
  . rw [if_neg h];show(if z=x then some w else look x (put y v r))=if x=y then some v else(if z=x then some w else look x r)
    rw [Jb x y v r];by_cases q:z=x
    . subst q;rw [if_pos rfl,if_pos rfl,if_neg h]
    . rw [if_neg q,if_neg q]
theorem DQ.put{B:Heap}{W:Wd}{l:List (N×AV)}{m:tq->Option R5}{x:N}{a:AV}{v:R5}(r:DQ B W l m)(h:AK B W a v):
 DQ B W (put x a l) (fun y=> if y=nm x then some v else m y):=fun y b e=> by
 rw [Jb]at e;by_cases q:y=x
 . subst q;rw [if_pos rfl]at e;cases e;exact⟨v,if_pos rfl,h⟩
 . rw [if_neg q]at e;obtain⟨u,h1,h2⟩:=r y b e;exact⟨u,by show(if nm y=nm x then some v else m (nm y))=some u;rw [if_neg fun z=> q (JN z)];exact h1,h2⟩
section
section
variable(prog:uQ)(w:uS)(B:Heap)
def Mz(a:AV):Option tq:=(Bl a).map AJ
def Bc{K:Type}(of:AV->Option K)(W:Wd):List (AV×AV)->List (K×R5)->Prop
 | [],[]=> True
 |p::r,q::t=> of p.1=some q.1/\AK B W p.2 q.2/\Bc of W r t
 | [],_::_=> False
 |_::_,[]=> False
def Fe(W:Wd)(es:List (AV×AV))(o:Obj):Prop:=
 (∃kvs,o.IsDictOf (vC prog w) kvs/\Bc B Bb W es kvs)∨(∃kvs,o.IsDictOf (PySem.strKind prog w) kvs/\Bc B Mz W es kvs)
def Jc(n:Nat->Prop):List (AV×AV)->Prop
 | []=> True
 |x::xs=> Es n x.2/\Jc n xs
variable{B}in
theorem Bc.lt'{K:Type}{of:AV->Option K}{W:Wd}:∀{x:List (AV×AV)} {v:List (K×R5)},Bc B of W x v->Jc W.lv x
 | [],_,_=> trivial
 |_::_,_::_,r=> ⟨r.2.1.lt',Bc.lt' r.2.2⟩
 |_::_,[],r=> r.elim
variable{B}in
theorem Bc.gen{K:Type}{of:AV->Option K}{W V:Wd}{n:Nat->Prop}(T:Wd.To B W V n):∀{x:List (AV×AV)} {v:List (K×R5)},Bc B of W x v->Jc n x->Bc B of V x v
 | [],[],_,_=> trivial
 |_::_,_::_,r,b=> ⟨r.1,r.2.1.gen T b.1,Bc.gen T r.2.2 b.2⟩
 | [],_::_,r,_=> r.elim
 |_::_,[],r,_=> r.elim
variable{prog w B}in
theorem Fe.lt'{W:Wd}{es:List (AV×AV)}{o:Obj}(r:Fe prog w B W es o):Jc W.lv es:=r.elim (fun⟨_,_,b⟩=> b.lt') (fun⟨_,_,b⟩=> b.lt')
variable{prog w B}in
theorem Fe.gen{W V:Wd}{n:Nat->Prop}(T:Wd.To B W V n){es:List (AV×AV)}{o:Obj}(r:Fe prog w B W es o)(h:Jc n es):Fe prog w B V es o:=
 r.imp (fun⟨k,a,b⟩=> ⟨k,a,b.gen T h⟩) (fun⟨k,a,b⟩=> ⟨k,a,b.gen T h⟩)
def oLt(n:Nat->Prop):AObj->Prop
 | .lst xs=> IZ n xs
 | .A4 es=> Jc n es
 | .ins _ fs=> G6 n fs
inductive T6(W:Wd)(M:Led)(ow:Addr->Nat)(i:Nat)(xs:List AV):Prop
 |mk (vs:List R5) (k:Nat) (h1:(W.r i,listOf vs.toArray k)∈M) (h2:ow (W.r i)=i) (h3:AX B W xs vs) (h4:xs.length<=lim)
inductive T7(W:Wd)(M:Led)(ow:Addr->Nat)(i:Nat)(es:List (AV×AV)):Prop
 |mk (o:Obj) (h1:(W.r i,o)∈M) (h2:ow (W.r i)=i) (h3:(W.r i==sysModules)=false) (h4:Fe prog w B W es o) (h5:es.length<=lim)
inductive dq(W:Wd)(M:Led)(ow:Addr->Nat)(i:Nat)(c:Nat)(fs:List (N×AV)):Prop
 |mk (dx:Addr) (es:List uP) (k:Nat) (h1:(W.r i,instObj c dx)∈M) (h2:ow (W.r i)=i) (h3:(dx,dictOf es k)∈M) (h4:ow dx=i) (h5:A5 B W fs es)
def D7(W:Wd)(M:Led)(ow:Addr->Nat)(i:Nat):AObj->Prop
 | .lst xs=> T6 B W M ow i xs
 | .A4 es=> T7 prog w B W M ow i es
 | .ins c fs=> dq B W M ow i c fs
structure Di(W:Wd)(M:Led)(ow:Addr->Nat)(hp:Hp):Prop where
 n:W.lv=hp.lv
 nd:(M.map (·.1)).Nodup
 dj:∀p∈W.fz,∀q∈M,p.1≠q.1
 cell:∀i,hp.lv i->D7 prog w B W M ow i (hp.f i)
end
def B7(d:Addr)(o':Obj)(M:Led):Led:=M.map fun p=> if p.1=d then(d,o')else p
theorem du(d:Addr)(o':Obj)(M:Led):(B7 d o' M).map (·.1)=M.map (·.1):=by
 unfold B7;rw [vO];refine vW fun p _=> ?_;show(if p.1=d then(d,o')else p).1=p.1;split
 . rename_i h;exact h.symm
 . rfl
theorem T8{d:Addr}{o':Obj}{M:Led}{a:Addr}{o:Obj}(h:(a,o)∈M)(ne:a≠d):(a,o)∈B7 d o' M:=
 uj.mpr ⟨(a,o),h,if_neg ne⟩
theorem Pk{d:Addr}{o o':Obj}{M:Led}(h:(d,o)∈M):(d,o')∈B7 d o' M:=
 uj.mpr ⟨(d,o),h,if_pos rfl⟩
theorem T9{M:Led}{p:Addr×Obj}(h:p∈M):p.1∈M.map (·.1):=vX h
theorem Pl{fz:Led}{d:Addr}{o o':Obj}:∀{M:Led},(d,o)∈M->(M.map (·.1)).Nodup->(∀p∈fz,p.1≠d)->Upd d o o' (M++fz) (B7 d o' M++fz)
 |p::r,hm,nd,dj=> by
  rw [ud,vF]at nd;by_cases e:p.1=d
  . have hr:∀q∈r,q.1≠d:=fun q hq z=> nd.1 (by rw [e,<-z];exact T9 hq);have hp:p=(d,o):=by
     cases hm with
     |head=> rfl
     |tail _ h=> exact absurd rfl (hr _ h)
    subst hp;have er:B7 d o' r=r:=by unfold B7;refine(vW fun q hq=> if_neg (hr q hq)).trans (xg r)
    show Upd d o o' ((d,o)::(r++fz)) ((if d=d then(d,o')else(d,o))::(B7 d o' r++fz));rw [if_pos rfl,er];exact .head fun q hq=> (uN.mp hq).elim (hr q) (dj q)
  . have hm':(d,o)∈r:=by
     cases hm with
     |head=> exact absurd rfl e
     |tail _ h=> exact h
    show Upd d o o' (p::(r++fz)) ((if p.1=d then(d,o')else p)::(B7 d o' r++fz));rw [if_neg e];exact .tail e (Pl hm' nd.2 dj)
theorem M0{fz:Led}{d:Addr}{o:Obj}:∀{M:Led},(d,o)∈M->(M.map (·.1)).Nodup->(∀p∈fz,p.1≠d)->UpdF d o (M++fz) (fun o'=> B7 d o' M++fz)
 |p::r,hm,nd,dj=> by
  rw [ud,vF]at nd;by_cases e:p.1=d
  . have hr:∀q∈r,q.1≠d:=fun q hq z=> nd.1 (by rw [e,<-z];exact T9 hq);have hp:p=(d,o):=by
     cases hm with
     |head=> rfl
     |tail _ h=> exact absurd rfl (hr _ h)
    subst hp;have er:∀o',B7 d o' r=r:=fun o'=> by unfold B7;refine(vW fun q hq=> if_neg (hr q hq)).trans (xg r)
    have:(fun o'=> B7 d o' ((d,o)::r)++fz)=fun o'=> (d,o')::(r++fz):=by
     funext o'
     show(if d=d then(d,o')else(d,o))::(B7 d o' r++fz)=_;rw [if_pos rfl,er]
    rw [this];exact .head fun q hq=> (uN.mp hq).elim (hr q) (dj q)
  . have hm':(d,o)∈r:=by
     cases hm with
     |head=> exact absurd rfl e
     |tail _ h=> exact h
    have:(fun o'=> B7 d o' (p::r)++fz)=fun o'=> p::(B7 d o' r++fz):=by
     funext o'
     show(if p.1=d then(d,o')else p)::(B7 d o' r++fz)=_;rw [if_neg e]
    rw [this];exact .tail e (M0 hm' nd.2 dj)
section
variable{prog:uQ}{w:uS}{B:Heap}{W:Wd}{M:Led}{ow:Addr->Nat}{hp:Hp}
theorem D7.lt'{i:Nat}{x:AObj}(r:D7 prog w B W M ow i x):oLt W.lv x:=by
 cases x with
 |lst _=> obtain⟨_,_,_,_,h,_⟩:=r;exact h.lt'
 |A4 _=> obtain⟨_,_,_,_,h,_⟩:=r;exact h.lt'
 |ins _ _=> obtain⟨_,_,_,_,_,_,_,h⟩:=r;exact h.lt'
theorem D7.gen{V:Wd}{n:Nat->Prop}{j:Nat}{x:AObj}(T:Wd.To B W V n){N:Led}{zC:Addr->Nat}(hr:V.r j=W.r j)(hM:∀p∈M,ow p.1=j->p∈N/\zC p.1=j)(r:D7 prog w B W M ow j x)(h:oLt n x):D7 prog w B V N zC j x:=by
 cases x with
 |lst _=> obtain⟨vs,k,h1,h2,h3,h4⟩:=r;exact⟨vs,k,hr.symm▸(hM _ h1 h2).1,hr.symm▸(hM _ h1 h2).2,h3.gen T h,h4⟩
 |A4 _=> obtain⟨o,h1,h2,h3,h4,h5⟩:=r;exact⟨o,hr.symm▸(hM _ h1 h2).1,hr.symm▸(hM _ h1 h2).2,hr.symm▸h3,h4.gen T h,h5⟩
 |ins _ _=> obtain⟨dx,es,k,h1,h2,h3,h4,h5⟩:=r;exact⟨dx,es,k,hr.symm▸(hM _ h1 h2).1,hr.symm▸(hM _ h1 h2).2,(hM _ h3 h4).1,(hM _ h3 h4).2,h5.gen T h⟩
theorem D7.other{i j:Nat}{d:Addr}{o':Obj}(hd:ow d=i)(ne:j≠i){x:AObj}(r:D7 prog w B W M ow j x):D7 prog w B W (B7 d o' M) ow j x:=
 r.gen W.le_rfl.to rfl (fun p hp h=> ⟨T8 hp fun z=> ne (by rw [<-h,z,hd]),h⟩) r.lt'
theorem Di.turn(H:Di prog w B W M ow hp){i:Nat}(hi:hp.lv i){d:Addr}{o':Obj}{x:AObj}(hd:ow d=i)(r:D7 prog w B W (B7 d o' M) ow i x):
 Di prog w B W (B7 d o' M) ow (hp.set i x):=by
 refine⟨H.n.trans (hp.Ke i x).symm,by rw [du];exact H.nd,fun p yu q hq=> ?_,fun j hj=> ?_⟩
 . obtain⟨q',hq',e⟩:=uj.mp hq;have:q.1=q'.1:=by
    rw [<-e];split
    . rename_i z;exact z.symm
    . rfl
   rw [this];exact H.dj p yu q' hq'
 . rw [hp.Ke]at hj;rw [Hp.MP x hi];by_cases e:j=i
   . subst e;rw [if_pos rfl];exact r
   . rw [if_neg e];exact(H.cell j hj).other hd e
theorem D7.grow{V:Wd}{j:Nat}{x:AObj}(h:W.le V)(hj:W.lv j){N:Led}{zC:Addr->Nat}(hM:∀p∈M,p∈N)(ho:∀p∈M,zC p.1=ow p.1)(r:D7 prog w B W M ow j x):D7 prog w B V N zC j x:=
 r.gen h.to (h.r j hj) (fun p hp e=> ⟨hM p hp,(ho p hp).trans e⟩) r.lt'
def Wd.add(W:Wd)(k:Nat)(a:Addr):Wd:=⟨fun i=> if i=k then a else W.r i,fun i=> W.lv i∨i=k,W.fz⟩
theorem Wd.Hj{W:Wd}{k:Nat}(a:Addr)(h:¬W.lv k):W.le (W.add k a):=⟨fun _ h=>.inl h,fun i l=> if_neg fun(e:i=k)=> h (e▸l),fun _ h=> h⟩
def K7(ow:Addr->Nat)(n:Nat)(as:List Addr):Addr->Nat:=fun a=> if a∈as then n else ow a
theorem Di.nl(H:Di prog w B W M ow hp){k:Nat}{yu:Hp}{x:AObj}(g:hp.ET yu k x):¬W.lv k:=H.n▸g.nl
theorem Di.add(H:Di prog w B W M ow hp){yu:Hp}{k:Nat}{N:Led}{a:Addr}{x:AObj}(g:hp.ET yu k x)(nd:(N.map (·.1)).Nodup)(fr:∀p∈N,∀q∈M++W.fz,p.1≠q.1)
 (r:D7 prog w B (W.add k a) (N++M) (K7 ow k (N.map (·.1))) k x):Di prog w B (W.add k a) (N++M) (K7 ow k (N.map (·.1))) yu:=by
 have hn:=H.n;refine⟨by rw [g.lv,<-hn];rfl,?_,fun p yu q hq=> ?_,fun j hj=> ?_⟩
 . rw [uB];refine List.nodup_append.mpr ⟨nd,H.nd,fun a ha b hb=> ?_⟩;obtain⟨p,hp,rfl⟩:=uj.mp ha;obtain⟨q,hq,rfl⟩:=uj.mp hb;exact fr p hp q (uK _ hq)
 . rcases uN.mp hq with hq |hq
   . exact vK (fr q hq p (uC _ yu))
   . exact H.dj p yu q hq
 . by_cases e:j=k
   . subst e;rw [g.at];exact r
   . rw [g.lv]at hj;have hj':hp.lv j:=hj.elim id fun z=> absurd z e;rw [g.old hj'];refine(H.cell j hj').grow (W.Hj a (H.nl g)) (hn▸hj') (fun p h=> uC _ h) fun p h=> if_neg fun hm=> ?_;obtain⟨q,hq,e⟩:=uj.mp hm;exact fr q hq p (uK _ h) e
def Wd.CK(W:Wd)(L:Led):Wd:=⟨W.r,W.lv,L++W.fz⟩
theorem Wd.Cr(W:Wd)(L:Led):W.le (W.CK L):=⟨fun _ h=> h,fun _ _=> rfl,fun _ h=> uC _ h⟩
theorem Di.CK(H:Di prog w B W M ow hp){L:Led}(fr:∀p∈L,∀q∈M,p.1≠q.1):Di prog w B (W.CK L) M ow hp:=
 ⟨H.n,H.nd,fun p yu q hq=> (uN.mp yu).elim (fun h=> fr p h q hq) (fun h=> H.dj p h q hq),
   fun j hj=> (H.cell j hj).grow (W.Cr L) (by rw [H.n];exact hj) (fun _ h=> h) fun _ _=> rfl⟩
end
theorem News.sub{h₀ h:Heap}{L:Addr}{l l':Led}(N:News h₀ L h l)(s:∀p∈l',p∈l):News h₀ L h l':=fun p hp=> N p (s p hp)
end
section
structure Gx where
 prog:uQ
 w:uS
 K:Frag
 p:uQ
 loose:List tq
 UA:ExcName->Option R5
 mg:tq->Option R5
 mb:tq->Option R5
 B:Heap
 os:vS
structure Fx where
 cn:tq
 cs:u3
 L:Addr
 ca:Addr
 cd:R5
 g:Heap
 outer:List Env
 A₀:tx
 cl:List (tq×Addr)
def Fx.env(f:Fx):Env:=envX f.cn f.cs f.L f.ca f.cd f.cl
structure AP(G:Gx)(f:Fx):Prop where
 below:Below f.A₀ G.B f.outer f.g
 X:G.K.In f.g
 T:Top G.p G.loose G.UA G.mg G.mb f.g
 fn:f.cs.kind= .function
structure Bx(f:Fx)(d:Nat)(A:tx):Prop where
 fr:A.frames=some (f.env::f.outer)
 hd:A.handled=none
 dp:A.depth+3 * d+10<recursionLimit
 un:A.units+30 * d+200<cLine
structure FC(f:Fx)(d:Nat)(A:tx):Prop where
 fr:A.frames=some (f.env::f.outer)
 hd:A.handled=none
 dp:A.depth+3 * d+8<recursionLimit
 un:A.units+30 * d+190<cLine
theorem Bx.room{f:Fx}{d:Nat}{A:tx}(h:Bx f d A):A.units+200<cLine:=by have:=h.un;exact A7 this
theorem Bx.weak{f:Fx}{d:Nat}{A:tx}(h:Bx f d A):FC f d A:=⟨h.fr,h.hd,by have:=h.dp;exact A7 this,by have:=h.un;exact A7 this⟩
theorem Bx.type{f:Fx}{d:Nat}{A:tx}(h:Bx f d A)(C:Addr)(vs:List R5)(kw:List (tq×R5)):FC f d (A.under (.builtin "type.__call__" ⟨.ref C::vs,kw⟩)):=
 ⟨h.fr,h.hd,by have:=h.dp;show A.depth+1+3 * d+8<_;exact A7 this,by have:=h.un;show A.units+1+30 * d+190<_;exact A7 this⟩
theorem Bx.less{f:Fx}{d e:Nat}{A:tx}(h:Bx f d A)(le:e<=d):Bx f e A:=⟨h.fr,h.hd,by have:=h.dp;lia,by have:=h.un;lia⟩
structure Inv(G:Gx)(f:Fx)(W:Wd)(l:List (N×AV))(hp:Hp)(M:Led)(ow:Addr->Nat)(m:tq->Option R5)(s:tm):Prop where
 fr:Fr f.g f.L s.heap m
 nw:News f.g f.L s.heap (M++W.fz)
 hi:Di G.prog G.w G.B W M ow hp
 lr:DQ G.B W l m
 gn:s.gens= #[]
 os:s.os=G.os
abbrev XP:=Wd->AV->List (N×AV)->Hp->R5->tm->Prop
inductive Ff(G:Gx)(f:Fx)(W:Wd)(r:Out AV)(v:R5)(s:tm):Prop
 |mk (a:_) (σ:_) (W':_) (M:_) (ow:_) (m:_) (za:r= .ok a σ) (zb:W.le W') (ze:Inv G f W' σ.loc σ.hp M ow m s) (zt:AK G.B W' a v)
inductive UB(G:Gx)(f:Fx)(W:Wd)(r:Out (List AV))(v:List R5)(s:tm):Prop
 |mk (a:_) (σ:_) (W':_) (M:_) (ow:_) (m:_) (za:r= .ok a σ) (zb:W.le W') (ze:Inv G f W' σ.loc σ.hp M ow m s) (zt:AX G.B W' a v)
inductive K8(G:Gx)(f:Fx)(W:Wd)(r:Out Bool)(v:Bool)(s:tm):Prop
 |mk (σ:_) (W':_) (M:_) (ow:_) (m:_) (za:r= .ok v σ) (zb:W.le W') (ze:Inv G f W' σ.loc σ.hp M ow m s)
inductive UC(G:Gx)(f:Fx)(W:Wd)(r:Out Unit)(s:tm):Prop
 |mk (σ:_) (W':_) (M:_) (ow:_) (m:_) (za:r= .ok () σ) (zb:W.le W') (ze:Inv G f W' σ.loc σ.hp M ow m s)
def M4(B:Heap)(W:Wd):Flow->uo->Prop
 | .next,.next=> True
 | .brk,.brk=> True
 | .cont,.cont=> True
 | .ret a,.ret v=> AK B W a v
 |_,_=> False
inductive Hk(G:Gx)(f:Fx)(W:Wd)(r:Out Flow)(v:uo)(s:tm):Prop
 |mk (a:_) (σ:_) (W':_) (M:_) (ow:_) (m:_) (za:r= .ok a σ) (zb:W.le W') (ze:Inv G f W' σ.loc σ.hp M ow m s) (zt:M4 G.B W' a v)
inductive A9{α:Type}(X:XP)(W:Wd)(r:Out α)(e:R5)(s:tm):Prop
 |mk (x:_) (σ:_) (W':_) (za:r= .exc x σ) (zb:W.le W') (ze:X W' x σ.loc σ.hp e s)
theorem CC{α β:Type}{r:Out α}{k:α->St->Out β}(h:r.bind k≠ .bad):r≠ .bad:=by
 rintro rfl;exact h rfl
theorem CD{α β:Type}{r:Out α}{a:α}{σ:St}{k:α->St->Out β}(e:r= .ok a σ):r.bind k=k a σ:=by rw [e];rfl
theorem dw{α β:Type}{r:Out α}{a:AV}{σ:St}{k:α->St->Out β}(e:r= .exc a σ):r.bind k= .exc a σ:=by rw [e];rfl
inductive UD{α γ:Type}(r:Option α)(k:α->γ)(Z:γ):Prop
 |mk (a:α) (h1:r=some a) (h2:k a=Z)
theorem BK{α β:Type}{r:Option α}{k:α->Out β}{Z:Out β}(h:AR r k=Z)(ne:Z≠ .bad):UD r k Z:=by
 cases r with
 |none=> exact absurd h.symm ne
 |some a=> exact⟨a,rfl,h⟩
theorem dz{α β:Type}{r:Option α}{k:α->Out β}(h:AR r k≠ .bad):∃a,r=some a/\AR r k=k a:=by
 cases r with
 |none=> exact absurd rfl h
 |some a=> exact⟨a,rfl,rfl⟩
section
variable{G:Gx}{f:Fx}{A:tx}{X:XP}{W:Wd}{s:tm}{M:um}
theorem A9.le{α:Type}{V:Wd}{r:Out α}{e:R5}(h:W.le V)(x:A9 X V r e s):A9 X W r e s:=by obtain⟨a,σ,W',h1,h2,h3⟩:=x;exact⟨a,σ,W',h1,h.trans h2,h3⟩
theorem A9.bind{α β:Type}{r:Out α}{k:α->St->Out β}{e:R5}(x:A9 X W r e s):A9 X W (r.bind k) e s:=by obtain⟨a,σ,W',h1,h2,h3⟩:=x;exact⟨a,σ,W',dw h1,h2,h3⟩
theorem Ff.le{V:Wd}{r:Out AV}{v:R5}(h:W.le V)(x:Ff G f V r v s):Ff G f W r v s:=by obtain⟨a,σ,W',M,ow,m,h1,h2,h3,h4⟩:=x;exact⟨a,σ,W',M,ow,m,h1,h.trans h2,h3,h4⟩
theorem K8.le{V:Wd}{r:Out Bool}{v:Bool}(h:W.le V)(x:K8 G f V r v s):K8 G f W r v s:=by obtain⟨σ,W',M,ow,m,h1,h2,h3⟩:=x;exact⟨σ,W',M,ow,m,h1,h.trans h2,h3⟩
theorem Hk.le{V:Wd}{r:Out Flow}{v:uo}(h:W.le V)(x:Hk G f V r v s):Hk G f W r v s:=by obtain⟨a,σ,W',M,ow,m,h1,h2,h3,h4⟩:=x;exact⟨a,σ,W',M,ow,m,h1,h.trans h2,h3,h4⟩
end
section
variable{G:Gx}{f:Fx}{W:Wd}{l:List (N×AV)}{hp:Hp}{M:Led}{ow:Addr->Nat}{m:tq->Option R5}{s:tm}
theorem Inv.tok(I:Inv G f W l hp M ow m s)(k:Nat):Inv G f W l hp M ow m {s with toks:=k}:=⟨I.fr,I.nw,I.hi,I.lr,I.gn,I.os⟩
theorem Inv.kn(I:Inv G f W l hp M ow m s)(O:AP G f){a:Addr}{o:Obj}(h:Kn G.B W a o):s.heap.get? a=some o:=
 h.elim (fun h=> (I.nw _ (uC _ h)).1) fun h=> I.fr.keep _ _ (O.below.stays _ _ h)
theorem Inv.mem(I:Inv G f W l hp M ow m s){a:Addr}{o:Obj}(h:(a,o)∈M):s.heap.get? a=some o:=(I.nw _ (uK _ h)).1
theorem Inv.X(I:Inv G f W l hp M ow m s)(O:AP G f):G.K.In s.heap:=O.X.keeps I.fr.keep
theorem Inv.ok{A:tx}{mo:um}{Q:R5->tm->Prop}{E:R5->tm->Prop}{r:Out AV}{a:AV}{v:R5}{σ:St}(I:Inv G f W σ.loc σ.hp M ow m s)(h:r= .ok a σ)(hv:AK G.B W a v):Ff G f W r v s:=
 ⟨a,σ,W,M,ow,m,h,W.le_rfl,I,hv⟩
end
end
section
abbrev mo(G:Gx):um:=model G.prog G.w
abbrev Dj(G:Gx)(f:Fx)(A:tx)(X:XP)(W:Wd)(t:Sem R5)(Z:Out AV)(s:tm):Prop:=wpAny (mo G) A t (Ff G f W Z) (A9 X W Z) s
abbrev Pm(G:Gx)(f:Fx)(A:tx)(X:XP)(W:Wd)(t:Sem (List R5))(Z:Out (List AV))(s:tm):Prop:=wpAny (mo G) A t (UB G f W Z) (A9 X W Z) s
abbrev K9(G:Gx)(f:Fx)(A:tx)(X:XP)(W:Wd)(t:Sem Bool)(Z:Out Bool)(s:tm):Prop:=wpAny (mo G) A t (K8 G f W Z) (A9 X W Z) s
abbrev Pn(G:Gx)(f:Fx)(A:tx)(X:XP)(W:Wd)(t:Sem Unit)(Z:Out Unit)(s:tm):Prop:=wpAny (mo G) A t (fun _ s=> UC G f W Z s) (A9 X W Z) s
abbrev Ia(G:Gx)(f:Fx)(A:tx)(X:XP)(W:Wd)(t:Sem uo)(Z:Out Flow)(s:tm):Prop:=wpAny (mo G) A t (Hk G f W Z) (A9 X W Z) s
def AW(G:Gx)(f:Fx)(A:tx)(X:XP)(t:Sem R5)(ev:St->Out AV):Prop:=
 ∀W l hp M ow m s Z,ev ⟨l,hp⟩=Z->Inv G f W l hp M ow m s->Z≠ .bad->Dj G f A X W t Z s
def B8(G:Gx)(f:Fx)(A:tx)(X:XP)(t:Sem Bool)(ev:St->Out Bool):Prop:=
 ∀W l hp M ow m s Z,ev ⟨l,hp⟩=Z->Inv G f W l hp M ow m s->Z≠ .bad->K9 G f A X W t Z s
def A6(G:Gx)(f:Fx)(A:tx)(X:XP)(t:Sem uo)(ev:St->Out Flow):Prop:=
 ∀W l hp M ow m s Z,ev ⟨l,hp⟩=Z->Inv G f W l hp M ow m s->Z≠ .bad->Ia G f A X W t Z s
section
variable{G:Gx}{f:Fx}{A:tx}{X:XP}{W:Wd}{l:List (N×AV)}{hp:Hp}{M:Led}{ow:Addr->Nat}{m:tq->Option R5}{s:tm}
theorem Inv.V{U:Wd}{Z:Out AV}{a:AV}{v:R5}(I:Inv G f W l hp M ow m s)(e:Out.ok a ⟨l,hp⟩=Z)(h:U.le W)(r:AK G.B W a v):Ff G f U Z v s:=⟨a,_,W,M,ow,m,e.symm,h,I,r⟩
theorem Inv.Vs{U:Wd}{Z:Out (List AV)}{a:List AV}{v:List R5}(I:Inv G f W l hp M ow m s)(e:Out.ok a ⟨l,hp⟩=Z)(h:U.le W)(r:AX G.B W a v):UB G f U Z v s:=⟨a,_,W,M,ow,m,e.symm,h,I,r⟩
theorem Inv.Bo{U:Wd}{Z:Out Bool}{a:Bool}(I:Inv G f W l hp M ow m s)(e:Out.ok a ⟨l,hp⟩=Z)(h:U.le W):K8 G f U Z a s:=⟨_,W,M,ow,m,e.symm,h,I⟩
theorem Inv.U{U:Wd}{Z:Out Unit}(I:Inv G f W l hp M ow m s)(e:Out.ok () ⟨l,hp⟩=Z)(h:U.le W):UC G f U Z s:=⟨_,W,M,ow,m,e.symm,h,I⟩
theorem Inv.F{U:Wd}{Z:Out Flow}{a:Flow}{v:uo}(I:Inv G f W l hp M ow m s)(e:Out.ok a ⟨l,hp⟩=Z)(h:U.le W)(r:M4 G.B W a v):Hk G f U Z v s:=⟨a,_,W,M,ow,m,e.symm,h,I,r⟩
end
section
variable{G:Gx}{f:Fx}{A:tx}{X:XP}
theorem d4{k pos env}:AW G f A X (eval (.Constant .none k pos) env) fun s=>.ok .none s:=
 fun W l hp M ow m s Z eR I _=> wpAny_Constant_none (I.V eR W.le_rfl rfl)
theorem d5{b k pos env}:AW G f A X (eval (.Constant (.bool b) k pos) env) fun s=>.ok (.bool b) s:=
 fun W l hp M ow m s Z eR I _=> wpAny_Constant_bool (I.V eR W.le_rfl rfl)
theorem d6{i k pos env}:AW G f A X (eval (.Constant (.int i) k pos) env) fun s=>.ok (.int i) s:=
 fun W l hp M ow m s Z eR I _=> wpAny_Constant_int ((I.tok _).V eR W.le_rfl ⟨_,rfl⟩)
theorem d7{x:tq}{c:List Nat}{k pos env}(e:x=AJ c)(h:BN c):AW G f A X (eval (.Constant (.str x) k pos) env) fun s=>.ok (.str c) s:=
 fun W l hp M ow m s Z eR I _=> wpAny_Constant_str ((I.tok _).V eR W.le_rfl ⟨⟨_,by rw [e]⟩,h⟩)
theorem Jd{x:N}{pos:Pos}(hk:f.cs.kind= .function)(hl:f.cs.names.lookup (nm x)=some .local)(hd:(nm x==("__debug__":tq))=false):
 AW G f A X (eval (.Name (nm x) pos) f.env) fun s=> AR (look x s.loc) fun v=>.ok v s:=fun W l hp M ow m s Z eR I ne=> by
 refine cps fun yv yt=> ?_;obtain⟨a,h1,eR⟩:=BK eR ne;obtain⟨v,h3,h4⟩:=I.lr x a h1;refine yt ?_;exact xW I.fr h3 (I.V eR W.le_rfl h4) hk hl hd
theorem d8{x:tq}{pos:Pos}{v:R5}{a:AV}(O:AP G f)(e:nsIn G.K mainGlobals x=some (some v))(hv:∀W,AK G.B W a v)
 (hx:f.cs.names.lookup x=some .globalImplicit) (hd:(x==("__debug__":tq))=false):AW G f A X (eval (.Name x pos) f.env) fun s=>.ok a s:=fun W l hp M ow m s Z eR I _=>
 PySem.W.nameX_K I.fr O.X (topRead_of O.T) e (I.V eR W.le_rfl (hv W)) O.fn hx hd
theorem Ib{x:tq}{pos:Pos}{v:R5}{Q:R5->tm->Prop}{E:R5->tm->Prop}{W l hp M ow m s}(I:Inv G f W l hp M ow m s)(O:AP G f)(e:nsIn G.K mainGlobals x=some none)(hv:bootBuiltins x=some v)
 (hn:x≠"__name__") (h:Q v s) (hx:f.cs.names.lookup x=some .globalImplicit) (hd:(x==("__debug__":tq))=false):wpAny (mo G) A (eval (.Name x pos) f.env) Q E s:=
 PySem.W.nameX_B I.fr O.X (topRead_of O.T) e hv hn h O.fn hx hd
end
section
variable{G:Gx}{f:Fx}{A:tx}{X:XP}{U W:Wd}{s:tm}{β:Type}
theorem FD{α:Type}{r:Out α}{k:α->St->Out β}{Z:Out β}(eR:r.bind k=Z)(hU:U.le W){e:R5}{s':tm}(x:A9 X W r e s'):A9 X U Z e s':=eR▸x.bind.le hU
theorem Au{t:Sem R5}{r:Out AV}{k:AV->St->Out β}{Z:Out β}{C:R5->tm->Prop}(eR:r.bind k=Z)(hU:U.le W)(h:r≠ .bad->Dj G f A X W t r s)(ne:Z≠ .bad)
 (next:∀a σ V L ow m v s',k a σ=Z->U.le V->W.le V->Inv G f V σ.loc σ.hp L ow m s'->AK G.B V a v->Z≠ .bad->C v s'):
 wpAny (mo G) A t C (A9 X U Z) s:=
 uG (h (CC (eR▸ne))) (fun v s' ⟨a,σ,V,L,ow,m,h1,h2,h3,h4⟩=> next a σ V L ow m v s' ((CD h1).symm.trans eR) (hU.trans h2) h2 h3 h4 ne) fun _ _ x=> FD eR hU x
theorem Fh{t:Sem (List R5)}{r:Out (List AV)}{k:List AV->St->Out β}{Z:Out β}{C:List R5->tm->Prop}(eR:r.bind k=Z)(hU:U.le W)(h:r≠ .bad->Pm G f A X W t r s)(ne:Z≠ .bad)
 (next:∀a σ V L ow m v s',k a σ=Z->U.le V->W.le V->Inv G f V σ.loc σ.hp L ow m s'->AX G.B V a v->Z≠ .bad->C v s'):
 wpAny (mo G) A t C (A9 X U Z) s:=
 uG (h (CC (eR▸ne))) (fun v s' ⟨a,σ,V,L,ow,m,h1,h2,h3,h4⟩=> next a σ V L ow m v s' ((CD h1).symm.trans eR) (hU.trans h2) h2 h3 h4 ne) fun _ _ x=> FD eR hU x
theorem Po{t:Sem (List R5)}{r:Out (List AV)}{k:List AV->St->Out β}{Z:Out β}{C:List R5->tm->Prop}(eR:r.bind k=Z)(hU:U.le W)(h:r≠ .bad->Pm G f A X W t r s)(ne:Z≠ .bad)
 (next:∀a σ V L ow m v s',r= .ok a σ->k a σ=Z->U.le V->W.le V->Inv G f V σ.loc σ.hp L ow m s'->AX G.B V a v->C v s'):
 wpAny (mo G) A t C (A9 X U Z) s:=
 uG (h (CC (eR▸ne))) (fun v s' ⟨a,σ,V,L,ow,m,h1,h2,h3,h4⟩=> next a σ V L ow m v s' h1 ((CD h1).symm.trans eR) (hU.trans h2) h2 h3 h4) fun _ _ x=> FD eR hU x
theorem bind_assoc{α γ δ:Type}(r:Out α)(k:α->St->Out γ)(k':γ->St->Out δ):(r.bind k).bind k'=r.bind fun a s=> (k a s).bind k':=by cases r<;>rfl
inductive d9{α γ δ:Type}(r:Option α)(k:α->Out γ)(k':γ->St->Out δ)(Z:Out δ):Prop
 |mk (a:α) (h1:r=some a) (h2:(k a).bind k'=Z)
theorem Hl{α γ δ:Type}{r:Option α}{k:α->Out γ}{k':γ->St->Out δ}{Z:Out δ}(h:(AR r k).bind k'=Z)(ne:Z≠ .bad):d9 r k k' Z:=by
 cases r with
 |none=> exact absurd h.symm ne
 |some a=> exact⟨a,rfl,h⟩
theorem Ic{t:Sem Bool}{r:Out Bool}{k:Bool->St->Out β}{Z:Out β}{C:Bool->tm->Prop}(eR:r.bind k=Z)(hU:U.le W)(h:r≠ .bad->K9 G f A X W t r s)(ne:Z≠ .bad)
 (next:∀a σ V L ow m s',k a σ=Z->U.le V->W.le V->Inv G f V σ.loc σ.hp L ow m s'->Z≠ .bad->C a s'):
 wpAny (mo G) A t C (A9 X U Z) s:=
 uG (h (CC (eR▸ne))) (fun v s' ⟨σ,V,L,ow,m,h1,h2,h3⟩=> next v σ V L ow m s' ((CD h1).symm.trans eR) (hU.trans h2) h2 h3 ne) fun _ _ x=> FD eR hU x
theorem Pp{t:Sem Unit}{r:Out Unit}{k:Unit->St->Out β}{Z:Out β}{C:Unit->tm->Prop}(eR:r.bind k=Z)(hU:U.le W)(h:r≠ .bad->Pn G f A X W t r s)(ne:Z≠ .bad)
 (next:∀σ V L ow m s',k () σ=Z->U.le V->W.le V->Inv G f V σ.loc σ.hp L ow m s'->Z≠ .bad->C () s'):
 wpAny (mo G) A t C (A9 X U Z) s:=
 uG (h (CC (eR▸ne))) (fun v s' ⟨σ,V,L,ow,m,h1,h2,h3⟩=> next σ V L ow m s' ((CD h1).symm.trans eR) (hU.trans h2) h2 h3 ne) fun _ _ x=> FD eR hU x
theorem M5{t:Sem uo}{r:Out Flow}{k:Flow->St->Out β}{Z:Out β}{C:uo->tm->Prop}(eR:r.bind k=Z)(hU:U.le W)(h:r≠ .bad->Ia G f A X W t r s)(ne:Z≠ .bad)
 (next:∀a σ V L ow m v s',k a σ=Z->U.le V->W.le V->Inv G f V σ.loc σ.hp L ow m s'->M4 G.B V a v->Z≠ .bad->C v s'):
 wpAny (mo G) A t C (A9 X U Z) s:=
 uG (h (CC (eR▸ne))) (fun v s' ⟨a,σ,V,L,ow,m,h1,h2,h3,h4⟩=> next a σ V L ow m v s' ((CD h1).symm.trans eR) (hU.trans h2) h2 h3 h4 ne) fun _ _ x=> FD eR hU x
theorem Je{t:Sem R5}{r:Out AV}(hU:U.le W)(h:Dj G f A X W t r s):Dj G f A X U t r s:=uG h (fun _ _ x=> x.le hU) fun _ _ x=> x.le hU
theorem Jf{t:Sem Bool}{r:Out Bool}(hU:U.le W)(h:K9 G f A X W t r s):K9 G f A X U t r s:=uG h (fun _ _ x=> x.le hU) fun _ _ x=> x.le hU
theorem LA{t:Sem uo}{r:Out Flow}(hU:U.le W)(h:Ia G f A X W t r s):Ia G f A X U t r s:=uG h (fun _ _ x=> x.le hU) fun _ _ x=> x.le hU
end
end
section
theorem GN{α:Type}{x y:Option α}{r:α}(h:alt x y=some r):x=some r∨y=some r:=by
 cases x with
 |none=> exact .inr h
 |some v=> exact .inl h
theorem eA{a:AV}{x:Bool}(h:Sf a=some x):a= .bool x:=by cases a<;>cases h;rfl
theorem Cj{a:AV}{x:Int}(h:Bb a=some x):a= .int x:=by cases a<;>cases h;rfl
theorem DC{a:AV}{x:List Nat}(h:Bl a=some x):a= .str x:=by cases a<;>cases h;rfl
theorem Ie{a:AV}{x:List AV}(h:E7 a=some x):a= .tup x:=by cases a<;>cases h;rfl
theorem eB{a:AV}{x:List AV}(h:JJ a=some x):a= .Ae x:=by cases a<;>cases h;rfl
theorem Ig{a:AV}{x:Nat}(h:FU a=some x):a= .ref x:=by cases a<;>cases h;rfl
theorem M7{a:AObj}{x:List AV}(h:C9 a=some x):a= .lst x:=by cases a<;>cases h;rfl
theorem M8{a:AObj}{x:List (AV×AV)}(h:KS a=some x):a= .A4 x:=by cases a<;>cases h;rfl
theorem Pq{a:AObj}{c:Nat}{x:List (N×AV)}(h:KU a=some (c,x)):a= .ins c x:=by cases a<;>cases h;rfl
theorem Hm{α:Type}:∀{l:List α} {x:α},one l=some x->l=[x]
 | [_],_,rfl=> rfl
section
open Builtin Builtin.ObjectAttr
theorem UE:Slot "BaseException" "__getattribute__" "BaseException.__getattribute__":=
 Slot.of (T:="BaseException") (name:="__getattribute__") (owner:="BaseException") (n:="__getattribute__") (by rw [typeLookup_type,builtinLookup_eq_fast];kernel_rfl) (by decide+kernel) (by decide+kernel) (by decide+kernel)
  (.inl (by decide+kernel)) (by rw [isSubtype_type];kernel_rfl)
section
variable{prog:uQ}{w:uS}{A:tx}{E:R5->tm->Prop}{s:tm}{K:Frag}{x C:Addr}{ox:Obj}{od:Option Obj}{name:tq}{expr:Bool}{Q:R5->tm->Prop}
theorem eC{v:R5}(X:K.In s.heap)(I:vc s.heap x ox C od)(hga:findIn K (.ref C) "__getattribute__"=some (some (.builtin "BaseException.__getattribute__")))(hgr:findIn K (.ref C) "__getattr__"=some none)
 (hb:mroIn K C (.type "BaseException")=some true) (hf:findObj K C od name=some (.value v)) (hh:handedIn v=true) (h:Q v {s with toks:=s.toks+1}):wpAny (model prog w) A (getAttr (.ref x) name expr) Q E s:=by
 obtain⟨hp,g,d,t,os⟩:=s;have L0:=I.type (M:=model prog w);have L1:=xh (M:=model prog w) X hga;have L2:=xh (M:=model prog w) X hgr;have L3:=looks_find (M:=model prog w) X I hf;have L4:uT (model prog w) hp (isInstance (.ref x) (.type "BaseException")) true:=L0.andThen (vQ X hb);have b1:=UE.bind (.ref x);have hx2:(Value.builtin "BaseException.__getattribute__"==Value.builtin "object.__getattribute__")=false:=by decide+kernel
 have hx0:(expr&&onTheHeap (Value.builtin "BaseException.__getattribute__"))=false:=by cases expr<;>rfl
 unfold getAttr getAttrBy;refine tu (wpAny_mkText (uE (tu (L0.at (tu (L1.at ?_))))));dsimp only;rw [hx2,wQ,if_neg vY];unfold getAttrByItsOwn hookBefore;rw [if_pos (by rfl)];refine tu (L2.at (tu (wpAny_attempt (uE ?_))));unfold callGetattribute boundAndCalled;rw [hx0,if_neg vY,b1];refine tu (t4 (vi (codeAny_call_builtin UE.plain F.entry_bexc_ga (@check_slot (model prog w) _ _ _ "BaseException.__getattribute__" "BaseException" "__getattribute__" (.ref x) [.str name t] [] _ (by decide+kernel) (by decide+kernel) L4 (F.args_bexc_ga _ _) ?_))));refine tu (t4 (tu (t4 (tu (L0.at (tu (L3.at ?_)))))));refine t4 ?_;show wpAny _ _ (handedOut v) _ _ _;rw [handedOut_of hh];exact t4 h
end
end
structure Ck(G:Gx)(P:Prog):Prop where
 get:∀c cl,P.cls c=some cl->cl.exc=false->plainGet G.K c uX=true
 UG:∀c cl,P.cls c=some cl->cl.exc=true->findIn G.K (.ref c) "__getattribute__"=some (some (.builtin "BaseException.__getattribute__"))/\findIn G.K (.ref c) "__getattr__"=some none/\mroIn G.K c (.type "BaseException")=some true/\cl.attrs=[]
 UH:∀c cl,P.cls c=some cl->hasDictIn G.K c=true
 fld:∀c cl a,P.cls c=some cl->cl.fields.contains a=true->∃attr,findIn G.K (.ref c) (nm a)=some attr/\noGet G.K attr=true
 val:∀c cl a v,P.cls c=some cl->look a cl.attrs=some (.val v)->∃u,findIn G.K (.ref c) (nm a)=some (some u)/\specialIn G.K u "__get__"=some none/\copiedNames.contains (nm a)=false/\∀W,AK G.B W v u
 Aj:∀c cl a g,P.cls c=some cl->look a cl.attrs=some (.Aj g)->findIn G.K (.ref c) (nm a)=some (some (.ref g))/\isFn G.K (.ref g)=true/\keepIn G.K (.ref g)=true
 tZ:∀c cl a g,P.cls c=some cl->look a cl.attrs=some g->cl.fields.contains a=false
structure Fi(G:Gx)(P:Prog):Prop where
 set:∀c cl a,P.cls c=some cl->cl.exc=false->cl.fields.contains a=true->takerIn G.K c (nm a)=some none
 own:∀c cl,P.cls c=some cl->cl.exc=false->findIn G.K (.ref c) "__setattr__"=some (some (.builtin "object.__setattr__"))/\plainOver G.K c=true
variable{G:Gx}{f:Fx}{A:tx}{X:XP}{P:Prog}
theorem Ck.inst(C:Ck G P){c:Nat}{cl:Cl}{a:N}{x:CA}(hc:P.cls c=some cl)(h:look a cl.attrs=some x):cl.exc=false:=by
 cases he:cl.exc with
 |false=> rfl
 |true=> rw [(C.UG c cl hc he).2.2.2]at h;cases h
theorem Fj{v w:R5}(e:v=w)(h:handedIn w=true):handedIn v=true:=e▸h
set_option tactic.hygienic true in
theorem AK.handed{B:Heap}{W:Wd}{a:AV}{v:R5}(r:AK B W a v):handedIn v=true:=by
 cases a with
 |none=> exact Fj r rfl
 |bool _=> exact Fj r rfl
 |int _=> exact r.elim fun _ r=> Fj r rfl
 |str _=> exact r.1.elim fun _ r=> Fj r rfl
 |tup _=> exact let⟨⟨_,_,_,e,_,_⟩,_⟩:=r;Fj e rfl
 |Ae _=> exact let⟨⟨_,_,_,e,_,_⟩,_⟩:=r;Fj e rfl
 |obj _ _=> exact let⟨_,_,_,_,_,e,_,_,_,_,_,_⟩:=r;Fj e rfl
 |ref _=> exact Fj r.1 rfl
 |fn _=> exact Fj r rfl
 |cls _=> exact Fj r rfl
 |Gm=> exact r.elim fun _ r=> r.elim fun _ r=> Fj r rfl
section
variable{W:Wd}{l:List (N×AV)}{hp:Hp}{M:Led}{ow:Addr->Nat}{m:tq->Option R5}{s:tm}
set_option tactic.hygienic true in
theorem UI(C:Ck G P)(O:AP G f)(I:Inv G f W l hp M ow m s){x c:Nat}{ox:Obj}{es:List uP}{k:Nat}{fs:List (N×AV)}(H:vc s.heap x ox c (some (dictOf es k)))(F:A5 G.B W fs es)
 {a:N} {r:AV} (e:MD P c fs a=some r) {expr:Bool} {Q:R5->tm->Prop} {E:R5->tm->Prop} (h:∀v s',AK G.B W r v->Inv G f W l hp M ow m s'->Q v s'):
 wpAny (mo G) A (getAttr (.ref x) (nm a) expr) Q E s:=by
 unfold MD at e;cases hc:P.cls c with
 |none=> rw [hc]at e;cases e
 |some cl=>
  rw [hc]at e;dsimp only at e;have hd:=C.UH c cl hc;cases hl:look a fs with
  |some v=>
   rw [hl]at e;dsimp only at e;split at e
   . rename_i hf;cases e;obtain⟨attr,h1,h2⟩:=C.fld c cl a hc hf;obtain⟨u,h3,h4⟩:=F.look hl;cases he:cl.exc with
     |false=> exact get_own I.fr O.X H (show plainGet G.K c (nm a)=true from C.get c cl hc he) hd h1 h2 h3 h4.handed (h u _ h4 (I.tok _))
     |true=> obtain⟨g1,g2,g3,_⟩:=C.UG c cl hc he;exact eC (I.X O) H g1 g2 g3 (findObj_own hd h1 h2 h3) h4.handed (h u _ h4 (I.tok _))
   . cases e
  |none=>
   rw [hl]at e;dsimp only at e;split at e
   . rename_i v hv;cases e;obtain⟨u,h1,h2,h3,h4⟩:=C.val c cl a _ hc hv;have hg:plainGet G.K c (nm a)=true:=C.get c cl hc (C.inst hc hv);exact get_cls I.fr O.X H hg hd h1 h2 (h4 W).handed h3 (F.miss hl) (h u _ (h4 W) (I.tok _))
   . cases e
theorem Inv.UJ(I:Inv G f W l hp M ow m s)(O:AP G f){c:Nat}{fs:List (N×AV)}{v:R5}(h:AK G.B W (.obj c fs) v):
 ∃x ox es k,v= .ref x/\vc s.heap x ox c (some (dictOf es k))/\A5 G.B W fs es:=by
 obtain⟨x,ox,dx,es,k,e,q,c1,c2,c3,q2,m⟩:=h;exact⟨x,ox,es,k,e,⟨I.kn O q,c1,c3,by rw [c2];exact I.kn O q2⟩,m⟩
inductive eE(G:Gx)(W:Wd)(M:Led)(ow:Addr->Nat)(s:tm)(i c:Nat)(fs:List (N×AV)):Prop
 |mk (dx:Addr) (es:List uP) (k:Nat) (h1:vc s.heap (W.r i) (instObj c dx) c (some (dictOf es k))) (h2:(instObj c dx).dict=some dx) (h3:(dx,dictOf es k)∈M) (h4:ow dx=i) (h5:A5 G.B W fs es)
theorem Inv.LB(I:Inv G f W l hp M ow m s){i c:Nat}{fs:List (N×AV)}(hi:hp.lv i)(h:hp.f i= .ins c fs):
 eE G W M ow s i c fs:=by
 have:=I.hi.cell i hi;rw [h]at this;obtain⟨dx,es,k,h1,h2,h3,h4,h5⟩:=this;exact⟨dx,es,k,⟨I.mem h1,rfl,rfl,I.mem h3⟩,rfl,h3,h4,h5⟩
set_option tactic.hygienic true in
theorem Inv.lt(I:Inv G f W l hp M ow m s){i:Nat}{v:R5}(h:AK G.B W (.ref i) v):v= .ref (W.r i)/\hp.lv i:=⟨h.1,I.hi.n▸h.2⟩
set_option tactic.hygienic true in
theorem Pr(C:Ck G P)(O:AP G f)(I:Inv G f W l hp M ow m s){o:AV}{v:R5}(hv:AK G.B W o v)
 {a:N} {r:AV} (e:GB P hp o a=some r) {expr:Bool} {Q:R5->tm->Prop} {E:R5->tm->Prop} (h:∀v s',AK G.B W r v->Inv G f W l hp M ow m s'->Q v s'):
 wpAny (mo G) A (getAttr v (nm a) expr) Q E s:=by
 cases o<;>first |cases e |skip
 . refine cps fun yv yt=> ?_;obtain⟨x,ox,es,k,rfl,H,F⟩:=I.UJ O hv;refine yt ?_;exact UI C O I H F e h
 . rename_i i;refine cps fun zI yy=> ?_;obtain⟨rfl,hi⟩:=I.lt hv;obtain⟨⟨c,fs⟩,hf,e⟩:=xC.mp e;obtain⟨dx,es,k,H,_,_,_,F⟩:=I.LB hi (Pq hf);refine yy ?_;exact UI C O I H F e h
theorem eF{o:Expr}{attr:tq}{env:Env}{whole:Sem R5}(hn:(match o with | .Call (.Name _ _) [] [] _=> false |_=> true)=true):attributeBase o attr env whole=whole:=by
 induction o using PySem.Expr.casesOn with
 |Call g as ks p=>
  induction g using PySem.Expr.casesOn with
  |Name id q=> cases as with
   |cons _ _=> rfl
   |nil=> cases ks with
    |cons _ _=> rfl
    |nil=> exact cFT hn
  |_=> rfl
 |_=> rfl
theorem M9{o:Expr}{attr:tq}{env:Env}{whole:Sem R5}{mm:um}{Q:R5->tm->Prop}{E:R5->tm->Prop}(hn:(match o with | .Call (.Name _ _) [] [] _=> false |_=> true)=true)(h:wpAny mm A whole Q E s):
 wpAny mm A (attributeBase o attr env whole) Q E s:=by
 rw [eF hn];exact h
end
end
section
variable{G:Gx}{f:Fx}{A:tx}{X:XP}{P:Prog}
theorem CL(s:List Nat):(AJ s).length=s.length:=by simp [AJ,yK]
theorem Bc.len{B:Heap}{K:Type}{of:AV->Option K}{W:Wd}:∀{x:List (AV×AV)} {v:List (K×R5)},Bc B of W x v->x.length=v.length:=by
 intro x
 induction x with
 |nil=>
  intro v r;cases v with
  |nil=> rfl
  |cons _ _=> exact r.elim
 |cons _ _ ih=>
  intro v r;cases v with
  |nil=> exact r.elim
  |cons _ _=> exact congrArg (· +1) (ih r.2.2)
theorem Pt{α β:Type}{a:List α}{b:List β}(h:a.length=b.length):a.isEmpty=b.isEmpty:=by cases a<;>cases b<;>simp_all
theorem Ih{n:Nat}(h:n<=lim):(n:Int)<2 ^ 63:=by unfold lim at h;lia
section
variable{W:Wd}{l:List (N×AV)}{hp:Hp}{M:Led}{ow:Addr->Nat}{m:tq->Option R5}{s:tm}
theorem Inv.LC(I:Inv G f W l hp M ow m s){i:Nat}{xs:List AV}(hi:hp.lv i)(h:hp.f i= .lst xs):
 T6 G.B W M ow i xs:=by
 have:=I.hi.cell i hi;rw [h]at this;exact this
theorem Inv.Hn(I:Inv G f W l hp M ow m s){i:Nat}{es:List (AV×AV)}(hi:hp.lv i)(h:hp.f i= .A4 es):
 T7 G.prog G.w G.B W M ow i es:=by
 have:=I.hi.cell i hi;rw [h]at this;exact this
theorem FE{h:Heap}{a:Addr}{zc:Array R5}{k:Nat}(e:h.get? a=some (listOf zc k)):h.IsList a zc:=⟨_,e,rfl,k,rfl⟩
inductive eG(B:Heap)(W:Wd)(s:tm)(v:R5)(xs:List AV):Prop
 |mk (x:Addr) (vs:List R5) (k:Nat) (h1:v= .ref x) (h2:s.heap.get? x=some (listOf vs.toArray k)) (h3:AX B W xs vs) (h4:xs.length<=lim)
theorem Inv.GO(I:Inv G f W l hp M ow m s)(O:AP G f){a:AV}{v:R5}(hv:AK G.B W a v){xs:List AV}(e:Ei hp a=some xs):
 eG G.B W s v xs:=by
 cases a<;>first |cases e |skip
 . obtain⟨⟨x,vs,k,h1,h2,h3⟩,h4⟩:=hv;exact⟨x,vs,k,h1,I.kn O h2,h3,h4⟩
 . obtain⟨rfl,hi⟩:=I.lt hv;obtain⟨vs,k,h1,_,h3,h4⟩:=I.LC hi (M7 e);exact⟨_,vs,k,rfl,I.mem h1,h3,h4⟩
set_option tactic.hygienic true in
theorem NA(O:AP G f)(I:Inv G f W l hp M ow m s){a:AV}{v:R5}(hv:AK G.B W a v){b:Bool}(e:truthy hp a=some b){Q:Bool->tm->Prop}{E:R5->tm->Prop}
 (h:∀s',Inv G f W l hp M ow m s'->Q b s'):wpAny (mo G) A (vu v) Q E s:=by
 have lst:∀{xs:List AV},Ei hp a=some xs->b= !xs.isEmpty->wpAny (mo G) A (vu v) Q E s:=fun e e2=> by
  obtain⟨x,vs,k,rfl,h1,h2,h3⟩:=I.GO O hv e;have hz:vs.length<=lim:=h2.length▸h3;refine wpAny_truthy_list (FE h1) (by simpa using Ih hz) ?_;have:(!vs.toArray.isEmpty)=b:=by rw [e2,Pt h2.length];simp
  rw [this];exact h _ (I.tok _)
 have str:∀{s0:List Nat},((((AJ s0).length:Nat):Int) !=0)= !s0.isEmpty:=fun{s0}=> by
  rw [CL];cases(s0)with
  |nil=> rfl
  |cons c r=> exact bne_iff_ne.mpr (by simp;lia)
 cases(a)<;>first |cases e |skip
 . cases(hv);exact PyProof.Rows.truthy_none (h _ I)
 . cases(hv);exact wo (h _ I)
 . obtain⟨t,rfl⟩:=hv;exact PyProof.Rows.truthy_int (h _ I)
 . obtain⟨⟨t,rfl⟩,hz⟩:=hv;refine P.truthy_str (by rw [CL];have:=Ih hz.1;lia) ?_;rw [str];exact h _ (I.tok _)
 . obtain⟨⟨x,vs,k,rfl,h1,h2⟩,h3⟩:=hv;have hz:vs.length<=lim:=h2.length▸h3;refine ktl_truthy (I.kn O h1) (by have:=Ih hz;simp;assumption) ?_;rw [List.isEmpty_toArray,<-Pt h2.length];exact h _ (I.tok _)
 . exact lst rfl rfl
 . rename_i i;change Of (hp.f i)=some b at e;generalize hq:hp.f i=o at e;cases(o)<;>first |cases e |skip
   . exact lst (congrArg C9 hq) rfl
   . obtain⟨rfl,hi⟩:=I.lt hv;obtain⟨o,h1,h2,h3,h4,h5⟩:=I.Hn hi hq;have key:∀{K:Type} [DecidableEq K] {knd:vd G.prog G.w K} {of:AV->Option K} {kvs:List (K×R5)},o.IsDictOf knd kvs->Bc G.B of W _ kvs->wpAny (mo G) A (vu (.ref (W.r i))) Q E s:=fun{_ _ _ _ _} hd hr=> by
      refine wpAny_truthy_dict h3 (vM.mpr ⟨o,I.mem h1,hd⟩) (Ih (hr.len▸h5)) ?_;rw [<-Pt hr.len];exact h _ (I.tok _)
     rcases h4 with⟨kvs,hd,hr⟩ |⟨kvs,hd,hr⟩
     . exact key hd hr
     . exact key hd hr
end
theorem UK(C:Ck G P)(O:AP G f){e:Expr}{a:N}{pos:Pos}{env:Env}{ev:St->Out AV}(hn:(match e with | .Call (.Name _ _) [] [] _=> false |_=> true)=true)(he:AW G f A X (eval e env) ev):
 AW G f A X (eval (.Attribute e (nm a) pos) env) fun s=> (ev s).bind fun o s=> AR (GB P s.hp o a) fun v=>.ok v s:=fun W l hp M ow m s Z eR I ne=> by
 rw [arm_eval_Attribute];refine tu (M9 hn ?_);refine Au eR W.le_rfl (fun h=> he W l hp M ow m s _ rfl I h) ne fun o σ V L ow m v s' eR h1 h2 I hv ne=> ?_;obtain⟨c,h3,eR⟩:=BK eR ne;refine tu (uU (tu (uE (Pr C O I hv h3 fun u s' hu I=> ?_))));exact tu (wpAny_letTemporaryGo (t4 (I.V eR h1 hu)))
theorem eH(O:AP G f){e:Expr}{pos:Pos}{env:Env}{ev:St->Out AV}(he:AW G f A X (eval e env) ev):
 AW G f A X (eval (.UnaryOp .Not e pos) env) fun s=> (ev s).bind fun v s=> AR (truthy s.hp v) fun b=>.ok (.bool (!b)) s:=fun W l hp M ow m s Z eR I ne=> by
 rw [arm_eval_UnaryOp];refine tu (Au eR W.le_rfl (fun h=> he W l hp M ow m s _ rfl I h) ne fun o σ V L ow m v s' eR h1 h2 I hv ne=> ?_);obtain⟨c,h3,eR⟩:=BK eR ne;exact tu (uU (uE (PyProof.Rows.not_of (NA O I hv h3 fun s' I=> (I.V eR h1 rfl)))))
theorem eI{e:Expr}{pos:Pos}{env:Env}{ev:St->Out AV}(he:AW G f A X (eval e env) ev):
 AW G f A X (eval (.UnaryOp .USub e pos) env) fun s=> (ev s).bind fun v s=> AR (Bb v) fun i=>.ok (.int (-i)) s:=fun W l hp M ow m s Z eR I ne=> by
 rw [arm_eval_UnaryOp];refine tu (Au eR W.le_rfl (fun h=> he W l hp M ow m s _ rfl I h) ne fun o σ V L ow m v s' eR h1 h2 I hv ne=> ?_);obtain⟨i,h3,eR⟩:=BK eR ne;cases Cj h3;obtain⟨t,rfl⟩:=hv;exact tu (uU (uE (PyProof.Rows.neg_int ((I.tok _).V eR h1 ⟨_,rfl⟩))))
theorem UL{t b o:Expr}{pos:Pos}{env:Env}{et:St->Out Bool}{eb eo:St->Out AV}(ht:B8 G f A X (isTrue t env (eval t env)) et)(hb:AW G f A X (eval b env) eb)(ho:AW G f A X (eval o env) eo):
 AW G f A X (eval (.IfExp t b o pos) env) fun s=> (et s).bind fun c s=> if c=true then eb s else eo s:=fun W l hp M ow m s Z eR I ne=> by
 rw [arm_eval_IfExp];refine tu (Ic eR W.le_rfl (fun h=> ht W l hp M ow m s _ rfl I h) ne fun c σ V L ow m s' eR h1 h2 I ne=> ?_);cases c with
 |true=> exact Je h1 (hb V _ _ _ _ _ _ _ eR I ne)
 |false=> exact Je h1 (ho V _ _ _ _ _ _ _ eR I ne)
theorem eJ{t b o:Expr}{pos:Pos}{env:Env}{whole:Sem R5}{et:St->Out Bool}{eb eo:St->Out Bool}(ht:B8 G f A X (isTrue t env (eval t env)) et)(hb:B8 G f A X (isTrue b env (eval b env)) eb)(ho:B8 G f A X (isTrue o env (eval o env)) eo):
 B8 G f A X (isTrue (.IfExp t b o pos) env whole) fun s=> (et s).bind fun c s=> if c=true then eb s else eo s:=fun W l hp M ow m s Z eR I ne=> by
 rw [arm_isTrue_IfExp];refine tu (Ic eR W.le_rfl (fun h=> ht W l hp M ow m s _ rfl I h) ne fun c σ V L ow m s' eR h1 h2 I ne=> ?_);cases c with
 |true=> exact Jf h1 (hb V _ _ _ _ _ _ _ eR I ne)
 |false=> exact Jf h1 (ho V _ _ _ _ _ _ _ eR I ne)
theorem eK{e:Expr}{pos:Pos}{env:Env}{whole:Sem R5}{ev:St->Out Bool}(he:B8 G f A X (isTrue e env (eval e env)) ev):
 B8 G f A X (isTrue (.UnaryOp .Not e pos) env whole) fun s=> (ev s).bind fun b s=>.ok (!b) s:=fun W l hp M ow m s Z eR I ne=> by
 rw [arm_isTrue_UnaryOp];refine tu (Ic eR W.le_rfl (fun h=> he W l hp M ow m s _ rfl I h) ne fun c σ V L ow m s' eR h1 h2 I ne=> ?_);exact t4 (I.Bo eR h1)
theorem eL(O:AP G f){e:Expr}{env:Env}{whole:Sem R5}{ev:St->Out AV}(hw:AW G f A X whole ev)(he:isTrue e env whole=(do let v<-whole;standAt e.pos;holding [v] (vu v))):
 B8 G f A X (isTrue e env whole) fun s=> (ev s).bind fun v s=> AR (truthy s.hp v) fun b=>.ok b s:=fun W l hp M ow m s Z eR I ne=> by
 rw [he];refine tu (Au eR W.le_rfl (fun h=> hw W l hp M ow m s _ rfl I h) ne fun o σ V L ow m v s' eR h1 h2 I hv ne=> ?_);obtain⟨c,h3,eR⟩:=BK eR ne;exact tu (uU (uE (NA O I hv h3 fun s' I=> (I.Bo eR h1))))
end
section
variable{G:Gx}{f:Fx}{A:tx}{X:XP}{P:Prog}
theorem Pw{a b:List Nat}(h:AJ a=AJ b):a=b:=by have:=congrArg (fun s:tq=> s.cps.toList) h;simpa [AJ]using this
theorem Px(a b:List Nat):(AJ a==AJ b)=(a==b):=by rw [xX];simp only [beq_iff_eq];exact⟨Pw,congrArg _⟩
mutual
noncomputable def pd:AV->PyData
 | .none=>.none
 | .bool b=>.bool b
 | .int i=>.int i
 | .str s=>.str (AJ s)
 | .tup xs=>.tuple (FF xs)
 | .Ae xs=>.list (FF xs)
 |_=>.none
noncomputable def FF:List AV->List PyData
 | []=>[]
 |a::r=> pd a::FF r
end
mutual
theorem UM:∀(a b:AV) (r:Bool),Ds a b=some r->PyData.eqv (pd a) (pd b)=r
 | .none=>@fun b r h=> by cases b<;>cases h<;>rfl
 | .bool _=>@fun b r h=> by obtain⟨y,h1,rfl⟩:=uF.mp h;cases eA h1;rfl
 | .int _=>@fun b r h=> by cases b<;>cases h<;>rfl
 | .str x=>@fun b r h=> by obtain⟨y,h1,rfl⟩:=uF.mp h;cases DC h1;exact Px x y
 | .tup xs=>@fun b r h=> by refine AY h fun y h1 h2=> ?_;cases Ie h1;exact Py xs y r h2
 | .Ae xs=>@fun b r h=> by refine AY h fun y h1 h2=> ?_;cases eB h1;exact Py xs y r h2
 | .obj _ _=>@fun _ _ h=> nomatch h
 | .ref _=>@fun _ _ h=> nomatch h
 | .fn _=>@fun _ _ h=> nomatch h
 | .cls _=>@fun _ _ h=> nomatch h
 | .Gm=>@fun _ _ h=> nomatch h
theorem Py:∀(a b:List AV) (r:Bool),EN a b=some r->PyData.eqvAll (FF a) (FF b)=r
 | [],[],r,h=> by cases h;rfl
 | [],_::_,r,h=> by cases h;rfl
 |_::_,[],r,h=> by cases h;rfl
 |a::x,b::y,r,h=> by
  refine AY h fun c h1 h2=> ?_;show(PyData.eqv (pd a) (pd b)&&PyData.eqvAll (FF x) (FF y))=r;rw [UM a b c h1];cases c with
  |true=> exact Py x y r h2
  |false=> cases h2;rfl
end
theorem UN{a:AV}{xs:List AV}(h:kids a=some xs):a= .tup xs∨a= .Ae xs:=by cases a<;>cases h<;>first |exact .inl rfl |exact .inr rfl
theorem UO{n:Nat}{a:AV}(h:Bz n a=true):atom a=true∨∃k xs,n=k+1/\(a= .tup xs∨a= .Ae xs)/\xs.all (Bz k)=true:=by
 cases n with
 |zero=> exact .inl h
 |succ n=>
  rcases wH.mp h with h |h
  . exact .inl h
  . cases hk:kids a with
    |none=> rw [hk]at h;cases h
    |some xs=> rw [hk]at h;exact .inr ⟨n,xs,rfl,UN hk,h⟩
theorem eM:∀(n:Nat) (a:AV),Bz n a=true->(pd a).depth<=n:=fun n=> by
 induction n with
 |zero=> intro a h;cases a<;>first |(cases h;done) |exact uW 0
 |succ n ih=>
  intro a h;rcases UO h with h |⟨k,xs,e,h1,h2⟩
  . cases a<;>first |(cases h;done) |exact uO _
  . cases e;have:∀l:List AV,l.all (Bz n)=true->PyData.depthAll (FF l)<=n:=fun l=> by
     induction l with
     |nil=> intro _;exact uO _
     |cons a r hr=> intro q;rw [vH,wu]at q;exact Nat.max_le.mpr ⟨ih a q.1,hr q.2⟩
    rcases h1 with rfl |rfl
    . exact u6 (this xs h2)
    . exact u6 (this xs h2)
theorem eN{s:List Nat}(h:BN s):PyData.strOk (AJ s)=true:=by unfold PyData.strOk AJ;simp only [List.all_toArray,uM,decide_eq_true_eq];exact h.2
theorem UP{B:Heap}{W:Wd}{h:Heap}(K:∀a o,Kn B W a o->h.get? a=some o):∀(n:Nat),
 (∀(a:AV) (v:R5),Bz n a=true->AK B W a v->(∃as,Reads h v (pd a) as)/\(pd a).canLay0=true)/\
 (∀(xs:List AV) (vs:List R5),xs.all (Bz n)=true->AX B W xs vs->(∃as,ReadsAll h vs (FF xs) as)/\PyData.canLayAll0 (FF xs)=true):=by
 have ym:∀{a:AV} {v:R5},atom a=true->AK B W a v->(∃as,Reads h v (pd a) as)/\(pd a).canLay0=true:=fun{a v} q R=> by
  cases a<;>first |(cases q;done) |skip
  . cases R;exact⟨⟨_,.none⟩,rfl⟩
  . cases R;exact⟨⟨_,.bool _⟩,rfl⟩
  . obtain⟨t,rfl⟩:=R;exact⟨⟨_,.int _ t⟩,rfl⟩
  . obtain⟨⟨t,rfl⟩,z⟩:=R;exact⟨⟨_,.str _ t⟩,eN z⟩
 have all:∀{n},(∀(a:AV) (v:R5),Bz n a=true->AK B W a v->(∃as,Reads h v (pd a) as)/\(pd a).canLay0=true)->
  ∀(xs:List AV) (vs:List R5),xs.all (Bz n)=true->AX B W xs vs->(∃as,ReadsAll h vs (FF xs) as)/\PyData.canLayAll0 (FF xs)=true:=by
  intro n ih xs
  induction xs with
  |nil=>
   intro vs _ r;cases vs with
   |nil=> exact⟨⟨_,.nil⟩,rfl⟩
   |cons _ _=> exact r.elim
  |cons a r hr=>
   intro vs q R;cases vs with
   |nil=> exact R.elim
   |cons v vs=> refine cps fun yv yt=> ?_;rw [vH,wu]at q;obtain⟨⟨as,h1⟩,h2⟩:=ih a v q.1 R.1;obtain⟨⟨bs,h3⟩,h4⟩:=hr vs q.2 R.2;refine yt ?_;exact⟨⟨_,.cons h1 h3⟩,t6.mpr ⟨h2,h4⟩⟩
 have val:∀n,(∀(a:AV) (v:R5),Bz n a=true->AK B W a v->(∃as,Reads h v (pd a) as)/\(pd a).canLay0=true):=fun n=> by
  induction n with
  |zero=> exact fun a v q R=> ym q R
  |succ n ih=>
   intro a v q R;rcases UO q with q |⟨k,xs,e,h1,h2⟩
   . exact ym q R
   . cases e;rcases h1 with rfl |rfl
     . refine cps fun zI yy=> ?_;obtain⟨⟨a,vs,k,rfl,h3,h4⟩,_⟩:=R;obtain⟨⟨as,h5⟩,h6⟩:=all ih xs vs h2 h4;refine yy ?_;exact⟨⟨_,.tuple (K _ _ h3) rfl rfl h5⟩,h6⟩
     . refine cps fun zu zL=> ?_;obtain⟨⟨a,vs,k,rfl,h3,h4⟩,_⟩:=R;obtain⟨⟨as,h5⟩,h6⟩:=all ih xs vs h2 h4;refine zL ?_;exact⟨⟨_,.list (K _ _ h3) rfl rfl h5⟩,h6⟩
 exact fun n=> ⟨val n,all (val n)⟩
section
variable{W:Wd}{l:List (N×AV)}{hp:Hp}{M:Led}{ow:Addr->Nat}{m:tq->Option R5}{s:tm}
theorem Inv.data(I:Inv G f W l hp M ow m s)(O:AP G f){a d:AV}{v:R5}(hv:AK G.B W a v)(e:JK hp a=some d)(q:Bz 8 d=true):
 (∃as,Reads s.heap v (pd d) as)/\(pd d).canLay0=true/\(pd d).depth<=8:=by
 have K:∀a o,Kn G.B W a o->s.heap.get? a=some o:=fun a o h=> I.kn O h;have hd:=eM 8 d q;unfold JK at e;cases hr:FU a with
 |some i=> rw [hr]at e;obtain⟨xs,h,rfl⟩:=uF.mp e;cases Ig hr;obtain⟨rfl,hi⟩:=I.lt hv;obtain⟨vs,k,h1,h2,h3,h4⟩:=I.LC hi (M7 h);obtain⟨⟨as,r1⟩,r2⟩:=(UP K 7).2 xs vs q h3;exact⟨⟨_,.list (I.mem h1) rfl rfl r1⟩,r2,hd⟩
 |none=> rw [hr]at e;cases e;obtain⟨r1,r2⟩:=(UP K 8).1 _ v q hv;exact⟨r1,r2,hd⟩
theorem NB{B:Heap}{W:Wd}:∀{ys:List AV} {vs:List R5} {l:List (List Nat)},AX B W ys vs->strs? ys=some l->StrsAre vs (l.map AJ):=by
 intro ys
 induction ys with
 |nil=>
  intro vs l R e;cases vs with
  |nil=> exact uR e▸ .nil
  |cons _ _=> exact R.elim
 |cons a r ih=>
  intro vs l R e;cases vs with
  |nil=> exact R.elim
  |cons v vs=>
   cases a with
   |str s=> obtain(⟨t,h1,h2⟩):=uF.mp (show(strs? r).map (s::·)=some l from e);obtain(⟨⟨⟨u,h3⟩,_⟩,R⟩):=R;rw [<-h2,h3];exact .cons _ _ (ih R h1)
   |_=> exact cNS e
theorem UQ:∀(a b:List Nat),strLt a b=true↔a<b
 | [],[]=> ⟨nofun,fun h=> absurd h (List.not_lt_nil _)⟩
 |_::_,[]=> ⟨nofun,fun h=> absurd h (List.not_lt_nil _)⟩
 | [],_::_=> ⟨fun _=>.nil,fun _=> rfl⟩
 |a::r,b::t=> by show(decide (a<b)||(a==b&&strLt r t))=true↔_;rw [Bool.or_eq_true,decide_eq_true_eq,wu,beq_iff_eq,UQ r t,List.cons_lt_cons_iff]
theorem eO(a b:List Nat):(!decide ((AJ a).cps.toList<(AJ b).cps.toList))= !strLt a b:=by congr 1;rw [xX,decide_eq_true_eq,UQ];simp [AJ]
theorem eP(c:Nat)(y:List Nat):(!(xD (AJ y) (AJ [c]) 0 (AJ y).length 1).isEmpty)=y.contains c:=by rw [show AJ [c]=⟨#[c]⟩from rfl,StrLaws.found_one];rw [xX,xH];exact decide_eq_true_iff
theorem eQ(y:List Nat):(!(xD (AJ y) (AJ []) 0 (AJ y).length 1).isEmpty)=true:=by rw [StrLaws.found_iff];refine⟨0,by simp [AJ,yK],?_⟩;unfold Builtin.Str.subAt;simp [AJ,yK]
theorem Pz(x:List Nat):∀ss:List (List Nat),(ss.map AJ).any (· ==AJ x)=ss.contains x
 | []=> rfl
 |a::r=> by
  rw [ud,xc,Pz x r,Px,wK];have:(a==x)=(x==a):=by rw [xX,beq_iff_eq,beq_iff_eq];exact eq_comm
  rw [this]
def UR:R5->Bool
 | .none=> true
 |_=> false
theorem eS{v:R5}(h:UR v=false):v≠ .none:=fun e=> by rw [e]at h;exact cTF h
theorem GP{v w:R5}(e:v=w)(h:UR w=false):v≠ .none:=eS (e▸h)
theorem AK.isNone{B:Heap}{W:Wd}{a:AV}{v:R5}(r:AK B W a v):(v= .none/\isNone a=true)∨(v≠ .none/\isNone a=false):=by
 cases a with
 |none=> exact .inl ⟨r,rfl⟩
 |bool _=> exact .inr ⟨GP r rfl,rfl⟩
 |int _=> exact r.elim fun _ r=>.inr ⟨GP r rfl,rfl⟩
 |str _=> exact r.1.elim fun _ r=>.inr ⟨GP r rfl,rfl⟩
 |tup _=> exact let⟨⟨_,_,_,e,_,_⟩,_⟩:=r; .inr ⟨GP e rfl,rfl⟩
 |Ae _=> exact let⟨⟨_,_,_,e,_,_⟩,_⟩:=r; .inr ⟨GP e rfl,rfl⟩
 |obj _ _=> exact let⟨_,_,_,_,_,e,_,_,_,_,_,_⟩:=r; .inr ⟨GP e rfl,rfl⟩
 |ref _=> exact .inr ⟨GP r.1 rfl,rfl⟩
 |fn _=> exact .inr ⟨GP r rfl,rfl⟩
 |cls _=> exact .inr ⟨GP r rfl,rfl⟩
 |Gm=> exact r.elim fun _ r=> r.elim fun _ r=>.inr ⟨GP r rfl,rfl⟩
theorem eT{K:Type} [DecidableEq K](j k:K)(v:R5)(t:List (K×R5)):valueAt ((j,v)::t) k=if j=k then some v else valueAt t k:=by
 unfold valueAt;rw [xY];by_cases h:j=k
 . simp [h]
 . simp [h]
def Jg{K:Type}(of:AV->Option K):Prop:=∀a b i j,of a=some i->of b=some j->(IH a b=true↔i=j)
theorem ofInt:Jg Bb:=fun a b i j h h'=> by cases Cj h;cases Cj h';exact beq_iff_eq
theorem US{a:AV}{x:tq}(h:Mz a=some x):∃s,a= .str s/\x=AJ s:=by obtain⟨s,h1,rfl⟩:=uF.mp h;exact⟨s,DC h1,rfl⟩
theorem ofStr:Jg Mz:=fun a b i j h h'=> by obtain⟨x,rfl,rfl⟩:=US h;obtain⟨y,rfl,rfl⟩:=US h';exact beq_iff_eq.trans ⟨congrArg _,Pw⟩
theorem Bc.get{B:Heap}{K:Type} [DecidableEq K]{of:AV->Option K}(ok:Jg of){W:Wd}{k:AV}{kk:K}(hk:of k=some kk):∀{es:List (AV×AV)} {kvs:List (K×R5)},Bc B of W es kvs->
 (∀x,EP k es=some x->∃v,valueAt kvs kk=some v/\AK B W x v)/\(EP k es=none->valueAt kvs kk=none)
 | [],kvs,h_=> by
   cases kvs with
   |nil=> exact⟨fun _ h=> (nomatch h),fun _=> rfl⟩
   |cons _ _=> exact h_.elim
 |(k',x)::r,kvs,h_=> by
  cases kvs with
  |nil=> exact h_.elim
  |cons q_ t=>
  obtain⟨j,v⟩:=q_;obtain⟨e,h,R⟩:=h_;have ih:=Bc.get ok hk R;have q:=ok _ _ _ _ e hk;rw [eT];rw [Z1];by_cases z:j=kk
  . rw [if_pos z,if_pos (q.mpr z)];exact⟨fun x' e=> ⟨v,rfl,uR e▸h⟩,fun e=> (nomatch e)⟩
  . rw [if_neg z,if_neg fun y=> z (q.mp y)];exact ih
theorem Bc.isSome{B:Heap}{K:Type} [DecidableEq K]{of:AV->Option K}(ok:Jg of){W:Wd}{k:AV}{kk:K}(hk:of k=some kk){es:List (AV×AV)}{kvs:List (K×R5)}(R:Bc B of W es kvs):(valueAt kvs kk).isSome=(EP k es).isSome:=by
 cases h:EP k es with
 |none=> rw [(R.get ok hk).2 h];rfl
 |some x=> obtain⟨v,h1,_⟩:=(R.get ok hk).1 x h;rw [h1];rfl
theorem UT{prog:uQ}{w:uS}{K K':Type} [DecidableEq K] [DecidableEq K'](knd:vd prog w K)(ACD:vd prog w K'){o:Obj}(h:o.IsDictOf knd []):o.IsDictOf ACD []:=by
 obtain⟨es,ep,h1,h2,h3,h4,h5⟩:=h;have:es= #[]:=by
  cases he:es.toList with
  |nil=> exact Array.toList_eq_nil_iff.mp he
  |cons a r=> rw [he]at h4;cases h4
 subst this;exact⟨#[],ep,h1,h2,by intro e he;simp at he,.nil,by simp⟩
theorem P0{a:AV}(h:(Bb a).isSome=true):∃i,a= .int i:=(wd.mp h).imp fun _=> Cj
theorem P1{a:AV}(h:(Bl a).isSome=true):∃i,a= .str i:=(wd.mp h).imp fun _=> DC
theorem UU{a:AV}(h:keyOk a=true):(∃i,a= .int i)∨(∃i,a= .str i):=(wH.mp h).imp P0 P1
theorem eU{k k' x:AV}{r:List (AV×AV)}(h:Df k ((k',x)::r)=true):(∃i j,k= .int i/\k'= .int j)∨(∃i j,k= .str i/\k'= .str j):=by
 have h:=(t6.mp h).1;rcases wH.mp h with h |h
 . obtain⟨i,rfl⟩:=P0 (t6.mp h).1;obtain⟨j,rfl⟩:=P0 (t6.mp h).2;exact .inl ⟨i,j,rfl,rfl⟩
 . obtain⟨i,rfl⟩:=P1 (t6.mp h).1;obtain⟨j,rfl⟩:=P1 (t6.mp h).2;exact .inr ⟨i,j,rfl,rfl⟩
inductive eV(prog:uQ)(w:uS)(B:Heap)(W:Wd)(es:List (AV×AV))(o:Obj)(k:AV):Prop
 |int (i:Int) (kvs:List (Int×R5)) (h:k= .int i) (h1:o.IsDictOf (vC prog w) kvs) (h2:Bc B Bb W es kvs)
 |str (i:List Nat) (kvs:List (tq×R5)) (h:k= .str i) (h1:o.IsDictOf (PySem.strKind prog w) kvs) (h2:Bc B Mz W es kvs)
theorem P2{prog:uQ}{w:uS}{B:Heap}{W:Wd}{es:List (AV×AV)}{o:Obj}{k:AV}(h:Fe prog w B W es o)(q1:keyOk k=true)(q2:Df k es=true):
 eV prog w B W es o k:=by
 cases es with
 |nil=>
  have z:∀{K:Type} {of:AV->Option K} {kvs:List (K×R5)},Bc B of W [] kvs->kvs=[]:=fun{_ _ kvs} h=> by
   cases kvs with
   |nil=> rfl
   |cons _ _=> exact h.elim
  rcases h with⟨kvs,h1,h2⟩ |⟨kvs,h1,h2⟩
  . cases z h2;rcases UU q1 with⟨i,rfl⟩ |⟨i,rfl⟩
    . exact .int (_) ([]) rfl (h1) (trivial)
    . exact .str (_) ([]) rfl (UT _ _ h1) (trivial)
  . cases z h2;rcases UU q1 with⟨i,rfl⟩ |⟨i,rfl⟩
    . exact .int (_) ([]) rfl (UT _ _ h1) (trivial)
    . exact .str (_) ([]) rfl (h1) (trivial)
 |cons p r=>
  obtain⟨k',x⟩:=p;have nz:∀{K:Type} {of:AV->Option K} {kvs:List (K×R5)},Bc B of W ((k',x)::r) kvs->∃kk,of k'=some kk:=fun{_ _ kvs} h=> by
   cases kvs with
   |nil=> exact h.elim
   |cons q _=> exact⟨q.1,h.1⟩
  rcases eU q2 with⟨i,j,rfl,rfl⟩ |⟨i,j,rfl,rfl⟩
  . rcases h with⟨kvs,h1,h2⟩ |⟨kvs,h1,h2⟩
    . exact .int (i) (kvs) rfl (h1) (h2)
    . obtain⟨_,z⟩:=nz h2;cases z
  . rcases h with⟨kvs,h1,h2⟩ |⟨kvs,h1,h2⟩
    . obtain⟨_,z⟩:=nz h2;cases z
    . exact .str (i) (kvs) rfl (h1) (h2)
theorem eW{K:Type} [DecidableEq K](j k:K)(u v:R5)(t:List (K×R5))(nd:j∉t.map (·.1)):stored ((j,u)::t) k v=if j=k then(j,v)::t else(j,u)::stored t k v:=by
 unfold stored;by_cases h:j=k
 . subst h;simp only [xc,decide_true,Bool.true_or,if_true,ud];congr 1;refine(vW fun p hp=> if_neg fun e=> nd ?_).trans (xg t);exact e▸vX hp
 . simp only [xc,h,decide_false,wV,if_false,ud];split<;>rfl
theorem eX{K:Type} [DecidableEq K](j k:K)(u:R5)(t:List (K×R5))(nd:j∉t.map (·.1)):without ((j,u)::t) k=if j=k then t else(j,u)::without t k:=by
 unfold without;by_cases h:j=k
 . subst h;simp only [ne_eq,not_true_eq_false,decide_false,List.filter_cons,ux,if_false,if_true];exact List.filter_eq_self.mpr fun p hp=> by
    rw [decide_eq_true_eq];intro e;exact nd (e▸vX hp)
 . simp [List.filter_cons,h]
theorem Bc.put{B:Heap}{K:Type} [DecidableEq K]{of:AV->Option K}(ok:Jg of){W:Wd}{k a:AV}{kk:K}{v:R5}(hk:of k=some kk)(hv:AK B W a v):∀{es:List (AV×AV)} {kvs:List (K×R5)},Bc B of W es kvs->(kvs.map (·.1)).Nodup->Bc B of W (HT k a es) (stored kvs kk v)
 | [],kvs,h_,nd_=> by
   cases kvs with
   |nil=> exact⟨hk,hv,trivial⟩
   |cons _ _=> exact h_.elim
 |(k',x)::r,kvs,h_,nd=> by
  cases kvs with
  |nil=> exact h_.elim
  |cons q_ t=>
  obtain⟨j,u⟩:=q_;obtain⟨e,h,R⟩:=h_;rw [ud,vF]at nd;have ih:=Bc.put ok hk hv R nd.2;have q:=ok _ _ _ _ e hk;rw [eW _ _ _ _ _ nd.1];rw [Sg];by_cases z:j=kk
  . rw [if_pos z,if_pos (q.mpr z)];exact⟨e,hv,R⟩
  . rw [if_neg z,if_neg fun y=> z (q.mp y)];exact⟨e,h,ih⟩
theorem Bc.del{B:Heap}{K:Type} [DecidableEq K]{of:AV->Option K}(ok:Jg of){W:Wd}{k:AV}{kk:K}(hk:of k=some kk):∀{es:List (AV×AV)} {kvs:List (K×R5)},Bc B of W es kvs->(kvs.map (·.1)).Nodup->Bc B of W (II k es) (without kvs kk)
 | [],kvs,h_,nd_=> by
   cases kvs with
   |nil=> exact trivial
   |cons _ _=> exact h_.elim
 |(k',x)::r,kvs,h_,nd=> by
  cases kvs with
  |nil=> exact h_.elim
  |cons q_ t=>
  obtain⟨j,u⟩:=q_;obtain⟨e,h,R⟩:=h_;rw [ud,vF]at nd;have ih:=Bc.del ok hk R nd.2;have q:=ok _ _ _ _ e hk;rw [eX _ _ _ _ nd.1];rw [Sh];by_cases z:j=kk
  . rw [if_pos z,if_pos (q.mpr z)];exact R
  . rw [if_neg z,if_neg fun y=> z (q.mp y)];exact⟨e,h,ih⟩
theorem Obj.IsDictOf.nodup{prog:uQ}{w:uS}{K:Type} [DecidableEq K]{knd:vd prog w K}{o:Obj}{kvs:List (K×R5)}(h:o.IsDictOf knd kvs):(kvs.map (·.1)).Nodup:=by obtain⟨es,ep,h1,h2,h3,h4,h5⟩:=h;exact h5
structure Keyed(prog:uQ)(w:uS)(B:Heap)(W:Wd)(es:List (AV×AV))(o:Obj)(k:AV)(v:R5){K:Type}(dec:DecidableEq K)(knd:vd prog w K)(kvs:List (K×R5))(kk:K):Prop where
 is:o.IsDictOf knd kvs
 key:knd.is kk v=true
 len:kvs.length=es.length
 has:(valueAt kvs kk).isSome=(EP k es).isSome
 put:∀a x,AK B W a x->∀o':Obj,o'.IsDictOf knd (stored kvs kk x)->Fe prog w B W (HT k a es) o'
 del:∀o':Obj,o'.IsDictOf knd (without kvs kk)->Fe prog w B W (II k es) o'
 get:∀c,EP k es=some c->∃y,valueAt kvs kk=some y/\AK B W c y
theorem keyed{prog:uQ}{w:uS}{B:Heap}{W:Wd}{es:List (AV×AV)}{o:Obj}{k:AV}{v:R5}(h:Fe prog w B W es o)(q:(keyOk k&&Df k es)=true)(hk:AK B W k v):
 ∃(K:Type) (dec:DecidableEq K) (knd:vd prog w K) (kvs:List (K×R5)) (kk:K),Keyed prog w B W es o k v dec knd kvs kk:=by
 refine Aa q fun q1 q2=> ?_;rcases P2 h q1 q2 with⟨k,kvs,rfl,hd,hr⟩ |⟨k,kvs,rfl,hd,hr⟩
 . obtain⟨t,rfl⟩:=hk;exact⟨_,_,_,kvs,k,hd,isInt_self k t,hr.len.symm,hr.isSome ofInt rfl,fun a x hx o' h'=>.inl ⟨_,h',hr.put ofInt rfl hx (Obj.IsDictOf.nodup hd)⟩,fun o' h'=>.inl ⟨_,h',hr.del ofInt rfl (Obj.IsDictOf.nodup hd)⟩,fun c e=> (hr.get ofInt rfl).1 c e⟩
 . obtain⟨⟨t,rfl⟩,_⟩:=hk;exact⟨_,_,_,kvs,_,hd,isStrOf_self _ t,hr.len.symm,hr.isSome ofStr rfl,fun a x hx o' h'=>.inr ⟨_,h',hr.put ofStr rfl hx (Obj.IsDictOf.nodup hd)⟩,fun o' h'=>.inr ⟨_,h',hr.del ofStr rfl (Obj.IsDictOf.nodup hd)⟩,fun c e=> (hr.get ofStr rfl).1 c e⟩
theorem eY{f:Int->Int->Bool}{a b:AV}{c:Bool}(h:IJ f a b=some c):∃x y,a= .int x/\b= .int y/\f x y=c:=by refine cps fun yv yt=> ?_;refine AY h fun x h1 h=> ?_;obtain⟨y,h2,h3⟩:=uF.mp h;refine yt ?_;exact⟨x,y,Cj h1,Cj h2,h3⟩
theorem UW{f:List Nat->List Nat->Bool}{a b:AV}{c:Bool}(h:Og f a b=some c):∃x y,a= .str x/\b= .str y/\f x y=c:=by refine cps fun yv yt=> ?_;refine AY h fun x h1 h=> ?_;obtain⟨y,h2,h3⟩:=uF.mp h;refine yt ?_;exact⟨x,y,DC h1,DC h2,h3⟩
theorem eZ{y:List Nat}{c:Bool}:∀{x:List Nat},Sj y x=some c->(!(xD (AJ y) (AJ x) 0 (AJ y).length 1).isEmpty)=c
 | []=>@fun h=> (eQ y).trans (uR h)
 | [ch]=>@fun h=> (eP ch y).trans (uR h)
 |_::_::_=>@fun h=> cNS h
theorem UX{a b:AV}{c:Bool}(h:Oh a b=some c):∃x y,a= .str x/\b= .str y/\(!(xD (AJ y) (AJ x) 0 (AJ y).length 1).isEmpty)=c:=by refine AY h fun x h1 h=> ?_;refine AY h fun y h2 h3=> ?_;exact⟨x,y,DC h1,DC h2,eZ h3⟩
set_option tactic.hygienic true in
theorem UY{a b:AV}{u v:R5}{c:Bool}(hu:AK G.B W a u)(hv:AK G.B W b v)(e:Oi a b=some c){Q:R5->tm->Prop}{E:R5->tm->Prop}:
 (Q (.bool c) s->wpAny (mo G) A (compareOp .Is u v) Q E s)/\(Q (.bool (!c)) s->wpAny (mo G) A (compareOp .IsNot u v) Q E s):=by
 cases b<;>first |cases e |skip
 . cases hv;rcases hu.isNone with⟨rfl,h1⟩ |⟨h0,h1⟩
   . rw [h1]at *;exact⟨fun h=> wpAny_is_self rfl h,fun h=> wpAny_isNot_self rfl h⟩
   . rw [h1]at *;exact⟨fun h=> PyProof.Rows.is_none_ne h0 h,fun h=> PyProof.Rows.isnot_none_ne h0 h⟩
 . cases hv;cases a<;>first |cases e |skip
   . cases hu;exact⟨fun h=> wpAny_is_other rfl (fun h=> nomatch h) h,fun h=> wpAny_isNot_other rfl (fun h=> nomatch h) h⟩
   . cases hu;rename_i b a;have:(Value.bool a==Value.bool b)=(a==b):=by cases a<;>cases b<;>rfl
     exact⟨fun h=> wpAny_is_plain rfl (this.symm▸h),fun h=> wpAny_isNot_plain rfl (this.symm▸h)⟩
theorem eg(O:AP G f)(HA:A.units+200<cLine)(I:Inv G f W l hp M ow m s){a b:AV}{u v:R5}(hu:AK G.B W a u)(hv:AK G.B W b v){c:Bool}(e:MB hp a b=some c)
 {Q:R5->tm->Prop} {E:R5->tm->Prop} (h:Q (.bool c) s):wpAny (mo G) A (compareOp .Eq u v) Q E s:=by
 refine cps fun yv yt=> ?_;refine AY e fun a' h1 e=> ?_;refine AY e fun b' h2 e=> ?_;refine yt ?_;by_cases q:(Bz 8 a'&&Bz 8 b')=true
 . refine cps fun zI yy=> ?_;rw [if_pos q]at e;refine Aa q fun q1 q2=> ?_;obtain⟨⟨as,r1⟩,r2,r3⟩:=I.data O hu h1 q1;obtain⟨⟨bs,r4⟩,r5,r6⟩:=I.data O hv h2 q2;refine yy ?_;refine SeqAt.compareEq_reads r1 r4 r2 r5 ?_ ((UM _ _ _ e).symm▸h);have:=HA;have:=Nat.min_le_left (pd a').depth (pd b').depth;exact A7 (uA this (uA r3 HA))
 . rw [if_neg q]at e;cases e
theorem ej(O:AP G f)(I:Inv G f W l hp M ow m s){a b:AV}{u v:R5}(hu:AK G.B W a u)(hv:AK G.B W b v){c:Bool}(e:Sk hp a b=some c)
 {Q:R5->tm->Prop} {E:R5->tm->Prop} (h:∀s',Inv G f W l hp M ow m s'->Q (.bool c) s'):wpAny (mo G) A (compareOp .In u v) Q E s:=by
 refine AY e fun i h1 e1=> ?_;clear e;refine AY e1 fun es h2 e2=> ?_;cases Ig h1;obtain⟨rfl,hi⟩:=I.lt hv;obtain⟨o,g1,_,g3,g4,g5⟩:=I.Hn hi (M8 h2);by_cases q:(keyOk a&&Df a es)=true
 . rw [if_pos q]at e2;cases e2;obtain⟨K,dec,knd,kvs,kk,D⟩:=keyed g4 q hu;exact kda_in I.nw (uK _ g1) D.is g3 D.key _ D.has (h _ (I.tok _))
 . rw [if_neg q]at e2;cases e2
theorem eu(O:AP G f)(I:Inv G f W l hp M ow m s){a b:AV}{u v:R5}(hu:AK G.B W a u)(hv:AK G.B W b v){c:Bool}(e:Sl a b=some c)
 {Q:R5->tm->Prop} {E:R5->tm->Prop} (h:Q (.bool c) s):wpAny (mo G) A (compareOp .In u v) Q E s:=by
 refine AY e fun x h1 e=> ?_;refine AY e fun ys h2 e=> ?_;obtain⟨ss,h3,rfl⟩:=uF.mp e;cases DC h1;obtain⟨⟨t,rfl⟩,_⟩:=hu;rcases UN h2 with rfl |rfl
 . obtain⟨⟨y,vs,k,rfl,g1,g2⟩,_⟩:=hv;exact PyProof.Rows.in_tuple_strs ⟨_,I.kn O g1,rfl,k,rfl⟩ (by simpa using NB g2 h3) (by rw [Pz];exact h)
 . obtain⟨⟨y,vs,k,rfl,g1,g2⟩,_⟩:=hv;exact PyProof.Rows.in_list_strs (FE (I.kn O g1)) (NB g2 h3) (by rw [Pz];exact h)
inductive ey(g:Int->Int->Bool)(u v:R5)(c:Bool):Prop
 |mk (x y:Int) (t t':Tok) (h1:u= .int x t) (h2:v= .int y t') (h3:c=g x y)
theorem LD{B:Heap}{W:Wd}{g:Int->Int->Bool}{a b:AV}{u v:R5}{c:Bool}(hu:AK B W a u)(hv:AK B W b v)(e:IJ g a b=some c):ey g u v c:=by obtain⟨x,y,e1,e2,e3⟩:=eY e;rw [e1]at hu;rw [e2]at hv;exact hu.elim fun t hu=> hv.elim fun t' hv=> ⟨x,y,t,t',hu,hv,e3.symm⟩
inductive ez(g:List Nat->List Nat->Bool)(u v:R5)(c:Bool):Prop
 |mk (x y:List Nat) (t t':Tok) (h1:u= .str (AJ x) t) (h2:v= .str (AJ y) t') (h3:c=g x y)
theorem NC{B:Heap}{W:Wd}{g:List Nat->List Nat->Bool}{a b:AV}{u v:R5}{c:Bool}(hu:AK B W a u)(hv:AK B W b v)(e:∃x y,a= .str x/\b= .str y/\g x y=c):ez g u v c:=by obtain⟨x,y,e1,e2,e3⟩:=e;rw [e1]at hu;rw [e2]at hv;exact hu.1.elim fun t hu=> hv.1.elim fun t' hv=> ⟨x,y,t,t',hu,hv,e3.symm⟩
theorem LF(O:AP G f)(HA:A.units+200<cLine)(I:Inv G f W l hp M ow m s){op:COp}{a b:AV}{u v:R5}(hu:AK G.B W a u)(hv:AK G.B W b v){c:Bool}(e:BZ hp op a b=some c)
 {Q:R5->tm->Prop} {E:R5->tm->Prop} (h:∀s',Inv G f W l hp M ow m s'->Q (.bool c) s'):wpAny (mo G) A (compareOp (HZ op) u v) Q E s:=by
 cases op
 . exact eg O HA I hu hv e (h _ I)
 . rcases GN e with e |e
   . obtain⟨x,y,t,t',rfl,rfl,rfl⟩:=LD hu hv e;exact PyProof.Rows.ne_int (h _ I)
   . obtain⟨x,y,t,t',rfl,rfl,rfl⟩:=NC hu hv (UW e);exact PyProof.Rows.ne_str (by rw [show∀x y:tq,(x !=y)= !(x==y)from fun _ _=> rfl,Px];exact h _ I)
 . obtain⟨x,y,t,t',rfl,rfl,rfl⟩:=LD hu hv e;exact PyProof.Rows.lt_int (h _ I)
 . rcases GN e with e |e
   . obtain⟨x,y,t,t',rfl,rfl,rfl⟩:=LD hu hv e;exact PyProof.Rows.le_int (h _ I)
   . obtain⟨x,y,t,t',rfl,rfl,rfl⟩:=NC hu hv (UW e);exact PySem.P.le_str (by rw [eO];exact h _ I)
 . obtain⟨x,y,t,t',rfl,rfl,rfl⟩:=LD hu hv e;exact PyProof.Rows.gt_int (h _ I)
 . obtain⟨x,y,t,t',rfl,rfl,rfl⟩:=LD hu hv e;exact PyProof.Rows.ge_int (h _ I)
 . rcases GN e with e |e
   . obtain⟨x,y,t,t',rfl,rfl,rfl⟩:=NC hu hv (UX e);exact PyProof.Rows.in_str (h _ I)
   . rcases GN e with e |e
     . exact ej O I hu hv e h
     . exact eu O I hu hv e (h _ I)
 . obtain⟨z,e1,rfl⟩:=uF.mp e;obtain⟨x,y,t,t',rfl,rfl,rfl⟩:=NC hu hv (UX e1);exact PyProof.Rows.notIn_str (h _ I)
 . exact(UY hu hv e).1 (h _ I)
 . obtain⟨z,e1,rfl⟩:=uF.mp e;exact(UY hu hv e1).2 (h _ I)
end
end
section
variable{G:Gx}{f:Fx}{A:tx}{X:XP}{P:Prog}
section
variable{W:Wd}{l:List (N×AV)}{hp:Hp}{M:Led}{ow:Addr->Nat}{m:tq->Option R5}{s:tm}
theorem Inv.freeze(I:Inv G f W l hp M ow m s){h':Heap}{tk:Nat}{D:Addr}{o:Obj}(F':Fr f.g f.L h' m)(N':News f.g f.L h' ((D,o)::(M++W.fz)))(lt:∀p∈M++W.fz,p.1<D):
 Inv G f (W.CK [(D,o)]) l hp M ow m ⟨h',s.gens,s.drawn,tk,s.os⟩:=
 ⟨F',News.sub N' (fun p hp=> by
     rcases uN.mp hp with h |h
     . exact .tail _ (uK _ h)
     . rcases uN.mp h with h |h
       . rcases uI.mp h with rfl |h
         . exact .head _
         . cases h
       . exact .tail _ (uC _ h)),
   I.hi.CK (fun p hp q hq=> by
    rcases uI.mp hp with rfl |hp
    . exact vD (lt q (uK _ hq))
    . cases hp),
   I.lr.mono (W.Cr _),I.gn,I.os⟩
theorem UZ{B:Heap}{W:Wd}{D:Addr}{o:Obj}:Kn B (W.CK [(D,o)]) D o:=.inl (uK _ (.head _))
theorem Inv.fresh(I:Inv G f W l hp M ow m s){h':Heap}{tk:Nat}{D:Addr}{o:Obj}{x:AObj}(F':Fr f.g f.L h' m)(N':News f.g f.L h' ((D,o)::(M++W.fz)))(lt:∀p∈M++W.fz,p.1<D){yu:Hp}{k:Nat}(g:hp.ET yu k x)
 (r:D7 G.prog G.w G.B (W.add k D) ((D,o)::M) (K7 ow k [D]) k x):
 Inv G f (W.add k D) l yu ((D,o)::M) (K7 ow k [D]) m ⟨h',s.gens,s.drawn,tk,s.os⟩:=
 ⟨F',N',I.hi.add (N:=[(D,o)]) g (by simp) (fun p hp q hq=> (by
     rcases uI.mp hp with rfl |hp
     . exact vD (lt q hq)
     . cases hp)) r,
   I.lr.mono (Wd.Hj _ (I.hi.nl g)),I.gn,I.os⟩
theorem BN.app{a b:List Nat}(h:BN a)(h':BN b)(z:a.length+b.length<=lim):BN (a++b):=
 ⟨by simpa using z,fun c hc=> (uN.mp hc).elim (h.2 c) (h'.2 c)⟩
theorem BN.rep{a:List Nat}(h:BN a):∀n:Nat,a.length * n<=lim->BN (C8 a n)
 |0=>@fun _=> ⟨uO _,fun c hc=> (nomatch hc)⟩
 |n+1=>@fun z=> by
  have z':a.length * n+a.length<=lim:=by rw [Nat.mul_succ]at z;exact z
  have ih:=h.rep n (by exact JE);have hl:∀n:Nat,(C8 a n).length=a.length * n:=fun n=> by
   induction n with
   |zero=> rfl
   |succ n ih=> show(a++C8 a n).length=_;rw [t9,ih,Nat.mul_succ];exact uc (Bt) (Bt)
  exact h.app ih (by rw [hl];exact AU z')
theorem GQ{α:Type}{n:Nat}{x y:α}(h:ck n x=some y):n<=lim/\x=y:=by
 unfold ck at h;split at h
 . rename_i q;exact⟨q,uR h⟩
 . cases h
theorem ND(a b:List Nat):AJ a++AJ b=AJ (a++b):=by show(⟨(AJ a).cps++(AJ b).cps⟩:tq)=_;simp [AJ]
theorem CF{n:Nat}(h:n<=lim):n<=sizeLine:=by unfold lim at h;rw [sizeLine_eq];exact Ay
theorem Ua{α:Type}(xs:List α):∀n:Nat,(tv n xs).flatten=C8 xs n
 |0=> rfl
 |n+1=> by rw [List.replicate_succ,List.flatten_cons,Ua xs n];rfl
theorem AX.rep{B:Heap}{W:Wd}{xs:List AV}{vs:List R5}(h:AX B W xs vs):∀n:Nat,AX B W (C8 xs n) (C8 vs n)
 |0=> trivial
 |n+1=> h.append (h.rep n)
theorem Ub{α:Type}(xs:List α):∀n:Nat,(C8 xs n).length=xs.length * n
 |0=> rfl
 |n+1=> by show(xs++C8 xs n).length=_;rw [t9,Ub xs n,Nat.mul_succ];exact uc (Bt) (Bt)
theorem Uc{α:Type}:∀(n:Nat) (x acc:List α),(tv n x.toArray).foldl (· ++·) acc.toArray=(acc++C8 x n).toArray
 |0=>@fun x acc=> congrArg _ (uD acc).symm
 |n+1=>@fun x acc=> by rw [List.replicate_succ,List.foldl_cons,yB,Uc n x (acc++x),t8];rfl
theorem NF{α:Type}(x:List α):C8 x 1=x:=uD x
theorem Ud{α:Type}:∀n:Nat,C8 ([]:List α) n=[]
 |0=> rfl
 |n+1=> Ud n
theorem fA(x:List Nat)(n:Int):Txt.mul (AJ x) n=AJ (C8 x n.toNat):=by
 unfold Txt.mul;by_cases h:n<1
 . rw [if_pos h];have:n.toNat=0:=by lia
   rw [this];rfl
 . rw [if_neg h];split
   . rename_i q;rcases wH.mp q with q |q
     . have:n=1:=by simpa using q
       subst this;rw [show(1:Int).toNat=1 from rfl,NF]
     . have:x=[]:=by
        rw [CL]at q;cases x with
        |nil=> rfl
        |cons a r=> simp at q
       subst this;rw [Ud]
   . show(⟨(tv n.toNat (AJ x).cps).foldl (· ++·) #[]⟩:tq)=_;have:=Uc n.toNat x [];unfold AJ;rw [wN]at this;exact congrArg PySem.Str.mk this
theorem fB{x:List Nat}{n:Int}(h1:n.natAbs<=lim)(h2:x.length * n.toNat<=lim):MulOk (AJ x) n:=by
 have hl:lim=1000000:=rfl;refine⟨?_,fun h3 _=> ?_,fun _ _=> ?_⟩
 . rw [x7];exact⟨decide_eq_false (by lia),decide_eq_false (by lia)⟩
 . rw [CL];intro h;have:(2 ^ 63 - 1:Int) / n * n<=2 ^ 63 - 1:=Int.ediv_mul_le _ (by lia);have q:(x.length * n.toNat:Nat)=(x.length:Int) * n:=by push_cast;rw [yC (by lia)]
   have h4:(2 ^ 63 - 1:Int)<((2 ^ 63 - 1:Int) / n+1) * n:=by have:=Int.lt_ediv_add_one_mul_self (2 ^ 63 - 1:Int) (show 0<n by exact SX);exact this
   have h5:((2 ^ 63 - 1:Int) / n+1) * n<=(x.length:Int) * n:=Int.mul_le_mul_of_nonneg_right (by assumption) (by lia);lia
 . rw [CL];unfold PySem.Builtin.Str.tooLong;exact decide_eq_false (by have:=CF h2;exact KP)
theorem Fl{h:Heap}{a:Addr}{vs:List R5}{k:Nat}(e:h.get? a=some (G5 vs k)):IsTup h a vs.toArray:=⟨_,e,rfl,k,rfl⟩
theorem Inv.Jh(I:Inv G f W l hp M ow m s){h':Heap}{D:Addr}{zs:List R5}{xs:List AV}{k tk:Nat}(F':Fr f.g f.L h' m)(N':News f.g f.L h' ((D,listOf zs.toArray k)::(M++W.fz)))(lt:∀p∈M++W.fz,p.1<D)
 (R:AX G.B W xs zs) (z:xs.length<=lim):∃V,W.le V/\Inv G f V l hp M ow m ⟨h',s.gens,s.drawn,tk,s.os⟩/\AK G.B V (.Ae xs) (.ref D):=
 ⟨_,W.Cr _,I.freeze F' N' lt,⟨_,zs,k,rfl,UZ,R.mono (W.Cr _)⟩,z⟩
theorem Inv.Ue(I:Inv G f W l hp M ow m s){h':Heap}{D:Addr}{zs:List R5}{xs:List AV}{k tk:Nat}(F':Fr f.g f.L h' m)(N':News f.g f.L h' ((D,G5 zs k)::(M++W.fz)))(lt:∀p∈M++W.fz,p.1<D)
 (R:AX G.B W xs zs) (z:xs.length<=lim):∃V,W.le V/\Inv G f V l hp M ow m ⟨h',s.gens,s.drawn,tk,s.os⟩/\AK G.B V (.tup xs) (.ref D):=
 ⟨_,W.Cr _,I.freeze F' N' lt,⟨_,zs,k,rfl,UZ,R.mono (W.Cr _)⟩,z⟩
theorem fC{x:Int}(h:x.natAbs<=lim):Builtin.Int.intBits x<=64:=by
 unfold Builtin.Int.intBits;split
 . exact Gj
 . rename_i q;have hy:x.natAbs≠0:=by simpa using q
   have:x.natAbs.log2<63:=by rw [Nat.log2_lt hy];have:lim=1000000:=rfl;exact BF
   exact Ay
theorem Ug{x y:Int}(h:y.natAbs<=lim):yR x y=false:=by
 unfold yR;have:(if y==0 then 0 else y.natAbs.log2 / 30+1)<=300:=by
  split
  . exact Gj
  . have:y.natAbs.log2<64:=by
     have hy:y.natAbs≠0:=by rename_i q;simpa using q
     rw [Nat.log2_lt hy];have:lim=1000000:=rfl;exact BF
    lia
 show(decide ((if y==0 then 0 else y.natAbs.log2 / 30+1)>300)&&_)=false;rw [Bool.and_eq_false_iff];exact .inl (decide_eq_false (by exact KP))
def NG(G:Gx)(f:Fx)(l:List (N×AV))(hp:Hp)(M:Led)(ow:Addr->Nat)(m:tq->Option R5)(W:Wd)(c:AV)(Q:R5->tm->Prop):Prop:=
 ∀V r s',W.le V->Inv G f V l hp M ow m s'->AK G.B V c r->Q r s'
theorem Uh{g:Int->Int->AV}{a b c:AV}(h:((Bb a).bind fun x=> (Bb b).map fun y=> g x y)=some c):∃x y,a= .int x/\b= .int y/\c=g x y:=by refine cps fun yv yt=> ?_;refine AY h fun x h1 h=> ?_;obtain⟨y,h2,h3⟩:=uF.mp h;refine yt ?_;exact⟨x,y,Cj h1,Cj h2,h3.symm⟩
variable{Q:R5->tm->Prop}{E:R5->tm->Prop}{a b c:AV}{u v:R5}
theorem fD(O:AP G f)(I:Inv G f W l hp M ow m s){xs ys:List AV}(hu:AK G.B W (.tup xs) u)(hv:AK G.B W (.tup ys) v)(q:xs.length+ys.length<=1000)(h:NG G f l hp M ow m W (.tup (xs++ys)) Q):wpAny (mo G) A (binaryOp .Add u v) Q E s:=by
 obtain⟨⟨x,vs,k,rfl,h1,h2⟩,z1⟩:=hu;obtain⟨⟨y,ws,k',rfl,h3,h4⟩,z2⟩:=hv;have hl1:=h2.length;have zz:=h4.length;refine add_tuples I.fr I.nw (Fl (I.kn O h1)) (Fl (I.kn O h3)) (fun e=> ?_) (fun e1 e2=> ?_) (fun _ _ h' F' N'=> ?_) (CF (by show _<=1000000;exact AU (uA (t7 zz.symm) (uA (t7 hl1.symm) q))))
 . subst e;cases vn.mp hl1;exact h W _ _ W.le_rfl I ⟨⟨y,ws,k',rfl,h3,h4⟩,z2⟩
 . subst e2;cases vn.mp zz;rw [uD]at h;exact h W _ _ W.le_rfl I ⟨⟨x,vs,k,rfl,h1,h2⟩,z1⟩
 . obtain⟨V,q1,q2,q3⟩:=I.Ue F' N' (fun p hp=> uf (I.nw p hp).1) (h2.append h4) (by simp;show _<=1000000;exact Ay);exact h V _ _ q1 q2 q3
theorem fE(O:AP G f)(I:Inv G f W l hp M ow m s)(hu:AK G.B W a u)(hv:AK G.B W b v)(e:Si hp a b=some c)(h:NG G f l hp M ow m W c Q):wpAny (mo G) A (binaryOp .Add u v) Q E s:=by
 rcases GN e with e |e
 . obtain⟨x,y,rfl,rfl,rfl⟩:=Uh e;obtain⟨t,rfl⟩:=hu;obtain⟨t',rfl⟩:=hv;exact PyProof.Rows.add_int (h W _ _ W.le_rfl (I.tok _) ⟨_,rfl⟩)
 rcases GN e with e |e
 . refine AY e fun x h1 e=> ?_;refine AY e fun y h2 e=> ?_;obtain⟨z,rfl⟩:=GQ e;rw [DC h1]at hu;rw [DC h2]at hv;obtain⟨⟨t,rfl⟩,h1⟩:=hu;obtain⟨⟨t',rfl⟩,h2⟩:=hv;exact PyProof.Rows.add_str (fun t' tk=> h W _ _ W.le_rfl (I.tok _) ⟨⟨_,by rw [ND]⟩,h1.app h2 z⟩) (by rw [CL,CL];exact CF z)
 rcases GN e with e |e
 . refine AY e fun x h1 e=> ?_;refine AY e fun y h2 e=> ?_;rw [Ie h1]at hu;rw [Ie h2]at hv;by_cases q:x.length+y.length<=1000
   . rw [if_pos q]at e;cases e;exact fD O I hu hv q h
   . rw [if_neg q]at e;cases e
 . refine AY e fun xs e1 e=> ?_;refine AY e fun ys e2 e=> ?_;obtain⟨z,rfl⟩:=GQ e;obtain⟨x,vs,k,rfl,h1,h2,h3⟩:=I.GO O hu e1;obtain⟨y,ws,k',rfl,h4,h5,h6⟩:=I.GO O hv e2;refine kmk_add_lit I.fr I.nw (FE h1) (FE h4) rfl (fun D h' F' N' lt=> ?_) (CF (by simpa [<-h2.length,<-h5.length]using z));obtain⟨V,q1,q2,q3⟩:=I.Jh F' N' lt (xs:=xs++ys) (by simpa using h2.append h5) (by simpa using z);exact h V _ _ q1 q2 q3
theorem fF(O:AP G f)(I:Inv G f W l hp M ow m s){y:Int}{t':Tok}(hu:AK G.B W a u)(e:KW hp a y=some c)(h:NG G f l hp M ow m W c Q):wpAny (mo G) A (binaryOp .Mult u (.int y t')) Q E s:=by
 unfold KW at e;by_cases qy:y.natAbs<=lim
 . rw [if_pos qy]at e;rcases GN e with e |e
   . refine AY e fun x h1 e=> ?_;rw [Cj h1]at hu;by_cases q:x.natAbs<=lim
     . rw [if_pos q]at e;cases e;obtain⟨t,rfl⟩:=hu;exact PyProof.Rows.mul_int (h W _ _ W.le_rfl (I.tok _) ⟨_,rfl⟩) (IntMulOk.of_left (fC q))
     . rw [if_neg q]at e;cases e
   rcases GN e with e |e
   . refine AY e fun x h1 e=> ?_;rw [DC h1]at hu;obtain⟨z,rfl⟩:=GQ e;obtain⟨⟨t,rfl⟩,h1⟩:=hu;exact PySem.SB.mul (fB qy z) fun t' k=> h W _ _ W.le_rfl (I.tok _) ⟨⟨_,by rw [fA]⟩,h1.rep _ z⟩
   . refine AY e fun xs e1 e=> ?_;by_cases q:xs.length * y.toNat<=256
     . rw [if_pos q]at e;cases e;obtain⟨x,vs,k,rfl,h1,h2,h3⟩:=I.GO O hu e1;have AAZ:lim=1000000:=rfl;refine KMa.mul I.fr I.nw (FE h1) (by lia) (by lia) (by rw [<-h2.length];exact q) (Ua _ _) fun D h' F' N' lt=> ?_;obtain⟨V,q1,q2,q3⟩:=I.Jh F' N' lt (h2.rep _) (by rw [Ub];exact Ay);exact h V _ _ q1 q2 q3
     . rw [if_neg q]at e;cases e
 . rw [if_neg qy]at e;cases e
theorem fG(O:AP G f)(I:Inv G f W l hp M ow m s){op:BOp}(hu:AK G.B W a u)(hv:AK G.B W b v)(e:binOp hp op a b=some c)(h:NG G f l hp M ow m W c Q):wpAny (mo G) A (binaryOp (Gu op) u v) Q E s:=by
 cases op
 . exact fE O I hu hv e h
 . obtain⟨x,y,rfl,rfl,rfl⟩:=Uh e;obtain⟨t,rfl⟩:=hu;obtain⟨t',rfl⟩:=hv;exact PyProof.Rows.sub_int' (h W _ _ W.le_rfl (I.tok _) ⟨_,rfl⟩)
 . refine AY e fun y h1 e=> ?_;rw [Cj h1]at hv;obtain⟨t',rfl⟩:=hv;exact fF O I hu e h
 . refine AY e fun x h1 e=> ?_;refine AY e fun y h2 e=> ?_;rw [Cj h1]at hu;rw [Cj h2]at hv;obtain⟨t,rfl⟩:=hu;obtain⟨t',rfl⟩:=hv;by_cases q:y=0∨y.natAbs>lim
   . rw [if_pos q]at e;cases e
   . rw [if_neg q]at e;cases e;exact PyProof.Rows.floordiv_int (fun z=> q (.inl z)) (h W _ _ W.le_rfl (I.tok _) ⟨_,rfl⟩) (.inl (Ug (Nat.le_of_not_lt fun z=> q (.inr z))))
 . refine AY e fun x h1 e=> ?_;refine AY e fun y h2 e=> ?_;rw [Cj h1]at hu;rw [Cj h2]at hv;obtain⟨t,rfl⟩:=hu;obtain⟨t',rfl⟩:=hv;by_cases q:y=0
   . rw [if_pos q]at e;cases e
   . rw [if_neg q]at e;cases e;exact PyProof.Rows.mod_int' q (h W _ _ W.le_rfl (I.tok _) ⟨_,rfl⟩)
end
end
section
variable{G:Gx}{f:Fx}{A:tx}{X:XP}{P:Prog}
theorem fH(O:AP G f){l r:Expr}{pos env}{el er:St->Out AV}{op:BOp}(hl:AW G f A X (eval l env) el)(hr:AW G f A X (eval r env) er):
 AW G f A X (eval (.BinOp l (Gu op) r pos) env) fun s=> (el s).bind fun a s=> (er s).bind fun b s=> AR (binOp s.hp op a b) fun v=>.ok v s:=fun W lo hp M ow m s Z eR I ne=> by
 refine wpAny_BinOp (Au eR W.le_rfl (fun h=> hl W lo hp M ow m s _ rfl I h) ne fun a σ V L ow m v s' eR h1 h2 I hv ne=> ?_);refine Au eR h1 (fun h=> hr V _ _ L ow m s' _ rfl I h) ne fun b σ' V' L ow m v' s' eR h1 h2 I zd ne=> ?_;obtain⟨c,h3,eR⟩:=BK eR ne;exact fG O I (hv.mono h2) zd h3 fun U r s' q1 q2 q3=> (q2.V eR (h1.trans q1) q3)
theorem fI{t:Sem R5}{pos:Pos}{ev:St->Out AV}(h:AW G f A X t ev):AW G f A X (boolOp pos .And [t]) ev:=h
theorem fJ{t:Sem R5}{pos:Pos}{ev:St->Out AV}(h:AW G f A X t ev):AW G f A X (boolOp pos .Or [t]) ev:=h
set_option backward.match.sparseCases true in
theorem fK(O:AP G f){t t':Sem R5}{ts:List (Sem R5)}{pos:Pos}{ev er:St->Out AV}(h:AW G f A X t ev)(hr:AW G f A X (boolOp pos .And (t'::ts)) er):
 AW G f A X (boolOp pos .And (t::t'::ts)) fun s=> (ev s).bind fun v s=> AR (truthy s.hp v) fun b=> if b=true then er s else .ok v s:=fun W l hp M ow m s Z eR I ne=> by
 show wpAny _ _ (do let v<-t;standAt pos;let b<-holding [v] (vu v);match BoolOp.And,b with | .And,false | .Or,true=> pure v |_,_=> boolOp pos .And (t'::ts)) _ _ _;refine tu (Au eR W.le_rfl (fun q=> h W l hp M ow m s _ rfl I q) ne fun a σ V L ow m v s' eR h1 h2 I hv ne=> ?_);obtain⟨c,h3,eR⟩:=BK eR ne;refine tu (uU (tu (uE (NA O I hv h3 fun s' I=> ?_))));cases c with
 |true=> exact Je h1 (hr V _ _ _ _ _ _ _ eR I ne)
 |false=> exact t4 (I.V eR h1 hv)
set_option backward.match.sparseCases true in
theorem fL(O:AP G f){t t':Sem R5}{ts:List (Sem R5)}{pos:Pos}{ev er:St->Out AV}(h:AW G f A X t ev)(hr:AW G f A X (boolOp pos .Or (t'::ts)) er):
 AW G f A X (boolOp pos .Or (t::t'::ts)) fun s=> (ev s).bind fun v s=> AR (truthy s.hp v) fun b=> if b=true then .ok v s else er s:=fun W l hp M ow m s Z eR I ne=> by
 show wpAny _ _ (do let v<-t;standAt pos;let b<-holding [v] (vu v);match BoolOp.Or,b with | .And,false | .Or,true=> pure v |_,_=> boolOp pos .Or (t'::ts)) _ _ _;refine tu (Au eR W.le_rfl (fun q=> h W l hp M ow m s _ rfl I q) ne fun a σ V L ow m v s' eR h1 h2 I hv ne=> ?_);obtain⟨c,h3,eR⟩:=BK eR ne;refine tu (uU (tu (uE (NA O I hv h3 fun s' I=> ?_))));cases c with
 |true=> exact t4 (I.V eR h1 hv)
 |false=> exact Je h1 (hr V _ _ _ _ _ _ _ eR I ne)
theorem fM{env:Env}:B8 G f A X (allTrue .And [] env) fun s=>.ok true s:=fun W l hp M ow m s Z eR I ne=> wpAny_allTrue_And_nil (I.Bo eR W.le_rfl)
theorem fN{env:Env}:B8 G f A X (allTrue .Or [] env) fun s=>.ok false s:=fun W l hp M ow m s Z eR I ne=> wpAny_allTrue_Or_nil (I.Bo eR W.le_rfl)
theorem fO{e:Expr}{rest:List Expr}{env:Env}{ev er:St->Out Bool}(h:B8 G f A X (isTrue e env (eval e env)) ev)(hr:B8 G f A X (allTrue .And rest env) er):
 B8 G f A X (allTrue .And (e::rest) env) fun s=> (ev s).bind fun b s=> if b=true then er s else .ok false s:=fun W l hp M ow m s Z eR I ne=> by
 refine wpAny_allTrue_And_cons (Ic eR W.le_rfl (fun q=> h W l hp M ow m s _ rfl I q) ne fun c σ V L ow m s' eR h1 h2 I ne=> ?_);cases c with
 |true=> exact Jf h1 (hr V _ _ _ _ _ _ _ eR I ne)
 |false=> exact(I.Bo eR h1)
theorem fP{e:Expr}{rest:List Expr}{env:Env}{ev er:St->Out Bool}(h:B8 G f A X (isTrue e env (eval e env)) ev)(hr:B8 G f A X (allTrue .Or rest env) er):
 B8 G f A X (allTrue .Or (e::rest) env) fun s=> (ev s).bind fun b s=> if b=true then .ok true s else er s:=fun W l hp M ow m s Z eR I ne=> by
 refine xu (Ic eR W.le_rfl (fun q=> h W l hp M ow m s _ rfl I q) ne fun c σ V L ow m s' eR h1 h2 I ne=> ?_);cases c with
 |true=> exact(I.Bo eR h1)
 |false=> exact Jf h1 (hr V _ _ _ _ _ _ _ eR I ne)
theorem Ui{op:BoolOp}{es:List Expr}{pos:Pos}{env:Env}{whole:Sem R5}{ev:St->Out Bool}(h:B8 G f A X (allTrue op es env) ev):B8 G f A X (isTrue (.BoolOp op es pos) env whole) ev:=
 fun W l hp M ow m s Z eR I ne=> wpAny_isTrue_BoolOp (h W l hp M ow m s Z eR I ne)
def fQ:Bool->St->Out AV:=fun b s=>.ok (.bool b) s
def Ji(G:Gx)(f:Fx)(A:tx)(X:XP)(ops:List CmpOp)(ts:List (Sem R5))(ev:AV->St->Out Bool):Prop:=
 ∀(pos:Pos) a u W l hp M ow m s,Inv G f W l hp M ow m s->AK G.B W a u->
  (∀Z,ev a ⟨l,hp⟩=Z->Z≠ .bad->K9 G f A X W (testChain pos u ops ts) Z s)/\
  (∀Z,(ev a ⟨l,hp⟩).bind fQ=Z->Z≠ .bad->Dj G f A X W (compareChain pos u ops ts) Z s)
theorem Uj(O:AP G f)(HA:A.units+200<cLine){op:COp}{t:Sem R5}{ev:St->Out AV}(h:AW G f A X t ev):
 Ji G f A X [HZ op] [t] fun a s=> (ev s).bind fun b s=> AR (BZ s.hp op a b) fun c=>.ok c s:=fun pos a u W l hp M ow m s I hu=> by
 refine⟨fun Z eR ne=> tu (uE (Au eR W.le_rfl (fun q=> h W l hp M ow m s _ rfl I q) ne fun b σ V L ow m v s' eR h1 h2 I hv ne=> ?_)),
  fun Z eR ne=> tu (uE (Au ((bind_assoc _ _ _).symm.trans eR) W.le_rfl (fun q=> h W l hp M ow m s _ rfl I q) ne fun b σ V L ow m v s' eR h1 h2 I hv ne=> ?_))⟩
 . obtain⟨c,h3,eR⟩:=BK eR ne;exact tu (uU (tu (wpAny_operate' (LF O HA I (hu.mono h2) hv h3 fun s' I=> uE (wo (I.Bo eR h1))))))
 . obtain⟨c,h3,eR⟩:=Hl eR ne;exact tu (uU (wpAny_operate' (LF O HA I (hu.mono h2) hv h3 fun s' I=> I.V eR h1 rfl)))
theorem fR(O:AP G f)(HA:A.units+200<cLine){op:COp}{zG:CmpOp}{ops:List CmpOp}{t t':Sem R5}{ts:List (Sem R5)}{ev:St->Out AV}{er:AV->St->Out Bool}(h:AW G f A X t ev)(hr:Ji G f A X (zG::ops) (t'::ts) er):
 Ji G f A X (HZ op::zG::ops) (t::t'::ts) fun a s=> (ev s).bind fun b s=> AR (BZ s.hp op a b) fun c=> if c=true then er b s else .ok false s:=fun pos a u W l hp M ow m s I hu=> by
 refine⟨fun Z eR ne=> tu (uE (Au eR W.le_rfl (fun q=> h W l hp M ow m s _ rfl I q) ne fun b σ V L ow m v s' eR h1 h2 I hv ne=> ?_)),
  fun Z eR ne=> tu (uE (Au ((bind_assoc _ _ _).symm.trans eR) W.le_rfl (fun q=> h W l hp M ow m s _ rfl I q) ne fun b σ V L ow m v s' eR h1 h2 I hv ne=> ?_))⟩
 . obtain⟨c,h3,eR⟩:=BK eR ne;refine tu (uU (tu (uE (LF O HA I (hu.mono h2) hv h3 fun s' I=> tu (vt (tu (uE (wo ?_))))))));cases c with
   |true=> exact Jf h1 ((hr pos b v V _ _ _ _ _ _ I hv).1 _ eR ne)
   |false=> exact t4 (I.Bo eR h1)
 . obtain⟨c,h3,eR⟩:=Hl eR ne;refine tu (uU (tu (uE (LF O HA I (hu.mono h2) hv h3 fun s' I=> tu (vt (tu (uE (wo ?_))))))));cases c with
   |true=> exact Je h1 ((hr pos b v V _ _ _ _ _ _ I hv).2 _ eR ne)
   |false=> exact t4 (I.V eR h1 rfl)
theorem fS{le:Expr}{ops:List CmpOp}{es:List Expr}{pos:Pos}{env:Env}{el:St->Out AV}{er:AV->St->Out Bool}(hm:lastMarks ops es=false)(hl:AW G f A X (eval le env) el)(hr:Ji G f A X ops (evalEach es env) er):
 AW G f A X (eval (.Compare le ops es pos) env) fun s=> (el s).bind fun a s=> (er a s).bind fun b s=>.ok (.bool b) s:=fun W l hp M ow m s Z eR I ne=> by
 rw [arm_eval_Compare,xn _ _ _ hm];exact tu (Au eR W.le_rfl (fun q=> hl W l hp M ow m s _ rfl I q) ne fun b σ V L ow m v s' eR h1 h2 I hv ne=> Je h1 ((hr pos b v V _ _ _ _ _ _ I hv).2 _ eR ne))
theorem cmp_T{le:Expr}{ops:List CmpOp}{es:List Expr}{pos:Pos}{env:Env}{whole:Sem R5}{el:St->Out AV}{er:AV->St->Out Bool}(hm:lastMarks ops es=false)(hl:AW G f A X (eval le env) el)(hr:Ji G f A X ops (evalEach es env) er):
 B8 G f A X (isTrue (.Compare le ops es pos) env whole) fun s=> (el s).bind fun a s=> er a s:=fun W l hp M ow m s Z eR I ne=> by
 rw [arm_isTrue_Compare,xn _ _ _ hm];exact tu (Au eR W.le_rfl (fun q=> hl W l hp M ow m s _ rfl I q) ne fun b σ V L ow m v s' eR h1 h2 I hv ne=> Jf h1 ((hr pos b v V _ _ _ _ _ _ I hv).1 _ eR ne))
def FH(ts:List (Sem R5)):List (Bool×Sem R5):=ts.map fun t=> (false,t)
def Cs(G:Gx)(f:Fx)(A:tx)(X:XP)(ts:List (Sem R5))(ev:St->Out (List AV)):Prop:=
 ∀W l hp M ow m s Z,ev ⟨l,hp⟩=Z->Inv G f W l hp M ow m s->Z≠ .bad->Pm G f A X W (spliced (FH ts)) Z s
theorem D8(pos:Pos)(env:Env):∀es:List Expr,es.all noStar=true->backTo pos (starEach es env)=FH (evalEach es env)
 | []=>@fun _=> rfl
 |e::r=>@fun h=> by simp only [vH,wu]at h;have ih:=D8 pos env r h.2;cases e<;>first |exact congrArg _ ih |cases h.1
theorem Uk:Cs G f A X [] fun s=>.ok [] s:=fun W l hp M ow m s Z eR I ne=> spliced_nil (I.Vs eR W.le_rfl trivial)
theorem Ul{t:Sem R5}{ts:List (Sem R5)}{ev:St->Out AV}{er:St->Out (List AV)}(h:AW G f A X t ev)(hr:Cs G f A X ts er):
 Cs G f A X (t::ts) fun s=> (ev s).bind fun v s=> (er s).bind fun vs s=>.ok (v::vs) s:=fun W l hp M ow m s Z eR I ne=>
 wW (Au eR W.le_rfl (fun q=> h W l hp M ow m s _ rfl I q) ne fun a σ V L ow m v s' eR h1 h2 I hv ne=>
  Fh eR h1 (fun q=> hr V _ _ _ _ _ _ _ rfl I q) ne fun as σ' V' L ow m vs s' eR h1 h2 I hvs ne=> I.Vs eR h1 ⟨hv.mono h2,hvs⟩)
theorem Um{es:List Expr}{k:Nat}{pos:Pos}{env:Env}{ev:St->Out (List AV)}(hs:es.all noStar=true)(hz:∀s vs s',ev s= .ok vs s'->vs.length<=lim)(h:Cs G f A X (evalEach es env) ev):
 AW G f A X (eval (.Tuple es k pos) env) fun s=> (ev s).bind fun vs s=>.ok (.tup vs) s:=fun W l hp M ow m s Z eR I ne=> by
 rw [arm_eval_Tuple,D8 _ _ _ hs];refine tu (uU (tu (Po eR W.le_rfl (fun q=> h W l hp M ow m s _ rfl I q) ne fun as σ V L ow m vs s' e0 eR h1 h2 I hv=> ?_)));have zS:=hz _ _ _ e0;refine kup_newTuple I.fr I.nw (fun D h' F' N' lt=> ?_) (CF (hv.length▸zS));obtain⟨V',q1,q2,q3⟩:=I.Ue F' N' lt hv zS;exact q2.V eR (h1.trans q1) q3
theorem Inv.Un{W:Wd}{l:List (N×AV)}{hp:Hp}{M:Led}{ow:Addr->Nat}{m:tq->Option R5}{s:tm}(I:Inv G f W l hp M ow m s){h':Heap}{D:Addr}{vs:List R5}{xs:List AV}{k tk:Nat}(F':Fr f.g f.L h' m)(N':News f.g f.L h' ((D,listOf vs.toArray k)::(M++W.fz)))(lt:∀p∈M++W.fz,p.1<D)
 (R:AX G.B W xs vs) (z:xs.length<=lim):∃V M' zC,W.le V/\Inv G f V l (hp.add (.lst xs)) M' zC m ⟨h',s.gens,s.drawn,tk,s.os⟩/\AK G.B V (.ref hp.n) (.ref D):=by
 have g:=hp.MQ (.lst xs);have e1:(W.add hp.n D).r hp.n=D:=if_pos rfl;have le:=Wd.Hj D (I.hi.nl g);refine⟨W.add hp.n D,_,_,le,I.fresh F' N' lt g ⟨vs,k,?_,?_,R.mono le,z⟩,?_,.inr rfl⟩
 . rw [e1];exact .head _
 . rw [e1];exact if_pos (.head _)
 . exact congrArg vj e1.symm
theorem Uo{es:List Expr}{pos:Pos}{env:Env}{yr:Bool}{ev:St->Out (List AV)}(hs:es.all noStar=true)(hz:∀s vs s',ev s= .ok vs s'->vs.length<=lim)(h:Cs G f A X (evalEach es env) ev):
 AW G f A X (eval (.List es pos) env) fun s=> (ev s).bind fun vs s=> if yr=true then .ok (.ref s.hp.n) ⟨s.loc,s.hp.add (.lst vs)⟩else .ok (.Ae vs) s:=fun W l hp M ow m s Z eR I ne=> by
 rw [arm_eval_List,D8 _ _ _ hs];refine tu (uU (tu (Po eR W.le_rfl (fun q=> h W l hp M ow m s _ rfl I q) ne fun as σ V L ow m vs s' e0 eR h1 h2 I hv=> ?_)));have zS:=hz _ _ _ e0;refine newList_K I.fr I.nw (fun D h' F' N' lt=> ?_) (CF (hv.length▸zS));cases yr with
 |false=> obtain⟨V',q1,q2,q3⟩:=I.Jh F' N' lt hv zS;exact q2.V eR (h1.trans q1) q3
 |true=> obtain⟨V',M',zC,q1,q2,q3⟩:=I.Un F' N' lt hv zS;exact q2.V eR (h1.trans q1) q3
end
section
variable{G:Gx}{f:Fx}{A:tx}{X:XP}{P:Prog}
theorem Up{n:Nat}{k:Int}{j:Nat}(h:C2 n k=some j):seqIndex? k n=some j/\j<n:=by
 unfold C2 at h;unfold seqIndex?;split at h
 . split at h
   . cases h;have:¬k<0:=by exact L6
     simp only [this,if_false];refine⟨if_pos ?_,by lia⟩;simp;lia
   . cases h
 . split at h
   . cases h;have:k<0:=by lia
     simp only [this,if_true];refine⟨if_pos ?_,by lia⟩;simp;lia
   . cases h
theorem P4{n:Nat}{k:Int}{j:Nat}(h:C2 n k=some j): -(n:Int)<=k/\k<n:=by
 unfold C2 at h;split at h
 . split at h
   . constructor<;>lia
   . cases h
 . split at h
   . constructor<;>lia
   . cases h
def P5(u:R5)(s:tm):Prop:=∃T id,s.TypeIs u T/\typeLookup (.type T) "__getitem__"=pure (some (.builtin id))
section
variable{W:Wd}{l:List (N×AV)}{hp:Hp}{M:Led}{ow:Addr->Nat}{m:tq->Option R5}{s:tm}
theorem list_item{a:Addr}{vs:List R5}{k:Int}{t:Tok}{j:Nat}{x:R5}{prog:uQ}{w:uS}{Q:R5->tm->Prop}{E:R5->tm->Prop}(hl:s.heap.IsList a vs.toArray)(e:C2 vs.length k=some j)(z:vs.length<=lim)(hx:vs[j]? =some x)(h:Q x s):
 wpAny (model prog w) A (getItem (.ref a) (.int k t)) Q E s:=by
 have AAZ:lim=1000000:=rfl;have hb:=P4 e;unfold C2 at e;split at e
 . split at e
   . cases e;exact wpAny_getItem_list hl (by assumption) (by lia) (by simpa using hx) h
   . cases e
 . split at e
   . cases e;exact wpAny_getItem_list_neg hl (by lia) (by simp;lia) (by lia) (by simpa using hx) h
   . cases e
variable{a b c:AV}{u v:R5}{Q:R5->tm->Prop}{E:R5->tm->Prop}
abbrev Got(G:Gx)(A:tx)(u v:R5)(Q:R5->tm->Prop)(E:R5->tm->Prop)(s:tm):Prop:=P5 u s/\wpAny (mo G) A (getItem u v) Q E s
theorem Uq{xs:List AV}(e:HU xs b=some c):∃k j,b= .int k/\C2 xs.length k=some j/\xs[j]? =some c:=by refine AY e fun k h1 e=> ?_;refine AY e fun j h2 e=> ?_;exact⟨k,j,Cj h1,h2,e⟩
theorem Ur(O:AP G f)(I:Inv G f W l hp M ow m s)(hu:AK G.B W a u)(hv:AK G.B W b v){xs:List AV}(e1:Ei hp a=some xs)(e:HU xs b=some c)(h:∀r s',Inv G f W l hp M ow m s'->AK G.B W c r->Q r s'):Got G A u v Q E s:=by refine cps fun yv yt=> ?_;obtain⟨k,j,rfl,h4,h5⟩:=Uq e;obtain⟨t,rfl⟩:=hv;obtain⟨x,vs,n,rfl,h1,h2,h3⟩:=I.GO O hu e1;obtain⟨y,h6,h7⟩:=h2.get h5;refine yt ?_;exact⟨⟨_,_,⟨_,h1,rfl⟩,ya.lookup⟩,list_item (FE h1) (h2.length▸h4) (h2.length▸h3) h6 (h _ _ I h7)⟩
theorem D9(I:Inv G f W l hp M ow m s){x:List Nat}{k:Int}{j ch:Nat}(hu:AK G.B W (.str x) u)(hv:AK G.B W (.int k) v)(hj:C2 x.length k=some j)(h1:x[j]? =some ch)(h:∀r s',Inv G f W l hp M ow m s'->AK G.B W (.str [ch]) r->Q r s'):Got G A u v Q E s:=by
 have AAZ:lim=1000000:=rfl;obtain⟨⟨t,rfl⟩,hs⟩:=hu;obtain⟨t',rfl⟩:=hv;have hb:=P4 hj;have hz:=hs.1;have hc:Txt.charAt (AJ x) k=some ch:=by unfold Txt.charAt;rw [CL,(Up hj).1];show(AJ x).cps[j]? =some ch;simpa [AJ]using h1
 refine⟨⟨_,_,vR s _ t,yQ.lookup⟩,PySem.SB.getItem (by unfold fitsSsize;simp;lia) (by rw [hc];rfl) ?_⟩;refine h _ _ (I.tok _) ⟨⟨_,by unfold Txt.item;rw [hc];rfl⟩,by simp;exact Gj,?_⟩;intro c hc';rw [u5.mp hc'];exact hs.2 _ (vV h1)
theorem fT(O:AP G f)(I:Inv G f W l hp M ow m s){xs:List AV}(hu:AK G.B W (.tup xs) u)(hv:AK G.B W b v)(e:HU xs b=some c)(h:∀r s',Inv G f W l hp M ow m s'->AK G.B W c r->Q r s'):Got G A u v Q E s:=by refine cps fun yv yt=> ?_;have AAZ:lim=1000000:=rfl;obtain⟨k,j,rfl,h4,h5⟩:=Uq e;obtain⟨⟨x,vs,n,rfl,h1,h2⟩,h3⟩:=hu;obtain⟨t',rfl⟩:=hv;obtain⟨y,h6,h7⟩:=h2.get h5;refine yt ?_;have hb:=P4 h4;have T:=Fl (I.kn O h1);refine⟨⟨_,_,T.typeIs,PyProof.Rows.slot_tuple_getitem.lookup⟩,PyProof.Rows.getItem_tuple T (by lia) (by lia) ?_ (by simpa using h6) (h _ _ I h7)⟩;rw [uy,<-h2.length];exact(Up h4).1
theorem fU(I:Inv G f W l hp M ow m s){i:Nat}{es:List (AV×AV)}(hu:AK G.B W (.ref i) u)(hv:AK G.B W b v)(hf:hp.f i= .A4 es)(q:(keyOk b&&Df b es)=true)(e:EP b es=some c)(h:∀r s',Inv G f W l hp M ow m s'->AK G.B W c r->Q r s'):Got G A u v Q E s:=by refine cps fun yv yt=> ?_;obtain⟨rfl,hi⟩:=I.lt hu;obtain⟨o,h1,h2,h3,h4,h5⟩:=I.Hn hi hf;obtain⟨K,dec,knd,kvs,kk,D⟩:=keyed h4 q hv;obtain⟨y,h6,h7⟩:=D.get _ e;refine yt ?_;exact⟨⟨"dict",_,by obtain⟨es,ep,h,_⟩:=D.is;exact⟨o,I.mem h1,h.1⟩,PySem.F.slot_dict_getitem.lookup⟩,wpAny_getItem_of D.key (vM.mpr ⟨o,I.mem h1,D.is⟩).mapOf h6 (h _ _ (I.tok _) h7)⟩
set_option tactic.hygienic true in
theorem P6(O:AP G f)(I:Inv G f W l hp M ow m s)(hu:AK G.B W a u)(hv:AK G.B W b v)(e:CP hp a b=some c)(h:∀r s',Inv G f W l hp M ow m s'->AK G.B W c r->Q r s'):Got G A u v Q E s:=by
 cases(a)<;>first |(cases(e);done) |skip
 . refine AY e fun k h1 e1=> ?_;refine AY e1 fun j h2 e2=> ?_;obtain⟨ch,h3,rfl⟩:=uF.mp e2;rw [Cj h1]at hv;exact D9 I hu hv h2 h3 h
 . exact fT O I hu hv e h
 . exact Ur O I hu hv rfl e h
 . rename_i i;change Oj b (hp.f i)=some c at e;generalize hq:hp.f i=o at e;cases(o)<;>first |(cases(e);done) |skip
   . exact Ur O I hu hv (congrArg C9 hq) e h
   . rename_i es;by_cases q:(keyOk b&&Df b es)=true
     . exact fU I hu hv hq q (by rw [<-e];exact(if_pos q).symm) h
     . rw [show Oj b (.A4 es)=none from if_neg q]at e;cases(e)
end
theorem Us{i:Expr}{o k:R5}(h:IL i=true):subscripted i false o k=operate [o,k] (getItem o k):=by cases i<;>first |rfl |cases h
theorem fV(O:AP G f){e i:Expr}{pos:Pos}{env:Env}{ee ei:St->Out AV}(hn:IL i=true)(he:AW G f A X (eval e env) ee)(hi:AW G f A X (eval i env) ei):
 AW G f A X (eval (.Subscript e i pos) env) fun s=> (ee s).bind fun o s=> (ei s).bind fun k s=> AR (CP s.hp o k) fun v=>.ok v s:=fun W l hp M ow m s Z eR I ne=> by
 refine xp (Au eR W.le_rfl (fun q=> he W l hp M ow m s _ rfl I q) ne fun o σ V L ow m u s' eR h1 h2 I hu ne=> ?_);refine Au eR h1 (fun h=> hi V _ _ L ow m s' _ rfl I h) ne fun k σ' V' L ow m v s' eR h1 h2 I hv ne=> ?_;refine cps fun yv yt=> ?_;obtain⟨c,h3,eR⟩:=BK eR ne;obtain⟨⟨T,id,t1,t2⟩,g⟩:=P6 (A:=A) (E:=A9 X W Z) (Q:=Ff G f W Z) O I (hu.mono h2) hv h3 fun r s' I hr=> (I.V eR h1 hr);refine yt ?_;exact xv t1 t2 g (Us hn)
end
section
variable{G:Gx}{f:Fx}{A:tx}{X:XP}{P:Prog}
open PySem.Builtin.Str (strSliceIndices)
open PySem.StrLaws (sliceText sliceText_nat)
theorem P7(n:Nat)(i:Int):max (0:Int) (min (if i<0 then i+n else i) n)=(Dr n i:Nat):=(yC (Int.le_max_left _ _)).symm
theorem Ut(n:Nat)(i:Int):Dr n i<=n:=vA.mp (by rw [<-P7];exact Int.max_le.mpr ⟨u4 n,Int.min_le_right _ _⟩)
def Ii(n:Nat)(l:Option Int):Nat:=(l.map (Dr n)).getD 0
def Jj(n:Nat)(l:Option Int):Nat:=(l.map (Dr n)).getD n
theorem Uu(n:Nat)(l:Option Int):Ii n l<=n:=by cases l with |none=> exact uO _ |some i=> exact Ut n i
theorem Uv(n:Nat)(l:Option Int):Jj n l<=n:=by cases l with |none=> exact uW _ |some i=> exact Ut n i
theorem NH{a n:Nat}(h:a<=n):max (0:Int) (min (if(a:Int)<0 then(a:Int)+n else(a:Int)) n)=a:=by rw [if_neg (vv.mpr (u4 a)),Int.min_eq_left (vA.mpr h),xU (u4 a)]
theorem fW(l u:Option Int)(n:Nat):strSliceIndices l u 1 n=strSliceIndices (some (Ii n l:Nat)) (some (Jj n u:Nat)) 1 n:=by
 have h1:=NH (Uu n l);have h2:=NH (Uv n u);have g:∀a b:Option Int,strSliceIndices a b 1 n=sliceRange (match a with |none=> 0 |some i=> max 0 (min (if i<0 then i+n else i) n)) (match b with |none=> (n:Int) |some i=> max 0 (min (if i<0 then i+n else i) n)) 1:=by intro a b;cases a<;>cases b<;>rfl
 rw [g,g];dsimp only;rw [h1,h2];congr 1
 . cases l with
   |none=> rfl
   |some i=> exact P7 n i
 . cases u with
   |none=> rfl
   |some i=> exact P7 n i
theorem fX{a b n:Nat}(ha:a<=n)(hb:b<=n)(h:b<=a):strSliceIndices (some (a:Int)) (some (b:Int)) 1 n=[]:=by
 have h1:=NH ha;have h2:=NH hb;show sliceRange (max 0 (min (if(a:Int)<0 then(a:Int)+n else(a:Int)) n)) (max 0 (min (if(b:Int)<0 then(b:Int)+n else(b:Int)) n)) 1=[];rw [h1,h2];unfold sliceRange;have:¬((a:Int)<b):=by lia
 simp [this]
theorem fY(s:List Nat)(l u:Option Int):sliceText (AJ s) l u=AJ (CB s l u):=by
 have hs:(AJ s).length=s.length:=CL s;have e:sliceText (AJ s) l u=sliceText (AJ s) (some (Ii s.length l:Nat)) (some (Jj s.length u:Nat)):=by unfold sliceText;rw [hs,fW l u s.length]
 rw [e];have hl:=Uu s.length l;have hu:=Uv s.length u;show _=AJ ((s.drop (Ii s.length l)).take (Jj s.length u - Ii s.length l));rcases xi (Ii s.length l) (Jj s.length u)with h |h
 . rw [sliceText_nat _ h (by rw [hs];exact hu)];simp [AJ]
 . have z:Jj s.length u - Ii s.length l=0:=by lia
   rw [z,List.take_zero];unfold sliceText;rw [hs,fX hl hu h];split
   . rename_i q;cases s with
     |nil=> rfl
     |cons a r=> simp at q
   . rfl
theorem Uw{α:Type}(s:List α)(l u:Option Int):(CB s l u).length<=s.length:=
 t5 (List.length_take_le' ..) (t5 (t7 wM) (Nat.sub_le ..))
theorem fZ{α:Type}{s:List α}{l u:Option Int}{c:α}(h:c∈CB s l u):c∈s:=wG (x8 h)
theorem BN.slice{s:List Nat}(h:BN s)(l u:Option Int):BN (CB s l u):=⟨t5 (Uw s l u) h.1,fun c hc=> h.2 c (fZ hc)⟩
theorem AX.slice{B:Heap}{W:Wd}{xs:List AV}{vs:List R5}(h:AX B W xs vs)(l u:Option Int):AX B W (CB xs l u) (CB vs l u):=by unfold CB;rw [h.length];exact(h.drop _).take _
theorem Ux(n:Nat)(i:Int):Dr n i=clipAt n i:=rfl
theorem fc(vs:List R5)(l u:Option Int):slicePick vs.toArray l u none=(CB vs l u).toArray:=by
 rw [slicePick_plain];unfold CB;have g:∀i,clipAt vs.toArray.size i=Dr vs.length i:=fun i=> by rw [Ux];simp
 cases l<;>cases u<;>simp [Option.elim,g,Ux]
theorem part_of{B:Heap}{W:Wd}{a:AV}{v:R5}{o:Option Int}(h:AK B W a v)(e:Ol a=some o):∃p:Option (Int×Tok),v=partValue p/\p.map (·.1)=o/\IsPart v o:=by
 cases a<;>first |(cases e;done) |skip
 . cases e;cases h;exact⟨none,rfl,rfl,.none⟩
 . cases e;obtain⟨t,rfl⟩:=h;exact⟨some (_,t),rfl,rfl,.int _ t⟩
section
variable{W:Wd}{l:List (N×AV)}{hp:Hp}{M:Led}{ow:Addr->Nat}{m:tq->Option R5}{s:tm}
def Jk(a b:R5):Obj:={cls:=.type "slice",data:=.fields #[a,b,.none]}
set_option tactic.hygienic true in
theorem fe(O:AP G f)(I:Inv G f W l hp M ow m s){a lo hi c:AV}{u vl vh:R5}(hu:AK G.B W a u)(hl:AK G.B W lo vl)(hh:AK G.B W hi vh)(e:GA hp a lo hi=some c){Q:R5->tm->Prop}{E:R5->tm->Prop}
 (h:∀r s',JJ c=none->Inv G f W l hp M ow m s'->AK G.B W c r->Q r s')
 (hL:∀D h' vs tk xs,c= .Ae xs->Fr f.g f.L h' m->News f.g f.L h' ((D,listOf (List.toArray vs) 0)::(M++W.fz))->(∀p∈M++W.fz,p.1<D)->AX G.B W xs vs->xs.length<=lim->Q (.ref D) ⟨h',s.gens,s.drawn,tk,s.os⟩):
 P5 u {s with heap:=s.heap.push (Jk vl vh)}/\wpAny (mo G) A (getItem u (.ref s.heap.objs.size)) Q E {s with heap:=s.heap.push (Jk vl vh)}:=by
 have F1:Fr f.g f.L (s.heap.push (Jk vl vh)) m:=I.fr.push _;have N1:=News.push I.fr I.nw (Jk vl vh);have hS:=(N1 _ (.head _)).1;have I1:Inv G f W l hp M ow m {s with heap:=s.heap.push (Jk vl vh)}:=⟨F1,News.sub N1 fun p hp=>.tail _ hp,I.hi,I.lr,I.gn,I.os⟩;clear I N1;generalize hs1:({s with heap:=s.heap.push (Jk vl vh)}:tm)=s1 at I1⊢;refine cps fun yv yt=> ?_;refine AY e fun ol h1 e'=> ?_;clear e;refine AY e' fun oh h2 e=> ?_;clear e';obtain⟨pl,rfl,e1,i1⟩:=part_of hl h1;obtain⟨ph,rfl,e2,i2⟩:=part_of hh h2;refine yt ?_;have lst:∀{xs:List AV},Ei hp a=some xs->c= .Ae (CB xs ol oh)->P5 u s1/\wpAny (mo G) A (getItem u (.ref s.heap.objs.size)) Q E s1:=fun{xs} e3 e4=> by refine cps fun zI yy=> ?_;subst e4;subst hs1;obtain⟨x,vs,n,rfl,g1,g2,g3⟩:=I1.GO O hu e3;refine yy ?_;refine⟨⟨_,_,⟨_,g1,rfl⟩,ya.lookup⟩,?_⟩;refine wpAny_getItem_list_slice (vs:=.none) (st:=none) (FE g1) ⟨_,hS,rfl,rfl⟩ i1 i2 .none (by intro h;cases h) ?_ (by simpa using CF (g2.length▸g3));rw [fc];exact hL _ _ _ _ _ rfl (F1.push _) (News.push F1 I1.nw (listOf (CB vs ol oh).toArray 0)) (fun p hp=> uf (I1.nw p hp).1) (g2.slice ol oh) (t5 (Uw xs ol oh) g3)
 cases a<;>first |(cases e;done) |skip
 . rename_i x;cases e;refine cps fun zu zL=> ?_;clear lst hL;obtain⟨⟨t,rfl⟩,hs⟩:=hu;refine zL ?_;refine⟨⟨_,_,vR _ _ t,yQ.lookup⟩,?_⟩;refine wpAny_getItem_str_slice (l:=pl) (u:=ph) (st:=none) ⟨_,by rw [<-hs1];exact hS,rfl,rfl⟩ rfl ?_;have key:=fY x ol oh;unfold sliceText at key;unfold sliceMade slicePicked;rw [e1,e2];show(if((1:Int)==1&&(strSliceIndices ol oh 1 (AJ x).length).length==(AJ x).length)=true then Made.val (.str (AJ x) t)else Made.str ⟨((strSliceIndices ol oh 1 (AJ x).length).filterMap ((AJ x).cps[·]?)).toArray⟩).post Q s1;by_cases q:((1:Int)==1&&(strSliceIndices ol oh 1 (AJ x).length).length==(AJ x).length)=true
   . rw [if_pos q]at key⊢;exact h _ _ rfl I1 ⟨⟨t,by rw [key]⟩,hs.slice _ _⟩
   . rw [if_neg q]at key⊢;rw [key];exact⟨CF (by show(AJ (CB x ol oh)).cps.size<=lim;have:=(hs.slice ol oh).1;simpa [AJ]using this),h _ _ rfl (I1.tok _) ⟨⟨_,rfl⟩,hs.slice _ _⟩⟩
 . cases e;exact lst rfl rfl
 . refine cps fun P4_ z0=> ?_;obtain⟨xs,h3,rfl⟩:=uF.mp e;refine z0 ?_;exact lst h3 rfl
end
def LG(G:Gx)(f:Fx)(A:tx)(X:XP)(o:Option Expr)(ev:St->Out AV):Prop:=
 ∀W l hp M ow m s Z,ev ⟨l,hp⟩=Z->Inv G f W l hp M ow m s->Z≠ .bad->Dj G f A X W (evalPart o f.env) Z s
theorem ff:LG G f A X none fun s=>.ok .none s:=fun W l hp M ow m s Z eR I ne=> wpAny_evalPart_none (I.V eR W.le_rfl rfl)
theorem fg{e:Expr}{ev:St->Out AV}(h:AW G f A X (eval e f.env) ev):LG G f A X (some e) ev:=fun W l hp M ow m s Z eR I ne=> wpAny_evalPart_some (h W l hp M ow m s Z eR I ne)
theorem fh{W U:Wd}{l:List (N×AV)}{hp:Hp}{M:Led}{ow:Addr->Nat}{m:tq->Option R5}{s:tm}(I:Inv G f W l hp M ow m s){yr:Bool}{xs:List AV}{vs:List R5}{D:Addr}{h':Heap}{tk:Nat}{Z:Out AV}(eR:freshen yr (.Ae xs) ⟨l,hp⟩=Z)(hU:U.le W)(F':Fr f.g f.L h' m)
 (N':News f.g f.L h' ((D,listOf (List.toArray vs) 0)::(M++W.fz))) (lt:∀p∈M++W.fz,p.1<D) (R:AX G.B W xs vs) (z:xs.length<=lim):Ff G f U Z (.ref D) ⟨h',s.gens,s.drawn,tk,s.os⟩:=by
 cases yr with
 |false=> obtain⟨V,q1,q2,q3⟩:=I.Jh F' N' lt R z;exact q2.V eR (hU.trans q1) q3
 |true=> obtain⟨V,M',zC,q1,q2,q3⟩:=I.Un F' N' lt R z;exact q2.V eR (hU.trans q1) q3
theorem fj{yr:Bool}{c:AV}{s:St}(h:JJ c=none):freshen yr c s= .ok c s:=by
 cases yr with
 |false=> rfl
 |true=> unfold freshen;rw [h]
theorem fk(O:AP G f){e:Expr}{lo hi:Option Expr}{p pos:Pos}{yr:Bool}{ee el eh:St->Out AV}(he:AW G f A X (eval e f.env) ee)(hl:LG G f A X lo el)(hh:LG G f A X hi eh):
 AW G f A X (eval (.Subscript e (.Slice lo hi none p) pos) f.env) fun s=> (ee s).bind fun o s=> (el s).bind fun a s=> (eh s).bind fun b s=> AR (GA s.hp o a b) fun v=> freshen yr v s:=fun W l hp M ow m s Z eR I ne=> by
 refine xp (Au eR W.le_rfl (fun q=> he W l hp M ow m s _ rfl I q) ne fun o σ V L ow m u s' eR h1 h2 I hu ne=> wpAny_Slice ?_);refine Au eR h1 (fun h=> hl V _ _ L ow m s' _ rfl I h) ne fun a σ' V' L ow m vl s' eR h1 yz I hvl ne=> ?_;refine Au eR h1 (fun h=> hh V' _ _ L ow m s' _ rfl I h) ne fun b σ'' V'' L ow m vh s' eR h1 zj I hvh ne=> wpAny_evalPart_none ?_;refine cps fun yv yt=> ?_;obtain⟨c,h3,eR⟩:=BK eR ne;obtain⟨⟨T,id,t1,t2⟩,g⟩:=fe (A:=A) (E:=A9 X W Z) (Q:=Ff G f W Z) O I (hu.mono (yz.trans zj)) (hvl.mono zj) hvh h3 (fun r s' hc I hr=> I.V ((fj hc).symm.trans eR) h1 hr)
  fun D h' vs tk xs hc F' N' lt R z=> fh I (by rw [hc]at eR;exact eR) h1 F' N' lt R z
 refine yt ?_;exact xv t1 t2 g rfl
end
section
variable{G:Gx}{f:Fx}{A:tx}{X:XP}{P:Prog}
section
variable{W:Wd}{l:List (N×AV)}{hp:Hp}{M:Led}{ow:Addr->Nat}{m:tq->Option R5}{s:tm}
theorem P8(k v:AV):∀es:List (AV×AV),(HT k v es).length<=es.length+1
 | []=> uW _
 |(k',w)::r=> by have:=P8 k v r;rw [Sg];split<;>simp only [uh]<;>lia
theorem Uy(k:AV):∀es:List (AV×AV),(II k es).length<=es.length
 | []=> uW _
 |(k',w)::r=> by have:=Uy k r;rw [Sh];split<;>simp only [uh]<;>lia
theorem fm{prog:uQ}{w:uS}{K:Type} [DecidableEq K]{knd:vd prog w K}{h₀:Heap}{L d:Addr}{m:tq->Option R5}{news:Led}{g:Obj->Led}{o:Obj}{kvs:List (K×R5)}{k:K}{key:R5}{Q:Unit->tm->Prop}{E:R5->tm->Prop}{s:tm}
 (F:Fr h₀ L s.heap m) (N:News h₀ L s.heap news) (U:UpdF d o news g) (hd:o.IsDictOf knd kvs) (AAa:knd.is k key=true) (hsz:kvs.length<=sizeLine) (hl:(valueAt kvs k).isSome=true)
 (h:∀h' o',Fr h₀ L h' m->News h₀ L h' (g o')->o'.IsDictOf knd (without kvs k)->Q () {s with heap:=h',toks:=s.toks+1}):wpAny (model prog w) A (delItem (.ref d) key) Q E s:=by
 refine cps fun yv yt=> ?_;obtain⟨pre,post,rfl,hg,a,b⟩:=U.split;refine yt ?_;have hm:=N (d,o) (uC _ (.head _));have hD:s.heap.DictOf knd d kvs:=vM.mpr ⟨o,hm.1,hd⟩;unfold delItem
 try with_reducible refine uE ?_
 refine tu (wpAny_sequenceKey hD.typeIs (by decide) ?_);refine tu (yk (name:=PySem.Str.ofString "__delitem__") hD.typeIs yb
  (call_meetsIn yb hD.typeIs PySem.F.entry_dict_delitem (PySem.F.args_dict_delitem_2 _ _) (meets_dict_delitem_pairs knd d AAa) ⟨kvs,hD,hsz,hl,fun h' hmm hs=> ?_⟩))
 refine cps fun zI yy=> ?_;obtain⟨o',zT,hd'⟩:=vM.mp hmm;refine yy ?_;exact t4 (h h' o' (F.change hs hm.2.1 hm.2.2) (hg o'▸N.setIn a b hs zT) hd')
theorem Inv.P9(I:Inv G f W l hp M ow m s){i:Nat}(hi:hp.lv i){es:List (AV×AV)}{o':Obj}{h':Heap}{tk:Nat}(hw:ow (W.r i)=i)(lo:(W.r i==sysModules)=false)(F':Fr f.g f.L h' m)(N':News f.g f.L h' (B7 (W.r i) o' M++W.fz))
 (hm:∃o,(W.r i,o)∈M) (R:Fe G.prog G.w G.B W es o') (z:es.length<=lim):Inv G f W l (hp.set i (.A4 es)) (B7 (W.r i) o' M) ow m ⟨h',s.gens,s.drawn,tk,s.os⟩:=
 ⟨F',N',I.hi.turn hi hw ⟨o',Pk hm.choose_spec,hw,lo,R,z⟩,I.lr,I.gn,I.os⟩
theorem fp{prog:uQ}{w:uS}{K:Type} [DecidableEq K]{knd:vd prog w K}{h₀:Heap}{L d:Addr}{m:tq->Option R5}{news:Led}{g:Obj->Led}{o:Obj}{kvs:List (K×R5)}{k:K}{key v:R5}{Q:Unit->tm->Prop}{E:R5->tm->Prop}{s:tm}
 (F:Fr h₀ L s.heap m) (N:News h₀ L s.heap news) (U:UpdF d o news g) (hd:o.IsDictOf knd kvs) (AAa:knd.is k key=true) (hsz:kvs.length<=sizeLine)
 (h:∀h' o',Fr h₀ L h' m->News h₀ L h' (g o')->o'.IsDictOf knd (stored kvs k v)->Q () {s with heap:=h',toks:=s.toks+1}):wpAny (model prog w) A (dictSet d key v) Q E s:=by
 refine cps fun yv yt=> ?_;obtain⟨pre,post,rfl,hg,a,b⟩:=U.split;refine yt ?_;have hm:=N (d,o) (uC _ (.head _));refine wpAny_dictSet_pairs (hsz:=hsz) AAa (vM.mpr ⟨o,hm.1,hd⟩) fun h' hmm hs=> ?_;refine cps fun zI yy=> ?_;obtain⟨o',zT,hd'⟩:=vM.mp hmm;refine yy ?_;exact h h' o' (F.change hs hm.2.1 hm.2.2) (hg o'▸N.setIn a b hs zT) hd'
theorem Uz{i:Nat}{k a:AV}{yu:Hp}(e:putD hp i k a=some yu):∃es,hp.f i= .A4 es/\(keyOk k&&Df k es)=true/\es.length+1<=lim/\yu=hp.set i (.A4 (HT k a es)):=by
 refine AY e fun es h1 e=> ?_;by_cases q:(keyOk k&&Df k es)=true
 . rw [if_pos q]at e;obtain⟨z,rfl⟩:=GQ e;exact⟨es,M8 h1,q,z,rfl⟩
 . rw [if_neg q]at e;cases e
theorem U0(O:AP G f)(I:Inv G f W l hp M ow m s){o k a:AV}{u v x:R5}{yu:Hp}(hu:AK G.B W o u)(hk:AK G.B W k v)(ha:AK G.B W a x)(e:IK hp o k a=some yu)
 {Q:Unit->tm->Prop} {E:R5->tm->Prop} (h:∀M' s',Inv G f W l yu M' ow m s'->Q () s'):wpAny (mo G) A (setItem u v x) Q E s:=by
 refine cps fun yv yt=> ?_;obtain⟨i,h0,e⟩:=xC.mp e;rw [Ig h0]at hu;obtain⟨rfl,hi⟩:=I.lt hu;obtain⟨es,hf,q,z,rfl⟩:=Uz e;obtain⟨o,h1,h2,h3,h4,h5⟩:=I.Hn hi hf;obtain⟨K,dec,knd,kvs,kk,D⟩:=keyed h4 q hk;refine yt ?_;exact kda_set I.fr I.nw (M0 (o:=o) h1 I.hi.nd fun p yu z=> I.hi.dj p yu _ h1 z) D.is D.key (CF (D.len▸h5)) fun h' o' F' N' hd'=> h _ _ (I.P9 hi h2 h3 F' N' ⟨_,h1⟩ (D.put _ _ ha _ hd') (t5 (P8 k a es) z))
theorem fq(O:AP G f)(I:Inv G f W l hp M ow m s){i:Nat}{k a:AV}{v x:R5}{yu:Hp}(hi:hp.lv i)(hk:AK G.B W k v)(ha:AK G.B W a x)(e:putD hp i k a=some yu)
 {Q:Unit->tm->Prop} {E:R5->tm->Prop} (h:∀M' s',Inv G f W l yu M' ow m s'->yu.lv=hp.lv->Q () s'):wpAny (mo G) A (dictSet (W.r i) v x) Q E s:=by
 refine cps fun yv yt=> ?_;obtain⟨es,hf,q,z,rfl⟩:=Uz e;obtain⟨o,h1,h2,h3,h4,h5⟩:=I.Hn hi hf;obtain⟨K,dec,knd,kvs,kk,D⟩:=keyed h4 q hk;refine yt ?_;exact fp I.fr I.nw (M0 (o:=o) h1 I.hi.nd fun p yu z=> I.hi.dj p yu _ h1 z) D.is D.key (CF (D.len▸h5)) fun h' o' F' N' hd'=> h _ _ (I.P9 hi h2 h3 F' N' ⟨_,h1⟩ (D.put _ _ ha _ hd') (t5 (P8 k a es) z)) (Hp.Ke _ _ _)
theorem fx(O:AP G f)(I:Inv G f W l hp M ow m s){o k:AV}{u v:R5}{yu:Hp}(hu:AK G.B W o u)(hk:AK G.B W k v)(e:MC hp o k=some yu)
 {Q:Unit->tm->Prop} {E:R5->tm->Prop} (h:∀M' s',Inv G f W l yu M' ow m s'->Q () s'):wpAny (mo G) A (delItem u v) Q E s:=by
 refine cps fun yv yt=> ?_;refine AY e fun i h0 e=> ?_;rw [Ig h0]at hu;obtain⟨rfl,hi⟩:=I.lt hu;refine AY e fun es hf e=> ?_;obtain⟨o,h1,h2,h3,h4,h5⟩:=I.Hn hi (M8 hf);refine yt ?_;by_cases q:(keyOk k&&Df k es&&(EP k es).isSome)=true
 . rw [if_pos q]at e;cases e;refine cps fun zI yy=> ?_;refine Aa q fun q q3=> ?_;obtain⟨K,dec,knd,kvs,kk,D⟩:=keyed h4 q hk;refine yy ?_;exact fm I.fr I.nw (M0 (o:=o) h1 I.hi.nd fun p yu z=> I.hi.dj p yu _ h1 z) D.is D.key (CF (D.len▸h5)) (D.has.trans q3) fun h' o' F' N' hd'=> h _ _ (I.P9 hi h2 h3 F' N' ⟨_,h1⟩ (D.del _ hd') (t5 (Uy k es) h5))
 . rw [if_neg q]at e;cases e
theorem QA(n:N)(a:AV):∀(l:List (N×AV)),(put n a l).length<=l.length+1
 | []=> uW _
 |(y,w)::r=> by
  unfold put;by_cases z:y=n
  . rw [if_pos z];exact vf _
  . rw [if_neg z];exact u6 (QA n a r)
theorem U3(C:Ck G P)(S:Fi G P)(O:AP G f)(I:Inv G f W l hp M ow m s){o a:AV}{n:N}{u v:R5}{yu:Hp}(hu:AK G.B W o u)(hv:AK G.B W a v)(e:setAt P hp o n a=some yu)
 {Q:Unit->tm->Prop} {E:R5->tm->Prop} (h:∀M' s',Inv G f W l yu M' ow m s'->Q () s'):wpAny (mo G) A (setAttr u (nm n) v) Q E s:=by
 refine cps fun yv yt=> ?_;refine AY e fun i h0 e=> ?_;rw [Ig h0]at hu;obtain⟨rfl,hi⟩:=I.lt hu;obtain⟨⟨c,fs⟩,hf,e⟩:=xC.mp e;replace hf:=Pq hf;refine AY e fun cl hc e=> ?_;refine yt ?_;dsimp only at hc e;by_cases q:(cl.fields.contains n&& !cl.exc&&decide (fs.length<100))=true
 . rw [if_pos q]at e;cases e;refine cps fun zI yy=> ?_;refine Aa q fun q q3=> ?_;refine Aa q fun q1 q2=> ?_;replace q2:cl.exc=false:=by simpa using q2
   have cell:=I.hi.cell i hi;rw [hf]at cell;obtain⟨dx,es,k,g1,g2,hm,hw,F⟩:=cell;refine yy ?_;have H:vc s.heap (W.r i) (instObj c dx) c (some (dictOf es k)):=⟨I.mem g1,rfl,rfl,I.mem hm⟩;have zy:(getL (nm n) es).isSome=true:=by
    cases hl:look n fs with
    |none=> rw [F.miss hl];rfl
    |some x=> obtain⟨v,h1,_⟩:=F.look hl;rw [h1];rfl
   have F2:=A5.put (a:=n) hv (u9 G.w.params (nm n)) (s.toks+1) F;have hz:(putL (nm n) (u9 G.w.params (nm n)) (.str (nm n) (s.toks+1)) v es).length<=1000:=by rw [<-F2.len];exact t5 (QA n a fs) (t5 (of_decide_eq_true q3) (by decide))
   have y0:W.r i≠dx:=by intro z;have g1:=I.mem g1;rw [z,I.mem hm]at g1;cases congrArg (fun o:Option Obj=> o.bind (·.dict)) g1
   exact set_dict I.fr O.X I.nw H rfl (S.own c cl hc q2).1 (S.own c cl hc q2).2 (S.set c cl n hc q2 q1) (C.UH c cl hc) zy rfl
    (Pl hm I.hi.nd fun p yu z=> I.hi.dj p yu _ hm z) hz fun h' F' N'=> h _ _ ⟨F',N',I.hi.turn hi hw ⟨dx,_,_,T8 g1 y0,g2,Pk hm,hw,F2⟩,I.lr,I.gn,I.os⟩
 . rw [if_neg q]at e;cases e
end
theorem GR{x:N}{v:AV}{u:R5}(hk:f.cs.kind= .function)(hl:f.cs.names.lookup (nm x)=some .local){W:Wd}{l:List (N×AV)}{hp:Hp}{M:Led}{ow:Addr->Nat}{m:tq->Option R5}{s:tm}
 (I:Inv G f W l hp M ow m s) (hv:AK G.B W v u) {Q:Unit->tm->Prop} {E:R5->tm->Prop} (h:∀m' s',Inv G f W (put x v l) hp M ow m' s'->Q () s'):wpAny (mo G) A (storeName f.env (nm x) u) Q E s:=
 PySem.W.storeX_L I.fr I.nw (fun h' F' N'=> h _ _ ⟨F',N',I.hi,I.lr.put hv,I.gn,I.os⟩) hk hl
end
section
variable{G:Gx}{f:Fx}{A:tx}{X:XP}{P:Prog}
section
variable{W:Wd}{l:List (N×AV)}{hp:Hp}{M:Led}{ow:Addr->Nat}{m:tq->Option R5}{s:tm}
theorem fy:seqSlot? (.type "list") (dunderI "add")=pure (some (.builtin "list.__iadd__")):=by unfold seqSlot?;rw [xr.lookup];kernel_rfl
theorem f5:fillsInplaceSlot (.type "list") "add" (Operator.Add==.Add)=pure false:=by unfold fillsInplaceSlot;show(typeLookup (.type "list") (dunderI "add") >>=fun fi=> pure (fi.isSome&& !isSeqSlot fi))=pure false;rw [xr.lookup];kernel_rfl
theorem f6{prog:uQ}{w:uS}{a b:Addr}{Q:R5->tm->Prop}{E:R5->tm->Prop}(ha:s.TypeIs (.ref a) "list")(hb:s.TypeIs (.ref b) "list")
 (hc:wpAny (model prog w) A (call (.builtin "list.__iadd__") [.ref a,.ref b]) Q E s):wpAny (model prog w) A (inplaceOp .Add (.ref a) (.ref b)) Q E s:=by
 unfold inplaceOp;refine uE ?_;refine tu (wpAny_typeOf ha (tu (wpAny_of_eq f5 ?_)));show wpAny _ A (if false=true then _ else _) Q E s;rw [if_neg vY];refine tu (wpAny_binaryOp1_none (nm:="add") ha hb noFill_list_add ?_);refine tu (wpAny_of_eq fy ?_);exact tu (wpAny_rule hc)
theorem Inv.Jl(I:Inv G f W l hp M ow m s){i:Nat}(hi:hp.lv i){xs:List AV}{vs vs':List R5}{k k':Nat}{h':Heap}{tk:Nat}(hm:(W.r i,listOf vs.toArray k)∈M)(hw:ow (W.r i)=i)(F':Fr f.g f.L h' m)
 (N':News f.g f.L h' (B7 (W.r i) (listOf vs'.toArray k') M++W.fz)) (R:AX G.B W xs vs') (z:xs.length<=lim):Inv G f W l (hp.set i (.lst xs)) (B7 (W.r i) (listOf vs'.toArray k') M) ow m ⟨h',s.gens,s.drawn,tk,s.os⟩:=
 ⟨F',N',I.hi.turn hi hw ⟨vs',k',Pk hm,hw,R,z⟩,I.lr,I.gn,I.os⟩
theorem Inv.upd(I:Inv G f W l hp M ow m s){d:Addr}{o o':Obj}(h:(d,o)∈M):Upd d o o' (M++W.fz) (B7 d o' M++W.fz):=
 Pl h I.hi.nd fun p yu z=> I.hi.dj p yu _ h z
theorem f7(g:Array R5->Array R5)(zc:Array R5)(k:Nat):∃k',wY g (listOf zc k)=listOf (g zc) k':=by unfold wY;exact⟨_,rfl⟩
theorem Inv.Jm(I:Inv G f W l hp M ow m s){d:Addr}{zc:Array R5}{k:Nat}(hm:(d,listOf zc k)∈M)(g:Array R5->Array R5):
 ∃k',Fr f.g f.L (s.heap.update d (wY g)) m/\News f.g f.L (s.heap.update d (wY g)) (B7 d (listOf (g zc) k') M++W.fz):=by
 obtain⟨k',e⟩:=f7 g zc k;refine⟨k',?_⟩;have z:=I.nw _ (uK _ hm);obtain⟨pre,post,e1,e2,a,b⟩:=(I.upd (o':=listOf (g zc) k') hm).split;rw [e2];refine⟨I.fr.change (Heap.SameBut.update ..) z.2.1 z.2.2,News.setIn (o:=listOf zc k) (by rw [<-e1];exact I.nw) a b (Heap.SameBut.update ..) ?_⟩;rw [<-e];exact xw _ z.1 (by rw [e];rfl)
theorem f9(O:AP G f)(I:Inv G f W l hp M ow m s){i:Nat}{xs ys:List AV}{b:AV}{u v:R5}(hu:AK G.B W (.ref i) u)(hv:AK G.B W b v)(e1:hp.f i= .lst xs)(e2:Ei hp b=some ys)(z:xs.length+ys.length<=lim)
 {Q:R5->tm->Prop} {E:R5->tm->Prop} (h:∀M' r s',Inv G f W l (hp.set i (.lst (xs++ys))) M' ow m s'->AK G.B W (.ref i) r->Q r s'):wpAny (mo G) A (inplaceOp .Add u v) Q E s:=by
 obtain⟨rfl,hi⟩:=I.lt hu;obtain⟨vs,k,h1,h2,h3,h4⟩:=I.LC hi e1;obtain⟨y,ws,k',rfl,h5,h6,h7⟩:=I.GO O hv e2;have g1:=I.mem h1;have hz:vs.toArray.size+ws.toArray.size<=sizeLine:=CF (by rw [uy,uy,<-h3.length,<-h6.length];exact z);refine f6 ⟨_,g1,rfl⟩ ⟨_,h5,rfl⟩ (call_meets xr ⟨_,g1,rfl⟩ PySem.F.entry_list_iadd (PySem.F.args_list_iadd_2 _ _)
  (AutoSeq1.list___iadd___list_list_0 (W.r i) vs.toArray k y ws.toArray k' ?_ ?_ ?_) ⟨g1,h5,?_⟩)
 . have:yg (vs.toArray.size+ws.toArray.size)=false:=decide_eq_false (vg.mpr hz);rw [this,wQ];exact vY
 . exact JE
 . exact Ay
 . obtain⟨k',F',N'⟩:=I.Jm h1 fun x=> x++ws.toArray;rw [yB]at N';exact h _ _ _ (I.Jl (xs:=xs++ys) hi h1 h2 F' N' (h3.append h6) (t9▸z)) hu
theorem QB(O:AP G f)(I:Inv G f W l hp M ow m s){op:BOp}{a b c:AV}{yu:Hp}{u v:R5}(hu:AK G.B W a u)(hv:AK G.B W b v)(e:Du hp op a b=some (c,yu))
 {Q:R5->tm->Prop} {E:R5->tm->Prop} (h:∀M' r s',Inv G f W l yu M' ow m s'->AK G.B W c r->Q r s'):wpAny (mo G) A (inplaceOp (Gu op) u v) Q E s:=by
 cases(op)<;>first |(cases(e);done) |skip
 . cases(a)<;>first |(cases(e);done) |skip
   . obtain⟨y,h1,e⟩:=uF.mp e;cases(e);rw [Cj h1]at hv;obtain⟨t,rfl⟩:=hu;obtain⟨t',rfl⟩:=hv;exact wpAny_iadd_int (h _ _ _ (I.tok _) ⟨_,rfl⟩)
   . refine AY e fun y h1 e=> ?_;obtain⟨w,e1,e2⟩:=uF.mp e;cases(e2);obtain⟨z,rfl⟩:=GQ e1;rw [DC h1]at hv;obtain⟨⟨t,rfl⟩,h1⟩:=hu;obtain⟨⟨t',rfl⟩,h2⟩:=hv;exact PyProof.Rows.iadd_str (fun t' tk=> h _ _ _ (I.tok _) ⟨⟨_,by rw [ND]⟩,h1.app h2 z⟩) (by rw [CL,CL];exact CF z)
   . refine AY e fun xs e1 e=> ?_;refine AY e fun ys e2 e=> ?_;obtain⟨z,e3⟩:=GQ e;cases(e3);exact f9 O I hu hv (M7 e1) e2 z h
 . refine AY e fun x h1 e=> ?_;obtain⟨y,h2,e⟩:=uF.mp e;cases(e);rw [Cj h1]at hu;rw [Cj h2]at hv;obtain⟨t,rfl⟩:=hu;obtain⟨t',rfl⟩:=hv;exact PyProof.Rows.isub_int (h _ _ _ (I.tok _) ⟨_,rfl⟩)
end
end
section
variable{G:Gx}{f:Fx}{A:tx}{X:XP}{P:Prog}
structure FI(T:String)(m:N)(id:String):Prop where
 pa:PlainAttrs T
 slot:Slot T (nm m) id
 ty:typeOf (.builtin id)=pure (.type "method_descriptor")
theorem gA:nm N.append=("append":tq):=by decide+kernel
theorem gC:nm N.extend=("extend":tq):=by decide+kernel
theorem gF:nm N.pop=("pop":tq):=by decide+kernel
theorem gG:nm N.insert=("insert":tq):=by decide+kernel
theorem gH:nm N.join=("join":tq):=by decide+kernel
theorem gJ:nm N.split=("split":tq):=by decide+kernel
theorem gK:nm N.lstrip=("lstrip":tq):=by decide+kernel
theorem gL:nm N.rstrip=("rstrip":tq):=by decide+kernel
theorem gM:nm N.strip=("strip":tq):=by decide+kernel
theorem U4:FI "list" .append "list.append":=⟨xF,gA▸PySem.F.slot_list_append,PySem.F.type_list_append⟩
theorem U5:FI "list" .extend "list.extend":=⟨xF,gC▸PySem.F.slot_list_extend,PySem.F.type_list_extend⟩
theorem QC:FI "list" .pop "list.pop":=⟨xF,gF▸PySem.F.slot_list_pop,PySem.F.type_list_pop⟩
theorem U6:FI "list" .insert "list.insert":=⟨xF,gG▸PySem.F.slot_list_insert,PySem.F.type_list_insert⟩
theorem gN:FI "str" .join "str.join":=⟨we,gH▸PySem.F.slot_str_join,PySem.F.type_str_join⟩
theorem gO:FI "str" .split "str.split":=⟨we,gJ▸PySem.F.slot_str_split,PySem.F.type_str_split⟩
theorem gP:FI "str" .lstrip "str.lstrip":=⟨we,gK▸PySem.F.slot_str_lstrip,PySem.F.type_str_lstrip⟩
theorem gQ:FI "str" .rstrip "str.rstrip":=⟨we,gL▸PySem.F.slot_str_rstrip,PySem.F.type_str_rstrip⟩
theorem gR:FI "str" .strip "str.strip":=⟨we,gM▸PySem.F.slot_str_strip,PySem.F.type_str_strip⟩
def Ij(m:N):Option String:=if m=N.append then some "list.append" else if m=N.extend then some "list.extend" else if m=N.pop then some "list.pop" else if m=N.insert then some "list.insert" else none
def Ho(m:N):Option String:=if m=N.join then some "str.join" else if m=N.split then some "str.split" else if m=N.lstrip then some "str.lstrip" else if m=N.rstrip then some "str.rstrip" else if m=N.strip then some "str.strip" else none
theorem G7{α:Type}{c:Prop} [Decidable c]{x r:α}{y:Option α}(h:(if c then some x else y)=some r):(c/\x=r)∨y=some r:=by
 by_cases z:c
 . rw [if_pos z]at h;exact .inl ⟨z,uR h⟩
 . rw [if_neg z]at h;exact .inr h
theorem gS{m:N}{id:String}(h:Ij m=some id):FI "list" m id:=by
 rcases G7 h with⟨rfl,rfl⟩ |h
 . exact U4
 rcases G7 h with⟨rfl,rfl⟩ |h
 . exact U5
 rcases G7 h with⟨rfl,rfl⟩ |h
 . exact QC
 rcases G7 h with⟨rfl,rfl⟩ |h
 . exact U6
 cases h
theorem gT{m:N}{id:String}(h:Ho m=some id):FI "str" m id:=by
 rcases G7 h with⟨rfl,rfl⟩ |h
 . exact gN
 rcases G7 h with⟨rfl,rfl⟩ |h
 . exact gO
 rcases G7 h with⟨rfl,rfl⟩ |h
 . exact gP
 rcases G7 h with⟨rfl,rfl⟩ |h
 . exact gQ
 rcases G7 h with⟨rfl,rfl⟩ |h
 . exact gR
 cases h
section
variable{W:Wd}{l:List (N×AV)}{hp:Hp}{M:Led}{ow:Addr->Nat}{m:tq->Option R5}{s:tm}
theorem gU{x:Int}(h:x.natAbs<=lim+1):yZ x=true:=by have hl:lim=1000000:=rfl;unfold yZ;simp;lia
theorem NI{id:String}{B:wb}{d:Addr}{mn:N}{rest:List R5}{zc:Array R5}{k:Nat}{r:R5}{g:Array R5->Array R5}{Q:R5->tm->Prop}{E:R5->tm->Prop}
 (mf:FI "list" mn id) (entry:entryFor table id=some B) (args:argsOk id ⟨.ref d::rest,[]⟩)
 (mt:Meets (B ⟨.ref d::rest,[]⟩) (fun _ R s=> s.heap.get? d=some {cls:=.type "list",dict:=none,data:=.seq zc k,slots:=#[]}/\R (.ok (.ret r)) {s with heap:=s.heap.update d (wY g),toks:=s.toks}))
 (hd:s.heap.get? d=some (listOf zc k)) (h:Q r {s with heap:=s.heap.update d (wY g)}):wpAny (mo G) A (call (.builtin id) (.ref d::rest)) Q E s:=
 call_meets mf.slot ⟨_,hd,rfl⟩ entry args mt ⟨hd,h⟩
theorem gV{n:Nat}(h:n<=lim):yg n=false:=decide_eq_false (vg.mpr (CF h))
section
variable{i:Nat}{xs as ys:List AV}{c:AV}{vs ws:List R5}{k:Nat}{Q:R5->tm->Prop}{E:R5->tm->Prop}
abbrev GS(G:Gx)(f:Fx)(W:Wd)(l:List (N×AV))(hp:Hp)(ow:Addr->Nat)(m:tq->Option R5)(i:Nat)(c:AV)(ys:List AV)(Q:R5->tm->Prop):Prop:=
 ∀M' r s',Inv G f W l (hp.set i (.lst ys)) M' ow m s'->AK G.B W c r->Q r s'
theorem Ik{v:AV}(h:AX G.B W [v] vs):∃x,vs=[x]/\AK G.B W v x:=by
 cases vs with
 |nil=> exact h.elim
 |cons x t=>
  cases t with
  |nil=> exact⟨x,rfl,h.1⟩
  |cons _ _=> exact h.2.elim
theorem gW(I:Inv G f W l hp M ow m s)(hi:hp.lv i)(h1:(W.r i,listOf ws.toArray k)∈M)(h2:ow (W.r i)=i)(h3:AX G.B W xs ws){v:AV}{x:R5}(hv:AK G.B W v x)(z:xs.length+1<=lim)(h:GS G f W l hp ow m i .none (xs++[v]) Q):
 wpAny (mo G) A (call (.builtin "list.append") [.ref (W.r i),x]) Q E s:=by
 refine cps fun yv yt=> ?_;have hl:=h3.length;obtain⟨k',F',N'⟩:=I.Jm h1 fun y=> y.push x;refine yt ?_;refine NI U4 PySem.F.entry_list_append (PySem.F.args_list_append_2 _ _) (PySem.list_append _ _ k x (by rw [uy,<-hl];exact CF (t5 (vf _) z))) (I.mem h1) ?_;rw [List.push_toArray]at N';exact h _ _ _ (I.Jl hi h1 h2 F' N' (h3.append ⟨hv,trivial⟩) (by rw [t9];exact z)) rfl
theorem gX(I:Inv G f W l hp M ow m s)(hi:hp.lv i)(h1:(W.r i,listOf ws.toArray k)∈M)(h2:ow (W.r i)=i)(h3:AX G.B W xs ws){y:Addr}{zs:List R5}{k2:Nat}{ys:List AV}(q1:s.heap.get? y=some (listOf zs.toArray k2))(q2:AX G.B W ys zs)
 (z:xs.length+ys.length<=lim) (h:GS G f W l hp ow m i .none (xs++ys) Q):wpAny (mo G) A (call (.builtin "list.extend") [.ref (W.r i),.ref y]) Q E s:=by
 refine cps fun yv yt=> ?_;have hz:ws.toArray.size+zs.toArray.size<=lim:=by rw [uy,uy,<-h3.length,<-q2.length];exact z
 obtain⟨k',F',N'⟩:=I.Jm h1 fun x=> x++zs.toArray;refine yt ?_;refine call_meets U5.slot ⟨_,I.mem h1,rfl⟩ PySem.F.entry_list_extend (PySem.F.args_list_extend_2 _ _) (AutoSeq1.list_extend_list_list_0 _ _ k y _ k2 (by rw [gV hz,wQ];exact vY) (by have:=CF hz;exact JE) (by have:=CF hz;exact Ay)) ⟨I.mem h1,q1,?_⟩;rw [yB]at N';exact h _ _ _ (I.Jl hi h1 h2 F' N' (h3.append q2) (by rw [t9];exact z)) rfl
theorem gY(I:Inv G f W l hp M ow m s)(hi:hp.lv i)(h1:(W.r i,listOf ws.toArray k)∈M)(h2:ow (W.r i)=i)(h3:AX G.B W xs ws)(h4:xs.length<=lim){v:AV}(zd:xs.getLast? =some v)(h:GS G f W l hp ow m i v xs.dropLast Q):
 wpAny (mo G) A (call (.builtin "list.pop") [.ref (W.r i)]) Q E s:=by
 refine cps fun yv yt=> ?_;have hl:=h3.length;have hs:=CF h4;rw [yc]at zd;obtain⟨y,hy,hyr⟩:=h3.get zd;rw [hl]at hy;obtain⟨k',F',N'⟩:=I.Jm h1 fun x=> x.eraseIdxIfInBounds (ws.toArray.size - 1);refine yt ?_;refine NI QC PySem.F.entry_list_pop (PySem.F.args_list_pop_1 _) (PySem.MeetsSeq.list_pop_last _ _ k y (by simpa using hy) (by rw [uy,<-hl];exact hs)) (I.mem h1) ?_;have y9:ws.length - 1<ws.length:=(v8.mp hy).1;have e1:ws.toArray.eraseIdxIfInBounds (ws.toArray.size - 1)=ws.dropLast.toArray:=by rw [yP,uy,xx,List.eraseIdx_eq_take_drop_succ,wk (yG (uO _) y9),List.drop_length,uD]
 rw [e1]at N';exact h _ _ _ (I.Jl hi h1 h2 F' N' (by rw [xx,xx,hl];exact h3.take _) (by rw [List.length_dropLast];exact t5 (Nat.sub_le _ _) h4)) hyr
theorem gZ(I:Inv G f W l hp M ow m s)(hi:hp.lv i)(h1:(W.r i,listOf ws.toArray k)∈M)(h2:ow (W.r i)=i)(h3:AX G.B W xs ws)(h4:xs.length<=lim){t:Tok}{v:AV}(zd:xs.head? =some v)(h:GS G f W l hp ow m i v xs.tail Q):
 wpAny (mo G) A (call (.builtin "list.pop") [.ref (W.r i),.int 0 t]) Q E s:=by
 have hs:=CF h4;rw [h3.length]at hs;cases xs with
 |nil=> exact cNS zd
 |cons x' xs'=>
  cases ws with
  |nil=> exact h3.elim
  |cons y zQ=> cases zd;obtain⟨k',F',N'⟩:=I.Jm h1 fun x=> x.eraseIdxIfInBounds 0;refine NI QC PySem.F.entry_list_pop (PySem.F.args_list_pop_2 _ _) (PySem.MeetsSeq.list_pop_at _ _ k 0 t 0 y (by rfl) (by simp [seqIndex?]) rfl (by rw [uy];exact hs)) (I.mem h1) ?_;rw [show(y::zQ).toArray.eraseIdxIfInBounds 0=zQ.toArray by rw [yP];rfl]at N';exact h _ _ _ (I.Jl hi h1 h2 F' N' h3.2 (t5 (vf _) h4)) h3.1
theorem gb(I:Inv G f W l hp M ow m s)(hi:hp.lv i)(h1:(W.r i,listOf ws.toArray k)∈M)(h2:ow (W.r i)=i)(h3:AX G.B W xs ws){v:AV}{y:R5}(hy:AK G.B W v y){j:Int}{t:Tok}(q:0<=j/\j<=xs.length)(z:xs.length+1<=lim)(h:GS G f W l hp ow m i .none (xs.take j.toNat++v::xs.drop j.toNat) Q):
 wpAny (mo G) A (call (.builtin "list.insert") [.ref (W.r i),.int j t,y]) Q E s:=by
 refine cps fun yv yt=> ?_;have hl:=h3.length;have hs:=CF z;obtain⟨k',F',N'⟩:=I.Jm h1 fun xs=> have k:=if j<0 then(j+((xs.size:Nat):Int)).toNat else min j.toNat xs.size;(xs.extract 0 k).push y++xs.extract k
 refine yt ?_;refine NI U6 PySem.F.entry_list_insert (PySem.F.args_list_insert_3 _ _ _) (PySem.AutoSeq1.list_insert_list_int_val_1 _ _ k j t y (by rw [gU (t5 (vA.mp (by rw [Int.natAbs_of_nonneg q.1];exact q.2)) (Nat.le_of_succ_le (yI z)))];simp) (by rw [uy,<-hl];exact t5 (vf _) hs)) (I.mem h1) ?_;dsimp only at N';have e1:=kl_ins_eq ws j.toNat y;rw [uy]at e1;rw [if_neg (vv.mpr q.1),uy,wz (show j.toNat<=ws.length from hl▸Int.toNat_le.mpr q.2),e1]at N';exact h _ _ _ (I.Jl hi h1 h2 F' N' ((h3.take _).append ⟨hy,h3.drop _⟩) (by rw [t9,uh,<-ui,<-t9,List.take_append_drop];exact z)) rfl
theorem gc(I:Inv G f W l hp M ow m s)(hi:hp.lv i)(h1:(W.r i,listOf ws.toArray k)∈M)(h2:ow (W.r i)=i)(h3:AX G.B W xs ws)(hv:AX G.B W as vs)(e:Sn xs as=some (c,ys))(h:GS G f W l hp ow m i c ys Q):
 wpAny (mo G) A (call (.builtin "list.append") (.ref (W.r i)::vs)) Q E s:=by
 refine AY e fun v o1 e=> ?_;obtain⟨z,e1⟩:=GQ e;obtain⟨rfl,rfl⟩:=vP e1;rw [Hm o1]at hv;obtain⟨x,rfl,hv1⟩:=Ik hv;exact gW I hi h1 h2 h3 hv1 z h
theorem gf(O:AP G f)(I:Inv G f W l hp M ow m s)(hi:hp.lv i)(h1:(W.r i,listOf ws.toArray k)∈M)(h2:ow (W.r i)=i)(h3:AX G.B W xs ws)(hv:AX G.B W as vs)(e:So hp xs as=some (c,ys))(h:GS G f W l hp ow m i c ys Q):
 wpAny (mo G) A (call (.builtin "list.extend") (.ref (W.r i)::vs)) Q E s:=by
 refine AY e fun v o1 e=> AY e fun ys' e1 e2=> ?_;obtain⟨z,e3⟩:=GQ e2;obtain⟨rfl,rfl⟩:=vP e3;rw [Hm o1]at hv;obtain⟨x,rfl,hv1⟩:=Ik hv;obtain⟨y,zs,k2,rfl,q1,q2,q3⟩:=I.GO O hv1 e1;exact gX I hi h1 h2 h3 q1 q2 z h
theorem Jn{α β:Type}{o:Option α}{a:α->β}{r:β}{G:Prop}(e:o.map a=some r)(k:∀v,o=some v->a v=r->G):G:=by
 cases o with
 |none=> exact cNS e
 |some v=> exact k v rfl (uR e)
theorem gg(I:Inv G f W l hp M ow m s)(hi:hp.lv i)(h1:(W.r i,listOf ws.toArray k)∈M)(h2:ow (W.r i)=i)(h3:AX G.B W xs ws)(h4:xs.length<=lim)(hv:AX G.B W as vs)(e:Om xs as=some (c,ys))(h:GS G f W l hp ow m i c ys Q):
 wpAny (mo G) A (call (.builtin "list.pop") (.ref (W.r i)::vs)) Q E s:=by
 cases as with
 |nil=> cases vs with
  |cons _ _=> exact hv.elim
  |nil=> refine Jn e fun v zd e=> ?_;obtain⟨rfl,rfl⟩:=vP e;exact gY I hi h1 h2 h3 h4 zd h
 |cons a as=> cases as with
  |cons _ _=> exact cNS e
  |nil=> obtain⟨x,rfl,hz⟩:=Ik hv;clear hv;refine AY e fun k0 o1 e=> Dq e (fun z e=> Jn e fun v zd e=> ?_) fun _ e=> cNS e;obtain⟨rfl,rfl⟩:=vP e;rw [Cj o1,z]at hz;obtain⟨t,rfl⟩:=hz;exact gZ I hi h1 h2 h3 h4 zd h
theorem gh(I:Inv G f W l hp M ow m s)(hi:hp.lv i)(h1:(W.r i,listOf ws.toArray k)∈M)(h2:ow (W.r i)=i)(h3:AX G.B W xs ws)(hv:AX G.B W as vs)(e:Sm xs as=some (c,ys))(h:GS G f W l hp ow m i c ys Q):
 wpAny (mo G) A (call (.builtin "list.insert") (.ref (W.r i)::vs)) Q E s:=by
 cases as with
 |nil=> exact cNS e
 |cons a as=> cases as with
  |nil=> exact cNS e
  |cons v as=> cases as with
   |cons _ _=> exact cNS e
   |nil=> cases vs with
    |nil=> exact hv.elim
    |cons x vs=> obtain⟨y,rfl,hy⟩:=Ik hv.2;refine AY e fun j o1 e=> Dq e (fun q e=> ?_) fun _ e=> cNS e;obtain⟨z,e3⟩:=GQ e;obtain⟨rfl,rfl⟩:=vP e3;have ha:=hv.1;rw [Cj o1]at ha;obtain⟨t,rfl⟩:=ha;exact gb I hi h1 h2 h3 hy q z h
theorem gi(O:AP G f)(I:Inv G f W l hp M ow m s){mn:N}{u:R5}(hu:AK G.B W (.ref i) u)(hf:hp.f i= .lst xs)(hv:AX G.B W as vs)(e:KY hp xs mn as=some (c,ys))(h:GS G f W l hp ow m i c ys Q):
 ∃id,Ij mn=some id/\wpAny (mo G) A (call (.builtin id) (u::vs)) Q E s:=by
 obtain⟨rfl,hi⟩:=I.lt hu;obtain⟨ws,k,h1,h2,h3,h4⟩:=I.LC hi hf;exact Dq e (fun n e=> ⟨_,congrArg Ij n,gc I hi h1 h2 h3 hv e h⟩) fun _ e=> Dq e (fun n e=> ⟨_,congrArg Ij n,gf O I hi h1 h2 h3 hv e h⟩) fun _ e=> Dq e (fun n e=> ⟨_,congrArg Ij n,gg I hi h1 h2 h3 h4 hv e h⟩) fun _ e=>
  Dq e (fun n e=> ⟨_,congrArg Ij n,gh I hi h1 h2 h3 hv e h⟩) fun _ e=> cNS e
end
end
end
def slotsOf(ps:List tq)(vs dv:List R5):List (tq×R5):=
 ((ps.drop (ps.length - dv.length)).zip dv).foldl (fun sl p=> if(sl.lookup p.1).isNone then sl++[(p.1,p.2)]else sl) (ps.zip vs)
theorem U7{α β:Type}{M:um}{A:tx}{E:R5->tm->Prop}{s:tm}{Q:β->tm->Prop}(g:β->α->β)(f:α->β->Sem (ForInStep β))(hf:∀a b,f a b=pure (.yield (g b a))):∀(l:List α) (b:β),Q (l.foldl g b) s->wpAny M A (forIn l b f) Q E s
 | []=>@fun b h=> by simpa using t4 h
 |a::r=>@fun b h=> by rw [wO,hf];exact tu (t4 (U7 g f hf r (g b a) h))
def QD(ps:List tq)(vs:List R5):List (tq×R5)->List R5->Prop
 | [],us=> us=vs
 | [(n,v)],us=> ps[vs.length]? =some n/\us=vs++[v]
 |_,_=> False
theorem gj{ps:List tq}:∀{vs:List R5} {n:tq} {v:R5},ps[vs.length]? =some n->ps.zip (vs++[v])=ps.zip vs++[(n,v)]:=by
 induction ps with
 |nil=> intro vs n v h;cases vs<;>cases h
 |cons p r ih=>
  intro vs n v h;cases vs with
  |nil=> cases h;simp
  |cons w ws=> have h:r[ws.length]? =some n:=h;show(p,w)::r.zip (ws++[v])=(p,w)::(r.zip ws++[(n,v)]);rw [ih h]
theorem gk{ps:List tq}(nd:ps.Nodup):∀{vs:List R5} {n:tq},ps[vs.length]? =some n->(ps.zip vs).lookup n=none:=by
 induction ps with
 |nil=> intro vs n h;cases vs<;>cases h
 |cons p r ih=>
  intro vs n h;rw [vF]at nd;cases vs with
  |nil=> rfl
  |cons w ws=>
   have h:r[ws.length]? =some n:=h;have hn:(n==p)=false:=by
    have hm:n∈r:=vV h;rw [beq_eq_false_iff_ne]
    rintro rfl
    exact nd.1 hm
   rw [xM,ug,hn];exact ih nd.2 h
theorem wI{α:Type}{M:um}{A:tx}{E:R5->tm->Prop}{s:tm}{Q:α->tm->Prop}{c:Prop} [Decidable c]{a b:Sem α}(h:c)(k:wpAny M A a Q E s):wpAny M A (if c then a else b) Q E s:=by rw [if_pos h];exact k
theorem wE{α:Type}{M:um}{A:tx}{E:R5->tm->Prop}{s:tm}{Q:α->tm->Prop}{c:Prop} [Decidable c]{a b:Sem α}(h:¬c)(k:wpAny M A b Q E s):wpAny M A (if c then a else b) Q E s:=by rw [if_neg h];exact k
theorem gm{M:um}{A:tx}{E:R5->tm->Prop}{s:tm}{ps L kn:List tq}(hL:L=ps){vs us:List R5}{zX:List (tq×R5)}(hkw:QD ps vs zX us)(nd:ps.Nodup)
 {R:List (tq×R5)×List (tq×R5)->tm->Prop} {J J':tq×R5->List (tq×R5)×List (tq×R5)->Sem (ForInStep (List (tq×R5)×List (tq×R5)))}
 (h:R (ps.zip us,[]) s):
 wpAny M A (forIn zX (L.zip vs,[]) fun x b=> if(ps.contains x.1||kn.contains x.1)=true then(if(b.1.lookup x.1).isSome=true then J x b else pure (.yield (b.1++[(x.1,x.2)],b.2)))else J' x b) R E s:=by
 subst hL;cases zX with
 |nil=> rw [show us=vs from hkw]at h;exact t4 h
 |cons p t=>
  cases t with
  |cons _ _=> exact hkw.elim
  |nil=> obtain⟨n,v⟩:=p;obtain⟨hn,rfl⟩:=hkw;have c2:=gk nd hn (vs:=vs);rw [gj hn]at h;rw [wO];refine tu (wI (by rw [Bool.or_eq_true];exact .inl (by simpa using vV hn)) (wE (by rw [c2];exact nofun) (t4 ?_)));exact t4 h
theorem gp{M:um}{A:tx}{E:R5->tm->Prop}{s:tm}{Q:List (tq×R5)->tm->Prop}{fd:uz}{vs us dv:List R5}{zX:List (tq×R5)}{ps:List tq}(hkw:QD ps vs zX us)(nd:ps.Nodup)
 (h1:fd.params.posonlyargs=[]) (h2:fd.params.args.map (·.arg)=ps) (h3:fd.params.vararg=none) (h4:fd.params.kwonlyargs=[]) (h5:fd.params.kwarg=none)
 (hd:∀(Q:Option (Array R5)->tm->Prop),(∀o:Option (Array R5),(o.getD #[]).toList=dv->Q o s)->wpAny M A (seqItems? fd.defaults) Q E s) (hl:vs.length<=ps.length) (hdl:dv.length<=ps.length)
 (hm:((ps.take (ps.length - dv.length)).filter fun n=> ((ps.zip us).lookup n).isNone)=[])
 (h:Q (ps.filterMap fun n=> ((slotsOf ps us dv).lookup n).map (n,·)) s):wpAny M A (bindArgs fd ⟨vs,zX⟩) Q E s:=by
 obtain⟨name,qual,params,fb,scope,glb,cl,dV,kV,doc,pm,anA,zB,ct,blt⟩:=fd;obtain⟨po,ar,va,ko,kd,kw,df⟩:=params;cases h1;cases h3;cases h4;cases h5;cases(show ar.map (·.arg)=ps from h2);unfold bindArgs;dsimp only;refine tu ?_;refine gm (show([]:List Arg).map vE++ar.map vE=ar.map vE from rfl) hkw nd ?_;refine tu (hd _ fun o ho=> ?_);refine wE (by simpa using hl) ?_;have e1:((o.getD #[]).toList.drop ((o.getD #[]).toList.length - (([]:List Arg).map vE++ar.map vE).length))=dv:=by rw [ho,show dv.length - (([]:List Arg).map vE++ar.map vE).length=0 from Nat.sub_eq_zero_of_le hdl,w6]
 rw [e1];refine wE (show¬(!(((ar.map vE).take ((ar.map vE).length - dv.length)).filter fun n=> (((ar.map vE).zip us).lookup n).isNone).isEmpty)=true by rw [hm];exact nofun) ?_;refine tu (U7 (fun sl p=> if(sl.lookup p.1).isNone then sl++[(p.1,p.2)]else sl) _ (fun a b=> ?_) _ _ ?_)
 . split<;>rfl
 . exact tu (t4 (t4 (show Q (((ar.map vE)++[]).filterMap _) s by rw [uD];exact h)))
theorem U8(n:tq):∀(l b:List (tq×R5)),(l.foldl (fun sl p=> if(sl.lookup p.1).isNone then sl++[(p.1,p.2)]else sl) b).lookup n=(b.lookup n).or (l.lookup n)
 | []=>@fun b=> by simp
 |(k,v)::r=>@fun b=> by
  rw [List.foldl_cons,U8 n r];have ap:∀(b c:List (tq×R5)),(b++c).lookup n=(b.lookup n).or (c.lookup n):=fun b c=> by
   induction b with
   |nil=> simp
   |cons p r ih=>
    obtain⟨k',v'⟩:=p;rw [vr,ug,ug];split
    . simp
    . exact ih
  cases hb:b.lookup n with
  |some x=>
   dsimp only;split
   . rw [ap,hb];simp
   . rw [hb];simp
  |none=>
   dsimp only;rw [ug];by_cases e:n=k
   . subst e;simp only [hb,Option.isNone_none,if_true,beq_self_eq_true];rw [ap,hb];simp [ug]
   . have:(n==k)=false:=by simpa using e
     simp only [this];split
     . rw [ap,hb];simp [ug,this]
     . rw [hb]
theorem QE{B:Heap}{W:Wd}{x:N}:∀{ps:List N} {as:List AV} {vs:List R5} {BH:List (N×AV)} {loc:List (N×AV)} {a:AV},AX B W as vs->ER ps as BH=some loc->look x loc=some a->
 (∃v,((ps.map nm).zip vs).lookup (nm x)=some v/\AK B W a v)∨(((ps.map nm).zip vs).lookup (nm x)=none/\look x BH=some a)/\x∈ps
 | [],[],[],_,loc,a,_,e,h=> by cases e;cases h
 |p::ps,a'::as,v::vs,BH,loc,a,R,e,h=> by
  obtain⟨AAM,e1,rfl⟩:=uF.mp (show(ER ps as BH).map ((p,a')::·)=some loc from e);rw [Gn]at h;rw [ud,xM,ug];by_cases q:p=x
  . subst q;rw [if_pos rfl]at h;cases h;exact .inl ⟨v,by simp,R.1⟩
  . rw [if_neg q]at h;have:(nm x==nm p)=false:=by
     rw [beq_eq_false_iff_ne];exact fun z=> q (JN z).symm
    rw [this];rcases QE R.2 e1 h with h |⟨h,hm⟩
    . exact .inl h
    . exact .inr ⟨h,.tail _ hm⟩
 |p::ps,[],[],BH,loc,a,R,e,h=> by
  refine AY (show((look p BH).bind fun v=> (ER ps [] BH).map ((p,v)::·))=some loc from e) fun d hd e=> ?_;obtain⟨AAM,e1,rfl⟩:=uF.mp e;rw [Gn]at h;by_cases q:p=x
  . subst q;rw [if_pos rfl]at h;cases h;exact .inr ⟨⟨by simp,hd⟩,.head _⟩
  . rw [if_neg q]at h;rcases QE R e1 h with h |⟨h,hm⟩
    . obtain⟨v,h1,_⟩:=h;simp at h1
    . exact .inr ⟨⟨by simp,h.2⟩,.tail _ hm⟩
 | [],_::_,_,_,_,_,_,e,_=> by cases e
 |_::_,[],_::_,_,_,_,R,_,_=> R.elim
 |_::_,_::_,[],_,_,_,R,_,_=> R.elim
 | [],[],_::_,_,_,_,R,_,_=> R.elim
theorem U9{B:Heap}{W:Wd}{x:N}:∀{BH:List (N×AV)} {dv:List R5} {a:AV},AX B W (BH.map (·.2)) dv->look x BH=some a->∃v,((BH.map fun p=> nm p.1).zip dv).lookup (nm x)=some v/\AK B W a v
 |(p,d)::r,v::dv,a,R,h=> by
  rw [Gn]at h;rw [ud,xM,ug];by_cases q:p=x
  . subst q;rw [if_pos rfl]at h;cases h;exact⟨v,by simp,R.1⟩
  . rw [if_neg q]at h;have:(nm x==nm p)=false:=by
     rw [beq_eq_false_iff_ne];exact fun z=> q (JN z).symm
    rw [this];exact U9 R.2 h
 | [],_,_,_,h=> by cases h
 |_::_,[],_,R,_=> R.elim
theorem NJ(f:tq->Option R5)(n:tq):∀ps:List tq,n∈ps->(ps.filterMap fun n=> (f n).map (n,·)).lookup n=f n
 |p::r,h=> by
  rw [yD];by_cases e:n=p
  . subst e;cases hf:f n with
    |none=>
     simp only [Option.map_none];by_cases hm:n∈r
     . rw [NJ f n r hm,hf]
     . have:∀l:List tq,n∉l->(l.filterMap fun n=> (f n).map (n,·)).lookup n=none:=fun l=> by
        induction l with
        |nil=> intro _;rfl
        |cons q t ih=>
         intro hq;rw [yD];have y0:n≠q:=fun z=> hq (z▸ .head _);cases f q with
         |none=> simp only [Option.map_none];exact ih fun z=> hq (.tail _ z)
         |some w=> simp only [xZ,ug];rw [show(n==q)=false by simpa using y0];exact ih fun z=> hq (.tail _ z)
       exact this r hm
    |some v=> simp [ug]
  . have hm:n∈r:=by
     cases h with
     |head=> exact absurd rfl e
     |tail _ h=> exact h
    cases hf:f p with
    |none=> simp only [Option.map_none];exact NJ f n r hm
    |some v=> simp only [xZ,ug];rw [show(n==p)=false by simpa using e];exact NJ f n r hm
theorem VA(n:tq):∀l:List (tq×R5),(l.map (·.1)).Nodup->l.reverse.lookup n=l.lookup n
 | []=>@fun _=> rfl
 |(k,v)::r=>@fun h=> by
  rw [ud,vF]at h;rw [vp,ug];have ap:∀(b c:List (tq×R5)),(b++c).lookup n=(b.lookup n).or (c.lookup n):=fun b c=> by
   induction b with
   |nil=> simp
   |cons p r ih=>
    obtain⟨k',v'⟩:=p;rw [vr,ug,ug];split
    . simp
    . exact ih
  rw [ap,VA n r h.2];by_cases e:n=k
  . subst e;have:r.lookup n=none:=by
     rw [List.lookup_eq_none_iff];intro p hp;rw [bne_iff_ne];intro z;exact h.1 (by show n∈_;rw [z];exact vX (f:=(·.1)) hp)
    rw [this];simp [ug]
  . have:(n==k)=false:=by simpa using e
    simp [ug,this]
theorem QF(f:tq->Option R5):∀ps:List tq,((ps.filterMap fun n=> (f n).map (n,·)).map (·.1)).Sublist ps
 | []=>.slnil
 |p::r=> by
  rw [yD];cases f p with
  |none=> exact(QF f r).cons _
  |some v=> exact(QF f r).cons_cons _
abbrev ta:=PySem.FuncData
inductive gu(G:Gx)(a:Addr)(fn:Fn)(qual:tq)(scope:u3)(body:List Stmt)(zB:R5)(cl:List (tq×Addr)):Prop
 |mk (name:_) (params:_) (dV:_) (kV:_) (doc:_) (pm:_) (ct:_) (oc:_) (an:_) (od:_) (zk:_) (dv:List R5) (h:G.K.lookup a=some ⟨oc,od,.func (fnX name qual params body scope cl dV kV doc pm an zB ct),zk⟩)
   (h1:params.posonlyargs=[]) (h2:params.args.map (·.arg)=fn.ps.map nm) (h3:params.vararg=none) (h4:params.kwonlyargs=[]) (h5:params.kwarg=none)
   (h6:(dV= .none/\dv=[])∨∃T k,dV= .ref T/\G.K.lookup T=some (G5 dv k)) (h7:∀W,AX G.B W (fn.BH.map (·.2)) dv) (h8:fn.BH.map (fun p=> nm p.1)=(fn.ps.map nm).drop (fn.ps.length - dv.length)) (h9:dv.length<=fn.ps.length)
structure FnShape(G:Gx)(a:Addr)(fn:Fn)(qual:tq)(scope:u3)(body:List Stmt)(zB:R5)(cl:List (tq×Addr)):Prop where
 ex:gu G a fn qual scope body zB cl
 code:codeIn G.K zB qual=true
 nd:(fn.ps.map nm).Nodup
 loc:∀p∈fn.ps,scope.names.lookup (nm p)=some .local
 co:scope.isCoroutine=false
 gen:scope.isGenerator=false
 kind:scope.kind= .function
 cell:∀x∈scope.names,x.2≠ .cell
section
variable{G:Gx}{f:Fx}{A:tx}{P:Prog}
theorem FC.deep{d:Nat}{f':Fx}(h:FC f (d+1) A)(e:f'.outer=f.env::f.outer):Bx f' d (A.deeper f'.env):=by
 refine⟨?_,h.hd,?_,?_⟩
 . rw [xI h.fr,e]
 . have:=h.dp;show A.depth+1+3 * d+10<recursionLimit;exact A7 this
 . have:=h.un;show A.units+3+30 * d+200<cLine;exact A7 this
section
variable{W:Wd}{l:List (N×AV)}{hp:Hp}{M:Led}{ow:Addr->Nat}{m:tq->Option R5}{s:tm}
theorem gv{B:Heap}{fn:Fn}{as:List AV}{vs dv:List R5}{loc:List (N×AV)}(nd:(fn.ps.map nm).Nodup)(R:AX B W as vs)(D:AX B W (fn.BH.map (·.2)) dv)
 (e1:fn.BH.map (fun p=> nm p.1)=(fn.ps.map nm).drop (fn.ps.length - dv.length)) (hb:ER fn.ps as fn.BH=some loc):
 DQ B W loc (fun y=> (((fn.ps.map nm).filterMap fun n=> ((slotsOf (fn.ps.map nm) vs dv).lookup n).map (n,·)).reverse).lookup y):=by
 intro x a h;have key:∃v,(slotsOf (fn.ps.map nm) vs dv).lookup (nm x)=some v/\AK B W a v:=by
  unfold slotsOf;rw [U8];rcases QE R hb h with⟨v,h1,h2⟩ |⟨⟨h1,h2⟩,h3⟩
  . exact⟨v,by rw [h1];rfl,h2⟩
  . obtain⟨v,h4,h5⟩:=U9 D h2;refine⟨v,?_,h5⟩;rw [h1,uL,<-e1,h4];rfl
 obtain⟨v,h1,h2⟩:=key;have hm:x∈fn.ps:=by
  have:∀{ps:List N} {as:List AV} {loc:List (N×AV)},ER ps as fn.BH=some loc->look x loc=some a->x∈ps:=by
   intro ps
   induction ps with
   |nil=> intro as loc e h;cases as<;>cases e;cases h
   |cons p r ih=>
    intro as loc e h;by_cases q:p=x
    . subst q;exact .head _
    . cases as with
      |cons a' as=> obtain⟨AAM,e1,rfl⟩:=uF.mp e;rw [Gn]at h;rw [if_neg q]at h;exact .tail _ (ih e1 h)
      |nil=> refine AY e fun d hd e=> ?_;obtain⟨AAM,e1,rfl⟩:=uF.mp e;rw [Gn]at h;rw [if_neg q]at h;exact .tail _ (ih e1 h)
  exact this hb h
 refine⟨v,?_,h2⟩;show List.lookup (nm x) (List.reverse _)=some v;rw [VA _ _ ((QF _ _).nodup nd),NJ _ _ _ (vX hm),h1]
theorem VB{BH:List (N×AV)}:∀{ps:List N} {as:List AV} {loc:List (N×AV)},ER ps as BH=some loc->as.length<=ps.length
 | [],[],_,_=> uW _
 |_::_,[],_,_=> uO _
 | [],_::_,_,e=> by cases e
 |p::ps,a::as,_,e=> by obtain⟨AAM,e1,rfl⟩:=uF.mp e;exact u6 (VB e1)
theorem gw{ps:List tq}{vs:List R5}{n:tq}{k:Nat}(hk:k<=vs.length)(h:n∈ps.take k):((ps.zip vs).lookup n).isNone=false:=by
 induction ps generalizing vs k with
 |nil=> simp at h
 |cons p r ih=>
  cases k with
  |zero=> simp at h
  |succ k=>
   cases vs with
   |nil=> simp at hk
   |cons v vs=>
    rw [xM,ug];split
    . rfl
    . rename_i q;rw [List.take_succ_cons]at h;cases h with
      |head=> simp at q
      |tail _ h=> exact ih (by simpa using hk) h
theorem QG{fn:Fn}{as:List AV}{ks loc:List (N×AV)}(h:FV fn as ks=some loc):∃zE,JL fn.ps as ks=some zE/\fn.ps.length<=zE.length+fn.BH.length/\ER fn.ps zE fn.BH=some loc:=by
 refine AY h fun zE h1 h2=> ?_;by_cases q:fn.ps.length<=zE.length+fn.BH.length
 . rw [if_pos q]at h2;exact⟨zE,h1,q,h2⟩
 . rw [if_neg q]at h2;cases h2
inductive Jo(G:Gx)(f:Fx)(W:Wd)(l:List (N×AV))(m:tq->Option R5)(r:COut)(v:R5)(s:tm):Prop
 |mk (a:_) (yu:_) (W':_) (M':_) (zC:_) (za:r= .ok a yu) (zb:W.le W') (ze:Inv G f W' l yu M' zC m s) (zt:AK G.B W' a v)
def EA(B:Heap)(W:Wd):List (N×AV)->List (tq×R5)->Prop
 | [],[]=> True
 |(n,a)::r,(x,v)::t=> x=nm n/\AK B W a v/\EA B W r t
 |_,_=> False
theorem EA.mono{B:Heap}{W V:Wd}(h:W.le V):∀{ks:List (N×AV)} {kv:List (tq×R5)},EA B W ks kv->EA B V ks kv:=by
 intro ks
 induction ks with
 |nil=>
  intro kv r;cases kv with
  |nil=> trivial
  |cons _ _=> exact r.elim
 |cons p t ih=>
  intro kv r;cases kv with
  |nil=> exact r.elim
  |cons q u=> exact⟨r.1,r.2.1.mono h,ih r.2.2⟩
theorem QH{ps:List N}{as zE:List AV}{G:Prop}:∀{ks:List (N×AV)},JL ps as ks=some zE->(ks=[]->zE=as->G)->(∀n v,ks=[(n,v)]->ps[as.length]? =some n->zE=as++[v]->G)->G
 | []=>@fun e h _=> h rfl (uR e).symm
 | [(n,v)]=>@fun e _ h=> Dq e (fun c e=> h n v rfl c (uR e).symm) (fun _ e=> cNS e)
 |_::_::_=>@fun e _ _=> cNS e
theorem gy{B:Heap}{W:Wd}{ps:List N}{as zE:List AV}{vs:List R5}{ks:List (N×AV)}{kv:List (tq×R5)}(R:AX B W as vs)(K:EA B W ks kv)(e:JL ps as ks=some zE):
 ∃us,QD (ps.map nm) vs kv us/\AX B W zE us:=by
 refine QH e (fun e1 e2=> ?_) (fun n v e1 hn e2=> ?_)
 . subst e1 e2;cases kv with
   |nil=> exact⟨vs,rfl,R⟩
   |cons _ _=> exact K.elim
 . subst e1 e2;cases kv with
   |nil=> exact K.elim
   |cons p t=>
    cases t with
    |cons _ _=> exact K.2.2.elim
    |nil=>
    obtain⟨x,u⟩:=p;obtain⟨rfl,k2,_⟩:=K;refine⟨vs++[u],⟨?_,rfl⟩,R.append ⟨k2,trivial⟩⟩;rw [<-R.length,wL,hn];rfl
theorem gz{ps:List N}{as zE:List AV}{ks:List (N×AV)}(e:JL ps as ks=some zE):as.length<=zE.length:=
 QH e (fun _ e=> e▸uW _) (fun n v _ _ e=> by rw [e,t9];exact ur ..)
set_option backward.match.sparseCases true in
theorem VC{prog:uQ}{w:uS}{A₀ A:tx}{s:tm}{base h₀:Heap}{outer:List Env}{L:Addr}{m:tq->Option R5}{env:Env}{news:List (Addr×Obj)}
 {R:Result->tm->Prop} {name qual:tq} {params:Arguments} {body:List Stmt} {scope:u3} {cl:List (tq×Addr)} {dV kV doc pm zB ct:R5} {an:Option Addr} {fo:Obj} {f:Addr} {args:Args} {binds:List (tq×R5)}
 (B:Below A₀ base outer h₀) (F:Fr h₀ L s.heap m) (N:News h₀ L s.heap news) (AAZ:h₀.NoLimit) (hA:A.frames=some (env::outer)) (hf:env.frame=some L) (hke:env.scope.kind= .function)
 (ho:s.heap.get? f=some fo) (hd:fo.data= .func (fnX name qual params body scope cl dV kV doc pm an zB ct)) (z8:s.heap.CodeRec zB qual) (ACE:A.depth<recursionLimit)
 (ACF:BindsTo s (fnX name qual params body scope cl dV kV doc pm an zB ct) args binds) (z9:∀y∈binds,scope.names.lookup y.1=some .local)
 (h:∀g L' h₁,Fr h₀ L g m->Fr g L' h₁ (fun y=> binds.reverse.lookup y)->News g L' h₁ news->Below A base (env::outer) g->h₀.StaysIn g->(∀p∈news,p.1<L')->
   PySem.wpAt (model prog w) (A.deeper (envX qual scope L' f zB cl)) (.func body (envX qual scope L' f zB cl)) (execs body (envX qual scope L' f zB cl))
    (fun fl s'=> LeaveK h₀ L m g R (match fl with | .ret v=> v |_=>.none) s')
    (fun e s'=> wpAny (model prog w) (A.deeper (envX qual scope L' f zB cl)) (leaving (envX qual scope L' f zB cl) e) (fun _ zH=> R (.error e) zH) (fun e' zH=> R (.error e') zH) s')
    {s with heap:=h₁,toks:=s.toks+binds.length})
 (AA0:∀x∈scope.names,x.2≠ .cell) (hco:scope.isCoroutine=false:=by rfl) (ACG:scope.isGenerator=false:=by rfl) (hk:scope.kind= .function:=by rfl):codeAny (model prog w) A (.call (.ref f) args) R s:=by
 obtain⟨FG,BG,st,lv⟩:=groundX (R:=R) B F N hA hf hke;refine ks_codeAny_call_defAt (fd:=fnX name qual params body scope cl dV kV doc pm an zB ct) (body:=body) (binds:=binds) ACE ho hd (AAZ.keeps F.keep) z8 rfl ACF AA0 z9 (fun h₁ hns hk₁=> ?_) hco ACG hk;exact xj (h _ s.heap.objs.size h₁ FG ⟨hns,fun b o e=> hk₁ b o (of_hideAll _ e),t7 (hideAll_size _ _)⟩
  (fun p hp=> ⟨hk₁ _ _ (N p hp).1,uu (uf (N p hp).1),hideAll_none _ (vX hp)⟩) BG st (fun p hp=> uf (N p hp).1)) (fun fl s' hl=> lv _ _ hl) fun _ _ y=> y
inductive hK(G:Gx)(a:Nat)(qual:tq)(scope:u3)(body:List Stmt)(zB:R5)(cl:List (tq×Addr))(W:Wd)(s:tm)(vs:List R5)(kv:List (tq×R5))(loc:List (N×AV)):Prop
 |mk (name:_) (params:_) (dV:_) (kV:_) (doc:_) (pm:_) (ct:_) (oc:_) (an:_) (od:_) (zk:_) (binds:_) (h1:s.heap.get? a=some ⟨oc,od,.func (fnX name qual params body scope cl dV kV doc pm an zB ct),zk⟩) (h2:BindsTo s (fnX name qual params body scope cl dV kV doc pm an zB ct) ⟨vs,kv⟩ binds)
   (h3:∀y∈binds,scope.names.lookup y.1=some .local) (h4:DQ G.B W loc fun y=> binds.reverse.lookup y)
theorem FnShape.binds{a:Nat}{fn:Fn}{qual:tq}{scope:u3}{body:List Stmt}{zB:R5}{cl:List (tq×Addr)}(S:FnShape G a fn qual scope body zB cl){W:Wd}{s:tm}(X:G.K.In s.heap)
 {as:List AV} {vs:List R5} {ks:List (N×AV)} {kv:List (tq×R5)} (R0:AX G.B W as vs) (K0:EA G.B W ks kv) {loc:List (N×AV)} (he:FV fn as ks=some loc):
 hK G a qual scope body zB cl W s vs kv loc:=by
 refine cps fun yv yt=> ?_;obtain⟨zE,hn,hle,hb⟩:=QG he;obtain⟨us,hkw,R1⟩:=gy R0 K0 hn;obtain⟨name,params,dV,kV,doc,pm,ct,oc,an,od,zk,dv,ho,p1,p2,p3,p4,p5,hdv,D,e1,hdl⟩:=S.ex;refine yt ?_;have hlen:=VB hb;have hl1:=R1.length;have hl0:=R0.length;have zz:=gz hn;have hd:dv.length=fn.BH.length:=by have:=(D W).length;simpa using this.symm
 refine⟨name,params,dV,kV,doc,pm,ct,oc,an,od,zk,(fn.ps.map nm).filterMap fun n=> ((slotsOf (fn.ps.map nm) us dv).lookup n).map (n,·),X _ _ ho,fun mm A' E' Q' hq=> ?_,fun y hy=> ?_,gv S.nd R1 (D W) e1 hb⟩
 . refine gp (ps:=fn.ps.map nm) (dv:=dv) hkw S.nd p1 p2 p3 p4 p5 (fun Q'' h''=> ?_) (by rw [uL];lia) (by simpa using hdl) ?_ hq
   . show wpAny mm A' (seqItems? dV) Q'' E' s;rcases hdv with⟨rfl,rfl⟩ |⟨T,k,rfl,hT⟩
     . exact fun _ _ _=> h'' none rfl
     . exact wpAny_seqItems (X _ _ hT) rfl (h'' _ (by simp))
   . rw [List.filter_eq_nil_iff];intro n hn;rw [uL]at hn;rw [gw (by lia) hn];simp
 . refine cps fun zI yy=> ?_;obtain⟨n,hn,e⟩:=xN.mp hy;obtain⟨v,_,rfl⟩:=uF.mp e;obtain⟨p,hp,rfl⟩:=uj.mp hn;refine yy ?_;exact S.loc p hp
theorem VD{d a:Nat}{fn:Fn}{qual:tq}{scope:u3}{body:List Stmt}{zB:R5}{cl:List (tq×Addr)}(S:FnShape G a fn qual scope body zB cl)(O:AP G f)(HA:FC f (d+1) A)(I:Inv G f W l hp M ow m s)
 {as:List AV} {vs:List R5} {ks:List (N×AV)} {kv:List (tq×R5)} (R0:AX G.B W as vs) (K0:EA G.B W ks kv) {loc:List (N×AV)} (he:FV fn as ks=some loc) {r:Out Flow} {X':Fx->XP} {R:Result->tm->Prop}
 (run:∀f' m' s',f'.A₀=A->f'.cs=scope->f'.outer=f.env::f.outer->f'.cl=cl->f'.ca=a->f'.cd=zB->AP G f'->Bx f' d (A.deeper f'.env)->Inv G f' W loc hp M ow m' s'->PySem.wpAt (mo G) (A.deeper f'.env) (.func body f'.env) (execs body f'.env) (Hk G f' W r) (A9 (X' f') W r) s')
 (ret:∀v s',Jo G f W l m (Gr r) v s'->R (.ok (.ret v)) s')
 (exc:∀f' e s',f'.outer=f.env::f.outer->f'.A₀=A->Fr f.g f.L f'.g m->AP G f'->A9 (X' f') W r e s'->wpAny (mo G) (A.deeper f'.env) (leaving f'.env e) (fun _ zH=> R (.error e) zH) (fun e' zH=> R (.error e') zH) s'):
 codeAny (mo G) A (.call (.ref a) ⟨vs,kv⟩) R s:=by
 have X:=I.X O;obtain⟨name,params,dV,kV,doc,pm,ct,oc,an,od,zk,binds,ho,hb,z9,hL⟩:=S.binds X R0 K0 he;refine VC O.below I.fr I.nw O.T.nolimit HA.fr rfl O.fn ho rfl (codeRec_of X S.code) (yG (t5 (ur _ _) (ur _ _)) HA.dp) hb z9 ?_ S.cell S.co S.gen S.kind
 . intro g L' h₁ Fg F1 N1 Bg st _;let f':Fx:=⟨qual,scope,L',a,zB,g,f.env::f.outer,A,cl⟩;have O':AP G f':=⟨Bg,O.X.keeps st,O.T.keeps st,S.kind⟩;have I':Inv G f' W loc hp M ow _ {s with heap:=h₁,toks:=s.toks+binds.length}:=⟨F1,N1,I.hi,hL,I.gn,I.os⟩;refine xj (run f' _ _ rfl rfl rfl rfl rfl rfl O' (HA.deep rfl) I') (fun fl s' h=> ?_) fun e s' h=> exc f' e s' rfl rfl Fg O' h;obtain⟨c,σ,W',M',zC,m',h1,h2,h3,h4⟩:=h;refine⟨L',m',M'++W'.fz,h3.fr,h3.nw,fun F2 N2=> ret _ s' ?_⟩;have I2:Inv G f W' l σ.hp M' zC m s':=⟨F2,N2,h3.hi,I.lr.mono h2,h3.gn,h3.os⟩;subst h1;cases c with
   |ret b=>
    cases fl<;>first |exact h4.elim |skip
    exact⟨b,_,W',M',zC,rfl,h2,I2,h4⟩
   |next=> cases fl<;>first |exact h4.elim |exact⟨.none,_,W',M',zC,rfl,h2,I2,rfl⟩
   |brk=> cases fl<;>first |exact h4.elim |exact⟨.none,_,W',M',zC,rfl,h2,I2,rfl⟩
   |cont=> cases fl<;>first |exact h4.elim |exact⟨.none,_,W',M',zC,rfl,h2,I2,rfl⟩
end
end
section
variable{G:Gx}{f:Fx}{A:tx}{X:XP}{P:Prog}
def G8(G:Gx)(f:Fx)(A:tx)(X:XP)(t:Expr)(ev:AV->St->Out Unit):Prop:=
 ∀a u W l hp M ow m s Z,ev a ⟨l,hp⟩=Z->Inv G f W l hp M ow m s->AK G.B W a u->Z≠ .bad->Pn G f A X W (assign t f.env u) Z s
theorem VE{x:N}{pos:Pos}(hk:f.cs.kind= .function)(hl:f.cs.names.lookup (nm x)=some .local):G8 G f A X (.Name (nm x) pos) fun v s=>.ok () ⟨put x v s.loc,s.hp⟩:=
 fun a u W l hp M ow m s Z eR I hu _=> xR (GR hk hl I hu fun m' s' I'=> I'.U eR W.le_rfl)
theorem VF(C:Ck G P)(S:Fi G P)(O:AP G f){e:Expr}{n:N}{pos:Pos}{ev:St->Out AV}(he:AW G f A X (eval e f.env) ev):
 G8 G f A X (.Attribute e (nm n) pos) fun v s=> (ev s).bind fun o s=> AR (setAt P s.hp o n v) fun h=>.ok () ⟨s.loc,h⟩:=fun a u W l hp M ow m s Z eR I hu ne=> by
 refine tu (uE (Au eR W.le_rfl (fun q=> he W l hp M ow m s _ rfl I q) ne fun o σ V L ow m v s' eR h1 h2 I hv ne=> ?_));obtain⟨h',h3,eR⟩:=BK eR ne;exact tu (uU (tu (uE (U3 C S O I hv (hu.mono h2) h3 fun M' s' I'=> vt (I'.U eR h1)))))
set_option backward.match.sparseCases true in
theorem hZ(e i:Expr)(pos:Pos)(env:Env)(u:R5):assign (.Subscript e i pos) env u=(do let ov<-holding [u] (eval e env);let iv<-holding [u,ov] (eval i env);standAt pos;holding [u,ov,iv] (setItem ov iv u);release (match i with | .Slice _ _ none _=>[iv,u,ov] |_=>[u,ov,iv]) []):=rfl
theorem iA(O:AP G f){e i:Expr}{pos:Pos}{ev ei:St->Out AV}(he:AW G f A X (eval e f.env) ev)(hi:AW G f A X (eval i f.env) ei):
 G8 G f A X (.Subscript e i pos) fun v s=> (ev s).bind fun o s=> (ei s).bind fun k s=> AR (IK s.hp o k v) fun h=>.ok () ⟨s.loc,h⟩:=fun a u W l hp M ow m s Z eR I hu ne=> by
 rw [hZ];refine tu (uE (Au eR W.le_rfl (fun q=> he W l hp M ow m s _ rfl I q) ne fun o σ V L ow m v s' eR h1 h2 I hv ne=> ?_));refine tu (uE (Au eR h1 (fun q=> hi V _ _ L ow m s' _ rfl I q) ne fun k σ' V' L ow m w s' eR h1 yz I hw ne=> ?_));obtain⟨h',h3,eR⟩:=BK eR ne;exact tu (uU (tu (uE (U0 O I (hv.mono yz) hw (hu.mono (h2.trans yz)) h3 fun M' s' I'=> vt (I'.U eR h1)))))
theorem Hq{e:Expr}{t:Option Expr}{n:Nat}{env:Env}(h:FY e=true):swapsWith e t n env=pure false:=by cases e<;>first |rfl |cases h
theorem iB{e:Expr}{pos:Pos}{ev:St->Out AV}(hc:FY e=true)(hi:interactive f.env=false)(he:AW G f A X (eval e f.env) ev):
 A6 G f A X (exec (.Expr e pos) f.env) fun s=> (ev s).bind fun _ s=>.ok .next s:=fun W l hp M ow m s Z eR I ne=> by
 refine wpAny_Expr_any (Au eR W.le_rfl (fun q=> he W l hp M ow m s _ rfl I q) ne fun o σ V L ow m v s' eR h1 h2 I hv ne=> ?_) hi (Hq hc);exact(I.F eR h1 trivial)
theorem iC{pos:Pos}:A6 G f A X (exec (.Return none pos) f.env) fun s=>.ok (.ret .none) s:=fun W l hp M ow m s Z eR I ne=>
 wpAny_Return_none (I.F eR W.le_rfl rfl)
theorem VG{e:Expr}{pos:Pos}{ev:St->Out AV}(he:AW G f A X (eval e f.env) ev):
 A6 G f A X (exec (.Return (some e) pos) f.env) fun s=> (ev s).bind fun v s=>.ok (.ret v) s:=fun W l hp M ow m s Z eR I ne=> by
 refine wpAny_Return_some (Au eR W.le_rfl (fun q=> he W l hp M ow m s _ rfl I q) ne fun o σ V L ow m v s' eR h1 h2 I hv ne=> ?_);exact(I.F eR h1 hv)
theorem iD{t:Expr}{b o:List Stmt}{pos:Pos}{et:St->Out Bool}{eb eo:St->Out Flow}(ht:B8 G f A X (isTrue t f.env (eval t f.env)) et)(hb:A6 G f A X (execs b f.env) eb)(ho:A6 G f A X (execs o f.env) eo):
 A6 G f A X (exec (.If t b o pos) f.env) fun s=> (et s).bind fun c s=> if c=true then eb s else eo s:=fun W l hp M ow m s Z eR I ne=> by
 refine wpAny_If (Ic eR W.le_rfl (fun q=> ht W l hp M ow m s _ rfl I q) ne fun c σ V L ow m s' eR h1 h2 I ne=> ?_);cases c with
 |true=> exact LA h1 (hb V _ _ _ _ _ _ _ eR I ne)
 |false=> exact LA h1 (ho V _ _ _ _ _ _ _ eR I ne)
theorem pass_S{pos:Pos}:A6 G f A X (exec (.Pass pos) f.env) fun s=>.ok .next s:=fun W l hp M ow m s Z eR I ne=> wpAny_Pass (I.F eR W.le_rfl trivial)
theorem iE{pos:Pos}:A6 G f A X (exec (.Break pos) f.env) fun s=>.ok .brk s:=fun W l hp M ow m s Z eR I ne=> wpAny_Break (I.F eR W.le_rfl trivial)
theorem iG{pos:Pos}:A6 G f A X (exec (.Continue pos) f.env) fun s=>.ok .cont s:=fun W l hp M ow m s Z eR I ne=> wpAny_Continue (I.F eR W.le_rfl trivial)
theorem NK:A6 G f A X (execs [] f.env) fun s=>.ok .next s:=fun W l hp M ow m s Z eR I ne=> vG (I.F eR W.le_rfl trivial)
theorem VH{st:Stmt}{rest:List Stmt}{es er:St->Out Flow}(hs:A6 G f A X (exec st f.env) es)(hr:A6 G f A X (execs rest f.env) er):
 A6 G f A X (execs (st::rest) f.env) fun s=> (es s).bind fun f s=> match f with
  | .next=> er s
  | .brk=>.ok .brk s
  | .cont=>.ok .cont s
  | .ret v=>.ok (.ret v) s:=fun W l hp M ow m s Z eR I ne=> by
 refine xV (M5 eR W.le_rfl (fun q=> hs W l hp M ow m s _ rfl I q) ne fun a σ V L ow m v s' eR h1 h2 I hv ne=> ?_);cases a<;>cases v<;>first |exact hv.elim |skip
 . exact LA h1 (hr V _ _ _ _ _ _ _ eR I ne)
 . exact(I.F eR h1 trivial)
 . exact(I.F eR h1 trivial)
 . exact(I.F eR h1 hv)
end
section
variable{G:Gx}{f:Fx}{A:tx}{X:XP}{P:Prog}
theorem QI{t v:Expr}{env:Env}(h:El t=true):swappedStores [t] v env=pure none:=by cases t<;>first |rfl |cases h
theorem VI{t:Expr}{env:Env}(h:El t=true):(assignEach [t] env).map (·.2)=[assign t env]:=by cases t<;>first |rfl |cases h
theorem LH{t v:Expr}{pos:Pos}{ev:St->Out AV}{ea:AV->St->Out Unit}(ht:El t=true)(hc:FY v=true)(hv:AW G f A X (eval v f.env) ev)(ha:G8 G f A X t ea):
 A6 G f A X (exec (.Assign [t] v pos) f.env) fun s=> (ev s).bind fun v s=> (ea v s).bind fun _ s=>.ok .next s:=fun W l hp M ow m s Z eR I ne=> by
 refine xJ (Au eR W.le_rfl (fun q=> hv W l hp M ow m s _ rfl I q) ne fun a σ V L ow m u s' eR h1 h2 I hu ne=> ?_) (Hq hc) (QI ht);rw [VI ht];show wpAny (mo G) A (assign t f.env u) _ _ _;refine Pp eR h1 (fun q=> ha a u V _ _ L ow m s' _ rfl I hu q) ne fun σ' V' L ow m s' eR h1 h2 I ne=> ?_;exact(I.F eR h1 trivial)
theorem iH{x:N}{op:BOp}{AA2 pos:Pos}{e:Expr}{ev:St->Out AV}(O:AP G f)(hl:f.cs.names.lookup (nm x)=some .local)(he:AW G f A X (eval e f.env) ev):
 A6 G f A X (exec (.AugAssign (.Name (nm x) AA2) (Gu op) e pos) f.env) fun s=> AR (look x s.loc) fun old=> (ev s).bind fun v s=> AR (Du s.hp op old v) fun r=>.ok .next ⟨put x r.1 s.loc,r.2⟩:=fun W l hp M ow m s Z eR I ne=> by
 obtain⟨a,h1,eR⟩:=BK eR ne;obtain⟨u,h3,h4⟩:=I.lr x a h1;refine wpAny_AugAssign_Name (wpAny_loadName_local O.fn hl I.fr.ns h3 ?_);refine Au eR W.le_rfl (fun q=> he W l hp M ow m s _ rfl I q) ne fun b σ V L ow m v s' eR h1 h2 I hv ne=> ?_;obtain⟨⟨c,yu⟩,h5,eR⟩:=BK eR ne;exact QB O I (h4.mono h2) hv h5 fun M' r s' I' hr=> GR O.fn hl I' hr fun m' zH I''=> (I''.F eR h1 trivial)
theorem iI(C:Ck G P)(S:Fi G P)(O:AP G f){n:N}{op:BOp}{zJ pos:Pos}{o e:Expr}{eo ev:St->Out AV}(ho:AW G f A X (eval o f.env) eo)(he:AW G f A X (eval e f.env) ev):
 A6 G f A X (exec (.AugAssign (.Attribute o (nm n) zJ) (Gu op) e pos) f.env) fun s=> (eo s).bind fun ov s=> AR (GB P s.hp ov n) fun old=> (ev s).bind fun v s=>
  AR (Du s.hp op old v) fun r=> AR (setAt P r.2 ov n r.1) fun h=>.ok .next ⟨s.loc,h⟩:=fun W l hp M ow m s Z eR I ne=> by
 refine wpAny_AugAssign_AttributeAny (Au eR W.le_rfl (fun q=> ho W l hp M ow m s _ rfl I q) ne fun ov σ V L ow m u s' eR h1 h2 I hu ne=> ?_);obtain⟨old,h3,eR⟩:=BK eR ne;refine Pr C O I hu h3 fun w s' hw I=> ?_;refine Au eR h1 (fun q=> he V _ _ L ow m s' _ rfl I q) ne fun b σ' V' L ow m v s' eR h1 yz I hv ne=> ?_;obtain⟨⟨c,yu⟩,h5,eR⟩:=BK eR ne;obtain⟨ACH,h7,eR⟩:=BK eR ne;exact QB O I (hw.mono yz) hv h5 fun M' r s' I' hr=> U3 C S O I' (hu.mono yz) hr h7 fun M'' zH I''=> (I''.F eR h1 trivial)
theorem iJ{i:Expr}(h:IL i=true)(ov iv new:R5):augStore i ov iv new=(do holding [new,ov,iv] (setItem ov iv new);release [new,ov,iv] [];pure .next):=by cases i<;>first |rfl |cases h
theorem iK(O:AP G f){op:BOp}{zJ pos:Pos}{o i e:Expr}{eo ei ev:St->Out AV}(hn:IL i=true)(ho:AW G f A X (eval o f.env) eo)(hi:AW G f A X (eval i f.env) ei)(he:AW G f A X (eval e f.env) ev):
 A6 G f A X (exec (.AugAssign (.Subscript o i zJ) (Gu op) e pos) f.env) fun s=> (eo s).bind fun ov s=> (ei s).bind fun k s=> AR (CP s.hp ov k) fun old=> (ev s).bind fun v s=>
  AR (Du s.hp op old v) fun r=> AR (IK r.2 ov k r.1) fun h=>.ok .next ⟨s.loc,h⟩:=fun W l hp M ow m s Z eR I ne=> by
 refine wpAny_AugAssign_SubscriptAny (Au eR W.le_rfl (fun q=> ho W l hp M ow m s _ rfl I q) ne fun ov σ V L ow m u s' eR h1 h2 I hu ne=> ?_) (iJ hn);refine Au eR h1 (fun q=> hi V _ _ L ow m s' _ rfl I q) ne fun k σ' V' L ow m uk s' eR h1 yz I hk ne=> ?_;obtain⟨old,h3,eR⟩:=BK eR ne;refine(P6 O I (hu.mono yz) hk h3 fun w s' I hw=> ?_).2;refine Au eR h1 (fun q=> he V' _ _ L ow m s' _ rfl I q) ne fun b σ'' V'' L ow m v s' eR h1 zj I hv ne=> ?_;obtain⟨⟨c,yu⟩,h5,eR⟩:=BK eR ne;obtain⟨ACH,h7,eR⟩:=BK eR ne;exact QB O I (hw.mono zj) hv h5 fun M' r s' I' hr=> U0 O I' (hu.mono (yz.trans zj)) (hk.mono zj) hr h7 fun M'' zH I''=> (I''.F eR h1 trivial)
theorem iL(O:AP G f){e i:Expr}{AAe pos:Pos}{ee ei:St->Out AV}(he:AW G f A X (eval e f.env) ee)(hi:AW G f A X (eval i f.env) ei):
 A6 G f A X (exec (.Delete [.Subscript e i AAe] pos) f.env) fun s=> (ee s).bind fun o s=> (ei s).bind fun k s=> AR (MC s.hp o k) fun h=>.ok .next ⟨s.loc,h⟩:=fun W l hp M ow m s Z eR I ne=> by
 show wpAny _ _ (do standAt pos;deleteEach [.Subscript e i AAe] f.env;pure PySem.Flow.next:Sem uo) _ _ _;refine tu (uU (tu ?_));show wpAny _ _ (do(do let ov<-eval e f.env;let iv<-holding [ov] (eval i f.env);standAt AAe;holding [ov,iv] (delItem ov iv);release [ov,iv] []);deleteEach [] f.env) _ _ _;refine tu (tu (Au eR W.le_rfl (fun q=> he W l hp M ow m s _ rfl I q) ne fun ov σ V L ow m u s' eR h1 h2 I hu ne=> ?_));refine tu (uE (Au eR h1 (fun q=> hi V _ _ L ow m s' _ rfl I q) ne fun k σ' V' L ow m uk s' eR h1 yz I hk ne=> ?_));obtain⟨yu,h3,eR⟩:=BK eR ne;exact tu (uU (tu (uE (fx O I (hu.mono yz) hk h3 fun M' s' I'=> vt (t4 (t4 (I'.F eR h1 trivial)))))))
def Hr(G:Gx)(f:Fx)(A:tx)(X:XP):Prop:=∀(W:Wd) (r:Out Flow) e s,A9 X W r e s->notedBy (mo G) A f.env (fun e s'=> cameBackBy (mo G) A f.env (A9 X W r) e s') e s
theorem iM{t:Expr}{b:List Stmt}{pos:Pos}{et:St->Out Bool}{eb:St->Out Flow}(fu:Nat)(hX:Hr G f A X)(ht:B8 G f A X (isTrue t f.env (eval t f.env)) et)(hb:A6 G f A X (execs b f.env) eb):
 A6 G f A X (exec (.While t b [] pos) f.env) fun s=> B0 et eb fu s:=fun W l hp M ow m s Z eR I ne=> by
 refine wpAny_While (codeAny_whileLoop (fun n s=> ∃V l hp M ow m,W.le V/\Inv G f V l hp M ow m s/\B0 et eb n ⟨l,hp⟩=Z) (fun n s hI=> ?_) fu ⟨W,l,hp,M,ow,m,W.le_rfl,I,eR⟩);clear I eR;obtain⟨V,l,hp,M,ow,m,hV,I,eR⟩:=hI;cases n with
 |zero=> exact absurd eR.symm ne
 |succ n=>
  refine uG (Ic eR hV (fun q=> ht V l hp M ow m s _ rfl I q) ne fun c σ V' L ow m s' eR h1 h2 I ne=> ?_) (fun _ _ x=> x) (fun e s' he=> hX _ _ _ _ he);cases c with
  |true=>
   refine uG (M5 eR h1 (fun q=> hb V' _ _ L ow m s' _ rfl I q) ne fun a σ' V'' L ow m v s' eR h1 h2 I hv ne=> ?_) (fun _ _ x=> x) (fun e s' he=> hX _ _ _ _ he);cases a<;>cases v<;>first |exact hv.elim |skip
   . exact⟨n,Nat.lt_succ_self _,V'',_,_,_,_,_,h1,I,eR⟩
   . exact I.F eR h1 trivial
   . exact⟨n,Nat.lt_succ_self _,V'',_,_,_,_,_,h1,I,eR⟩
   . exact I.F eR h1 hv
  |false=> exact vG (I.F eR h1 trivial)
end
section
variable{G:Gx}{f:Fx}{A:tx}{X:XP}{P:Prog}
theorem VJ{B:Heap}{W V:Wd}(hr:V.r=W.r)(hn:V.lv=W.lv)(h:∀a o,D6 o->Kn B W a o->Kn B V a o):Wd.To B W V W.lv:=⟨h,fun i l=> ⟨by rw [hr],by rw [hn];exact l⟩⟩
theorem AK.conv{B:Heap}{W V:Wd}(hr:V.r=W.r)(hn:V.lv=W.lv)(h:∀a o,D6 o->Kn B W a o->Kn B V a o){x:AV}{v:R5}(r:AK B W x v):AK B V x v:=r.gen (VJ hr hn h) r.lt'
def Wd.drop(W:Wd)(I:Addr):Wd:=⟨W.r,W.lv,W.fz.filter fun p=> !(p.1==I)⟩
theorem QJ{W:Wd}{I:Addr}{p:Addr×Obj}(h:p∈W.fz)(ne:p.1≠I):p∈(W.drop I).fz:=w4.mpr ⟨h,by simpa using ne⟩
theorem LI{W:Wd}{I:Addr}{p:Addr×Obj}(h:p∈(W.drop I).fz):p∈W.fz/\p.1≠I:=by obtain⟨a,b⟩:=w4.mp h;exact⟨a,by simpa using b⟩
theorem Wd.Il{U W:Wd}{I:Addr}(h:U.le W)(n:∀p∈U.fz,p.1≠I):U.le (W.drop I):=⟨h.lv,h.r,fun p hp=> QJ (h.fz p hp) (n p hp)⟩
section
variable{W:Wd}{l:List (N×AV)}{hp:Hp}{M:Led}{ow:Addr->Nat}{m:tq->Option R5}{s:tm}
theorem Inv.QK(I:Inv G f W l hp M ow m s){D:Addr}{o:Obj}(hD:(D,o)∈W.fz)(nd:¬D6 o)(a:Addr)(o':Obj)(hd:D6 o')(k:Kn G.B W a o'):Kn G.B (W.drop D) a o':=by
 rcases k with k |k
 . refine .inl (QJ k fun e=> ?_);have g1:=(I.nw _ (uC _ hD)).1;have g2:=(I.nw _ (uC _ k)).1;dsimp only at g1 g2;rw [show a=D from e,g1]at g2;cases g2;exact nd hd
 . exact .inr k
theorem Inv.NL(I:Inv G f W l hp M ow m s){D:Addr}{o:Obj}(hD:(D,o)∈W.fz)(nd:¬D6 o):Inv G f (W.drop D) l hp M ow m s:=by
 have c:=I.QK hD nd;refine⟨I.fr,News.sub I.nw fun p hp=> ?_,⟨I.hi.n,I.hi.nd,fun p hp q hq=> I.hi.dj p (LI hp).1 q hq,fun j hj=> ?_⟩,fun x a e=> ?_,I.gn,I.os⟩
 . rcases uN.mp hp with h |h
   . exact uK _ h
   . exact uC _ (LI h).1
 . have r:=I.hi.cell j hj;exact r.gen (VJ (W:=W) (V:=W.drop D) rfl rfl c) rfl (fun p hp h=> ⟨hp,h⟩) r.lt'
 . obtain⟨v,h1,h2⟩:=I.lr x a e;exact⟨v,h1,h2.conv (W:=W) (V:=W.drop D) rfl rfl c⟩
theorem QL(I:Inv G f W l hp M ow m s){D:Addr}{o:Obj}(hD:(D,o)∈W.fz):∀p∈M++(W.drop D).fz,p.1≠D:=fun p hp=> by
 rcases uN.mp hp with h |h
 . exact fun e=> I.hi.dj _ hD p h e.symm
 . exact(LI h).2
theorem Inv.VK(I:Inv G f W l hp M ow m s){D:Addr}{o o':Obj}{h':Heap}{tk:Nat}(hD:(D,o)∈W.fz)(nd:¬D6 o)(hs:yO D s.heap h')(ho:h'.get? D=some o'):
 Inv G f ((W.drop D).CK [(D,o')]) l hp M ow m ⟨h',s.gens,s.drawn,tk,s.os⟩:=by
 have J:=I.NL hD nd;have z:=I.nw _ (uC _ hD);have ne:=QL I hD;have F':Fr f.g f.L h' m:=I.fr.change hs z.2.1 z.2.2;refine⟨F',fun p hp=> ?_,J.hi.CK fun p hp q hq=> ?_,J.lr.mono (Wd.Cr _ _),I.gn,I.os⟩
 . have old:∀p∈M++(W.drop D).fz,h'.get? p.1=some p.2/\p.1≠f.L/\f.g.get? p.1=none:=fun p hp=> ⟨(hs.2 p.1 (ne p hp)).trans (J.nw p hp).1,(J.nw p hp).2⟩;rcases uN.mp hp with h |h
   . exact old p (uK _ h)
   . rcases uN.mp h with h |h
     . rcases uI.mp h with rfl |h
       . exact⟨ho,z.2⟩
       . cases h
     . exact old p (uC _ h)
 . rcases uI.mp hp with rfl |hp
   . exact fun e=> ne q (uK _ hq) e.symm
   . cases hp
theorem Inv.QM(I:Inv G f W l hp M ow m s){D:Addr}{o:Obj}{h':Heap}{tk:Nat}(hD:(D,o)∈W.fz)(nd:¬D6 o)(hs:Heap.ExtBut D s.heap h'):
 Inv G f (W.drop D) l hp M ow m ⟨h',s.gens,s.drawn,tk,s.os⟩:=by
 refine cps fun yv yt=> ?_;have J:=I.NL hD nd;have z:=I.nw _ (uC _ hD);have ne:=QL I hD;obtain⟨oL,es,ep,hL,r⟩:=I.fr.ns;refine yt ?_;refine⟨⟨⟨oL,es,ep,hs f.L oL (fun e=> z.2.1 e.symm) hL,r⟩,fun b x q=> hs b x (fun e=> ?_) (I.fr.keep b x q),I.fr.above⟩,fun p hp=> ⟨hs p.1 p.2 (ne p hp) (J.nw p hp).1,(J.nw p hp).2⟩,J.hi,J.lr,I.gn,I.os⟩;have:=z.2.2;dsimp only at this;rw [<-e,q]at this;cases this
end
end
section
variable{G:Gx}{f:Fx}{A:tx}{X:XP}{P:Prog}
theorem iO{β:Type}{U W:Wd}{s:tm}{t:Sem Unit}{r:Out Unit}{k:Unit->St->Out β}{Z:Out β}{C:Unit->tm->Prop}(eR:r.bind k=Z)(hU:U.le W)(h:r≠ .bad->Pn G f A X W t r s)(ne:Z≠ .bad)
 (next:∀σ V L ow m s',r= .ok () σ->k () σ=Z->U.le V->W.le V->Inv G f V σ.loc σ.hp L ow m s'->C () s'):
 wpAny (mo G) A t C (A9 X U Z) s:=
 uG (h (CC (eR▸ne))) (fun v s' ⟨σ,V,L,ow,m,h1,h2,h3⟩=> next σ V L ow m s' h1 ((CD h1).symm.trans eR) (hU.trans h2) h2 h3) fun _ _ x=> FD eR hU x
theorem iP{β:Type}{U W:Wd}{s:tm}{t:Sem uo}{r:Out Flow}{k:Flow->St->Out β}{Z:Out β}{C:uo->tm->Prop}(eR:r.bind k=Z)(hU:U.le W)(h:r≠ .bad->Ia G f A X W t r s)(ne:Z≠ .bad)
 (next:∀a σ V L ow m v s',r= .ok a σ->k a σ=Z->U.le V->W.le V->Inv G f V σ.loc σ.hp L ow m s'->M4 G.B V a v->C v s'):
 wpAny (mo G) A t C (A9 X U Z) s:=
 uG (h (CC (eR▸ne))) (fun v s' ⟨a,σ,V,L,ow,m,h1,h2,h3,h4⟩=> next a σ V L ow m v s' h1 ((CD h1).symm.trans eR) (hU.trans h2) h2 h3 h4) fun _ _ x=> FD eR hU x
structure Jp(G:Gx)(f:Fx)(A:tx)(W₀:Wd)(D:Addr)(xs:List AV)(OK:Nat->Obj->Prop)(Hy:Hp->Prop)(t:Expr):Prop where
 nd:∀i o,OK i o->¬D6 o
 apart:∀p∈W₀.fz,p.1≠D
 item:∀i a W l hp M ow m s o (Q:Option R5->tm->Prop) (E:R5->tm->Prop),xs[i]? =some a->Inv G f W l hp M ow m s->W₀.le W->(D,o)∈W.fz->OK i o->Hy hp->
  (∀h' tk v o',yO D s.heap h'->h'.get? D=some o'->OK (i+1) o'->AK G.B (W.drop D) a v->Q (some v) ⟨h',s.gens,s.drawn,tk,s.os⟩)->wpAny (mo G) A (pyNext (.ref D)) Q E s
 fin:∀i W l hp M ow m s o (Q:Option R5->tm->Prop) (E:R5->tm->Prop),xs[i]? =none->Inv G f W l hp M ow m s->W₀.le W->(D,o)∈W.fz->OK i o->Hy hp->
  (∀h' tk,Heap.ExtBut D s.heap h'->Q none ⟨h',s.gens,s.drawn,tk,s.os⟩)->wpAny (mo G) A (pyNext (.ref D)) Q E s
 go:∀v i o (s:tm) (Q:Unit->tm->Prop) (E:R5->tm->Prop),s.heap.get? D=some o->OK i o->Q () s->wpAny (mo G) A (letOwnedTupleGo t (.ref D) v) Q E s
inductive VL(G:Gx)(f:Fx)(A:tx)(W:Wd)(t:Expr)(Pu:Prop)(r:Out (List AV))(it:R5)(s:tm):Prop
 |mk (xs:_) (σ:_) (W₀:_) (V:_) (M:_) (ow:_) (m:_) (D:_) (o:_) (OK:_) (Hy:_) (za:r= .ok xs σ) (zb:W.le W₀) (ze:W₀.le V) (zt:Inv G f V σ.loc σ.hp M ow m s) (h4_:it= .ref D) (h5_:(D,o)∈V.fz) (h6_:OK 0 o) (h7_:Hy σ.hp) (h8_:Jp G f A W₀ D xs OK Hy t) (h9_:(Pu∨∀h,Hy h))
def QN(G:Gx)(f:Fx)(A:tx)(X:XP)(t e:Expr)(Pu:Prop)(ev:St->Out (List AV)):Prop:=
 ∀W l hp M ow m s Z,ev ⟨l,hp⟩=Z->Inv G f W l hp M ow m s->Z≠ .bad->
  wpAny (mo G) A (eval e f.env) (fun x s₁=> wpAny (mo G) A (pyIter x) (fun it s₂=> VL G f A W t Pu Z it s₂) (A9 X W Z) s₁) (A9 X W Z) s
def VM{α:Type}(ev:St->Out α):Prop:=∀s a s',ev s= .ok a s'->s'.hp=s.hp
theorem QO{e:Expr}{env:Env}(h:Kf e=true)(x:R5):foldedSetIterable e env x=pure x:=by cases e<;>first |rfl |cases h
inductive VN(G:Gx)(f:Fx)(W₀:Wd)(D:Addr)(OK:Nat->Obj->Prop)(Hy:Hp->Prop)(xs:List AV)(ev:List AV->St->Out Flow)(Z:Out Flow)(n:Nat)(s:tm):Prop
 |mk (i:_) (V:_) (l:_) (hp:_) (M:_) (ow:_) (m:_) (o:_) (za:n=xs.length+1 - i) (zb:i<=xs.length) (ze:W₀.le V) (zt:Inv G f V l hp M ow m s) (h4_:(D,o)∈V.fz) (h5_:OK i o) (h6_:Hy hp) (h7_:ev (xs.drop i) ⟨l,hp⟩=Z)
theorem dec_lt{a j n:Nat}(hn:n=a+1 - j)(h:j<a):a+1 - (j+1)<n:=hn▸Nat.sub_succ_lt_self (a+1) j (vB h)
theorem VO{t e:Expr}{b:List Stmt}{pos:Pos}{Pu:Prop}{es:St->Out (List AV)}{ea:AV->St->Out Unit}{eb:St->Out Flow}(hX:Hr G f A X)(hn:Kf e=true)(hs:QN G f A X t e Pu es)(ha:G8 G f A X t ea)(hb:A6 G f A X (execs b f.env) eb)
 (ka:Pu->∀a,VM (ea a)) (kb:Pu->VM eb):
 A6 G f A X (exec (.For t e b [] pos) f.env) fun s=> (es s).bind fun xs s=> B1 ea eb xs s:=fun W l hp M ow m s Z eR I ne=> by
 refine wpAny_For (uG (hs W l hp M ow m s _ rfl I (CC (eR▸ne))) (fun x s₁ h=> uG h (fun it s₂ h=> ?_) fun _ _ e=> FD eR W.le_rfl e) fun _ _ e=> FD eR W.le_rfl e) (QO hn);clear I;obtain⟨xs,σ,W₀,V,M,ow,m,D,o,OK,Hy,h1,h2,h3,I,rfl,h5,h6,h7,St,hPu⟩:=h;replace eR:=(CD h1).symm.trans eR;refine yE (VN G f W₀ D OK Hy xs (B1 ea eb) Z) (fun n s hI=> ?_) (xs.length+1) ⟨0,V,_,_,M,ow,m,o,rfl,uO _,h3,I,h5,h6,h7,eR⟩;clear eR I h7 h6 h5 h3 h1;obtain⟨i,V,l,hp,M,ow,m,o,hn,hi,hV,I,hD,hO,hH,eR⟩:=hI;cases hx:xs[i]? with
 |none=> refine St.fin i V l hp M ow m s o _ _ hx I hV hD hO hH fun h' tk hs=> ?_;rw [wD (wc.mp hx)]at eR;exact vG ((I.QM (tk:=tk) hD (St.nd _ _ hO) hs).F eR (h2.trans (Wd.Il hV St.apart)) trivial)
 |some a=>
  refine St.item i a V l hp M ow m s o _ _ hx I hV hD hO hH fun h' tk v o' hs zT hO' hv=> ?_;have J:=I.VK (tk:=tk) hD (St.nd _ _ hO) hs zT;have hV':W₀.le ((V.drop D).CK [(D,o')]):=(Wd.Il hV St.apart).trans (Wd.Cr _ _);obtain⟨hil,e1⟩:=v8.mp hx;rw [v9 hil,e1]at eR;refine St.go v _ o' _ _ _ zT hO' (uG (iO eR (h2.trans hV') (fun q=> ha a v _ _ _ _ _ _ _ _ rfl J (hv.mono (Wd.Cr _ _)) q) ne fun σ V₁ L₁ ow₁ m₁ s₁ ho eR h1 yz I₁=> ?_) (fun _ _ x=> x) fun e s' he=> hX _ _ _ _ he);have H1:Hy σ.hp:=hPu.elim (fun p=> by rw [ka p a _ _ _ ho];exact hH) fun p=> p _;refine uG (iP eR h1 (fun q=> hb V₁ _ _ _ _ _ _ _ rfl I₁ q) ne fun c σ' V₂ L₂ ow₂ m₂ w s₂ ho₂ eR h3 h3' I₂ hw=> ?_) (fun _ _ x=> x) fun e s' he=> hX _ _ _ _ he;have H2:Hy σ'.hp:=hPu.elim (fun p=> by rw [kb p _ _ _ ho₂];exact H1) fun p=> p _;have ih:B1 ea eb (xs.drop (i+1)) σ'=Z->∃m,m<n/\VN G f W₀ D OK Hy xs (B1 ea eb) Z m s₂:=
   fun e=> ⟨xs.length+1 - (i+1),dec_lt hn hil,i+1,V₂,σ'.loc,σ'.hp,L₂,ow₂,m₂,o',rfl,hil,hV'.trans (yz.trans h3'),I₂,(yz.trans h3').fz _ (uK _ (.head _)),hO',H2,e⟩
  cases c<;>cases w<;>first |exact hw.elim |skip
  . exact ih eR
  . exact I₂.F eR h3 trivial
  . exact ih eR
  . exact I₂.F eR h3 hw
end
section
variable{G:Gx}{f:Fx}{A:tx}{X:XP}{P:Prog}
theorem LJ{t:Expr}(h:El t=true)(it v:R5):letOwnedTupleGo t it v=pure ():=by cases t<;>first |rfl |cases h
theorem Fm{o:Obj}{n:String}(h:o.cls= .type n)(h1:n≠"tuple")(h2:n≠"list")(h3:n≠"dict"):¬D6 o:=by
 intro d;rcases d with d |d |d |⟨c,d⟩<;>rw [h]at d
 . exact h1 (by injection d)
 . exact h2 (by injection d)
 . exact h3 (by injection d)
 . cases d
section
variable{W:Wd}{l:List (N×AV)}{hp:Hp}{M:Led}{ow:Addr->Nat}{m:tq->Option R5}{s:tm}
theorem Inv.QP(I:Inv G f W l hp M ow m s)(o:Obj)(hf:o.isFreed=false):
 Inv G f (W.CK [(s.heap.objs.size,o)]) l hp M ow m {s with heap:=s.heap.push o}/\(∀p∈W.fz,p.1≠s.heap.objs.size):=
 ⟨I.freeze (I.fr.push o) (News.push I.fr I.nw o hf) fun p hp=> uf (I.nw p hp).1,fun p hp=> uu (uf (I.nw p (uC _ hp)).1)⟩
theorem iQ{l₀:Addr}{xs:List AV}{W₀:Wd}{D:Addr}{Hy:Hp->Prop}{t:Expr}{d:Nat}(HA:Bx f d A)(ht:El t=true)(ap:∀p∈W₀.fz,p.1≠D)(hz:xs.length<=lim)
 (src:∀{W l hp M ow m s},Inv G f W l hp M ow m s->W₀.le W->Hy hp->∃vs k,s.heap.get? l₀=some (listOf vs.toArray k)/\AX G.B W xs vs):
 Jp G f A W₀ D xs (fun i o=> o.cls= .type "list_iterator"/\o.data= .fields #[.ref l₀,.int i 0]) Hy t:=by
 refine⟨fun i o h=> Fm h.1 (by decide) (by decide) (by decide),ap,fun i a W l hp M ow m s o Q E hx I hW hD hO hH h=> ?_,fun i W l hp M ow m s o Q E hx I hW hD hO hH h=> ?_,fun v i o s Q E ho hO h=> by rw [LJ ht];exact t4 h⟩
 . obtain⟨vs,k,h1,h2⟩:=src I hW hH;obtain⟨v,h3,h4⟩:=h2.get hx;have g:=(I.nw _ (uC _ hD)).1;refine wpAny_pyNext_list_item ⟨o,g,hO.1,hO.2⟩ (FE h1) (by simpa using h3) fun h' hi hs=> ?_;obtain⟨o',zT,c1,c2⟩:=hi;exact h h' _ v o' hs zT ⟨c1,c2⟩ (h4.conv (W:=W) (V:=W.drop D) rfl rfl (I.QK hD (Fm hO.1 (by decide) (by decide) (by decide))))
 . obtain⟨vs,k,h1,h2⟩:=src I hW hH;have g:=(I.nw _ (uC _ hD)).1;have hl:=h2.length;refine wpAny_pyNext_list_end HA.hd ⟨o,g,hO.1,hO.2⟩ (FE h1) ?_ fun h' hs=> h h' _ hs;rw [wc]at hx;simp;exact AU (uA (t7 hl.symm) hx)
theorem iR{l₀:Addr}{xs:List AV}{W₀:Wd}{D:Addr}{t:Expr}{d:Nat}(HA:Bx f d A)(ht:El t=true)(ap:∀p∈W₀.fz,p.1≠D)
 (src:∀{W l hp M ow m s},Inv G f W l hp M ow m s->W₀.le W->∃vs k,s.heap.get? l₀=some (G5 vs k)/\AX G.B W xs vs):
 Jp G f A W₀ D xs (fun i o=> o.cls= .type "tuple_iterator"/\o.data= .fields #[.ref l₀,.int i 0]) (fun _=> True) t:=by
 refine⟨fun i o h=> Fm h.1 (by decide) (by decide) (by decide),ap,fun i a W l hp M ow m s o Q E hx I hW hD hO hH h=> ?_,fun i W l hp M ow m s o Q E hx I hW hD hO hH h=> ?_,fun v i o s Q E ho hO h=> by rw [LJ ht];exact t4 h⟩
 . obtain⟨vs,k,h1,h2⟩:=src I hW;obtain⟨v,h3,h4⟩:=h2.get hx;have g:=(I.nw _ (uC _ hD)).1;refine wpAny_pyNext_tuple_item ⟨o,g,hO.1,hO.2⟩ (Fl h1) (by simpa using h3) fun h' hi hs=> ?_;obtain⟨o',zT,c1,c2⟩:=hi;exact h h' _ v o' hs zT ⟨c1,c2⟩ (h4.conv (W:=W) (V:=W.drop D) rfl rfl (I.QK hD (Fm hO.1 (by decide) (by decide) (by decide))))
 . obtain⟨vs,k,h1,h2⟩:=src I hW;have g:=(I.nw _ (uC _ hD)).1;have hl:=h2.length;refine wpAny_pyNext_tuple_end HA.hd ⟨o,g,hO.1,hO.2⟩ (Fl h1) ?_ fun h' hs=> h h' _ hs;rw [wc]at hx;simp;exact AU (uA (t7 hl.symm) hx)
end
theorem Inv.VP{W:Wd}{l:List (N×AV)}{hp:Hp}{M:Led}{ow:Addr->Nat}{m:tq->Option R5}{s:tm}{W₀:Wd}(I:Inv G f W l hp M ow m s)(O:AP G f)(h:W₀.le W){a:Addr}{o:Obj}(k:Kn G.B W₀ a o):s.heap.get? a=some o:=I.kn O (k.mono h)
theorem Inv.it{W:Wd}{l:List (N×AV)}{hp:Hp}{M:Led}{ow:Addr->Nat}{m:tq->Option R5}{s:tm}{U:Wd}{t:Expr}{Pu:Prop}{xs:List AV}{Z:Out (List AV)}{OK:Nat->Obj->Prop}{Hy:Hp->Prop}(I:Inv G f W l hp M ow m s)(o:Obj)(hf:o.isFreed=false)(eR:Out.ok xs ⟨l,hp⟩=Z)(hU:U.le W)(h0:OK 0 o)(hH:Hy hp)
 (St:(∀p∈W.fz,p.1≠s.heap.objs.size)->Jp G f A W s.heap.objs.size xs OK Hy t) (hPu:Pu∨∀h,Hy h):VL G f A U t Pu Z (.ref s.heap.objs.size) {s with heap:=s.heap.push o}:=
 ⟨xs,_,W,_,_,_,_,_,o,OK,Hy,eR.symm,hU,W.Cr _,(I.QP o hf).1,rfl,uK _ (.head _),h0,hH,St (I.QP o hf).2,hPu⟩
end
section
variable{G:Gx}{f:Fx}{A:tx}{X:XP}{P:Prog}
def QQ(x left step:Int):Obj:={cls:=.type "range_iterator",dict:=none,data:=.fields #[rawInt x,rawInt left,rawInt step],slots:=#[]}
theorem iS{a b c:Int}{i:Nat}{x:AV}(h:((Ek a b c).map AV.int)[i]? =some x):i<Ej a b c/\x= .int (a+(i:Int) * c):=by unfold Ek at h;refine cps fun yv yt=> ?_;rw [vO,wL]at h;obtain⟨k,h1,h2⟩:=uF.mp h;obtain⟨h3,h4⟩:=v8.mp h1;rw [List.getElem_range]at h4;subst h4;refine yt ?_;rw [List.length_range]at h3;exact⟨h3,h2.symm⟩
theorem iU{a b c:Int}{i:Nat}(h:((Ek a b c).map AV.int)[i]? =none):Ej a b c<=i:=by rw [wc]at h;simpa [Ek]using h
theorem iV{a b c:Int}{W₀:Wd}{D:Addr}{t:Expr}{d:Nat}(HA:Bx f d A)(ht:El t=true)(ap:∀p∈W₀.fz,p.1≠D):
 Jp G f A W₀ D ((Ek a b c).map .int) (fun i o=> o=QQ (a+(i:Int) * c) ((Ej a b c:Int) - i) c) (fun _=> True) t:=by
 refine⟨fun i o h=> h▸Fm (n:="range_iterator") rfl (by decide) (by decide) (by decide),ap,fun i a' W l hp M ow m s o Q E hx I hW hD hO hH h=> ?_,fun i W l hp M ow m s o Q E hx I hW hD hO hH h=> ?_,fun v i o s Q E ho hO h=> by rw [LJ ht];exact t4 h⟩
 . obtain⟨h1,rfl⟩:=iS hx;have g:=(I.nw _ (uC _ hD)).1;subst hO;refine wpAny_pyNext_range_item g (by lia) fun h' hi hs=> ?_;refine h h' _ _ _ hs hi ?_ ⟨_,rfl⟩;have e1:a+(i:Int) * c+c=a+((i+1:Nat):Int) * c:=by
    rw [Int.natCast_add,Int.add_mul];simp;exact Int.add_assoc ..
   have e2:(Ej a b c:Int) - i - 1=(Ej a b c:Int) - ((i+1:Nat):Int):=by lia
   rw [e1,e2];rfl
 . have h1:=iU hx;have g:=(I.nw _ (uC _ hD)).1;subst hO;exact wpAny_pyNext_range_end HA.hd g (by lia) fun h' hs=> h h' _ hs
theorem iW{x:List Nat}{tk₀:Tok}{W₀:Wd}{D:Addr}{t:Expr}{d:Nat}(HA:Bx f d A)(ht:El t=true)(ap:∀p∈W₀.fz,p.1≠D)(hx0:BN x):
 Jp G f A W₀ D (x.map fun c=>.str [c]) (fun i o=> o.cls= .type (strIterType (AJ x))/\o.data= .fields #[.str (AJ x) tk₀,.int i 0]) (fun _=> True) t:=by
 have one:∀{c:Nat},c∈x->BN [c]:=fun{c} hc=> ⟨by show 1<=lim;decide,fun y hy=> by
  rcases uI.mp hy with rfl |hy
  . exact hx0.2 _ hc
  . cases hy⟩
 have get:∀{i:Nat} {a:AV},(x.map fun c=> AV.str [c])[i]? =some a->∃c,(AJ x).cps[i]? =some c/\c∈x/\a= .str [c]:=fun{i a} h=> by rw [wL]at h;obtain⟨c,h1,h2⟩:=uF.mp h;exact⟨c,by simpa [AJ]using h1,vV h1,h2.symm⟩
 have non:∀{i:Nat},(x.map fun c=> AV.str [c])[i]? =none->(AJ x).cps[i]? =none:=fun{i} h=> by rw [wc]at h;simpa [AJ]using h
 refine⟨fun i o h=> ?_,ap,fun i a' W l hp M ow m s o Q E hx I hW hD hO hH h=> ?_,fun i W l hp M ow m s o Q E hx I hW hD hO hH h=> ?_,fun v i o s Q E ho hO h=> by rw [LJ ht];exact t4 h⟩
 . unfold strIterType at h;split at h
   . exact Fm h.1 (by decide) (by decide) (by decide)
   . exact Fm h.1 (by decide) (by decide) (by decide)
 . obtain⟨c,h1,h2,rfl⟩:=get hx;have g:=(I.nw _ (uC _ hD)).1;by_cases hw:(AJ x).cps.all (· <128)=true
   . have e:strIterType (AJ x)="str_ascii_iterator":=if_pos hw;rw [e]at hO h;refine wpAny_pyNext_ascii_item ⟨o,g,hO.1,hO.2⟩ h1 fun h' hi hs=> ?_;obtain⟨o',zT,c1,c2⟩:=hi;exact h h' _ _ o' hs zT ⟨c1,c2⟩ ⟨⟨_,rfl⟩,one h2⟩
   . have e:strIterType (AJ x)="str_iterator":=if_neg hw;rw [e]at hO h;refine wpAny_pyNext_wide_item ⟨o,g,hO.1,hO.2⟩ h1 fun h' hi hs=> ?_;obtain⟨o',zT,c1,c2⟩:=hi;exact h h' _ _ o' hs zT ⟨c1,c2⟩ ⟨⟨_,rfl⟩,one h2⟩
 . have h1:=non hx;have g:=(I.nw _ (uC _ hD)).1;by_cases hw:(AJ x).cps.all (· <128)=true
   . have e:strIterType (AJ x)="str_ascii_iterator":=if_pos hw;rw [e]at hO;exact wpAny_pyNext_ascii_end HA.hd ⟨o,g,hO.1,hO.2⟩ h1 fun h' hs=> h h' _ hs
   . have e:strIterType (AJ x)="str_iterator":=if_neg hw;rw [e]at hO;exact wpAny_pyNext_wide_end HA.hd ⟨o,g,hO.1,hO.2⟩ h1 fun h' hs=> h h' _ hs
end
section
variable{G:Gx}{f:Fx}{A:tx}{X:XP}{P:Prog}
theorem FJ{M:um}{A:tx}{E:R5->tm->Prop}{s:tm}{fv:R5}{ts:List (Sem R5)}{Q:Args->tm->Prop}(h:wpAny M A (spliced (FH ts)) (fun vs s'=> Q ⟨vs,[]⟩ s') E s):
 wpAny M A (evalArgs fv true (FH ts) []) Q E s:=by
 cases ts with
 |nil=> unfold evalArgs;show wpAny M A (spliced [] >>=_) Q E s;refine tu (uG h (fun vs s' h'=> tu (t4 ?_)) fun _ _ x=> x);refine uE ?_;exact tu (t4 (tu (t4 (t4 h'))))
 |cons t r=> exact evalArgs_plain h
theorem plain_any(ts:List (Sem R5)):(FH ts).any (·.1)=false:=by unfold FH;rw [List.any_map];exact List.any_eq_false.mpr fun x _=> by simp
theorem Jq{x:Int}(h: -8000000<=x/\x<=8000000):yV x=true:=by obtain⟨h1,h2⟩:=h;unfold yV;rw [wu,decide_eq_true_eq,decide_eq_true_eq];exact⟨ue (by decide) h1,Int.lt_of_le_of_lt h2 (by decide)⟩
theorem QR{x:Int}(h:B6 x=true): -1000000<=x/\x<=1000000:=by have h:(x.natAbs:Int)<=1000000:=vA.mpr (of_decide_eq_true h);exact⟨Int.neg_le_of_neg_le (ue (Int.natAbs_neg x▸Int.le_natAbs) h),ue Int.le_natAbs h⟩
theorem QS{x:Int}(h: -1000000<=x/\x<=1000000): -8000000<=x/\x<=8000000:=⟨ue (by decide) h.1,ue h.2 (by decide)⟩
theorem VQ{x y c:Int}(h1: -1000000<=x/\x<=1000000)(h2: -1000000<=y/\y<=1000000)(hc:0<c)(hl:x<y): -8000000<=(y - x - 1) / c+1/\(y - x - 1) / c+1<=8000000:=by have h0:0<=y - x - 1:=Int.sub_nonneg_of_le (Int.le_sub_left_of_add_le (Int.add_one_le_of_lt hl));have h3:=Int.ediv_le_self c h0;have h4:=Int.ediv_nonneg h0 (Int.le_of_lt hc);have h5:y - x - 1<=7999999:=ue (Int.sub_le_self _ (by decide)) (ue (Int.sub_le_sub h2.2 h1.1) (by decide));exact⟨ue (by decide) (wR h4 (xB 1)),wR (ue h3 h5) (xB 1)⟩
theorem iX{a b c:Int}(ha: -1000000<=a/\a<=1000000)(hb: -1000000<=b/\b<=1000000)(h0:c≠0): -8000000<=wC a b c/\wC a b c<=8000000:=by
 have z:(-8000000:Int)<=0/\(0:Int)<=8000000:=by decide
 unfold wC;by_cases hc:c>0
 . rw [if_pos hc];by_cases h:a<b
   . rw [if_pos h];exact VQ ha hb hc h
   . rw [if_neg h];exact z
 . rw [if_neg hc];by_cases h:a>b
   . rw [if_pos h];exact VQ hb ha (Int.neg_pos_of_neg (Int.lt_iff_le_and_ne.mpr ⟨vv.mp hc,h0⟩)) h
   . rw [if_neg h];exact z
theorem VR{b c d:Int}(hb: -1000000<=b/\b<=1000000)(hc: -1000000<=c/\c<=1000000)(hd: -1<=d/\d<=1): -8000000<=b+(c+d)/\b+(c+d)<=8000000:=
 ⟨ue (by decide) (wR hb.1 (wR hc.1 hd.1)),ue (wR hb.2 (wR hc.2 hd.2)) (by decide)⟩
theorem iY{a b c:Int}(ha:B6 a=true)(hb:B6 b=true)(hc:B6 c=true)(h0:c≠0):Builtin.Range.small a b c=true:=by
 have ha:=QR ha;have hb:=QR hb;have hc:=QR hc;unfold Builtin.Range.small;rw [Jq (QS ha),Jq (QS hb),Jq (QS hc),Jq (iX ha hb h0)];show(_||_)=true;rw [Bool.or_eq_true]
 right
 by_cases h:c>0
 . rw [if_pos h];exact Jq (VR hb hc (d:= -1) (by decide))
 . rw [if_neg h];exact Jq (VR hb hc (d:=1) (by decide))
theorem size_eq(a b c:Int):(Ej a b c:Int)=wC a b c:=by
 unfold Ej wC;have:0<=(if c>0 then(if a<b then(b - a - 1) / c+1 else 0)else(if a>b then(a - b - 1) / (-c)+1 else 0)):=by
  split
  . split
    . rename_i h1 h2;have h4:0<=(b - a - 1) / c:=Int.ediv_nonneg (by omega) (by omega);omega
    . omega
  . split
    . rename_i h1 h2;have h4:0<=(a - b - 1) / (-c):=Int.ediv_nonneg (by omega) (by omega);omega
    . omega
 exact yC this
end
section
variable{G:Gx}{f:Fx}{A:tx}{X:XP}{P:Prog}
structure Built(G:Gx)(f:Fx)(n:tq)(v:R5):Prop where
 no:nsIn G.K mainGlobals n=some none
 val:bootBuiltins n=some v
 ne:n≠"__name__"
 nd:(n==("__debug__":tq))=false
 glob:f.cs.names.lookup n=some .globalImplicit
section
variable{W:Wd}{l:List (N×AV)}{hp:Hp}{M:Led}{ow:Addr->Nat}{m:tq->Option R5}{s:tm}
def LK:List Int->List R5->Prop
 | [],[]=> True
 |i::r,v::vs=> (∃t,v= .int i t)/\LK r vs
 | [],_::_=> False
 |_::_,[]=> False
theorem VS{B:Heap}{W:Wd}:∀{as:List AV} {vs:List R5} {is:List Int},AX B W as vs->KV as=some is->LK is vs
 | [],[],_,_,e=> by cases e;trivial
 |a::as,v::vs,is,R,e=> by
  cases a<;>first |(cases e;done) |skip
  obtain⟨js,h1,rfl⟩:=uF.mp e;exact⟨R.1,VS R.2 h1⟩
 | [],_::_,_,R,_=> R.elim
 |_::_,[],_,R,_=> R.elim
theorem QT{α:Type}{c:Prop} [Decidable c]{a:Option α}{b:α}{G:Prop}(e:(if c then a else none)=some b)(k:c->a=some b->G):G:=by
 by_cases q:c
 . rw [if_pos q]at e;exact k q e
 . rw [if_neg q]at e;exact cNS e
inductive iZ(a:Int)(vs:List R5):Prop
 |mk (t:Tok) (h:vs=[.int a t])
theorem ints1{a:Int}{vs:List R5}(h:LK [a] vs):iZ a vs:=by
 cases vs with
 |nil=> exact h.elim
 |cons v vs=> cases vs with
  |nil=> exact h.1.elim fun t e=> ⟨t,by rw [e]⟩
  |cons _ _=> exact h.2.elim
inductive ia(a b:Int)(vs:List R5):Prop
 |mk (t t':Tok) (h:vs=[.int a t,.int b t'])
theorem ints2{a b:Int}{vs:List R5}(h:LK [a,b] vs):ia a b vs:=by
 cases vs with
 |nil=> exact h.elim
 |cons v vs=> exact match h.1,ints1 h.2 with
  |⟨t,e⟩,⟨t',e'⟩=> ⟨t,t',by rw [e,e']⟩
inductive ib(a b c:Int)(vs:List R5):Prop
 |mk (t t' zv:Tok) (h:vs=[.int a t,.int b t',.int c zv])
theorem ints3{a b c:Int}{vs:List R5}(h:LK [a,b,c] vs):ib a b c vs:=by
 cases vs with
 |nil=> exact h.elim
 |cons v vs=> exact match h.1,ints2 h.2 with
  |⟨t,e⟩,⟨t',zv,e'⟩=> ⟨t,t',zv,by rw [e,e']⟩
theorem ic(I:Inv G f W l hp M ow m s){as xs:List AV}{vs:List R5}(hv:AX G.B W as vs)(e:HV as=some xs){Q:R5->tm->Prop}{E:R5->tm->Prop}
 (h:∀D a b c h' tk t u v,xs=(Ek a b c).map .int->B6 a=true->B6 b=true->B6 c=true->c≠0->IsRange h' D a b c t u v->Fr f.g f.L h' m->News f.g f.L h' (M++W.fz)->Q (.ref D) ⟨h',s.gens,s.drawn,tk,s.os⟩):
 wpAny (mo G) A (call (.type "range") vs) Q E s:=by
 refine AY e fun is h1 e=> ?_;have hv:=VS hv h1;clear h1;cases is with
 |nil=> exact cNS e
 |cons a is=> cases is with
  |nil=> obtain⟨t,rfl⟩:=ints1 hv;refine QT (c:=B6 a=true) e fun q e=> ?_;cases e;exact range1_rows I.fr I.nw fun h' tk t₁ u₁ v₁ hr F' N' _=> h _ _ _ _ _ _ _ _ _ rfl (by decide) q (by decide) (by decide) hr F' N'
  |cons b is=> cases is with
   |nil=> obtain⟨t,t',rfl⟩:=ints2 hv;refine QT (c:=(B6 a&&B6 b)=true) e fun q e=> Aa q fun q1 q2=> ?_;cases e;exact range2_rows I.fr I.nw fun h' tk t₁ u₁ v₁ hr F' N' _=> h _ _ _ _ _ _ _ _ _ rfl q1 q2 (by decide) (by decide) hr F' N'
   |cons c is=> cases is with
    |nil=> obtain⟨t,t',zv,rfl⟩:=ints3 hv;refine QT (c:=(B6 a&&B6 b&&B6 c&&c !=0)=true) e fun q e=> Aa q fun q q4=> Aa q fun q q3=> Aa q fun q1 q2=> ?_;cases e;exact range3_rows I.fr I.nw (bne_iff_ne.mp q4) (fun h' tk t₁ u₁ v₁ hr F' N' _=> h _ _ _ _ _ _ _ _ _ rfl q1 q2 q3 (bne_iff_ne.mp q4) hr F' N') (.inl (Ug (of_decide_eq_true q3)))
    |cons _ _=> exact cNS e
end
theorem ie{t:Expr}{args:List Expr}{np pos:Pos}{d:Nat}{Pu:Prop}{ev:St->Out (List AV)}(O:AP G f)(HA:Bx f d A)(ht:El t=true)(hB:Built G f "range" (.type "range"))(hs:args.all noStar=true)(hl:Cs G f A X (evalEach args f.env) ev):
 QN G f A X t (.Call (.Name "range" np) args [] pos) Pu fun s=> (ev s).bind fun vs s=> AR (HV vs) fun xs=>.ok xs s:=fun W l hp M ow m s Z eR I ne=> by
 refine vZ (Ib I O hB.no hB.val hB.ne ?_ hB.glob hB.nd);rw [D8 _ _ _ hs];refine xo (plain_any _) (FJ ?_);refine Fh eR W.le_rfl (fun q=> hl W l hp M ow m s _ rfl I q) ne fun as σ V L ow m vs s' eR h1 h2 I hv ne=> ?_;obtain⟨xs,h3,eR⟩:=BK eR ne;refine ic I hv h3 fun D a b c h' tk t₁ u₁ v₁ hx qa qb qc q0 hr F' N'=> ?_;subst hx;have I':Inv G f V σ.loc σ.hp L ow m ⟨h',s'.gens,s'.drawn,tk,s'.os⟩:=⟨F',N',I.hi,I.lr,I.gn,I.os⟩;refine wpAny_pyIter_range hr (iY qa qb qc q0) (I'.it {cls:=Value.type "range_iterator",data:=Data.fields #[rawInt a,rawInt (wC a b c),rawInt c]} rfl eR h1 ?_ trivial (fun ap=> iV HA ht ap) (.inr fun _=> trivial));show _=QQ (a+((0:Nat):Int) * c) ((Ej a b c:Int) - ((0:Nat):Int)) c;rw [size_eq];simp [QQ]
end
section
variable{G:Gx}{f:Fx}{A:tx}{X:XP}{P:Prog}
theorem ig{t e:Expr}{d:Nat}{Pu:Prop}{ev:St->Out AV}(O:AP G f)(HA:Bx f d A)(ht:El t=true)(he:AW G f A X (eval e f.env) ev):
 QN G f A X t e Pu fun s=> (ev s).bind fun v s=> AR (Ow v) fun xs=>.ok xs s:=fun W l hp M ow m s Z eR I ne=> by
 refine Au eR W.le_rfl (fun q=> he W l hp M ow m s _ rfl I q) ne fun a σ V L ow m u s' eR h1 h2 I hu ne=> ?_;obtain⟨xs,h3,eR⟩:=BK eR ne;cases a<;>first |(cases h3;done) |skip
 . cases h3;obtain⟨⟨tk,rfl⟩,q3⟩:=hu;exact wpAny_pyIter_strU (I.it {cls:=.type (strIterType (AJ _)),data:=.fields #[.str (AJ _) tk,.int 0 0]} rfl eR h1 ⟨rfl,rfl⟩ trivial (fun ap=> iW HA ht ap q3) (.inr fun _=> trivial))
 . cases h3;obtain⟨⟨x,vs,k,rfl,q1,q2⟩,q3⟩:=hu;exact wpAny_pyIter_tuple (Fl (I.kn O q1)) (I.it {cls:=.type "tuple_iterator",data:=.fields #[.ref x,.int 0 0]} rfl eR h1 ⟨rfl,rfl⟩ trivial (fun ap=> iR HA ht ap fun{W l hp M ow m s} I hW=> ⟨vs,k,I.VP O hW q1,q2.mono hW⟩) (.inr fun _=> trivial))
 . cases h3;obtain⟨⟨x,vs,k,rfl,q1,q2⟩,q3⟩:=hu;exact wpAny_pyIter_list (FE (I.kn O q1)) (I.it {cls:=.type "list_iterator",data:=.fields #[.ref x,.int 0 0]} rfl eR h1 ⟨rfl,rfl⟩ (Hy:=fun _=> True) trivial (fun ap=> iQ HA ht ap q3 fun{W l hp M ow m s} I hW _=> ⟨vs,k,I.VP O hW q1,q2.mono hW⟩) (.inr fun _=> trivial))
end
section
variable{G:Gx}{f:Fx}{A:tx}{X:XP}{P:Prog}
section
variable{W:Wd}{l:List (N×AV)}{hp:Hp}{M:Led}{ow:Addr->Nat}{m:tq->Option R5}{s:tm}
inductive ij(hp:Hp)(a c:AV):Prop
 |str (x:List Nat) (h:a= .str x) (e:c= .int x.length)
 |tup (x:List AV) (h:a= .tup x) (e:c= .int x.length)
 |lst (x:List AV) (h:Ei hp a=some x) (e:c= .int x.length)
theorem ik{hp:Hp}{a c:AV}(e:lenOf hp a=some c):ij hp a c:=by
 cases a with
 |str x=> exact .str x rfl (uR e).symm
 |tup x=> exact .tup x rfl (uR e).symm
 |Ae x=> exact .lst x rfl (uR e).symm
 |ref i=> exact Jn e fun x h e=>.lst x h e.symm
 |_=> exact cNS e
theorem il(O:AP G f)(I:Inv G f W l hp M ow m s){a c:AV}{u:R5}(hu:AK G.B W a u)(e:lenOf hp a=some c){Q:R5->tm->Prop}{E:R5->tm->Prop}
 (h:∀r s',Inv G f W l hp M ow m s'->AK G.B W c r->Q r s'):wpAny (mo G) A (call (.builtin "len") [u]) Q E s:=by
 rcases ik e with⟨x,rfl,rfl⟩ |⟨x,rfl,rfl⟩ |⟨xs,e1,rfl⟩
 . obtain⟨⟨t,rfl⟩,hs⟩:=hu;exact PyProof.Rows.len_str (by rw [CL];have:=Ih hs.1;lia) (h _ _ (I.tok _) ⟨_,by rw [CL]⟩)
 . obtain⟨⟨x,vs,k,rfl,h1,h2⟩,h3⟩:=hu;have hl:=h2.length;exact PyProof.Rows.len_tuple (Fl (I.kn O h1)) (by simpa using Ih (hl▸h3)) (h _ _ (I.tok _) ⟨s.toks+1,by rw [hl];simp⟩)
 . obtain⟨x,vs,k,rfl,h1,h2,h3⟩:=I.GO O hu e1;have hl:=h2.length;exact call_len_list (FE h1) (by simpa using Ih (hl▸h3)) (h _ _ (I.tok _) ⟨s.toks+1,by rw [hl];simp⟩)
end
theorem ip{x:tq}{id:String}{b:BI}{args:List Expr}{np pos:Pos}{ev:St->Out (List AV)}(O:AP G f)(hB:Built G f x (.builtin id))(hs:args.all noStar=true)(hl:Cs G f A X (evalEach args f.env) ev)
 (op:∀{W l hp M ow m s a c u U Z},Inv G f W l hp M ow m s->AK G.B W a u->GC hp b [a]=some c->Out.ok c ⟨l,hp⟩=Z->U.le W->Dj G f A X U (call (.builtin id) [u]) Z s):
 AW G f A X (eval (.Call (.Name x np) args [] pos) f.env) fun s=> (ev s).bind fun vs s=> AR (GC s.hp b vs) fun v=>.ok v s:=fun W l hp M ow m s Z eR I ne=> by
 refine vZ (Ib I O hB.no hB.val hB.ne ?_ hB.glob hB.nd);rw [D8 _ _ _ hs];refine wx (plain_any _) (FJ (Fh eR W.le_rfl (fun q=> hl W l hp M ow m s _ rfl I q) ne fun as σ V L ow m vs s' eR h1 h2 I hv ne=> ?_));obtain⟨c,h3,eR⟩:=BK eR ne;refine AY h3 fun a h4 h5=> ?_;rw [Hm h4]at hv;obtain⟨u,rfl,hu⟩:=Ik hv;exact op I hu h5 eR h1
theorem iq{args:List Expr}{np pos:Pos}{ev:St->Out (List AV)}(O:AP G f)(hB:Built G f "len" (.builtin "len"))(hs:args.all noStar=true)(hl:Cs G f A X (evalEach args f.env) ev):
 AW G f A X (eval (.Call (.Name "len" np) args [] pos) f.env) fun s=> (ev s).bind fun vs s=> AR (GC s.hp .len vs) fun v=>.ok v s:=
 ip O hB hs hl fun I hu e eR hU=> il O I hu e fun r zH I' hr=> I'.V eR hU hr
end
section
variable{G:Gx}{f:Fx}{A:tx}{X:XP}{P:Prog}
def Dk(G:Gx)(f:Fx)(A:tx)(X:XP)(P:Prog)(cf:Nat->List AV->List (N×AV)->Hp->COut):Prop:=
 ∀a as vs ks kv W l hp M ow m s (R:Result->tm->Prop),Inv G f W l hp M ow m s->AX G.B W as vs->EA G.B W ks kv->cf a as ks hp≠ .bad->
  (∀v s',Jo G f W l m (cf a as ks hp) v s'->R (.ok (.ret v)) s')->(∀e s',A9 X W ((cf a as ks hp).bind l fun v s=> Out.ok v s) e s'->R (.error e) s')->codeAny (mo G) A (.call (.ref a) ⟨vs,kv⟩) R s
theorem Dk.call{cf:Nat->List AV->List (N×AV)->Hp->COut}(CO:Dk G f A X P cf){a:Nat}{as:List AV}{vs:List R5}{ks:List (N×AV)}{kv:List (tq×R5)}{W l hp M ow m s}(I:Inv G f W l hp M ow m s)(R:AX G.B W as vs)(K:EA G.B W ks kv)(ne:cf a as ks hp≠ .bad):
 wpAny (mo G) A (call (.ref a) vs kv) (fun v s'=> Jo G f W l m (cf a as ks hp) v s') (fun e s'=> A9 X W ((cf a as ks hp).bind l fun v s=> Out.ok v s) e s') s:=
 vi (CO a as vs ks kv W l hp M ow m s _ I R K ne (fun v s' h=> h) fun e s' h=> h)
theorem VT{r:COut}{l:List (N×AV)}{a:AV}{h:Hp}{β:Type}{k:AV->St->Out β}(e:r= .ok a h):r.bind l k=k a ⟨l,h⟩:=by rw [e];rfl
theorem Dk.V{cf:Nat->List AV->List (N×AV)->Hp->COut}(CO:Dk G f A X P cf){a:Nat}{as:List AV}{vs:List R5}{ks:List (N×AV)}{kv:List (tq×R5)}{U W l hp M ow m s}(I:Inv G f W l hp M ow m s)(R:AX G.B W as vs)(K:EA G.B W ks kv){Z:Out AV}
 (eR:((cf a as ks hp).bind l fun v s=> Out.ok v s)=Z) (hU:U.le W) (ne:Z≠ .bad):Dj G f A X U (PySem.call (.ref a) vs kv) Z s:=
 uG (CO.call I R K fun z=> ne (by rw [<-eR,z];rfl)) (fun v s' ⟨b,yu,W',M',zC,q1,q2,q3,q4⟩=> q3.V ((VT q1).symm.trans eR) (hU.trans q2) q4) fun e s' h=> eR▸h.le hU
theorem VU{n:N}{e:Expr}{p pos:Pos}{ev:St->Out AV}{U W:Wd}{β:Type}{k:AV->St->Out β}{Z:Out β}(h:AW G f A X (eval e f.env) ev){l hp M ow m s}(eR:(ev ⟨l,hp⟩).bind k=Z)(hU:U.le W)(I:Inv G f W l hp M ow m s)(ne:Z≠ .bad){C:List R5->tm->Prop}
 (next:∀a σ V L ow m v s',k a σ=Z->U.le V->W.le V->Inv G f V σ.loc σ.hp L ow m s'->AK G.B V a v->Z≠ .bad->C [v] s'):
 wpAny (mo G) A (evalAll ((backToKw pos (keywordEach [⟨some (nm n),e,p⟩] f.env)).map (·.2))) C (A9 X U Z) s:=
 kwAll_cons (Au eR hU (fun q=> h W l hp M ow m s _ rfl I q) ne fun a σ V L ow m v s' eR h1 h2 I hv ne=> kwAll_nil (next a σ V L ow m v s' eR h1 h2 I hv ne))
theorem VV{M:um}{A:tx}{E:R5->tm->Prop}{s:tm}{fv:R5}{ts:List (Sem R5)}{zX:List (Option tq×Sem R5)}(hall:zX.all (·.1.isSome)=true){Q:Args->tm->Prop}
 (h:wpAny M A (spliced (FH ts)) (fun vs s₁=> wpAny M A (evalAll (zX.map (·.2))) (fun ks s₂=> Q ⟨vs,(zX.filterMap (·.1)).zip ks⟩ s₂) E s₁) E s):wpAny M A (evalArgs fv true (FH ts) zX) Q E s:=by
 cases ts with
 |nil=> unfold evalArgs;show wpAny M A (spliced [] >>=_) Q E s;refine tu (uG h (fun vs s' h'=> tu (t4 ?_)) fun _ _ x=> x);refine uE ?_;simp only [hall,if_true];exact tu (uG h' (fun ks s₂ h₂=> tu (t4 (t4 h₂))) fun _ _ x=> x)
 |cons t r=> exact evalArgs_kw hall h
def QU(G:Gx)(f:Fx)(A:tx):Prop:=∀x a mn c u w W l hp M ow m s (Q:R5->tm->Prop) (E:R5->tm->Prop),Inv G f W l hp M ow m s->AK G.B W (.str x) u->AK G.B W a w->Sr hp x mn a=some c->
 (∀V r s',W.le V->Inv G f V l hp M ow m s'->AK G.B V c r->Q r s')->∃id,Ho mn=some id/\wpAny (mo G) A (call (.builtin id) [u,w]) Q E s
theorem LL{ts:List (Sem R5)}{zX:List (Option tq×Sem R5)}{n:Nat}(hk:zX.all (·.1.isSome)=true)(h:n<29):methodCallForm n (FH ts) zX=true:=by
 unfold methodCallForm FH;rw [hk];have h1:n+(if zX.isEmpty=true then 0 else 1)<30:=by split<;>exact A7 h
 rw [decide_eq_true h1];simp
theorem LM{o:Expr}{env:Env}{apos pos:Pos}(h:(apos.endLine==pos.line)=true):methodCallPos true o env apos pos=pure pos:=by unfold methodCallPos;simp [h]
theorem G9{m x:N}{r:List N}(h:(x::r).contains m=true):m=x∨r.contains m=true:=by rw [wK]at h;exact(wH.mp h).imp (eq_of_beq) id
theorem ir{m:N}(h:HX m=true):∃id,Ij m=some id:=by
 rcases G9 h with rfl |h
 . exact⟨_,rfl⟩
 rcases G9 h with rfl |h
 . exact⟨_,rfl⟩
 rcases G9 h with rfl |h
 . exact⟨_,rfl⟩
 rcases G9 h with rfl |h
 . exact⟨_,rfl⟩
 cases h
theorem iu{m:N}(h:Ov m=true):∃id,Ho m=some id:=by
 rcases G9 h with rfl |h
 . exact⟨_,rfl⟩
 rcases G9 h with rfl |h
 . exact⟨_,rfl⟩
 rcases G9 h with rfl |h
 . exact⟨_,rfl⟩
 rcases G9 h with rfl |h
 . exact⟨_,rfl⟩
 rcases G9 h with rfl |h
 . exact⟨_,rfl⟩
 cases h
theorem VW{m:N}{c:Nat}{fs:List (N×AV)}{k:Option Nat}(h:Ka P m c fs=some k):look m fs=none/\∃cl fa,P.cls c=some cl/\look m cl.attrs=some (.Aj fa)/\k=some fa:=by
 unfold Ka at h;cases h1:look m fs with
 |some _=> rw [h1]at h;cases h
 |none=>
  rw [h1]at h;cases h2:(P.cls c).bind fun cl=> look m cl.attrs with
  |none=> rw [h2]at h;cases h
  |some a=>
   rw [h2]at h;cases a with
   |val _=> cases h
   |Aj fa=> cases h;refine AY h2 fun cl h3 h4=> ?_;exact⟨rfl,cl,fa,h3,h4,rfl⟩
section
variable{cf:Nat->List AV->List (N×AV)->Hp->COut}{o:Expr}{a:N}{apos pos kp:Pos}{args:List Expr}{zF:St->Out (List AV)}{U W:Wd}{l:List (N×AV)}{hp:Hp}{M:Led}{ow:Addr->Nat}{m:tq->Option R5}{s:tm}{Z:Out AV}{u:R5}
abbrev Js(o:Expr)(a:N)(apos pos:Pos)(f:Fx)(u:R5)(args:List Expr):Sem R5:=methodCall o (nm a) apos pos f.env u args.length (FH (evalEach args f.env)) []
theorem iw(C:Ck G P)(O:AP G f)(CO:Dk G f A X P cf)(hl:(apos.endLine==pos.line)=true)(zU:args.length<28)(ha:Cs G f A X (evalEach args f.env) zF)(I:Inv G f W l hp M ow m s){r c:Nat}{fs:List (N×AV)}{k:Option Nat}(hf:hp.f r= .ins c fs)(hk:Ka P a c fs=some k)
 (hu:AK G.B W (.ref r) u) (hU:U.le W) (eR:((zF ⟨l,hp⟩).bind fun vs s=> (Gq cf k (.ref r) a vs s.hp).bind s.loc fun v s=>.ok v s)=Z) (ne:Z≠ .bad):Dj G f A X U (Js o a apos pos f u args) Z s:=by
 refine cps fun yv yt=> ?_;obtain⟨rfl,hi⟩:=I.lt hu;obtain⟨ABO,cl,fa,hc,hca,rfl⟩:=VW hk;obtain⟨dx,es,n,H,_,_,_,F⟩:=I.LB hi hf;obtain⟨g1,g2,g3⟩:=C.Aj c cl a fa hc hca;refine yt ?_;unfold Js methodCall;rw [LL rfl (vB zU),LM hl];refine tu (uE (method_inst I.fr O.X H (C.get c cl hc (C.inst hc hca)) g1 g2 (F.miss ABO) (tu (t4 ?_))));refine wX (P:=G.K.In) (by rw [plain_any];rfl) (keeps_K g3) (FJ ?_);exact Fh eR hU (fun q=> ha W _ _ _ _ _ _ _ rfl I q) ne fun as σ' V' L ow m vs s' eR h1 yz I hv ne=> ⟨I.X O,CO.V (as:=.ref r::as) (vs:=.ref (W.r r)::vs) (ks:=[]) (kv:=[]) I ⟨hu.mono yz,hv⟩ trivial eR h1 ne⟩
theorem ix(O:AP G f)(hl:(apos.endLine==pos.line)=true)(zU:args.length<28)(ha:Cs G f A X (evalEach args f.env) zF)(I:Inv G f W l hp M ow m s){r:Nat}{xs:List AV}(hf:hp.f r= .lst xs)(hm:HX a=true)
 (hu:AK G.B W (.ref r) u) (hU:U.le W) (eR:((zF ⟨l,hp⟩).bind fun vs s=> (Gq cf none (.ref r) a vs s.hp).bind s.loc fun v s=>.ok v s)=Z) (ne:Z≠ .bad):Dj G f A X U (Js o a apos pos f u args) Z s:=by
 refine cps fun yv yt=> ?_;obtain⟨rfl,hi⟩:=I.lt hu;obtain⟨id,hid⟩:=ir hm;have mf:=gS hid;obtain⟨ws,k,g1,g2,g3,g4⟩:=I.LC hi hf;refine yt ?_;have gl:=I.mem g1;unfold Js methodCall;rw [LL rfl (vB zU),LM hl];refine tu (uE (getMethod_builtin ⟨_,gl,rfl⟩ mf.pa mf.slot mf.ty (fun b e=> by cases e;exact⟨_,gl,rfl⟩) (tu (t4 ?_))));refine wx (plain_any _) (FJ (Fh eR hU (fun q=> ha W _ _ _ _ _ _ _ rfl I q) ne fun as σ' V' L ow m vs s' eR h1 yz I hv ne=> ?_));unfold Gq at eR;cases hbm:Bv σ'.hp (.ref r) a as with
 |none=> rw [hbm]at eR;exact absurd eR.symm ne
 |some cp=> refine cps fun zI yy=> ?_;rw [hbm]at eR;refine AY hbm fun ys q0 q=> ?_;obtain⟨⟨c',zs⟩,q1,rfl⟩:=uF.mp q;obtain⟨id',q3,q4⟩:=gi (A:=A) (E:=A9 X U Z) (Q:=Ff G f U Z) O I (hu.mono yz) (M7 q0) hv q1 fun M' rr zH I' hr=> I'.V eR h1 hr;refine yy ?_;rw [hid]at q3;cases q3;exact q4
theorem iy(SM:QU G f A)(hl:(apos.endLine==pos.line)=true)(zU:args.length<28)(ha:Cs G f A X (evalEach args f.env) zF)(I:Inv G f W l hp M ow m s){x:List Nat}(hm:Ov a=true)
 (hu:AK G.B W (.str x) u) (hU:U.le W) (eR:((zF ⟨l,hp⟩).bind fun vs s=> (Gq cf none (.str x) a vs s.hp).bind s.loc fun v s=>.ok v s)=Z) (ne:Z≠ .bad):Dj G f A X U (Js o a apos pos f u args) Z s:=by
 refine cps fun yv yt=> ?_;obtain⟨id,hid⟩:=iu hm;have mf:=gT hid;have hu0:=hu;obtain⟨⟨t,rfl⟩,hsx⟩:=hu;refine yt ?_;unfold Js methodCall;rw [LL rfl (vB zU),LM hl];refine tu (uE (getMethod_builtin (vR _ _ t) mf.pa mf.slot mf.ty (fun b e=> by cases e) (tu (t4 ?_))));refine wx (plain_any _) (FJ (Fh eR hU (fun q=> ha W _ _ _ _ _ _ _ rfl I q) ne fun as σ' V' L ow m vs s' eR h1 yz I hv ne=> ?_));unfold Gq at eR;cases hbm:Bv σ'.hp (.str x) a as with
 |none=> rw [hbm]at eR;exact absurd eR.symm ne
 |some cp=> refine cps fun zI yy=> ?_;rw [hbm]at eR;refine AY hbm fun v q0 q=> ?_;obtain⟨c,q1,rfl⟩:=uF.mp q;rw [Hm q0]at hv;obtain⟨w,rfl,hw⟩:=Ik hv;obtain⟨id',q3,q4⟩:=SM x v a c _ w V' σ'.loc σ'.hp L ow m s' (Ff G f U Z) (A9 X U Z) I (hu0.mono yz) hw q1 fun V'' rr zH hV I' hr=> I'.V eR (h1.trans hV) hr;refine yy ?_;rw [hid]at q3;cases q3;exact q4
end
theorem iz{cf:Nat->List AV->List (N×AV)->Hp->COut}(C:Ck G P)(O:AP G f)(CO:Dk G f A X P cf)(SM:QU G f A){o:Expr}{a:N}{apos pos:Pos}{args:List Expr}{ev:St->Out AV}{zF:St->Out (List AV)}
 (hn:(match o with | .Call (.Name _ _) [] [] _=> false |_=> true)=true) (hl:(apos.endLine==pos.line)=true) (hs:args.all noStar=true) (zU:args.length<28) (he:AW G f A X (eval o f.env) ev) (ha:Cs G f A X (evalEach args f.env) zF):
 AW G f A X (eval (.Call (.Attribute o (nm a) apos) args [] pos) f.env) fun s=> (ev s).bind fun o s=> AR (GG P s.hp o a) fun k=> (zF s).bind fun vs s=> (Gq cf k o a vs s.hp).bind s.loc fun v s=>.ok v s:=fun W l hp M ow m s Z eR I ne=> by
 rw [arm_eval_Call,D8 _ _ _ hs];refine tu (M9 hn (Au eR W.le_rfl (fun q=> he W l hp M ow m s _ rfl I q) ne fun ov σ V L ow m u s' eR h1 h2 I hu ne=> ?_));obtain⟨k,h3,eR⟩:=BK eR ne;refine tu (uU ?_);have no:∀{b:Bool},(if b=true then some none else none)=some k->k=none/\b=true:=fun{b} h=> by cases(b)<;>cases(h);exact⟨rfl,rfl⟩
 cases(ov)<;>first |(cases(h3);done) |skip
 . obtain⟨h4,h5⟩:=no h3;subst h4;exact iy SM hl zU ha I h5 hu h1 eR ne
 . change MF P a (σ.hp.f _)=some k at h3;generalize hq:σ.hp.f _=ob at h3;cases(ob)<;>first |(cases(h3);done) |skip
   . obtain⟨h4,h5⟩:=no h3;subst h4;exact ix O hl zU ha I hq h5 hu h1 eR ne
   . exact iw C O CO hl zU ha I hq h3 hu h1 eR ne
theorem i0{h:Hp}{o:AV}{a:N}{fa:Nat}(e:MG P h o a=some fa):∃r c fs,o= .ref r/\h.f r= .ins c fs/\Ka P a c fs=some (some fa):=by
 refine AY e fun k e e1=> ?_;cases(e1);have no:∀{b:Bool},(if b=true then some none else none)=some (some fa)->False:=fun{b} h=> by cases(b)<;>cases(h)
 cases(o)<;>first |(cases(e);done) |skip
 . exact(no e).elim
 . change MF P a (h.f _)=_ at e;generalize hq:h.f _=ob at e;cases(ob)<;>first |(cases(e);done) |skip
   . exact(no e).elim
   . exact⟨_,_,_,rfl,hq,e⟩
theorem i3{cf:Nat->List AV->List (N×AV)->Hp->COut}(C:Ck G P)(O:AP G f)(CO:Dk G f A X P cf){o e:Expr}{a n:N}{apos pos kp:Pos}{args:List Expr}{ev ek:St->Out AV}{zF:St->Out (List AV)}
 (hn:(match o with | .Call (.Name _ _) [] [] _=> false |_=> true)=true) (hl:(apos.endLine==pos.line)=true) (hs:args.all noStar=true) (zU:args.length<28) (he:AW G f A X (eval o f.env) ev) (ha:Cs G f A X (evalEach args f.env) zF) (hk:AW G f A X (eval e f.env) ek):
 AW G f A X (eval (.Call (.Attribute o (nm a) apos) args [⟨some (nm n),e,kp⟩] pos) f.env) fun s=> (ev s).bind fun o s=> AR (MG P s.hp o a) fun k=> (zF s).bind fun vs s=> (ek s).bind fun kv s=> (cf k (o::vs) [(n,kv)] s.hp).bind s.loc fun v s=>.ok v s:=fun W l hp M ow m s Z eR I ne=> by
 rw [arm_eval_Call,D8 _ _ _ hs];refine tu (M9 hn (Au eR W.le_rfl (fun q=> he W l hp M ow m s _ rfl I q) ne fun ov σ V L ow m u s' eR h1 h2 I hu ne=> ?_));refine cps fun yv yt=> ?_;obtain⟨fa,h3,eR⟩:=BK eR ne;refine yt ?_;refine tu (uU ?_);unfold methodCall;rw [LL (n:=args.length+[Keyword.mk (some (nm n)) e kp].length) rfl (Nat.succ_lt_succ zU),LM hl];refine cps fun zI yy=> ?_;obtain⟨r,c,fs,rfl,hf,hm⟩:=i0 h3;obtain⟨rfl,hi⟩:=I.lt hu;obtain⟨ABO,cl,fa,hc,hca,e0⟩:=VW hm;refine yy ?_;cases e0;refine cps fun zu zL=> ?_;obtain⟨dx,es,n',H,_,_,_,F⟩:=I.LB hi hf;obtain⟨g1,g2,g3⟩:=C.Aj c cl a fa hc hca;refine zL ?_;refine tu (uE (method_inst I.fr O.X H (C.get c cl hc (C.inst hc hca)) g1 g2 (F.miss ABO) (tu (t4 ?_))));refine wX (P:=G.K.In) (by rw [plain_any];rfl) (keeps_K g3) (VV rfl ?_);exact Fh eR h1 (fun q=> ha V _ _ L ow m s' _ rfl I q) ne fun as σ' V' L ow m vs s' eR h1 yz I hv ne=>
  VU hk eR h1 I ne fun kvv σ'' V'' L ow m w s' eR h1 zj I hw ne=> ⟨I.X O,CO.V (as:=.ref r::as) (vs:=.ref (V.r r)::vs) (ks:=[(n,kvv)]) (kv:=[(nm n,w)]) I ⟨hu.mono (yz.trans zj),hv.mono zj⟩ ⟨rfl,hw,trivial⟩ eR h1 ne⟩
end
theorem Im(c:List Nat):∀s:List Nat,Cd c s=s.drop (s.takeWhile c.contains).length
 | []=> rfl
 |a::r=> by
  rw [Se];by_cases h:c.contains a=true
  . rw [if_pos h,List.takeWhile_cons,if_pos h,uh,List.drop_succ_cons,Im c r]
  . rw [if_neg h,List.takeWhile_cons,if_neg h];rfl
theorem QV(c:List Nat):(fun a=> (AJ c).cps.contains a)=fun a=> c.contains a:=by
 funext a;simp [AJ]
theorem QW(x:List Nat)(i j:Nat):Builtin.Str.strSub (AJ x) i j=AJ ((x.drop i).take (j - i)):=by unfold Builtin.Str.strSub AJ;simp
theorem QX(c y:List Nat):E6 c y=y.take (y.length - (y.reverse.takeWhile c.contains).length):=by unfold E6;rw [Im,List.reverse_drop,List.reverse_reverse,wi]
theorem i4(x c:List Nat):Txt.lstripChars (AJ x) (AJ c)=AJ (Cd c x):=by
 unfold Txt.lstripChars;rw [xq,QW];unfold stripLo stripHi;simp only [if_true,ux,if_false,CL];have e:(AJ x).cps.toList=x:=by simp [AJ]
 rw [e,show((AJ c).cps.contains:Nat->Bool)=c.contains from QV c,<-Im,wF];rw [Im];simp
theorem i5(x c:List Nat):Txt.rstripChars (AJ x) (AJ c)=AJ (E6 c x):=by
 unfold Txt.rstripChars;rw [xq,QW];unfold stripLo stripHi;simp only [if_true,ux,if_false,CL,w6,Nat.sub_zero];have e:(AJ x).cps.toList=x:=by simp [AJ]
 rw [e,show((AJ c).cps.contains:Nat->Bool)=c.contains from QV c,QX]
theorem i6(x c:List Nat):Txt.stripChars (AJ x) (AJ c)=AJ (E6 c (Cd c x)):=by
 unfold Txt.stripChars;rw [xq,QW];unfold stripLo stripHi;simp only [if_true,CL];have e:(AJ x).cps.toList=x:=by simp [AJ]
 rw [e,show((AJ c).cps.contains:Nat->Bool)=c.contains from QV c,<-Im,QX];congr 2;rw [Im,wM];lia
section
variable{G:Gx}{f:Fx}{A:tx}{X:XP}{P:Prog}
theorem BN.VX{a b:List Nat}(h:BN b)(l:a.length<=b.length)(m:∀c∈a,c∈b):BN a:=⟨t5 l h.1,fun c hc=> h.2 c (m c hc)⟩
theorem BN.Cd{s:List Nat}(h:BN s)(c:List Nat):BN (Internal.Cd c s):=by rw [Im];exact h.VX (by simp) fun a ha=> wG ha
theorem BN.E6{s:List Nat}(h:BN s)(c:List Nat):BN (Internal.E6 c s):=by rw [QX];exact h.VX (by simp) fun a ha=> x8 ha
section
variable{W:Wd}{l:List (N×AV)}{hp:Hp}{M:Led}{ow:Addr->Nat}{m:tq->Option R5}{s:tm}{Q:R5->tm->Prop}{E:R5->tm->Prop}{x c:List Nat}{t t':Tok}
theorem i7(I:Inv G f W l hp M ow m s)(hx:BN x)(h:∀r s',Inv G f W l hp M ow m s'->AK G.B W (.str (Cd c x)) r->Q r s'):wpAny (mo G) A (call (.builtin "str.lstrip") [.str (AJ x) t,.str (AJ c) t']) Q E s:=
 SC.lstripChars (fun zv k=> h _ _ (I.tok k) ⟨⟨zv,by rw [i4]⟩,hx.Cd c⟩) (by rw [CL];exact CF hx.1)
theorem i8(I:Inv G f W l hp M ow m s)(hx:BN x)(h:∀r s',Inv G f W l hp M ow m s'->AK G.B W (.str (E6 c x)) r->Q r s'):wpAny (mo G) A (call (.builtin "str.rstrip") [.str (AJ x) t,.str (AJ c) t']) Q E s:=
 SC.rstripChars (fun zv k=> h _ _ (I.tok k) ⟨⟨zv,by rw [i5]⟩,hx.E6 c⟩) (by rw [CL];exact CF hx.1)
theorem i9(I:Inv G f W l hp M ow m s)(hx:BN x)(h:∀r s',Inv G f W l hp M ow m s'->AK G.B W (.str (E6 c (Cd c x))) r->Q r s'):wpAny (mo G) A (call (.builtin "str.strip") [.str (AJ x) t,.str (AJ c) t']) Q E s:=
 SC.stripChars (fun zv k=> h _ _ (I.tok k) ⟨⟨zv,by rw [i6]⟩,(hx.Cd c).E6 c⟩) (by rw [CL];exact CF hx.1)
end
end
section
variable{G:Gx}{f:Fx}{A:tx}{X:XP}{P:Prog}
theorem QY(s:List Nat):∀l:List (List Nat),PySem.Str.join (AJ s) (l.map AJ)=AJ (BJ s l)
 | []=> rfl
 | [x]=> rfl
 |x::y::r=> by have ih:=QY s (y::r);show AJ x++AJ s++PySem.Str.join (AJ s) ((y::r).map AJ)=AJ (x++s++BJ s (y::r));rw [ih,ND,ND]
theorem Jt(s:List Nat):∀l:List (List Nat),(BJ s l).length<=(l.map uY).sum+l.length * s.length
 | []=> uO _
 | [x]=> t5 (ur ..) (ur ..)
 |x::y::r=> by
  have ih:=Jt s (y::r);show(x++s++BJ s (y::r)).length<=_;have e:((x::y::r).length) * s.length=(y::r).length * s.length+s.length:=by rw [uh,Nat.add_mul,Nat.one_mul]
  rw [e,t9,t9,ud,List.sum_cons];exact AU ih
theorem VY{s:List Nat}{c:Nat}:∀{l:List (List Nat)},c∈BJ s l->c∈s∨∃w∈l,c∈w
 | []=>@fun h=> by cases h
 | [x]=>@fun h=>.inr ⟨x,.head _,h⟩
 |x::y::r=>@fun h=> by
  have h:c∈x++s++BJ s (y::r):=h;rcases uN.mp h with h |h
  . rcases uN.mp h with h |h
    . exact .inr ⟨x,.head _,h⟩
    . exact .inl h
  . rcases VY h with h |⟨w,h1,h2⟩
    . exact .inl h
    . exact .inr ⟨w,.tail _ h1,h2⟩
theorem VZ{B:Heap}{W:Wd}:∀{ys:List AV} {vs:List R5} {l:List (List Nat)},AX B W ys vs->strs? ys=some l->∀w∈l,BN w
 | [],[],l,_,e=> by cases e;intro w h;cases h
 | .str s::r,v::vs,l,R,e=> by
   obtain⟨t,h1,rfl⟩:=uF.mp (show(strs? r).map (s::·)=some l from e);intro w hw;rcases uI.mp hw with rfl |hw
   . exact R.1.2
   . exact VZ R.2 h1 w hw
 | [],_::_,_,R,_=> R.elim
 | .str _::_,[],_,R,_=> R.elim
theorem jA{s:List Nat}{l:List (List Nat)}(hs:BN s)(h:∀w∈l,BN w)(z:s.length<=16/\(l.map uY).sum+l.length<=60000):BN (BJ s l):=by
 refine⟨?_,fun c hc=> ?_⟩
 . have h1:=Jt s l;have h2:l.length * s.length<=l.length * 16:=wj _ z.1;show _<=1000000;lia
 . rcases VY hc with h1 |⟨w,h1,h2⟩
   . exact hs.2 c h1
   . exact(h w h1).2 c h2
theorem map_len(l:List (List Nat)):((l.map AJ).map (·.length))=l.map uY:=by rw [vO];exact vW fun a _=> CL a
section
variable{W:Wd}{l:List (N×AV)}{hp:Hp}{M:Led}{ow:Addr->Nat}{m:tq->Option R5}{s:tm}{Q:R5->tm->Prop}{E:R5->tm->Prop}
theorem jB(O:AP G f)(I:Inv G f W l hp M ow m s){x:List Nat}{a:AV}{xs:List AV}{ss:List (List Nat)}{t:Tok}{u:R5}(hx:BN x)(hu:AK G.B W a u)(e1:items hp a=some xs)(e2:strs? xs=some ss)(z:x.length<=16/\(ss.map uY).sum+ss.length<=60000)
 (h:∀r s',Inv G f W l hp M ow m s'->AK G.B W (.str (BJ x ss)) r->Q r s'):wpAny (mo G) A (call (.builtin "str.join") [.str (AJ x) t,u]) Q E s:=by
 have fin:∀{vs:List R5},AX G.B W xs vs->∀t' k,Q (.str (Txt.join (AJ x) (ss.map AJ)) t') {s with toks:=k}:=fun{vs} R t' k=>
  h _ _ (I.tok k) ⟨⟨t',by rw [show Txt.join (AJ x) (ss.map AJ)=PySem.Str.join (AJ x) (ss.map AJ)from StrLaws.glued_eq_join _ _,QY]⟩,jA hx (VZ R e2) z⟩
 have hw:(((ss.map AJ).map (·.length)).sum+(ss.map AJ).length)<=1048576:=by rw [map_len,uL];exact AU z.2
 rcases GN e1 with e1 |e1
 . rw [Ie e1]at hu;obtain⟨⟨y,vs,k,rfl,h1,h2⟩,h3⟩:=hu;exact join_tupleW (Fl (I.kn O h1)) (by simpa using NB h2 e2) (by rw [CL];exact z.1) hw (fin h2)
 . obtain⟨y,vs,k,rfl,h1,h2,h3⟩:=I.GO O hu e1;exact join_listW (FE h1) (by simpa using NB h2 e2) (by rw [CL];exact z.1) hw (fin h2)
end
end
section
variable{G:Gx}{f:Fx}{A:tx}{X:XP}{P:Prog}
theorem Va{c:Nat}:∀{p q R S:List Nat},c∉p->c∉q->p++c::R=q++c::S->p=q/\R=S
 | [],[],R,S,_,_,h=> ⟨rfl,by simpa using h⟩
 | [],b::q,R,S,_,h2,h=> by simp only [wN,vr,xa]at h;exact absurd (h.1▸List.mem_cons_self) h2
 |a::p,[],R,S,h1,_,h=> by simp only [wN,vr,xa]at h;exact absurd (h.1▸List.mem_cons_self) h1
 |a::p,b::q,R,S,h1,h2,h=> by simp only [vr,xa]at h;obtain(⟨e,h⟩):=h;obtain(⟨e1,e2⟩):=Va (fun z=> h1 (.tail _ z)) (fun z=> h2 (.tail _ z)) h;exact⟨by rw [e,e1],e2⟩
theorem Vb{c:Nat}:∀{P Q:List (List Nat)},P≠[]->Q≠[]->(∀p∈P,c∉p)->(∀q∈Q,c∉q)->BJ [c] P=BJ [c] Q->P=Q
 | [],_,h,_,_,_,_=> absurd rfl h
 |_,[],_,h,_,_,_=> absurd rfl h
 | [p],[q],_,_,_,_,h=> by rw [show p=q from h]
 | [p],q::q'::r,_,_,h1,_,h=> by have h:p=q++[c]++BJ [c] (q'::r):=h;exact absurd (by rw [h];simp) (h1 p (.head _))
 |p::p'::r,[q],_,_,_,h2,h=> by have h:p++[c]++BJ [c] (p'::r)=q:=h;exact absurd (by rw [<-h];simp) (h2 q (.head _))
 |p::p'::r,q::q'::r',_,_,h1,h2,h=> by have h:p++[c]++BJ [c] (p'::r)=q++[c]++BJ [c] (q'::r'):=h;rw [t8,t8]at h;obtain⟨e1,e2⟩:=Va (h1 p (.head _)) (h2 q (.head _)) h;rw [e1,Vb (by simp) (by simp) (fun x hx=> h1 x (.tail _ hx)) (fun x hx=> h2 x (.tail _ hx)) e2]
theorem jC{a:Nat}{l:List (List Nat)}:KR a l≠[]:=by cases l<;>exact nofun
theorem Vc(c:Nat):∀s:List Nat,BV c s≠[]
 | []=> nofun
 |a::r=> by
  rw [MA];by_cases h:a=c
  . rw [if_pos h];exact nofun
  . rw [if_neg h];exact jC
theorem Vd(c:Nat):∀s:List Nat,∀p∈BV c s,c∉p
 | []=>@fun p hp=> by rw [u5.mp hp];exact List.not_mem_nil
 |a::r=>@fun p hp=> by
  have ih:=Vd c r;rw [MA]at hp;by_cases ne:a=c
  . rw [if_pos ne]at hp;rcases uI.mp hp with rfl |hp
    . exact List.not_mem_nil
    . exact ih p hp
  . rw [if_neg ne]at hp;cases hw:BV c r with
    |nil=> rw [hw]at hp;rw [u5.mp hp];exact fun h=> ne (u5.mp h).symm
    |cons w ws=>
     rw [hw]at hp ih;rcases uI.mp hp with rfl |hp
     . intro hc;rcases uI.mp hc with e |hc
       . exact ne e.symm
       . exact ih w (.head _) hc
     . exact ih p (.tail _ hp)
theorem NM(s x:List Nat):∀{r:List (List Nat)},r≠[]->BJ s (x::r)=x++s++BJ s r
 | []=>@fun h=> absurd rfl h
 |_::_=>@fun _=> rfl
theorem Io(c:Nat):∀s:List Nat,BJ [c] (BV c s)=s
 | []=> rfl
 |a::r=> by
  have ih:=Io c r;have y0:=Vc c r;rw [MA];by_cases e:a=c
  . rw [if_pos e,NM _ _ y0,ih,e];rfl
  . rw [if_neg e];cases hw:BV c r with
    |nil=> exact absurd hw y0
    |cons w ws=>
     rw [hw]at ih;show BJ [c] ((a::w)::ws)=_;cases ws with
     |nil=> rw [show BJ [c] [w]=w from rfl]at ih;rw [ih];rfl
     |cons v vs=> rw [NM _ _ (by simp)]at ih⊢;rw [vr,vr,ih]
theorem jD(x:List Nat)(c:Nat):Txt.split (AJ x) (AJ [c])=(BV c x).map AJ:=by
 have e0:AJ [c]=⟨#[c]⟩:=rfl;have hT:∀T:List tq,T=(T.map fun t=> t.cps.toList).map AJ:=fun T=> by rw [vO];exact((vW fun a _=> by simp [AJ]).trans (xg T)).symm
 have h1:=StrLaws.join_split (AJ x) (AJ [c]);have h2:=StrLaws.split_free (AJ x) c;rw [<-e0]at h2;have h3:=split_pos (AJ x) (AJ [c]);generalize Txt.split (AJ x) (AJ [c])=T at h1 h2 h3⊢;have e1:=hT T;rw [e1]at h1⊢;rw [QY]at h1;congr 1;refine Vb (c:=c) (by intro z;rw [List.map_eq_nil_iff]at z;rw [z]at h3;simp at h3) (Vc c x) (fun p hp=> ?_) (Vd c x) ?_
 . obtain⟨t,ht,rfl⟩:=uj.mp hp;exact h2 t ht
 . rw [Io];exact Pw h1
theorem jE{c a:Nat}:∀{s p:List Nat},p∈BV c s->a∈p->a∈s:=by
 intro s p hp ha;have:=Io c s;rw [<-this];have:∀(l:List (List Nat)),p∈l->a∈BJ [c] l:=fun l=> by
  induction l with
  |nil=> intro h;cases h
  |cons x r ih=>
   intro h;cases r with
   |nil=>
    rcases uI.mp h with rfl |h
    . exact ha
    . cases h
   |cons y r'=>
    rw [NM _ _ (by simp)];rcases uI.mp h with rfl |h
    . simp [ha]
    . exact uC _ (ih h)
 exact this _ hp
end
section
variable{G:Gx}{f:Fx}{A:tx}{X:XP}{P:Prog}
theorem Ve(c:Nat):∀s:List Nat,(BV c s).length<=s.length+1
 | []=> uW _
 |a::r=> by
  have ih:=Ve c r;rw [MA];by_cases h:a=c
  . rw [if_pos h];exact u6 ih
  . rw [if_neg h];cases hw:BV c r with
    |nil=> exact u6 (uO _)
    |cons w ws=> rw [hw]at ih;exact yI ih
theorem jF{c:Nat}{x p:List Nat}(hp:p∈BV c x):p.length<=x.length:=by
 have h1:=Io c x;have:p.length<=(BJ [c] (BV c x)).length:=by
  clear h1
  revert hp
  generalize BV c x=L;intro hp
  induction L with
  |nil=> cases hp
  |cons a r ih=>
   cases r with
   |nil=>
    rcases uI.mp hp with rfl |hp
    . exact uW _
    . cases hp
   |cons b r'=>
    rw [NM _ _ (by simp)];rcases uI.mp hp with rfl |hp
    . simp
    . have:=ih hp;simp;exact AU this
 rw [h1]at this;exact this
theorem Vf{B:Heap}{W:Wd}:∀{l:List (tq×Tok)} {ps:List (List Nat)},l.map (·.1)=ps.map AJ->(∀p∈ps,BN p)->AX B W (ps.map AV.str) (strValues l)
 | [],[],_,_=> trivial
 |(x,t)::l,p::ps,h,ok=> by simp only [ud,xa]at h;refine⟨⟨⟨t,?_⟩,ok p (.head _)⟩,Vf h.2 fun q hq=> ok q (.tail _ hq)⟩;show wZ x t=_;rw [h.1]
 | [],_::_,h,_=> by cases h
 |_::_,[],h,_=> by cases h
section
variable{W:Wd}{l:List (N×AV)}{hp:Hp}{M:Led}{ow:Addr->Nat}{m:tq->Option R5}{s:tm}{Q:R5->tm->Prop}{E:R5->tm->Prop}
theorem jG(I:Inv G f W l hp M ow m s){x:List Nat}{c:Nat}{t t':Tok}(hx:BN x)(z:x.length+1<=lim)(h:∀V r s',W.le V->Inv G f V l hp M ow m s'->AK G.B V (.Ae ((BV c x).map .str)) r->Q r s'):
 wpAny (mo G) A (call (.builtin "str.split") [.str (AJ x) t,.str (AJ [c]) t']) Q E s:=by
 refine splitN1 I.fr I.nw rfl (fun lz h' k e F' N'=> ?_) (by rw [CL];have:=CF hx.1;have:lim=1000000:=rfl;have:=hx.1;rw [show sizeLine=2 ^ 24 from rfl];exact BF);rw [jD]at e;obtain⟨V,q1,q2,q3⟩:=I.Jh (tk:=k) F' N' (fun p hp=> uf (I.nw p hp).1) (xs:=(BV c x).map .str) (Vf e fun p hp=> ⟨t5 (jF hp) hx.1,fun a ha=> hx.2 a (jE hp ha)⟩) (by rw [uL];exact t5 (Ve c x) z);exact h V _ _ q1 q2 q3
theorem jH(O:AP G f)(I:Inv G f W l hp M ow m s){x:List Nat}{a c:AV}{t:Tok}{w:R5}(hx:BN x)(hv:AK G.B W a w)(e:Sp hp x a=some c)(h:∀V r s',W.le V->Inv G f V l hp M ow m s'->AK G.B V c r->Q r s'):
 wpAny (mo G) A (call (.builtin "str.join") [.str (AJ x) t,w]) Q E s:=
 AY e fun ss h1 h2=> AY h1 fun xs h3 h4=> Dq h2 (fun z h2=> by obtain rfl:=uR h2;exact jB O I hx hv h3 h4 z fun r s' I' hr=> h W r s' W.le_rfl I' hr) fun _ e=> cNS e
inductive jI(a:AV)(w:R5)(c:List Nat):Prop
 |mk (t:Tok) (h:w= .str (AJ c) t)
theorem NN{B:Heap}{a:AV}{w:R5}{c:List Nat}(hv:AK B W a w)(e:Bl a=some c):jI a w c:=by rw [DC e]at hv;obtain⟨⟨t,h⟩,_⟩:=hv;exact⟨t,h⟩
theorem s_split(I:Inv G f W l hp M ow m s){x:List Nat}{a c:AV}{t:Tok}{w:R5}(hx:BN x)(hv:AK G.B W a w)(e:Sq x a=some c)(h:∀V r s',W.le V->Inv G f V l hp M ow m s'->AK G.B V c r->Q r s'):
 wpAny (mo G) A (call (.builtin "str.split") [.str (AJ x) t,w]) Q E s:=
 AY e fun c' h1 e=> AY e fun ch h2 e=> by obtain⟨t',rfl⟩:=NN hv h1;obtain⟨z,rfl⟩:=GQ e;rw [Hm h2];exact jG I hx z h
theorem jJ(O:AP G f):QU G f A:=by
 intro x a mn c u w W l hp M ow m s Q E I hu hv e h;obtain⟨⟨t,rfl⟩,hx⟩:=(hu:(∃t,u= .str (AJ x) t)/\BN x);have k:∀r s',Inv G f W l hp M ow m s'->AK G.B W c r->Q r s':=fun r s' I' hr=> h W r s' W.le_rfl I' hr;exact Dq e (fun n e=> ⟨_,congrArg Ho n,jH O I hx hv e h⟩) fun _ e=> Dq e (fun n e=> ⟨_,congrArg Ho n,s_split I hx hv e h⟩) fun _ e=>
  Dq e (fun n e=> ⟨_,congrArg Ho n,Jn e fun c' e1 e2=> by obtain⟨t',rfl⟩:=NN hv e1;exact i7 I hx fun r s' I' hr=> k r s' I' (e2▸hr)⟩) fun _ e=>
  Dq e (fun n e=> ⟨_,congrArg Ho n,Jn e fun c' e1 e2=> by obtain⟨t',rfl⟩:=NN hv e1;exact i8 I hx fun r s' I' hr=> k r s' I' (e2▸hr)⟩) fun _ e=>
  Dq e (fun n e=> ⟨_,congrArg Ho n,Jn e fun c' e1 e2=> by obtain⟨t',rfl⟩:=NN hv e1;exact i9 I hx fun r s' I' hr=> k r s' I' (e2▸hr)⟩) fun _ e=> cNS e
end
end
section
variable{G:Gx}{f:Fx}{A:tx}{X:XP}{P:Prog}
theorem NO(ps:List (N×Pos))(env:Env):assignEach (GH ps) env=ps.map fun p=> (false,assign (.Name (nm p.1) p.2) env):=by
 induction ps with
 |nil=> rfl
 |cons p r ih=> show assignEach (.Name (nm p.1) p.2::GH r) env=_;rw [ud,<-ih];rfl
theorem jK(ps:List (N×Pos))(env:Env):(assignEach (GH ps) env).findIdx? (·.1)=none:=by rw [NO];exact List.findIdx?_eq_none_iff.mpr fun x hx=> by obtain⟨p,_,rfl⟩:=uj.mp hx;rfl
section
variable{W:Wd}{l:List (N×AV)}{hp:Hp}{M:Led}{ow:Addr->Nat}{m:tq->Option R5}{s:tm}
theorem jL(O:AP G f){ps:List (N×Pos)}(hl:∀p∈ps,f.cs.names.lookup (nm p.1)=some .local):∀{l l':List (N×AV)} {m:tq->Option R5} {s:tm} {as:List AV} {vs:List R5},Inv G f W l hp M ow m s->AX G.B W as vs->putAll (ps.map (·.1)) as l=some l'->
 ∀{Q:Unit->tm->Prop} {E:R5->tm->Prop},(∀m' s',Inv G f W l' hp M ow m' s'->Q () s')->wpAny (mo G) A (assignInOrder ((assignEach (GH ps) f.env).map (·.2)) vs) Q E s:=by
 induction ps with
 |nil=>
  intro l l' m s as vs I R e Q E h;cases as with
  |nil=> cases e;exact yJ (h m s I)
  |cons a r=> cases e
 |cons p r ih=>
  intro l l' m s as vs I R e Q E h;cases as with
  |nil=> cases e
  |cons a as=>
   cases vs with
   |nil=> exact R.elim
   |cons v vs=> have e:putAll (r.map (·.1)) as (put p.1 a l)=some l':=e;rw [NO,ud,ud];refine wm (xR (GR O.fn (hl p (.head _)) I R.1 fun m' s' I'=> ?_));have:=ih (fun q hq=> hl q (.tail _ hq)) I' R.2 e (E:=E) h;rw [NO]at this;exact this
end
theorem jM{xs:List N}:∀{ys:List AV} {l l':List (N×AV)},putAll xs ys l=some l'->xs.length=ys.length:=by
 induction xs with
 |nil=> intro ys l l' e;cases ys<;>first |rfl |cases e
 |cons x r ih=>
  intro ys l l' e;cases ys with
  |nil=> cases e
  |cons y ys=> exact congrArg (· +1) (ih (show putAll r ys (put x y l)=some l' from e))
theorem jN{ps:List (N×Pos)}{k:Nat}{pos:Pos}(O:AP G f)(hd:A.handled=none)(hl:∀p∈ps,f.cs.names.lookup (nm p.1)=some .local):
 G8 G f A X (.Tuple (GH ps) k pos) fun v s=> AR (E7 v) fun vs=> AR (putAll (ps.map (·.1)) vs s.loc) fun l=>.ok () ⟨l,s.hp⟩:=fun a u W l hp M ow m s Z eR I hu ne=> by
 obtain⟨vs,h0,eR⟩:=BK eR ne;obtain⟨l',h1,eR⟩:=BK eR ne;rw [Ie h0]at hu;obtain⟨⟨t,us,n,rfl,q1,q2⟩,q3⟩:=hu;refine unpackN_ I.fr I.nw (Fl (I.kn O q1)) hd ?_ (jK _ _) fun h' F' N'=> ?_
 . have:=jM h1;rw [NO,uL,uy,<-q2.length,<-this,uL]
 . have I':Inv G f W l hp M ow m ⟨h',s.gens,s.drawn,s.toks,s.os⟩:=⟨F',N',I.hi,I.lr,I.gn,I.os⟩;exact jL O hl I' q2 h1 fun m' s' I'=> I'.U eR W.le_rfl
theorem iN{α:Type}{c:Prop} [Decidable c]{r b:α}(h:b=r):(if c then r else b)=r:=by rw [h];exact ite_self _
theorem iT{α:Type}{c:Prop} [Decidable c]{r b:α}(h:c):(if c then r else b)=r:=if_pos h
theorem iF{α:Type}{c:Prop} [Decidable c]{a b r:α}(h:¬c)(e:b=r):(if c then a else b)=r:=(if_neg h).trans e
theorem jO{ts:List Expr}{k:Nat}{pos:Pos}{v:Expr}{env:Env}(h:O1 v=true):swappedStores [.Tuple ts k pos] v env=pure none:=by
 cases v with
 |Tuple vs n p=> exact iN (iN (iN (iT h)))
 |_=> rfl
theorem jP{ts:List Expr}{k:Nat}{zJ pos:Pos}{v:Expr}{ev:St->Out AV}{ea:AV->St->Out Unit}(hw:O1 v=true)(hc:FY v=true)(hv:AW G f A X (eval v f.env) ev)(ha:G8 G f A X (.Tuple ts k zJ) ea):
 A6 G f A X (exec (.Assign [.Tuple ts k zJ] v pos) f.env) fun s=> (ev s).bind fun v s=> (ea v s).bind fun _ s=>.ok .next s:=fun W l hp M ow m s Z eR I ne=> by
 refine xJ (Au eR W.le_rfl (fun q=> hv W l hp M ow m s _ rfl I q) ne fun a σ V L ow m u s' eR h1 h2 I hu ne=> ?_) (show swapsWith v (some (.Tuple ts k zJ)) pos.line f.env=pure false from Hq hc) (jO hw);show wpAny (mo G) A (assign (.Tuple ts k zJ) f.env u) _ _ _;refine Pp eR h1 (fun q=> ha a u V _ _ L ow m s' _ rfl I hu q) ne fun σ' V' L ow m s' eR h1 h2 I ne=> ?_;exact(I.F eR h1 trivial)
theorem DQ.ext{B:Heap}{W:Wd}{l l':List (N×AV)}{m:tq->Option R5}(r:DQ B W l m)(h:∀x,look x l'=look x l):DQ B W l' m:=fun x a e=> r x a (h x▸e)
theorem nB{b:Bool}(h:(!b)=true):¬b=true:=fun z=> by rw [z]at h;exact cFT h
theorem nF{b:Bool}(h:b=false):¬b=true:=fun z=> cFT (h.symm.trans z)
theorem jQ{x y:tq}{p q:Pos}{env:Env}(hx:env.kindOf x=some .local)(hy:env.kindOf y=some .local)(h5:(q.line==p.line)=true):
 ([vm x p,vm y q].filterMap fun e=> match e with
   | .Name id pos=> if(env.kindOf id==some .local&&pos.line==p.line)=true then some id else none
   |_=> none)=[x,y]:=by
 simp only [List.filterMap,hx,hy,h5,beq_self_eq_true,Bool.and_self,if_true]
theorem jR{x y:tq}(h:¬(x==y)=true):([x,y].length !=2||[x,y].eraseDups.length !=[x,y].length)=false:=by have:¬(y==x)=true:=fun z=> h (beq_iff_eq.mpr (beq_iff_eq.mp z).symm);simp [List.eraseDups_cons,this]
set_option backward.match.sparseCases true in
theorem Vg{x y:tq}{p q zV zJ:Pos}{k n:Nat}{vs:List Expr}{env:Env}(h:JO [.Name x p,.Name y q] (.Tuple vs n zV)=true)(hf:env.blockKind= .function)(hx:env.kindOf x=some .local)(hy:env.kindOf y=some .local):
 swappedStores [.Tuple [.Name x p,.Name y q] k zJ] (.Tuple vs n zV) env=pure (some [x,y]):=by
 obtain⟨h,h5⟩:=t6.mp h;obtain⟨h,h4⟩:=t6.mp h;obtain⟨h,h3⟩:=t6.mp h;obtain⟨h1,h2⟩:=t6.mp h;obtain⟨h5,h6⟩:=t6.mp h5;have E:=jQ hx hy h5;have D:=jR (x:=x) (y:=y) (nB h6);have hl:vs.length=2:=uq h1;have c1:(!(([vm x p,vm y q].length==2)||([vm x p,vm y q].length==3))||vs.length !=[vm x p,vm y q].length||env.blockKind != .function)=false:=by rw [hl,hf];rfl
 have c2:(vs.any fun e=> match e with | .Starred .. => true |_=> false)=false:=List.any_eq_false.mpr fun e he=> by
  have:=uM.mp h2 e he;cases e with
  |Starred _ _=> exact cFT this
  |_=> exact nF rfl
 refine iF (nF c1) (iF (nF c2) (iF (nF ?_) (iF (nB h3) (iF (nB h4) ?_))))
 . exact(congrArg (fun l:List tq=> (l.length !=2||l.eraseDups.length !=l.length)) E).trans D
 . exact congrArg (fun l=> pure (some l)) E
theorem Vh{x y:N}(hxy:x≠y){a b:AV}{l:List (N×AV)}(z:N):look z (put y b (put x a l))=look z (put x a (put y b l)):=by
 rw [Jb,Jb,Jb,Jb];by_cases h1:z=y
 . rw [if_pos h1,if_neg fun h2=> hxy (h2.symm.trans h1),if_pos h1]
 . rw [if_neg h1,if_neg h1]
theorem Vi{x y:N}{p q zV:Pos}{n:Nat}{vs:List Expr}(h:JO [.Name (nm x) p,.Name (nm y) q] (.Tuple vs n zV)=true):x≠y:=fun e=> by subst e;have:=(t6.mp (t6.mp h).2).2;simp at this
inductive jS(B:Heap)(W:Wd)(x y:N)(as:List AV)(us:List R5)(l l':List (N×AV)):Prop
 |mk (a b:AV) (u1 u2:R5) (h1:as=[a,b]) (h2:us=[u1,u2]) (h3:AK B W a u1) (h4:AK B W b u2) (h5:l'=put y b (put x a l))
theorem Vj{B:Heap}{W:Wd}{x y:N}{as:List AV}{us:List R5}{l l':List (N×AV)}(R:AX B W as us)(e:putAll [x,y] as l=some l'):jS B W x y as us l l':=by
 cases as with
 |nil=> exact cNS e
 |cons a as=> cases as with
  |nil=> exact cNS e
  |cons b as=> cases as with
   |cons _ _=> exact cNS e
   |nil=> cases us with
    |nil=> exact R.elim
    |cons u1 us=> cases us with
     |nil=> exact R.2.elim
     |cons u2 us=> cases us with
      |nil=> exact⟨a,b,u1,u2,rfl,rfl,R.1,R.2.1,(uR e).symm⟩
      |cons _ _=> exact R.2.2.elim
theorem jT{x y:N}{p q zJ zV pos:Pos}{k n:Nat}{vs:List Expr}{ev:St->Out AV}(O:AP G f)(hd:A.handled=none)(hlx:f.cs.names.lookup (nm x)=some .local)(hly:f.cs.names.lookup (nm y)=some .local)
 (hw:JO [.Name (nm x) p,.Name (nm y) q] (.Tuple vs n zV)=true) (hc:FY (.Tuple vs n zV)=true) (hv:AW G f A X (eval (.Tuple vs n zV) f.env) ev):
 A6 G f A X (exec (.Assign [.Tuple [.Name (nm x) p,.Name (nm y) q] k zJ] (.Tuple vs n zV) pos) f.env) fun s=> (ev s).bind fun v s=> (AR (E7 v) fun vs=> AR (putAll [x,y] vs s.loc) fun l=> Out.ok () (⟨l,s.hp⟩:St)).bind fun _ s=>.ok .next s:=fun W l hp M ow m s Z eR I ne=> by
 refine Assign_Tuple_swapped (names:=[nm x,nm y]) (Au eR W.le_rfl (fun q=> hv W l hp M ow m s _ rfl I q) ne fun a σ V L ow m u s' eR h1 h2 I hu ne=> ?_) (show swapsWith (.Tuple vs n zV) (some (.Tuple [.Name (nm x) p,.Name (nm y) q] k zJ)) pos.line f.env=pure false from Hq hc)
  (Vg hw (show(if f.cs.kind.isAnnotationScope then _ else f.cs.kind)=_ by rw [O.fn];rfl) hlx hly)
 obtain⟨as,h3,eR⟩:=Hl eR ne;obtain⟨l',h4,eR⟩:=Hl eR ne;rw [Ie h3]at hu;obtain⟨⟨t,us,n,rfl,q1,q2⟩,q3⟩:=hu;obtain⟨a,b,u1,u2,rfl,rfl,r1,r2,rfl⟩:=Vj q2 h4;refine unpackItemsN_ I.fr I.nw (Fl (I.kn O q1)) hd (by rfl) fun h' F' N'=> ?_;have I':Inv G f V σ.loc σ.hp L ow m ⟨h',s'.gens,s'.drawn,s'.toks,s'.os⟩:=⟨F',N',I.hi,I.lr,I.gn,I.os⟩;refine wm (bindName_ (GR O.fn hly I' r2 fun m' s' I'=> ?_));refine wm (bindName_ (GR O.fn hlx I' r1 fun m' s' I'=> yJ ?_));exact Inv.F ⟨I'.fr,I'.nw,I'.hi,I'.lr.ext (Vh (Vi hw)),I'.gn,I'.os⟩ eR h1 trivial
end
section
variable{G:Gx}{f:Fx}{A:tx}{X:XP}{P:Prog}
section
variable{W:Wd}{l:List (N×AV)}{hp:Hp}{M:Led}{ow:Addr->Nat}{m:tq->Option R5}{s:tm}
theorem Inv.jU(I:Inv G f W l hp M ow m s){D1 D2:Addr}{o1 o2:Obj}(h1:(D1,o1)∈W.fz)(h2:(D2,o2)∈W.fz)(ne:D2≠D1)(nd1:¬D6 o1)(nd2:¬D6 o2){h':Heap}{tk:Nat}{L:Led}
 (keep:∀b o,b≠D1->b≠D2->s.heap.get? b=some o->h'.get? b=some o) (news:∀p∈L,h'.get? p.1=some p.2/\(p.1=D1∨p.1=D2∨s.heap.objs.size<=p.1)):
 Inv G f (((W.drop D1).drop D2).CK L) l hp M ow m ⟨h',s.gens,s.drawn,tk,s.os⟩:=by
 refine cps fun yv yt=> ?_;have J1:=I.NL h1 nd1;have yz:(D2,o2)∈(W.drop D1).fz:=QJ h2 ne;have J2:=J1.NL yz nd2;have z1:=I.nw _ (uC _ h1);have z2:=I.nw _ (uC _ h2);dsimp only at z1 z2;have n2:=QL J1 yz;have n1:∀p∈M++((W.drop D1).drop D2).fz,p.1≠D1:=fun p hp=> by
  rcases uN.mp hp with h |h
  . exact fun e=> I.hi.dj _ h1 p h e.symm
  . exact(LI (LI h).1).2
 have hL:=I.fr.ns.lt;have far:∀p∈L,p.1≠f.L/\f.g.get? p.1=none:=fun p hp=> by
  rcases(news p hp).2 with e |e |e
  . rw [e];exact z1.2
  . rw [e];exact z2.2
  . refine⟨fun z=> ?_,?_⟩
    . exact absurd hL (vg.mpr (z▸e))
    . cases hg:f.g.get? p.1 with
      |none=> rfl
      |some x=> exact absurd (uf (I.fr.keep _ _ hg)) (vg.mpr e)
 obtain⟨oL,es,ep,hLg,r⟩:=I.fr.ns;refine yt ?_;refine⟨⟨⟨oL,es,ep,keep f.L oL (fun e=> z1.2.1 e.symm) (fun e=> z2.2.1 e.symm) hLg,r⟩,fun b x q=> keep b x (fun e=> ?_) (fun e=> ?_) (I.fr.keep b x q),I.fr.above⟩,fun p hp=> ?_,
  J2.hi.CK fun p hp q hq=> ?_,J2.lr.mono (Wd.Cr _ _),I.gn,I.os⟩
 . have:=z1.2.2;rw [<-e,q]at this;cases this
 . have:=z2.2.2;rw [<-e,q]at this;cases this
 . have old:∀p∈M++((W.drop D1).drop D2).fz,h'.get? p.1=some p.2/\p.1≠f.L/\f.g.get? p.1=none:=fun p hp=> ⟨keep _ _ (n1 p hp) (n2 p hp) (J2.nw p hp).1,(J2.nw p hp).2⟩;rcases uN.mp hp with h |h
   . exact old p (uK _ h)
   . rcases uN.mp h with h |h
     . exact⟨(news p h).1,far p h⟩
     . exact old p (uC _ h)
 . rcases(news p hp).2 with e |e |e
   . exact fun z=> n1 q (uK _ hq) (by rw [<-z,e])
   . exact fun z=> n2 q (uK _ hq) (by rw [<-z,e])
   . intro z;have:=uf (I.mem (a:=q.1) (o:=q.2) hq);exact absurd (z▸this) (vg.mpr e)
end
theorem jV{o:Obj}(h:o.cls= .type "enumerate"):¬D6 o:=Fm h (by decide) (by decide) (by decide)
theorem Vk{o:Obj}{x:tq}(h:o.cls= .type (strIterType x)):¬D6 o:=by
 unfold strIterType at h;split at h
 . exact Fm h (by decide) (by decide) (by decide)
 . exact Fm h (by decide) (by decide) (by decide)
theorem Vl{A:tx}(hh:A.handled=none)(it:Addr)(x:tq)(t:Tok):
 Draws G.prog G.w A it [it] x.cps.size (fun i v=> ∃c u,x.cps[i]? =some c/\v= .str ⟨#[c]⟩ u) (fun i h=> h.IsStrIter it (strIterType x) x t i):=by
 by_cases hw:x.cps.all (· <128)=true
 . have e:strIterType x="str_ascii_iterator":=if_pos hw;rw [e];exact Draws.strAscii hh it x t
 . have e:strIterType x="str_iterator":=if_neg hw;rw [e];exact Draws.strWide hh it x t
def NP(it:Addr)(i:Int)(old:R5):Obj:={cls:=.type "enumerate",dict:=none,data:=.fields #[.none,.bool false,.ref it,rawInt i,.none,old],slots:=#[]}
section
variable{W:Wd}{l:List (N×AV)}{hp:Hp}{M:Led}{ow:Addr->Nat}{m:tq->Option R5}{s:tm}
theorem Inv.two(I:Inv G f W l hp M ow m s){h':Heap}{tk:Nat}{o1 o2:Obj}(hk:∀b o,s.heap.get? b=some o->h'.get? b=some o)(g1:h'.get? (s.heap.objs.size+1)=some o1)(g2:h'.get? s.heap.objs.size=some o2):
 Inv G f (W.CK [(s.heap.objs.size+1,o1),(s.heap.objs.size,o2)]) l hp M ow m ⟨h',s.gens,s.drawn,tk,s.os⟩:=by
 have far:∀a,s.heap.objs.size<=a->a≠f.L/\f.g.get? a=none:=fun a e=> by
  refine⟨fun z=> absurd I.fr.ns.lt (vg.mpr (z▸e)),?_⟩;cases hg:f.g.get? a with
  |none=> rfl
  |some x=> exact absurd (uf (I.fr.keep _ _ hg)) (vg.mpr e)
 have old:∀p∈M++W.fz,h'.get? p.1=some p.2/\p.1≠f.L/\f.g.get? p.1=none:=fun p hp=> ⟨hk _ _ (I.nw p hp).1,(I.nw p hp).2⟩;refine⟨⟨I.fr.ns.keeps hk,fun b o q=> hk b o (I.fr.keep b o q),I.fr.above⟩,fun p hp=> ?_,I.hi.CK fun p hp q hq=> ?_,I.lr.mono (Wd.Cr _ _),I.gn,I.os⟩
 . rcases uN.mp hp with h |h
   . exact old p (uK _ h)
   . rcases uI.mp h with rfl |h
     . exact⟨g1,far _ (vf _)⟩
     . rcases uI.mp h with rfl |h
       . exact⟨g2,far _ (uW _)⟩
       . exact old p (uC _ h)
 . have:=uf (I.mem (a:=q.1) (o:=q.2) hq);rcases uI.mp hp with rfl |hp
   . exact vD (vB this)
   . rw [u5.mp hp];exact vD this
inductive LN(Y:Wd)(D:Addr)(x:List Nat)(tk:Tok)(i:Nat):Prop
 |mk (oi:_) (old:_) (za:(D+1,NP D i old)∈Y.fz) (zb:(D,oi)∈Y.fz) (ze:oi.cls= .type (strIterType (AJ x))) (zt:oi.data= .fields #[.str (AJ x) tk,.int i 0])
theorem LN.mono{Y V:Wd}{D:Addr}{x:List Nat}{tk:Tok}{i:Nat}(h:LN Y D x tk i)(le:Y.le V):LN V D x tk i:=
 let⟨oi,old,a,b,c,d⟩:=h;⟨oi,old,le.fz _ a,le.fz _ b,c,d⟩
def Apart(V:Wd)(D:Addr):Prop:=∀p∈V.fz,p.1≠D+1/\p.1≠D
theorem jW{V Y:Wd}{D:Addr}{x:List Nat}{tk:Tok}{i c:Nat}(hx:BN x)(ap:Apart V D)(hY:V.le Y)(I:Inv G f Y l hp M ow m s){oi oi':Obj}{old:R5}(hE:(D+1,NP D i old)∈Y.fz)(hI:(D,oi)∈Y.fz)(zf:oi.cls= .type (strIterType (AJ x)))
 (hc:x[i]? =some c) {h₁ h₂:Heap} {tk₁ u:Tok} {tk₂:Nat} (hk:∀b o,b≠D+1->b≠D->s.heap.get? b=some o->h₁.get? b=some o) (hT:h₁.get? s.heap.objs.size=some (G5 [.int i tk₁,.str ⟨#[c]⟩ u] 0)) (ABQ:h₁.get? D=some oi')
 (AAk:oi'.cls= .type (strIterType (AJ x))) (AAl:oi'.data= .fields #[.str (AJ x) tk,.int ((i+1:Nat):Int) 0]) (he₂:h₂.get? (D+1)=some (NP D ((i:Int)+1) (.str ⟨#[c]⟩ u))) (hs₂:yO (D+1) h₁ h₂):
 ∃Y',V.le Y'/\Inv G f Y' l hp M ow m ⟨h₂,s.gens,s.drawn,tk₂,s.os⟩/\LN Y' D x tk (i+1)/\AK G.B Y' (.tup [.int i,.str [c]]) (.ref s.heap.objs.size):=by
 have hDn:D+1≠D:=Nat.succ_ne_self D;have hTD:s.heap.objs.size≠D+1:=vD (uf (I.nw _ (uC _ hE)).1);have J:=I.jU (tk:=tk₂) (h':=h₂) hE hI (vK hDn) (jV rfl) (Vk zf) (L:=[(s.heap.objs.size,G5 [.int i tk₁,.str ⟨#[c]⟩ u] 0),(D+1,NP D ((i:Int)+1) (.str ⟨#[c]⟩ u)),(D,oi')])
  (fun b o q1 q2 hb=> by rw [hs₂.2 b q1];exact hk b o q1 q2 hb) (fun p hp=> by
    rcases uI.mp hp with rfl |hp
    . exact⟨by show h₂.get? _=_;rw [hs₂.2 _ hTD];exact hT,.inr (.inr (uW _))⟩
    . rcases uI.mp hp with rfl |hp
      . exact⟨he₂,.inl rfl⟩
      . rw [u5.mp hp];exact⟨by show h₂.get? _=_;rw [hs₂.2 _ (vK hDn)];exact ABQ,.inr (.inl rfl)⟩)
 refine⟨_,(Wd.Il (Wd.Il hY fun p hp=> (ap p hp).1) fun p hp=> (ap p hp).2).trans (Wd.Cr _ _),J,⟨oi',_,uK _ (.tail _ (.head _)),uK _ (.tail _ (.tail _ (.head _))),AAk,AAl⟩,?_⟩;exact⟨⟨_,[.int i tk₁,.str ⟨#[c]⟩ u],0,rfl,.inl (uK _ (.head _)),⟨_,rfl⟩,⟨⟨_,rfl⟩,(by show 1<=lim;decide),fun y hy=> by rw [u5.mp hy];exact hx.2 _ (vV hc)⟩,trivial⟩,by show 2<=lim;decide⟩
end
theorem Vm(x:List Nat):(FW x).length=x.length:=by simp [FW]
theorem jX{x:List Nat}{i c:Nat}(h:x[i]? =some c):(FW x).drop i= .tup [.int i,.str [c]]::(FW x).drop (i+1):=by have hi:i<x.length:=(v8.mp h).1;rw [v9 (by rw [Vm];exact hi)];congr 1;have:x[i]=c:=(v8.mp h).2;simp [FW,this]
inductive Vn(G:Gx)(f:Fx)(V:Wd)(D:Addr)(x:List Nat)(tk:Tok)(ev:List AV->St->Out Flow)(Z:Out Flow)(n:Nat)(s:tm):Prop
 |mk (i:_) (Y:_) (l:_) (hp:_) (M:_) (ow:_) (m:_) (za:n=x.length+1 - i) (zb:i<=x.length) (ze:V.le Y) (zt:Inv G f Y l hp M ow m s) (h4_:LN Y D x tk i) (h5_:ev ((FW x).drop i) ⟨l,hp⟩=Z)
theorem jY{ps:List (N×Pos)}{k:Nat}{zJ np ACI pos:Pos}{e:Expr}{b:List Stmt}{ev:St->Out AV}{ea:AV->St->Out Unit}{eb:St->Out Flow}(O:AP G f){d:Nat}(HA:Bx f d A)(hX:Hr G f A X)(hB:Built G f "enumerate" (.type "enumerate"))
 (hs:noStar e=true) (he:AW G f A X (eval e f.env) ev) (ha:G8 G f A X (.Tuple (GH ps) k zJ) ea) (hb:A6 G f A X (execs b f.env) eb):
 A6 G f A X (exec (.For (.Tuple (GH ps) k zJ) (.Call (.Name "enumerate" np) [e] [] ACI) b [] pos) f.env) fun s=> ((ev s).bind fun v s=> AR (Bl v) fun t=>.ok (FW t) s).bind fun xs s=> B1 ea eb xs s:=fun W l hp M ow m s Z eR I ne=> by
 replace eR:=(bind_assoc _ _ _).symm.trans eR;refine wpAny_For (vZ (Ib I O hB.no hB.val hB.ne ?_ hB.glob hB.nd)) (QO rfl);rw [D8 _ _ _ (by rw [vH,hs];rfl)];refine xo (plain_any _) (FJ (wW (Au eR W.le_rfl (fun q=> he W l hp M ow m s _ rfl I q) ne fun a σ V L ow m u s' eR h1 h2 I hu ne=> spliced_nil ?_)));refine cps fun yv yt=> ?_;clear h2;obtain⟨x,h3,eR⟩:=Hl eR ne;rw [DC h3]at hu;obtain⟨⟨tk,rfl⟩,hx⟩:=hu;refine yt ?_;replace eR:B1 ea eb (FW x) σ=Z:=eR;refine call_enumerate_str fun h' he hit hsz hk=> wpAny_pyIter_enum (old:=.none) (i:=0) he ?_;refine cps fun zI yy=> ?_;obtain⟨oi,hoi,zf,hid⟩:=hit;refine yy ?_;have J:=I.two (tk:=s'.toks) hk he hoi;have ap:Apart V s'.heap.objs.size:=fun p hp=> by have:=uf (I.nw p (uC _ hp)).1;exact⟨uu (vB this),uu this⟩
 clear hk I hsz;generalize s'.heap.objs.size=D at J ap he hoi;refine yE (Vn G f V D x tk (B1 ea eb) Z) (fun n s hI=> ?_) (x.length+1)
  ⟨0,_,_,_,_,_,_,rfl,uO _,V.Cr _,J,⟨oi,.none,uK _ (.head _),uK _ (.tail _ (.head _)),zf,hid⟩,eR⟩
 refine cps fun zu zL=> ?_;clear eR J he hoi zf hid;obtain⟨i,Y,l,hp,M,ow,m,hn,hi,hY,I,⟨oi,old,hE,hI,zf,hid⟩,eR⟩:=hI;refine zL ?_;have gE:=(I.nw _ (uC _ hE)).1;have gI:=(I.nw _ (uC _ hI)).1;have hcs:(AJ x).cps.size=x.length:=uy;rcases vI i x.length with y9 |hge
 . refine wpAny_pyNext_enum_itemD (Vl (G:=G) (A:=A.in1) HA.hd D (AJ x) tk) (i:=i) (old:=old) gE ⟨oi,gI,zf,hid⟩ (by rw [hcs];exact y9) (Nat.succ_ne_self D) (by simp) fun v h₁ tk₁ hv ho hst hT hsz hk=> ?_;refine cps fun P4_ z0=> ?_;obtain⟨c,u,hc,rfl⟩:=hv;rw [show(AJ x).cps[i]? =x[i]? by simp [AJ]]at hc;rw [jX hc]at eR;obtain⟨oi',ABQ,AAk,AAl⟩:=hst;refine z0 ?_;refine wpAny_letOwnedTupleGo_enum ho fun h₂ he₂ hs₂=> ?_;refine cps fun P5_ k5_=> ?_;obtain⟨Y',hV',J,hE',hvr⟩:=jW (tk₂:=tk₁+1) hx ap hY I hE hI zf hc hk hT ABQ AAk AAl he₂ hs₂;refine k5_ ?_;refine uG (Pp eR (h1.trans hV') (fun q=> ha _ _ _ _ _ _ _ _ _ _ rfl J hvr q) ne fun σ V₁ L₁ ow₁ m₁ s₁ eR h1 yz I₁ ne₁=> ?_) (fun _ _ x=> x) fun e s' he=> hX _ _ _ _ he;refine uG (M5 eR h1 (fun q=> hb V₁ _ _ _ _ _ _ _ rfl I₁ q) ne fun c σ' V₂ L₂ ow₂ m₂ w s₂ eR h3 h3' I₂ hw ne₂=> ?_) (fun _ _ x=> x) fun e s' he=> hX _ _ _ _ he;have ih:B1 ea eb ((FW x).drop (i+1)) σ'=Z->∃m,m<n/\Vn G f V D x tk (B1 ea eb) Z m s₂:=
    fun e=> ⟨x.length+1 - (i+1),dec_lt hn y9,i+1,V₂,σ'.loc,σ'.hp,L₂,ow₂,m₂,rfl,y9,hV'.trans (yz.trans h3'),I₂,hE'.mono (yz.trans h3'),e⟩
   cases c<;>cases w<;>first |exact hw.elim |skip
   . exact ih eR
   . exact I₂.F eR h3 trivial
   . exact ih eR
   . exact I₂.F eR h3 hw
 . have hie:i=x.length:=uc hi hge;subst hie;refine wpAny_pyNext_enum_endD (Vl (G:=G) (A:=A.in1) HA.hd D (AJ x) tk) (old:=old) gE ⟨oi,gI,zf,by rw [hcs];exact hid⟩ fun h₁ hs₁=> ?_;rw [wD (t7 (Vm x))]at eR;exact vG ((I.QM (tk:=s.toks) hI (Vk zf) hs₁).F eR (h1.trans (Wd.Il hY fun p hp=> (ap p hp).2)) trivial)
end
section
variable{G:Gx}{f:Fx}{A:tx}{X:XP}{P:Prog}
def Fo(G:Gx)(f:Fx)(A:tx)(t:Sem R5)(ev:St->Out AV):Prop:=
 ∀W l hp M ow m s Z (Q:R5->tm->Prop) (E:R5->tm->Prop),ev ⟨l,hp⟩=Z->Inv G f W l hp M ow m s->Z≠ .bad->(∀a u s',Out.ok a ⟨l,hp⟩=Z->Inv G f W l hp M ow m s'->AK G.B W a u->Q u s')->wpAny (mo G) A t Q E s
def Ip(G:Gx)(f:Fx)(A:tx)(t:Sem Bool)(ev:St->Out Bool):Prop:=
 ∀W l hp M ow m s Z (Q:Bool->tm->Prop) (E:R5->tm->Prop),ev ⟨l,hp⟩=Z->Inv G f W l hp M ow m s->Z≠ .bad->(∀b s',Out.ok b ⟨l,hp⟩=Z->Inv G f W l hp M ow m s'->Q b s')->wpAny (mo G) A t Q E s
def FK(G:Gx)(f:Fx)(A:tx)(t:Sem uo)(ev:St->Out Flow):Prop:=
 ∀W l hp M ow m s Z (Q:uo->tm->Prop) (E:R5->tm->Prop),ev ⟨l,hp⟩=Z->Inv G f W l hp M ow m s->Z≠ .bad->(∀l' m' s',Out.ok .next ⟨l',hp⟩=Z->Inv G f W l' hp M ow m' s'->Q .next s')->wpAny (mo G) A t Q E s
theorem jZ{k pos env}:Fo G f A (eval (.Constant .none k pos) env) fun s=>.ok .none s:=
 fun W l hp M ow m s Z Q E eR I _ h=> wpAny_Constant_none (h _ _ _ eR I rfl)
theorem ja{x:N}{pos:Pos}(hk:f.cs.kind= .function)(hl:f.cs.names.lookup (nm x)=some .local)(hd:(nm x==("__debug__":tq))=false):
 Fo G f A (eval (.Name (nm x) pos) f.env) fun s=> AR (look x s.loc) fun v=>.ok v s:=fun W l hp M ow m s Z Q E eR I ne h=> by
 obtain⟨a,h1,eR⟩:=BK eR ne;obtain⟨v,h3,h4⟩:=I.lr x a h1;exact xW I.fr h3 (h a v s eR I h4) hk hl hd
theorem jb(C:Ck G P)(O:AP G f){e:Expr}{a:N}{pos:Pos}{env:Env}{ev:St->Out AV}(hn:(match e with | .Call (.Name _ _) [] [] _=> false |_=> true)=true)(he:Fo G f A (eval e env) ev):
 Fo G f A (eval (.Attribute e (nm a) pos) env) fun s=> (ev s).bind fun o s=> AR (GB P s.hp o a) fun v=>.ok v s:=fun W l hp M ow m s Z Q E eR I ne h=> by
 rw [arm_eval_Attribute];refine tu (M9 hn (he W l hp M ow m s _ _ _ rfl I (CC (eR▸ne)) fun o u s' e1 I hu=> ?_));obtain⟨c,h3,eR⟩:=BK ((CD e1.symm).symm.trans eR) ne;exact tu (uU (tu (uE (Pr C O I hu h3 fun u s' hu I=> tu (wpAny_letTemporaryGo (t4 (h _ _ _ eR I hu)))))))
theorem jc(O:AP G f){e i:Expr}{pos:Pos}{env:Env}{ee ei:St->Out AV}(hn:IL i=true)(he:Fo G f A (eval e env) ee)(hi:Fo G f A (eval i env) ei):
 Fo G f A (eval (.Subscript e i pos) env) fun s=> (ee s).bind fun o s=> (ei s).bind fun k s=> AR (CP s.hp o k) fun v=>.ok v s:=fun W l hp M ow m s Z Q E eR I ne h=> by
 refine xp (he W l hp M ow m s _ _ _ rfl I (CC (eR▸ne)) fun o u s' e1 I hu=> ?_);replace eR:=(CD e1.symm).symm.trans eR;refine hi W l hp M ow m s' _ _ _ rfl I (CC (eR▸ne)) fun k v s' e2 I hv=> ?_;obtain⟨c,h3,eR⟩:=BK ((CD e2.symm).symm.trans eR) ne;obtain⟨⟨T,id,t1,t2⟩,g⟩:=P6 (A:=A) (E:=E) (Q:=Q) O I hu hv h3 fun r s' I hr=> h _ _ _ eR I hr;exact xv t1 t2 g (Us hn)
theorem jd(O:AP G f)(HA:A.units+200<cLine){le e:Expr}{op:COp}{pos:Pos}{env:Env}{whole:Sem R5}{el er:St->Out AV}(hm:lastMarks [HZ op] [e]=false)(hl:Fo G f A (eval le env) el)(hr:Fo G f A (eval e env) er):
 Ip G f A (isTrue (.Compare le [HZ op] [e] pos) env whole) fun s=> (el s).bind fun a s=> (er s).bind fun b s=> AR (BZ s.hp op a b) fun c=>.ok c s:=fun W l hp M ow m s Z Q E eR I ne h=> by
 rw [arm_isTrue_Compare,xn _ _ _ hm];refine tu (hl W l hp M ow m s _ _ _ rfl I (CC (eR▸ne)) fun a u s' e1 I hu=> ?_);replace eR:=(CD e1.symm).symm.trans eR;refine tu (uE (hr W l hp M ow m s' _ _ _ rfl I (CC (eR▸ne)) fun b v s' e2 I hv=> ?_));obtain⟨c,h3,eR⟩:=BK ((CD e2.symm).symm.trans eR) ne;exact tu (uU (tu (wpAny_operate' (LF O HA I hu hv h3 fun s' I=> uE (wo (h _ _ eR I))))))
theorem je{e e':Expr}{pos:Pos}{env:Env}{whole:Sem R5}{ev ev':St->Out Bool}(h1:Ip G f A (isTrue e env (eval e env)) ev)(h2:Ip G f A (isTrue e' env (eval e' env)) ev'):
 Ip G f A (isTrue (.BoolOp .Or [e,e'] pos) env whole) fun s=> (ev s).bind fun b s=> if b=true then .ok true s else(ev' s).bind fun b s=> if b=true then .ok true s else .ok false s:=fun W l hp M ow m s Z Q E eR I ne h=> by
 refine wpAny_isTrue_BoolOp (xu (h1 W l hp M ow m s _ _ _ rfl I (CC (eR▸ne)) fun b s' e1 I=> ?_));replace eR:=(CD e1.symm).symm.trans eR;cases b with
 |true=> exact h true s' eR I
 |false=>
  refine xu (h2 W l hp M ow m s' _ _ _ rfl I (CC (eR▸ne)) fun b s' e2 I=> ?_);replace eR:=(CD e2.symm).symm.trans eR;cases b with
  |true=> exact h true s' eR I
  |false=> exact wpAny_allTrue_Or_nil (h false s' eR I)
theorem jf{x:N}{v:Expr}{AA2 pos:Pos}{ev:St->Out AV}(O:AP G f)(hl:f.cs.names.lookup (nm x)=some .local)(hc:FY v=true)(hv:Fo G f A (eval v f.env) ev):
 FK G f A (exec (.Assign [.Name (nm x) AA2] v pos) f.env) fun s=> (ev s).bind fun v s=>.ok .next ⟨put x v s.loc,s.hp⟩:=fun W l hp M ow m s Z Q E eR I ne h=> by
 refine xJ (hv W l hp M ow m s _ _ _ rfl I (CC (eR▸ne)) fun a u s' e1 I hu=> ?_) (show swapsWith v (some (.Name (nm x) AA2)) pos.line f.env=pure false from Hq hc) (QI rfl);replace eR:=(CD e1.symm).symm.trans eR;exact xR (GR O.fn hl I hu fun m' s' I'=> h _ _ _ eR I')
theorem jg{t:Expr}{b:List Stmt}{pos:Pos}{et:St->Out Bool}{eb:St->Out Flow}(ht:Ip G f A (isTrue t f.env (eval t f.env)) et)(hb:FK G f A (execs b f.env) eb):
 FK G f A (exec (.If t b [] pos) f.env) fun s=> (et s).bind fun c s=> if c=true then eb s else .ok .next s:=fun W l hp M ow m s Z Q E eR I ne h=> by
 refine wpAny_If (ht W l hp M ow m s _ _ _ rfl I (CC (eR▸ne)) fun c s' e1 I=> ?_);replace eR:=(CD e1.symm).symm.trans eR;cases c with
 |true=> exact hb W l hp M ow m s' _ _ _ eR I ne h
 |false=> exact vG (h _ _ _ eR I)
theorem jh:FK G f A (execs [] f.env) fun s=>.ok .next s:=fun W l hp M ow m s Z Q E eR I ne h=> vG (h _ _ _ eR I)
theorem ji{st:Stmt}{rest:List Stmt}{es er:St->Out Flow}(hs:FK G f A (exec st f.env) es)(hr:FK G f A (execs rest f.env) er):
 FK G f A (execs (st::rest) f.env) fun s=> (es s).bind fun f s=> match f with
  | .next=> er s
  | .brk=>.ok .brk s
  | .cont=>.ok .cont s
  | .ret v=>.ok (.ret v) s:=fun W l hp M ow m s Z Q E eR I ne h=>
 xV (hs W l hp M ow m s _ _ _ rfl I (CC (eR▸ne)) fun l' m' s' e1 I=> hr W l' hp M ow m' s' _ _ _ ((CD e1.symm).symm.trans eR) I ne h)
theorem Bc.keys{B:Heap}{W:Wd}:∀{es:List (AV×AV)} {kvs:List (Int×R5)},Bc B Bb W es kvs->es.map (·.1)=kvs.map fun p=> AV.int p.1
 | [],kvs,h=> by
   cases kvs with
   |nil=> rfl
   |cons _ _=> exact h.elim
 |p::es,kvs,h=> by
  cases kvs with
  |nil=> exact h.elim
  |cons q kvs=> exact congr (congrArg List.cons (Cj h.1)) (Bc.keys h.2.2)
set_option tactic.hygienic true in
theorem Vo{prog:uQ}{w:uS}{k:Int}{v:R5}(h:(vC prog w).is k v=true):∃t,v= .int k t:=by
 cases v<;>first |exact absurd h (by intro z;cases z) |skip
 rename_i n t;have h:(n==k)=true:=h;exact⟨t,by rw [eq_of_beq h]⟩
def NQ(d0:Addr)(j n ep:Nat):Data:=.fields #[.ref d0,.int j 0,.int n 0,.int ep 0]
abbrev putN(x:N):AV->St->Out Unit:=fun v s=>.ok () ⟨put x v s.loc,s.hp⟩
inductive jj(G:Gx)(f:Fx)(V:Wd)(D d0:Addr)(ep:Nat)(hp:Hp)(M:Led)(ow:Addr->Nat)(kvs:List (Int×R5))(ev:List AV->St->Out Flow)(Z:Out Flow)(n:Nat)(s:tm):Prop
 |mk (j:_) (Y:_) (l:_) (m:_) (oi:_) (za:n=kvs.length+1 - j) (zb:j<=kvs.length) (ze:V.le Y) (zt:Inv G f Y l hp M ow m s) (h4_:(D,oi)∈Y.fz) (h5_:oi.cls= .type "dict_keyiterator") (h6_:oi.data=NQ d0 j kvs.length ep) (h7_:ev ((kvs.map fun p=> AV.int p.1).drop j) ⟨l,hp⟩=Z)
theorem Vp{hp:Hp}{a:AV}{xs:List AV}(h:keysOf hp a=some xs):∃i es,a= .ref i/\hp.f i= .A4 es/\Df (.int 0) es=true/\xs=es.map (·.1):=by
 refine AY h fun i h1 h=> ?_;refine AY h fun es h2 h=> ?_;by_cases q:Df (.int 0) es=true
 . rw [if_pos q]at h;cases h;exact⟨i,es,Ig h1,M8 h2,q,rfl⟩
 . rw [if_neg q]at h;cases h
theorem jk{x:N}{zJ pos:Pos}{e:Expr}{b:List Stmt}{ev:St->Out AV}{eb:St->Out Flow}(O:AP G f){d:Nat}(HA:Bx f d A)(hl:f.cs.names.lookup (nm x)=some .local)
 (hs:Kf e=true) (he:AW G f A X (eval e f.env) ev) (hb:FK G f A (execs b f.env) eb):
 A6 G f A X (exec (.For (.Name (nm x) zJ) e b [] pos) f.env) fun s=> ((ev s).bind fun v s=> AR (keysOf s.hp v) fun xs=> Out.ok xs s).bind fun xs s=> B1 (putN x) eb xs s:=fun W l hp M ow m s Z eR I ne=> by
 replace eR:=(bind_assoc _ _ _).symm.trans eR;refine wpAny_For (Au eR W.le_rfl (fun q=> he W l hp M ow m s _ rfl I q) ne fun a σ V M ow m u s₁ eR h1 h2 I hu ne=> ?_) (QO hs);clear h2;refine cps fun yv yt=> ?_;obtain⟨xs,h3,eR⟩:=Hl eR ne;obtain⟨i,es,rfl,hf,hk,rfl⟩:=Vp h3;replace eR:B1 (putN x) eb (es.map (·.1)) σ=Z:=eR;obtain⟨rfl,hi⟩:=I.lt hu;obtain⟨o,q1,q2,q3,q4,q5⟩:=I.Hn hi hf;rcases P2 (k:=.int 0) q4 rfl hk with⟨_,kvs,_,g1,g2⟩ |⟨_,_,hz,_⟩
 . rw [g2.keys]at eR;obtain⟨ep,zO⟩:=(vM.mpr ⟨o,I.mem q1,g1⟩:s₁.heap.DictOf (vC G.prog G.w) (V.r i) kvs).dictAt;have AB4:∀h:Heap,h.get? (V.r i)=some o->h.DictAt (vC G.prog G.w) (V.r i) kvs ep:=by
    obtain⟨o',zg,z1,z2⟩:=zO;have:o'=o:=by rw [I.mem q1]at z1;exact(uR z1).symm
    subst this;exact fun h hh=> ⟨o',zg,hh,z2⟩
   refine yt ?_;refine wpAny_pyIter_dict q3 zO ?_;obtain⟨J,ap⟩:=I.QP {cls:=.type "dict_keyiterator",data:=NQ (V.r i) 0 kvs.length ep} rfl;clear zO I hu g1 g2 q4;change codeAny (mo G) A (.forLoop _ (.ref s₁.heap.objs.size) b [] f.env) _ {s₁ with heap:=s₁.heap.push {cls:=.type "dict_keyiterator",data:=NQ (V.r i) 0 kvs.length ep}};generalize{s₁ with heap:=s₁.heap.push {cls:=.type "dict_keyiterator",data:=NQ (V.r i) 0 kvs.length ep}}=s₂ at J⊢;generalize s₁.heap.objs.size=D at J ap⊢;generalize V.r i=d0 at AB4 q1 J;refine yE (jj G f V D d0 ep σ.hp M ow kvs (B1 (putN x) eb) Z) (fun n s hI=> ?_) (kvs.length+1)
    ⟨0,_,_,_,_,rfl,uO _,V.Cr _,J,uK _ (.head _),rfl,rfl,eR⟩
   clear eR J;obtain⟨j,Y,l,m,oi,hn,hj,hY,I,hD,zf,hid,eR⟩:=hI;have gD:=(I.nw _ (uC _ hD)).1;have gd:=AB4 s.heap (I.mem q1);have nd:¬D6 oi:=Fm zf (by decide) (by decide) (by decide);cases hx2:kvs[j]? with
   |none=> refine wpAny_pyNext_dict_end HA.hd ⟨oi,gD,zf,hid⟩ gd hx2 fun h' hs'=> ?_;rw [wD (by simpa using hx2)]at eR;exact vG ((I.QM (tk:=s.toks) hD nd hs').F eR (h1.trans (Wd.Il hY ap)) trivial)
   |some kv=>
    obtain⟨k,v⟩:=kv;refine wpAny_pyNext_dict_item ⟨oi,gD,zf,hid⟩ gd hx2 fun key h' AAa hit hs'=> ?_;obtain⟨t,rfl⟩:=Vo AAa;obtain⟨oi',zT,AAk,AAl⟩:=hit;have J:=I.VK (tk:=s.toks) hD nd hs' zT;obtain⟨hjl,e1⟩:=v8.mp hx2;rw [v9 (by simpa using hjl),List.getElem_map,e1]at eR;show wpAny (mo G) A (letOwnedTupleGo (.Name (nm x) zJ) (.ref D) (.int k t)) _ _ _;rw [LJ rfl];refine t4 (xR (GR (v:=.int k) (u:=.int k t) O.fn hl J ⟨t,rfl⟩ fun m' s' I'=> ?_));have eR:((eb ⟨put x (.int k) l,σ.hp⟩).bind fun f s=> _)=Z:=eR;exact hb _ _ _ _ _ _ _ _ _ _ rfl I' (CC (eR▸ne)) fun l₂ m₂ s₂ e2 I₂=>
     ⟨kvs.length+1 - (j+1),dec_lt hn hjl,j+1,_,l₂,m₂,oi',rfl,hjl,(Wd.Il hY ap).trans (Wd.Cr _ _),I₂,uK _ (.head _),AAk,AAl,(CD e2.symm).symm.trans eR⟩
 . cases hz
end
section
variable{G:Gx}{f:Fx}{A:tx}{X:XP}{P:Prog}
theorem Vq{n:tq}{T:String}{b:BI}{args:List Expr}{np pos:Pos}{ev:St->Out (List AV)}(O:AP G f)(hB:Built G f n (.type T))(hs:args.all noStar=true)(hl:Cs G f A X (evalEach args f.env) ev)
 (op:∀{W l hp M ow m s a u c U Z},Inv G f W l hp M ow m s->AK G.B W a u->GC hp b [a]=some c->Out.ok c ⟨l,hp⟩=Z->U.le W->Dj G f A X U (call (.type T) [u]) Z s):
 AW G f A X (eval (.Call (.Name n np) args [] pos) f.env) fun s=> (ev s).bind fun vs s=> AR (GC s.hp b vs) fun v=>.ok v s:=fun W l hp M ow m s Z eR I ne=> by
 refine vZ (Ib I O hB.no hB.val hB.ne ?_ hB.glob hB.nd);rw [D8 _ _ _ hs];refine xo (plain_any _) (FJ (Fh eR W.le_rfl (fun q=> hl W l hp M ow m s _ rfl I q) ne fun as σ V L ow m vs s' eR h1 h2 I hv ne=> ?_));obtain⟨c,h3,eR⟩:=BK eR ne;refine AY h3 fun a h4 h5=> ?_;rw [Hm h4]at hv;obtain⟨u,rfl,hu⟩:=Ik hv;exact op I hu h5 eR h1
theorem jm{W l hp M ow m s a u xs}(I:Inv G f W l hp M ow m s)(hu:AK G.B W a u)(h3:keysOf hp a=some xs):
 ∃i o kvs ep,u= .ref (W.r i)/\(W.r i,o)∈M/\(W.r i==sysModules)=false/\xs=(kvs.map fun p=> AV.int p.1)/\kvs.length<=lim/\s.heap.DictAt (vC G.prog G.w) (W.r i) kvs ep:=by
 refine cps fun yv yt=> ?_;obtain⟨i,es,rfl,hf,hk,rfl⟩:=Vp h3;obtain⟨rfl,hi⟩:=I.lt hu;obtain⟨o,q1,q2,q3,q4,q5⟩:=I.Hn hi hf;refine yt ?_;rcases P2 (k:=.int 0) q4 rfl hk with⟨_,kvs,_,g1,g2⟩ |⟨_,_,hz,_⟩
 . obtain⟨ep,zO⟩:=(vM.mpr ⟨o,I.mem q1,g1⟩:s.heap.DictOf (vC G.prog G.w) (W.r i) kvs).dictAt;exact⟨i,o,kvs,ep,rfl,q1,q3,g2.keys,g2.len▸q5,zO⟩
 . cases hz
theorem jo{prog:uQ}{w:uS}{B:Heap}{W:Wd}:∀{kvs:List (Int×R5)} {ws:List R5},ws.length=kvs.length->(∀(j:Nat) (v:R5),ws[j]? =some v->∃(k:Int) (x:R5),kvs[j]? =some (k,x)/\(vC prog w).is k v=true)->AX B W (kvs.map fun p=> AV.int p.1) ws:=by
 intro kvs
 induction kvs with
 |nil=>
  intro ws hl hw;cases ws with
  |nil=> trivial
  |cons _ _=> exact absurd hl nofun
 |cons p r ih=>
  intro ws hl hw;cases ws with
  |nil=> exact absurd hl nofun
  |cons w ws=> refine⟨?_,ih (Nat.succ.inj hl) fun j v hj=> hw (j+1) v hj⟩;obtain⟨k,x,h1,h2⟩:=hw 0 w rfl;rw [uR h1];exact Vo h2
theorem jq(O:AP G f){d:Nat}(HA:Bx f d A){W l hp M ow m s a u c U Z}(I:Inv G f W l hp M ow m s)(hu:AK G.B W a u)(e:GC hp .list [a]=some c)(eR:Out.ok c ⟨l,hp⟩=Z)(hU:U.le W):Dj G f A X U (call (.type "list") [u]) Z s:=by refine cps fun yv yt=> ?_;obtain⟨xs,h3,rfl⟩:=uF.mp (show(keysOf hp a).map .Ae=some c from e);obtain⟨i,o,kvs,ep,rfl,q1,q3,rfl,q5,zO⟩:=jm I hu h3;refine yt ?_;refine kdl_N (kdl_dict (knd:=vC G.prog G.w) (kvs:=kvs) (ep:=ep) q3) HA.hd I.fr I.nw zO (CF q5) fun D n h' tk ws F' N' lt hl hw=> ?_;refine cps fun zI yy=> ?_;obtain⟨V,z1,z2,z3⟩:=I.Jh (tk:=tk) F' N' lt (jo hl hw) (by rw [uL];exact q5);refine yy ?_;exact z2.V eR (hU.trans z1) z3
theorem jr(c:Nat)(h1:48<=c)(h2:c<=57):PySem.intText? (AJ [c])=some ((c:Int) - 48):=by
 have key:∀d:Fin 10,PySem.intText? (AJ [d.1+48])=some ((d.1:Nat):Int):=by decide+kernel
 have:=key ⟨c - 48,Nat.sub_lt_left_of_lt_add h1 (wq h2)⟩;rw [wk h1]at this;rw [this];exact congrArg some (Int.ofNat_sub h1)
theorem jt{W l hp M ow m s a u c U Z}(I:Inv G f W l hp M ow m s)(hu:AK G.B W a u)(e:GC hp .int [a]=some c)(eR:Out.ok c ⟨l,hp⟩=Z)(hU:U.le W):Dj G f A X U (call (.type "int") [u]) Z s:=by
 refine AY (show((Bl a).bind fun s=> (one s).bind fun c=> if 48<=c/\c<=57 then some (AV.int ((c:Int) - 48))else none)=some c from e) fun x h1 e=> ?_;refine AY e fun ch h2 e=> ?_;rw [DC h1,Hm h2]at hu;obtain⟨⟨t,rfl⟩,hs⟩:=hu;by_cases q:48<=ch/\ch<=57
 . rw [if_pos q]at e;cases e;exact KIN.call_text (jr ch q.1 q.2) (by rw [CL];show 1<=640;decide) ((I.tok _).V eR hU ⟨_,rfl⟩)
 . rw [if_neg q]at e;cases e
theorem ju(O:AP G f){pos:Pos}:AW G f A X (eval (.Dict [] [] pos) f.env) fun s=>.ok (.ref s.hp.n) ⟨s.loc,s.hp.add (.A4 [])⟩:=fun W l hp M ow m s Z eR I ne=> by refine newDict_K I.fr I.nw O.T.nolimit fun D h' o F' N' lt lo a _ b _=> ?_;have g:=hp.MQ (.A4 []);have e1:(W.add hp.n D).r hp.n=D:=if_pos rfl;exact(I.fresh (tk:=s.toks) F' N' lt g ⟨o,e1.symm▸ .head _,e1.symm▸if_pos (.head _),e1.symm▸lo,.inl ⟨[],b,trivial⟩,uO _⟩).V eR (Wd.Hj D (I.hi.nl g)) ⟨congrArg vj e1.symm,.inr rfl⟩
def NR(B:Heap)(W:Wd):List (AV×AV)->List (R5×R5)->Prop
 | [],[]=> True
 |a::r,v::t=> AK B W a.1 v.1/\AK B W a.2 v.2/\NR B W r t
 |_,_=> False
def LO(kvs:List (Expr×Expr))(env:Env)(pos:Pos):List (Sem R5×Sem R5):=kvs.map fun p=> (eval p.1 env,do let x<-eval p.2 env;standAt pos;pure x)
inductive Vr(G:Gx)(f:Fx)(W:Wd)(r:Out (List (AV×AV)))(vs:List (R5×R5))(s:tm):Prop
 |mk (es:_) (σ:_) (W':_) (M:_) (ow:_) (m:_) (za:r= .ok es σ) (zb:W.le W') (ze:Inv G f W' σ.loc σ.hp M ow m s) (zt:NR G.B W' es vs)
def LP(G:Gx)(f:Fx)(A:tx)(X:XP)(kvs:List (Expr×Expr))(pos:Pos)(ev:St->Out (List (AV×AV))):Prop:=
 ∀W l hp M ow m s Z,ev ⟨l,hp⟩=Z->Inv G f W l hp M ow m s->Z≠ .bad->wpAny (mo G) A (evalPairs (LO kvs f.env pos)) (Vr G f W Z) (A9 X W Z) s
theorem Vt{β:Type}{U W:Wd}{s:tm}{t:Sem (List (R5×R5))}{r:Out (List (AV×AV))}{k:List (AV×AV)->St->Out β}{Z:Out β}{C:List (R5×R5)->tm->Prop}(eR:r.bind k=Z)(hU:U.le W)(h:r≠ .bad->wpAny (mo G) A t (Vr G f W r) (A9 X W r) s)(ne:Z≠ .bad)
 (next:∀a σ V L ow m v s',k a σ=Z->U.le V->W.le V->Inv G f V σ.loc σ.hp L ow m s'->NR G.B V a v->C v s'):wpAny (mo G) A t C (A9 X U Z) s:=
 uG (h (CC (eR▸ne))) (fun v s' ⟨a,σ,V,L,ow,m,h1,h2,h3,h4⟩=> next a σ V L ow m v s' ((CD h1).symm.trans eR) (hU.trans h2) h2 h3 h4) fun _ _ x=> FD eR hU x
theorem jv{pos:Pos}:LP G f A X [] pos fun s=>.ok [] s:=fun W l hp M ow m s Z eR I ne=> evalPairs_nil ⟨_,_,W,_,_,_,eR.symm,W.le_rfl,I,trivial⟩
theorem jw{ke ve:Expr}{kvs:List (Expr×Expr)}{pos:Pos}{k:AV}{ev:St->Out AV}{er:St->Out (List (AV×AV))}(hk:AW G f A X (eval ke f.env) fun s=>.ok k s)(hv:AW G f A X (eval ve f.env) ev)(hr:LP G f A X kvs pos er):
 LP G f A X ((ke,ve)::kvs) pos fun s=> (ev s).bind fun v s=> (er s).bind fun es s=>.ok ((k,v)::es) s:=fun W l hp M ow m s Z eR I ne=> by
 show wpAny (mo G) A (evalPairs ((eval ke f.env,do let x<-eval ve f.env;standAt pos;pure x)::LO kvs f.env pos)) _ _ _;exact evalPairs_cons (Au (r:=.ok k ⟨l,hp⟩) (k:=fun k s=> (ev s).bind fun v s=> (er s).bind fun es s=>.ok ((k,v)::es) s) eR W.le_rfl (fun q=> hk W l hp M ow m s _ rfl I q) ne fun k' σ0 V1 L1 ow1 m1 u s1 eR h1 _ I1 hu ne=>
  tu (Au eR h1 (fun q=> hv V1 _ _ L1 ow1 m1 s1 _ rfl I1 q) ne fun a σ V L ow m u2 s' eR h3 h4 I hu2 ne=> tu (uU (t4
   (Vt eR h3 (fun q=> hr V σ.loc σ.hp L ow m s' _ rfl I q) ne fun es σ2 V2 L2 ow2 m2 vs zH eR h5 h6 I2 hR=> ⟨_,_,V2,_,_,_,eR.symm,h5,I2,hu.mono (h4.trans h6),hu2.mono h6,hR⟩)))))
theorem Vu(O:AP G f){W:Wd}{l:List (N×AV)}{ow:Addr->Nat}{m:tq->Option R5}{i:Nat}{Q:PUnit->tm->Prop}{E:R5->tm->Prop}:∀{es:List (AV×AV)} {vs:List (R5×R5)} {hp yu:Hp} {M:Led} {s:tm},Inv G f W l hp M ow m s->hp.lv i->NR G.B W es vs->KX hp i es=some yu->
 (∀M' s',Inv G f W l yu M' ow m s'->Q PUnit.unit s')->wpAny (mo G) A (forIn vs PUnit.unit fun(x:R5×R5) (_:PUnit)=> (do dictSet (W.r i) x.1 x.2;pure (ForInStep.yield PUnit.unit):Sem (ForInStep PUnit))) Q E s
 | [],[],hp,yu,M,s,I,hi,R,e,h=> by cases e;rw [List.forIn_nil];exact t4 (h _ _ I)
 |(k,a)::es,(v,x)::vs,hp,yu,M,s,I,hi,R,e,h=> by obtain⟨R1,R2,R3⟩:=R;refine AY e fun hp1 e1 e2=> ?_;rw [wO];exact tu (tu (fq O I hi R1 R2 e1 fun M' s' I' hn=> t4 (Vu O I' (hn▸hi) R3 e2 h)))
 | [],_::_,_,_,_,_,_,_,R,_,_=> R.elim
 |_::_,[],_,_,_,_,_,_,R,_,_=> R.elim
theorem jx(O:AP G f){W:Wd}{l:List (N×AV)}{hp:Hp}{M:Led}{ow:Addr->Nat}{m:tq->Option R5}{s:tm}{Q:Addr->tm->Prop}{E:R5->tm->Prop}(I:Inv G f W l hp M ow m s)
 (h:∀V M' zC s',W.le V->Inv G f V l (hp.add (.A4 [])) M' zC m s'->V.lv hp.n->Q (V.r hp.n) s'):wpAny (mo G) A (alloc {cls:=.type "dict",data:=.dict #[]}) Q E s:=by
 refine wpAny_alloc ?_;have F:=I.fr;have g:=hp.MQ (.A4 []);have F':=F.push {cls:=.type "dict",data:=.dict #[]};have N':=News.push F I.nw {cls:=.type "dict",data:=.dict #[]};have e1:(W.add hp.n s.heap.objs.size).r hp.n=s.heap.objs.size:=if_pos rfl;have lo:=F.notModules (modules_low O.T.nolimit);have hd:(({cls:=.type "dict",data:=.dict #[]}:Obj)).IsDictOf (vC G.prog G.w) []:=by obtain⟨o,ho,hd⟩:=vM.mp (Heap.DictOf.new (knd:=vC G.prog G.w) s.heap);rw [xK _ rfl]at ho;exact(uR ho)▸hd
 have lt:∀p∈M++W.fz,p.1<s.heap.objs.size:=fun p hp=> uf (I.nw p hp).1;have:=h (W.add hp.n s.heap.objs.size) _ _ _ (Wd.Hj _ (I.hi.nl g)) (I.fresh (tk:=s.toks) F' N' lt g ⟨_,by rw [e1];exact .head _,by rw [e1];exact if_pos (.head _),by rw [e1];exact lo,.inl ⟨[],hd,trivial⟩,uO _⟩) (.inr rfl);rw [e1]at this;exact this
theorem jy{kvs:List (Expr×Expr)}{pos:Pos}{ev:St->Out (List (AV×AV))}(O:AP G f)(hl:kvs.length<=15)(h0:kvs≠[])(hd:LP G f A X kvs pos ev):
 AW G f A X (eval (.Dict (kvs.map fun p=> some p.1) (kvs.map (·.2)) pos) f.env) fun s=> (ev ⟨s.loc,s.hp.add (.A4 [])⟩).bind fun es t=> AR (KX t.hp s.hp.n es) fun h=>.ok (.ref s.hp.n) ⟨t.loc,h⟩:=fun W l hp M ow m s Z eR I ne=> by
 have ACJ:(evalEachOpt (kvs.map fun p=> some p.1) f.env).zip ((evalEach (kvs.map (·.2)) f.env).map fun v=> do let x<-v;standAt pos;pure x)=(LO kvs f.env pos).map fun p=> (some p.1,p.2):=by
  clear ne hl h0 hd
  induction kvs with
  |nil=> rfl
  |cons p r ih=> exact congrArg ((some (eval p.1 f.env),do let x<-eval p.2 f.env;standAt pos;pure x)::·) ih
 have hlen:(LO kvs f.env pos).length=kvs.length:=by unfold LO;rw [uL]
 rw [arm_eval_Dict,ACJ,dictDisplay_pairs _ (by intro z;apply h0;have:=congrArg uY z;rw [hlen]at this;exact vn.mp this) (by exact A7 (uA (t7 hlen) hl))];refine tu (uU (tu ?_));unfold subDict;refine tu (jx O I fun V1 M1 ow1 s1 h1 I1 hi1=> tu (uE ?_));rw [if_pos (by exact AU (uA (t7 hlen) hl))];refine tu (Vt eR h1 (fun q=> hd V1 _ _ M1 ow1 m s1 _ rfl I1 q) ne fun es σ V2 M2 ow2 m2 vs s2 eR h2 yz I2 R=> ?_);obtain⟨h',e1,eR⟩:=BK eR ne;rw [<-yz.r _ hi1];have hi2:=yz.lv _ hi1;exact uE (tu (Vu O I2 (I2.hi.n▸hi2) R e1 fun M' s' I'=> t4 (t4 (t4 (I'.V eR h2 ⟨rfl,hi2⟩)))))
theorem Vv{β:Type}{U W:Wd}{s:tm}{t:Sem R5}{r:Out AV}{k:AV->St->Out β}{Z:Out β}{C:R5->tm->Prop}(eR:r.bind k=Z)(hU:U.le W)(h:r≠ .bad->Dj G f A X W t r s)(ne:Z≠ .bad)
 (next:∀a σ V L ow m v s',r= .ok a σ->k a σ=Z->U.le V->W.le V->Inv G f V σ.loc σ.hp L ow m s'->AK G.B V a v->C v s'):
 wpAny (mo G) A t C (A9 X U Z) s:=
 uG (h (CC (eR▸ne))) (fun v s' ⟨a,σ,V,L,ow,m,h1,h2,h3,h4⟩=> next a σ V L ow m v s' h1 ((CD h1).symm.trans eR) (hU.trans h2) h2 h3 h4) fun _ _ x=> FD eR hU x
theorem jz{e:Expr}{np sp pos:Pos}{ev:St->Out AV}(O:AP G f)(hB:Built G f "isinstance" (.builtin "isinstance"))(hS:Built G f "str" (.type "str"))(hs:noStar e=true)(he:AW G f A X (eval e f.env) ev):
 AW G f A X (eval (.Call (.Name "isinstance" np) [e,.Name "str" sp] [] pos) f.env) fun s=> (ev s).bind fun v s=> AR (Bl v) fun _=>.ok (.bool true) s:=fun W l hp M ow m s Z eR I ne=> by
 refine vZ (Ib I O hB.no hB.val hB.ne ?_ hB.glob hB.nd);rw [D8 _ _ _ (by rw [vH,hs];rfl)];refine wx (plain_any _) (FJ ?_);refine wW (Au eR W.le_rfl (fun q=> he W l hp M ow m s _ rfl I q) ne fun a σ V L ow m v s' eR h1 h2 I hv ne=> ?_);refine wW (Ib I O hS.no hS.val hS.ne (spliced_nil ?_) hS.glob hS.nd);obtain⟨x,h3,eR⟩:=BK eR ne;rw [DC h3]at hv;obtain⟨⟨t,rfl⟩,hx⟩:=hv;exact IsiPair.str_str (I.V eR h1 rfl)
structure QZ(G:Gx)(P:Prog):Prop where
 yes:∀d cl c,P.cls d=some cl->cl.exc=false->P.Cb.contains c=true->cl.mro.contains c=true->isIn G.K (.ref d) c=true
 no:∀d cl c,P.cls d=some cl->cl.exc=false->P.Cb.contains c=true->cl.mro.contains c=false->kin_not G.K d c=true
 fit:∀d cl,P.cls d=some cl->cl.exc=false->plainGet G.K d "__class__"=true/\hasDictIn G.K d=true/\findIn G.K (.ref d) "__class__"=some (some (.builtin "object.__class__"))/\mroIn G.K d (.type "object")=some true
 sp:specialIn G.K (.builtin "object.__class__") "__get__"=some (some (.builtin "getset_descriptor.__get__"))
 tk:takesIn G.K (.builtin "object.__class__")=some true
set_option tactic.hygienic true in
theorem j0{n:tq}{c:Nat}{e:Expr}{np cp pos:Pos}{ev:St->Out AV}(O:AP G f)(IS:QZ G P)(hB:Built G f "isinstance" (.builtin "isinstance"))(hs:noStar e=true)(he:AW G f A X (eval e f.env) ev)
 (hc:AW G f A X (eval (.Name n cp) f.env) fun s=>.ok (.cls c) s):
 AW G f A X (eval (.Call (.Name "isinstance" np) [e,.Name n cp] [] pos) f.env) fun s=> (ev s).bind fun v s=> AR (KZ P v c) fun b=>.ok (.bool b) s:=fun W l hp M ow m s Z eR I ne=> by
 refine vZ (Ib I O hB.no hB.val hB.ne ?_ hB.glob hB.nd);rw [D8 _ _ _ (by rw [vH,hs];rfl)];refine wx (plain_any _) (FJ ?_);refine wW (Au eR W.le_rfl (fun q=> he W l hp M ow m s _ rfl I q) ne fun a σ V L ow m v s' eR h1 h2 I hv ne=> ?_);obtain⟨b,h3,eR⟩:=BK eR ne;refine wW (Vv (r:=.ok (.cls c) σ) (k:=fun _ s=> Out.ok (AV.bool b) s) eR h1 (fun q=> hc V _ _ L ow m s' _ rfl I q) ne fun a' σ' V' L' zC m' u zH e0 eR h5 h5' I' hu=> spliced_nil ?_);cases e0;cases(hu:u= .ref c);have hv:=hv.mono h5';cases a<;>first |(cases h3;done) |skip
 rename_i d fs _;change(if P.Cb.contains c=true then(P.cls d).bind fun cl=> if cl.exc=true then none else some (cl.mro.contains c)else none)=some b at h3;by_cases hcs:P.Cb.contains c=true
 . rw [if_pos hcs]at h3;refine AY h3 fun cl g1 g2=> ?_;cases gx:cl.exc with
   |true=> rw [gx,if_pos rfl]at g2;cases g2
   |false=>
   rw [gx,if_neg vY]at g2;have g2:=uR g2;obtain⟨x,ox,es,k,rfl,H,F⟩:=I'.UJ O hv;cases b with
   |true=> exact isi_call (I'.X O) (fun M=> H.type) (IS.yes d cl c g1 gx hcs g2) (by intro z;cases z) (I'.V eR h5 rfl)
   |false=> obtain⟨f1,f2,f3,f4⟩:=IS.fit d cl g1 gx;exact kin_callC (I'.X O) H (IS.no d cl c g1 gx hcs g2) f1 f2 f3 IS.sp IS.tk f4 ((I'.tok _).V eR h5 rfl)
 . rw [if_neg hcs]at h3;cases h3
end
end Internal
section
set_option backward.match.sparseCases true
namespace Internal
variable{G:Gx}{f:Fx}{A:tx}{X:XP}{P:Prog}
section
open PySem.Builtin PySem.Builtin.Str
theorem j1{A:tx}{E:R5->tm->Prop}{s:tm}{prog:uQ}{w:uS}{b:Nat}{x:tq}{t:Tok}{Q:R5->tm->Prop}(h:∀t' k,Q (.str (vN x) t') {s with toks:=k})(hsz:(vN x).length<=sizeLine):
 wpAny (model prog w) A (pyReprObjUnder b (.str x t)) Q E s:=by
 unfold pyReprObjUnder pyReprObjBy;refine tu (t4 ?_);refine tu (wpAny_specialOf (name:=Str.ofString "__repr__") (vR s x t) xy.lookup ?_);refine tu (wpAny_callSpecialIfBoundBy?_slotG (name:=Str.ofString "__repr__") (vR s x t) xy.toG ?_);refine call_gives xy (vR s x t) PySem.F.entry_str_repr (PySem.F.args_str_repr_1 _) (PySem.gives_str_repr x t) ⟨hsz,?_⟩;exact tu (yL (T:="str") (b:=true) rfl isSubtype_str_str (t4 (h _ _)))
def j2:tq:=⟨#[102,111,117,110,100,32,99,104,97,114,97,99,116,101,114,32,37,114,32,116,104,97,116,32,99,97,110,110,111,116,32,115,116,97,114,116,32,97,110,121,32,116,111,107,101,110]⟩
abbrev Iq:=List R5×Writer×List Nat
theorem j3{prog:uQ}{w:uS}{A:tx}{E:R5->tm->Prop}{s:tm}{Q:Fin->tm->Prop}{x:tq}{u:Tok}{f:Nat->Iq->Sem (ForInStep Iq)}{g:Iq->Sem Fin}{b0 b1:Iq}{b2 b3:Iq}{bb:Nat}{X:Type}{K1:R5->Sem X}{K2:X->Sem (ForInStep Iq)}{z:Tok->X}
 (hsz:(vN x).length<=sizeLine) {l:List Nat}
 (e0:f 0 b0=pure (.yield b1)) (e1:f 1 b1=(pyReprObjUnder bb (.str x u) >>=K1) >>=K2) (e2:∀t',K1 (.str (vN x) t')=pure (z t')) (e3:∀t',K2 (z t')=pure (.yield b2)) (e4:f 2 b2=pure (.yield b3)) (e5:f 3 b3=pure (.done b3))
 (e6:∃y,g b3= .fresh fun k=>.pure (.done (.ret (.str y k))))
 (h:∀y t' k,Q (.done (.ret (.str y t'))) {s with toks:=k}):
 wpAny (model prog w) A (forIn (0::1::2::3::l) b0 f) (fun r s'=> wpAny (model prog w) A (g r) Q E s') E s:=by
 refine KPc.turn ?_;rw [e0];refine t4 (KPc.turn ?_);rw [e1];refine tu (tu (j1 (fun t' k=> ?_) hsz));rw [e2];refine t4 ?_;rw [e3];refine t4 (KPc.turn ?_);rw [e4];refine t4 (KPc.turn ?_);rw [e5];obtain(⟨y,e6⟩):=e6;refine t4 ?_;show wpAny _ _ (g b3) _ _ _;rw [e6];exact fun _ _ _=> h _ _ _
def Ju:List Nat:=[102,111,117,110,100,32,99,104,97,114,97,99,116,101,114,32,37,114,32,116,104,97,116,32,99,97,110,110,111,116,32,115,116,97,114,116,32,97,110,121,32,116,111,107,101,110]
def NS:Writer:=({}:Writer).add ⟨(Ju.take 16).toArray⟩ none
def Vw(x:tq):Writer:=NS.add x none
def Vx(x:tq):Writer:=(Vw x).add ⟨(Ju.drop 18).toArray⟩ none
def j4(o:R5):Sem (List Nat×Option R5×Bool):=asStr? o >>=fun s=> match s with
 |some s=> pure (s.cps.toList,some o,false)
 |_=> unsupported "internal:str.__mod__"
def j5(r:List Nat×Option R5×Bool):Sem (ForInStep Iq):=match percentField {type:=114} r.2.2 r.1 with
 |none=> pure (.yield ([],NS.add ⟨r.1.toArray⟩ none,Ju.drop 18))
 |some laid=> pure (.yield ([],NS.add ⟨laid.toArray⟩,Ju.drop 18))
theorem j6{A:tx}{c:Nat}(hc:c=37∨c=64∨c=96∨c=9){t u:Tok}{s:tm}{Q:R5->tm->Prop}{E:R5->tm->Prop}(h:∀x t' k,Q (.str x t') {s with toks:=k}):
 wpAny (mo G) A (binaryOp .Mod (.str (AJ Oq) t) (.str (AJ [c]) u)) Q E s:=by
 refine binaryOp_meets (T:="str") (op:=.Mod) (vR s j2 t) (vR s (AJ [c]) u) F.fills_str_mod F.slot_str_mod F.entry_str_mod (F.args_str_mod_2 _ _) (S:=fun _ R s=> ∀y t' k,R (.ok (.ret (.str y t'))) {s with toks:=k}) (Meets.of_wp fun prog w A _ s hS=> ?_) (fun y t' k=> ⟨(fun e=> nomatch e),h _ t' k⟩);rw [KPc.entry_is_s];unfold percentFormat;refine tu (yL (vR _ _ _) F.sub_str_tuple ?_);refine tu (wpAny_of_eq (a:=some _) rfl ?_);refine tu (KPc.wp_fills_str ?_);intro b;refine wpAny_ite (KPc.ite_no vY ?_);refine tu (t4 ?_);refine tu ?_;rw [KPc.range_list];refine j3 (l:=List.range' 4 42 1) (x:=AJ [c]) (u:=u) (b1:=([.str (AJ [c]) u],NS,Ju.drop 16)) (b2:=([],Vw (vN (AJ [c])),Ju.drop 18)) (b3:=([],Vx (vN (AJ [c])),[])) (K1:=j4) (K2:=j5) (z:=fun t'=> ((vN (AJ [c])).cps.toList,some (.str (vN (AJ [c])) t'),false)) (bb:=16) ?h0 ?e0 ?e1 ?e2 ?e3 ?e4 ?e5 ?e6 ?h1
 case h0=> rcases hc with rfl |rfl |rfl |rfl<;>decide+kernel
 case h1=> exact fun y t k=> ⟨_,rfl,hS y t k⟩
 case e0=> kernel_rfl
 case e1=> kernel_rfl
 case e2=> exact fun _=> rfl
 case e3=> intro t';rcases hc with rfl |rfl |rfl |rfl<;>kernel_rfl
 case e4=> rcases hc with rfl |rfl |rfl |rfl<;>kernel_rfl
 case e5=> rcases hc with rfl |rfl |rfl |rfl<;>kernel_rfl
 case e6=> refine⟨(Vx (vN (AJ [c]))).text,?_⟩;rcases hc with rfl |rfl |rfl |rfl<;>kernel_rfl
end
theorem j7{l r:Expr}{pos:Pos}{env:Env}{el er:St->Out AV}(hl:AW G f A X (eval l env) el)(hr:AW G f A X (eval r env) er):
 AW G f A X (eval (.BinOp l .Mod r pos) env) fun s=> (el s).bind fun a s=> (er s).bind fun b s=> AR (Ot a b) fun v=>.ok v s:=fun W lo hp M ow m s Z eR I ne=> by
 refine wpAny_BinOp (Au eR W.le_rfl (fun h=> hl W lo hp M ow m s _ rfl I h) ne fun a σ V L ow m v s' eR h1 h2 I hv ne=> ?_);refine Au eR h1 (fun h=> hr V _ _ L ow m s' _ rfl I h) ne fun b σ' V' L ow m v' s' eR h1 h2 I zd ne=> ?_;obtain⟨c,h3,eR⟩:=BK eR ne;refine AY h3 fun g g1 h3=> ?_;refine AY h3 fun y g2 h3=> ?_;refine AY h3 fun d g3 h3=> ?_;by_cases q:g=Oq/\(d=37∨d=64∨d=96∨d=9)
 . rw [if_pos q]at h3;cases h3;rw [DC g1]at hv;rw [DC g2,Hm g3]at zd;obtain⟨⟨t,rfl⟩,_⟩:=hv;obtain⟨⟨t',rfl⟩,_⟩:=zd;rw [q.1];exact j6 q.2 fun x t' k=> (I.tok _).V eR h1 ⟨_,_,rfl⟩
 . rw [if_neg q]at h3;cases h3
end Internal
end
namespace Internal
section
variable{G:Gx}{f:Fx}{A:tx}{X:XP}{P:Prog}
def Wd.cut(W:Wd)(n:Nat->Prop)(L:Led):Wd:=⟨W.r,n,L++W.fz⟩
theorem Qa{B:Heap}{W:Wd}{n:Nat->Prop}{L:Led}:Wd.To B W (W.cut n L) n:=⟨fun _ _ _ h=> h.imp (fun h=> uC _ h) id,fun _ h=> ⟨rfl,h⟩⟩
theorem AK.cut{B:Heap}{W:Wd}{n:Nat->Prop}{L:Led}{x:AV}{v:R5}(r:AK B W x v)(h:Es n x):AK B (W.cut n L) x v:=r.gen Qa h
theorem A5.cut{B:Heap}{W:Wd}{n:Nat->Prop}{L:Led}{x:List (N×AV)}{v:List uP}(r:A5 B W x v)(h:G6 n x):A5 B (W.cut n L) x v:=r.gen Qa h
section
variable{W:Wd}{l:List (N×AV)}{hp:Hp}{M:Led}{ow:Addr->Nat}{m:tq->Option R5}{s:tm}
theorem Inv.oLt(I:Inv G f W l hp M ow m s){i:Nat}(hi:hp.lv i):oLt hp.lv (hp.f i):=I.hi.n▸(I.hi.cell i hi).lt'
theorem Inv.cut{yu:Hp}{k:Nat}(I:Inv G f W l yu M ow m s)(hn:yu.lv=fun j=> hp.lv j∨j=k)(nl:¬hp.lv k)(hf:∀i,hp.lv i->yu.f i=hp.f i){c:Nat}{r:List (N×AV)}(hc:yu.f k= .ins c r)
 (bl:∀x a,look x l=some a->Es hp.lv a) (bc:∀i,hp.lv i->Internal.oLt hp.lv (hp.f i)) (br:G6 hp.lv r):
 ∃L M',Inv G f (W.cut hp.lv L) l hp M' ow m s/\AK G.B (W.cut hp.lv L) (.obj c r) (.ref (W.r k)):=by
 have AA0:=I.hi.cell k (by rw [hn];exact .inr rfl);rw [hc]at AA0;obtain⟨dx,es,kk,h1,h2,h3,h4,h5⟩:=AA0;let L:Led:=[(W.r k,instObj c dx),(dx,dictOf es kk)];let M':Led:=M.filter fun p=> !(ow p.1==k);have mk:∀{p:Addr×Obj},p∈M->ow p.1≠k->p∈M':=fun h ne=> w4.mpr ⟨h,by simpa using ne⟩;have un:∀{p:Addr×Obj},p∈M'->p∈M/\ow p.1≠k:=fun h=> ⟨(w4.mp h).1,by simpa using(w4.mp h).2⟩;have Lo:∀p∈L,p∈M/\ow p.1=k:=fun p hp=> by
  rcases uI.mp hp with rfl |hp
  . exact⟨h1,h2⟩
  . rcases uI.mp hp with rfl |hp
    . exact⟨h3,h4⟩
    . cases hp
 refine⟨L,M',⟨I.fr,fun p yu=> ?_,⟨rfl,?_,fun p yu q hq=> ?_,fun j hj=> ?_⟩,fun x a e=> ?_,I.gn,I.os⟩,?_⟩
 . rcases uN.mp yu with h |h
   . exact I.nw _ (uK _ (un h).1)
   . rcases uN.mp h with h |h
     . exact I.nw _ (uK _ (Lo p h).1)
     . exact I.nw _ (uC _ h)
 . exact(I.hi.nd.sublist (List.Sublist.map _ List.filter_sublist))
 . rcases uN.mp yu with h |h
   . intro e;exact(un hq).2 (e▸(Lo p h).2)
   . exact I.hi.dj p h q (un hq).1
 . have hj':yu.lv j:=by rw [hn];exact .inl hj
   have r:=I.hi.cell j hj';rw [hf j hj]at r;have jn:j≠k:=fun e=> nl (e▸hj);exact r.gen Qa rfl (fun p hp h=> ⟨mk hp fun z=> jn (h.symm.trans z),h⟩) (bc j hj)
 . obtain⟨v,h1,h2⟩:=I.lr x a e;exact⟨v,h1,h2.cut (bl x a e)⟩
 . exact⟨W.r k,instObj c dx,dx,es,kk,rfl,.inl (uK _ (.head _)),rfl,rfl,rfl,.inl (uK _ (.tail _ (.head _))),h5.cut br⟩
theorem Inv.Es(I:Inv G f W l hp M ow m s){x:N}{a:AV}(e:look x l=some a):Internal.Es hp.lv a:=by obtain⟨v,_,h⟩:=I.lr x a e;exact I.hi.n▸h.lt'
end
theorem Qb{α:Type}{x:N}{v:α}:∀{l:List (N×α)},look x l=none->put x v l=l++[(x,v)]
 | []=>@fun _=> rfl
 |(y,w)::r=>@fun h=> by
  unfold look at h;split at h
  . cases h
  . rename_i ne;unfold put;rw [if_neg ne,Qb h];rfl
theorem Qc{α:Type}{x:N}:∀{l r:List (N×α)},look x l=none->look x r=none->look x (l++r)=none
 | [],_,_,h=> h
 |(y,w)::l,r,h,h'=> by
  unfold look at h;split at h
  . cases h
  . rename_i ne;show(if y=x then some w else look x (l++r))=none;rw [if_neg ne];exact Qc h h'
theorem j8{fu:Nat}{cf:Nat->List AV->List (N×AV)->Hp->COut}{cl:Cl}{c n:Nat}{loc:List (N×AV)}(hc:P.cls c=some cl)(he:cl.exc=false)(hs:look .self loc=some (.ref n)){x p:N}{v:AV}{fs0:List (N×AV)}{hp:Hp}(hv:look p loc=some v)(hn:hp.f n= .ins c fs0)
 (hF:cl.fields.contains x=true) (hx:look x fs0=none) (hz:fs0.length<100):Az P fu cf (.asg (.AF (.var .self) x) (.var p)) ⟨loc,hp⟩= .ok .next ⟨loc,hp.set n (.ins c (fs0++[(x,v)]))⟩:=by
 have c1:setAt P hp (.ref n) x v=some (hp.set n (.ins c (fs0++[(x,v)]))):=by show((KU (hp.f n)).bind fun p=> (P.cls p.1).bind fun cl=> if(cl.fields.contains x&& !cl.exc&&decide (p.2.length<100))=true then some (hp.set n (.ins p.1 (put x v p.2)))else none)=_;rw [hn];show((P.cls c).bind fun cl=> if(cl.fields.contains x&& !cl.exc&&decide (fs0.length<100))=true then some (hp.set n (.ins c (put x v fs0)))else none)=_;rw [hc];show(if(cl.fields.contains x&& !cl.exc&&decide (fs0.length<100))=true then some (hp.set n (.ins c (put x v fs0)))else none)=_;rw [hF,he,decide_eq_true hz,Qb hx];rfl
 show((AR (look p loc) fun v=> Out.ok v (⟨loc,hp⟩:St)).bind fun v s=> ((AR (look .self s.loc) fun v=> Out.ok v s).bind fun o s=> AR (setAt P s.hp o x v) fun h=> Out.ok () ⟨s.loc,h⟩).bind fun _ s=> Out.ok Flow.next s)=_;rw [hv];show((AR (look .self loc) fun v=> Out.ok v (⟨loc,hp⟩:St)).bind fun o s=> AR (setAt P s.hp o x v) fun h=> Out.ok () (⟨s.loc,h⟩:St)).bind (fun _ s=> Out.ok Flow.next s)=_;rw [hs];show(AR (setAt P hp (.ref n) x v) fun h=> Out.ok () (⟨loc,h⟩:St)).bind (fun _ s=> Out.ok Flow.next s)=_;rw [c1];rfl
theorem Vy{fu:Nat}{cf:Nat->List AV->List (N×AV)->Hp->COut}{cl:Cl}{c n:Nat}{loc:List (N×AV)}(hc:P.cls c=some cl)(he:cl.exc=false)(hs:look .self loc=some (.ref n)):
 ∀{fs:List (N×N)} {fs0 r:List (N×AV)} {hp:Hp},E8 loc fs=some r->hp.lv n->hp.f n= .ins c fs0->(∀p∈fs,cl.fields.contains p.1=true)->(fs.map (·.1)).Nodup->(∀p∈fs,look p.1 fs0=none)->fs0.length+fs.length<100->
  AN P fu cf (Dt fs) ⟨loc,hp⟩= .ok .next ⟨loc,hp.set n (.ins c (fs0++r))⟩
 | [],fs0,r,hp,e,_,hn,_,_,_,_=> by cases e;rw [uD,Hp.Z7 hn];rfl
 |(x,p)::fs,fs0,r,hp,e,lv,hn,hF,nd,hl,hz=> by
  refine AY e fun v hv e=> ?_;obtain⟨r',e1,rfl⟩:=uF.mp e;rw [ud,vF]at nd;have zS:fs0.length+(fs.length+1)<100:=hz;have step:=j8 (fu:=fu) (cf:=cf) hc he hs hv hn (hF (x,p) (.head _)) (hl (x,p) (.head _)) (by exact A7 zS);refine(CD (k:=fun f s=> match f with
   | .next=> AN P fu cf (Dt fs) s
   | .brk=>.ok .brk s
   | .cont=>.ok .cont s
   | .ret v=>.ok (.ret v) s) step).trans ?_
  show AN P fu cf (Dt fs) ⟨loc,hp.set n (.ins c (fs0++[(x,v)]))⟩=_;rw [Vy hc he hs (fs0:=fs0++[(x,v)]) e1 (by rw [hp.Ke];exact lv) ((Hp.MP _ lv n).trans (if_pos rfl)) (fun q hq=> hF q (.tail _ hq)) nd.2 (fun q hq=> Qc (hl q (.tail _ hq)) ?_) (by rw [t9];show fs0.length+1+fs.length<100;exact A7 zS),Hp.set_set,t8]
  . rfl
  . show(if x=q.1 then some v else none)=none;rw [if_neg];intro z;exact nd.1 (by show x∈fs.map (·.1);rw [z];exact vX (f:=fun(p:N×N)=> p.1) hq)
end
section
variable{G:Gx}{f:Fx}{A:tx}{X:XP}{P:Prog}
structure Jv(G:Gx)(P:Prog):Prop where
 j9:∀a fn,P.fns a=some fn->keepIn G.K (.ref a)=true
 kA:∀c cl,P.cls c=some cl->cl.exc=false->keepIn G.K (.ref c)=true
 make:∀c cl,P.cls c=some cl->cl.exc=false->makesIn G.K c=true
 BY:∀c cl fi fs,P.cls c=some cl->cl.exc=false->cl.init= .BY fi fs->findIn G.K (.ref c) "__init__"=some (some (.ref fi))/\typeIn G.K (.ref fi)=some (.type "function")/\
  ∃fn ps,P.fns fi=some fn/\fn.body=Dt fs/\fn.ps= .self::ps/\(∀p∈fs,cl.fields.contains p.1=true)/\(fs.map (·.1)).Nodup/\fs.length<100/\(∀p∈fs,p.2≠ .self)
 run:∀c cl i,P.cls c=some cl->cl.exc=false->cl.init= .run i->findIn G.K (.ref c) "__init__"=some (some (.ref i))/\typeIn G.K (.ref i)=some (.type "function")
section
variable{W:Wd}{l:List (N×AV)}{hp:Hp}{M:Led}{ow:Addr->Nat}{m:tq->Option R5}{s:tm}
theorem Inv.Vz(I:Inv G f W l hp M ow m s){h':Heap}{tk:Nat}{x dx:Addr}{c:Nat}(F':Fr f.g f.L h' m)(N':News f.g f.L h' ((x,instObj c dx)::(dx,emptyDict)::(M++W.fz)))(lt:∀p∈M++W.fz,p.1<dx)(lx:dx<x){yu:Hp}{k:Nat}(g:hp.ET yu k (.ins c [])):
 ∃M' zC,Inv G f (W.add k x) l yu M' zC m ⟨h',s.gens,s.drawn,tk,s.os⟩:=by
 have e1:(W.add k x).r k=x:=if_pos rfl;have nd:([(x,instObj c dx),(dx,emptyDict)]:Led).map (·.1)=[x,dx]:=rfl;refine⟨[(x,instObj c dx),(dx,emptyDict)]++M,K7 ow k [x,dx],F',N',I.hi.add (N:=[(x,instObj c dx),(dx,emptyDict)]) g ?_ (fun p yu q hq=> ?_) ?_,I.lr.mono (Wd.Hj _ (I.hi.nl g)),I.gn,I.os⟩
 . rw [nd];simp;exact vD lx
 . rcases uI.mp yu with rfl |yu
   . exact vD (Nat.lt_trans (lt q hq) lx)
   . rcases uI.mp yu with rfl |yu
     . exact vD (lt q hq)
     . cases yu
 . refine⟨dx,[],0,?_,?_,.tail _ (.head _),if_pos (.tail _ (.head _)),trivial⟩
   . rw [e1];exact .head _
   . rw [e1];exact if_pos (.head _)
end
theorem Qd{n:Nat->Prop}:∀{xs:List AV},IZ n xs->∀x∈xs,Es n x
 |_::_,h,x,hx=> by
  rcases uI.mp hx with rfl |hx
  . exact h.1
  . exact Qd h.2 x hx
theorem V0{x:N}{v:AV}:∀{l:List (N×AV)},look x l=some v->v∈l.map (·.2)
 |(y,w)::r,h=> by
  rw [Gn]at h;by_cases q:y=x
  . rw [if_pos q]at h;cases h;exact .head _
  . rw [if_neg q]at h;exact .tail _ (V0 h)
theorem Qe{BH:List (N×AV)}:∀{ps:List N} {as:List AV} {loc:List (N×AV)} {x:N} {v:AV},ER ps as BH=some loc->look x loc=some v->v∈as∨v∈BH.map (·.2)
 | [],[],loc,x,v,e,h=> by cases e;cases h
 | [],_::_,_,_,_,e,_=> by cases e
 |p::ps,a::as,loc,x,v,e,h=> by
  obtain⟨AAM,e1,rfl⟩:=uF.mp e;rw [Gn]at h;by_cases q:p=x
  . rw [if_pos q]at h;cases h;exact .inl (.head _)
  . rw [if_neg q]at h;exact(Qe e1 h).imp (fun h=>.tail _ h) id
 |p::ps,[],loc,x,v,e,h=> by
  refine AY e fun u hu e=> ?_;obtain⟨AAM,e1,rfl⟩:=uF.mp e;rw [Gn]at h;by_cases q:p=x
  . rw [if_pos q]at h;cases h;exact .inr (V0 hu)
  . rw [if_neg q]at h;exact Qe e1 h
theorem V3{n:Nat->Prop}{loc:List (N×AV)}(hl:∀x v,x≠ .self->look x loc=some v->Es n v):∀{fs:List (N×N)} {r:List (N×AV)},E8 loc fs=some r->(∀p∈fs,p.2≠ .self)->G6 n r
 | [],r,e,_=> by cases e;trivial
 |(x,p)::fs,r,e,h=> by refine AY e fun v hv e=> ?_;obtain⟨r',e1,rfl⟩:=uF.mp e;exact⟨hl p v (h (x,p) (.head _)) hv,V3 hl e1 fun q hq=> h q (.tail _ hq)⟩
def NT(G:Gx)(P:Prog):Prop:=∀c cl fi fs fn,P.cls c=some cl->cl.exc=false->cl.init= .BY fi fs->P.fns fi=some fn->∃qual scope body zB cl',FnShape G fi fn qual scope body zB cl'/\
 ∀f' A' X',f'.cs=scope->f'.cl=cl'->AP G f'->Bx f' 0 A'->A6 G f' A' X' (execs body f'.env) fun s=> AN P 0 (fun _ _ _ _=>.bad) fn.body s
theorem kB{ps:List N}{a:AV}{as zE:List AV}{ks:List (N×AV)}(e:JL ps (a::as) ks=some zE):∃t,zE=a::t/\∀x∈t,x∈as∨x∈ks.map (·.2):=
 QH e (fun _ e=> ⟨as,e,fun x h=>.inl h⟩) fun n v e1 _ e=> ⟨as++[v],e,fun x h=> (uN.mp h).imp id fun h=> by rw [e1];exact h⟩
theorem V4{B:Heap}{W:Wd}:∀{ks:List (N×AV)} {kv:List (tq×R5)},EA B W ks kv->∀x∈ks.map (·.2),Es W.lv x
 |(n,a)::r,(y,v)::t,h,x,hx=> by
  rcases uI.mp hx with rfl |hx
  . exact h.2.1.lt'
  . exact V4 h.2.2 x hx
 | [],_,_,x,hx=> by cases hx
 |_::_,[],h,_,_=> h.elim
section
variable{W:Wd}{l:List (N×AV)}{hp:Hp}{M:Led}{ow:Addr->Nat}{m:tq->Option R5}{s:tm}
theorem Ir{α:Type}{r:Option α}{k:α->COut}{Z:COut}(h:GD r k=Z)(ne:Z≠ .bad):UD r k Z:=by
 cases r with
 |none=> exact absurd h.symm ne
 |some a=> exact⟨a,rfl,h⟩
variable{cf:Nat->List AV->List (N×AV)->Hp->COut}{d c:Nat}{cl:Cl}{as:List AV}{vs:List R5}{ks:List (N×AV)}{kv:List (tq×R5)}{R:Result->tm->Prop}
theorem kC{fn:Fn}{i:Nat}{ps:List N}{loc:List (N×AV)}(g5:fn.ps= .self::ps)(hb:FV fn (.ref i::as) ks=some loc):
 look .self loc=some (.ref i)/\∀y v,y≠ .self->look y loc=some v->v∈as∨v∈ks.map (·.2)∨v∈fn.BH.map (·.2):=by
 refine cps fun yv yt=> ?_;obtain⟨zE,hk,_,hb⟩:=QG hb;obtain⟨t,rfl,ht⟩:=kB hk;rw [g5]at hb;obtain⟨AAM,hb',rfl⟩:=uF.mp hb;refine yt ?_;refine⟨if_pos rfl,fun y v hy hv=> ?_⟩;rw [Gn]at hv;rw [if_neg (vK hy)]at hv;rcases Qe hb' hv with h |h
 . exact(ht v h).imp id .inl
 . exact .inr (.inr h)
theorem V5{B:Heap}{W:Wd}{x:Addr}{k:Nat}:AK B (W.add k x) (.ref k) (.ref x):=⟨congrArg vj (if_pos rfl).symm,.inr rfl⟩
theorem kD(C:Ck G P)(MK:Jv G P)(RS:NT G P)(O:AP G f)(HA:Bx f (d+1) A)(I:Inv G f W l hp M ow m s){fi:Nat}{fs:List (N×N)}{r:List (N×AV)}(hc:P.cls c=some cl)(he:cl.exc=false)(hi:cl.init= .BY fi fs)
 (R0:AX G.B W as vs) (K0:EA G.B W ks kv) (hr:JM P cl (.ref hp.n) as ks=some r) (ret:∀v s',Jo G f W l m (.ok (.obj c r) hp) v s'->R (.ok (.ret v)) s'):codeAny (mo G) A (.call (.ref c) ⟨vs,kv⟩) R s:=by
 have hN:=I.hi.n;obtain⟨g1,g2,fn,ps,g3,g4,g5,g6,g7,g8,g9⟩:=MK.BY c cl fi fs hc he hi;unfold JM at hr;rw [hi]at hr;refine AY hr fun fn' g3' hr=> ?_;cases g3.symm.trans g3';refine AY hr fun loc hb hr=> ?_;obtain⟨qual,scope,body,zB,cl',S,SB⟩:=RS c cl fi fs fn hc he hi g3;refine make_K I.fr I.nw (I.X O) (MK.make c cl hc he) g1 g2 fun x dx h' F' N' lt1 lt2=> ?_;have g:=hp.MQ (.ins c []);have le:=Wd.Hj x (I.hi.nl g);obtain⟨M1,ow1,I1⟩:=I.Vz (tk:=s.toks) F' N' lt1 lt2 g;have hx:=V5 (B:=G.B) (W:=W) (x:=x) (k:=hp.n);obtain⟨AAo,z9⟩:=kC g5 hb;have AB5:=Vy (P:=P) (fu:=0) (cf:=fun _ _ _ _=>.bad) (c:=c) (n:=hp.n) (loc:=loc) hc he AAo (fs:=fs) (fs0:=[]) (r:=r) (hp:=hp.add (.ins c [])) hr g.O0 g.at g6 g7 (fun _ _=> rfl) (uv _▸g8);rw [<-g4]at AB5;have br:G6 hp.lv r:=V3 (fun y v hy hv=> hN▸(z9 y v hy hv).elim (fun h=> Qd R0.lt' v h) fun h=> h.elim (fun h=> V4 K0 v h) fun h=> by obtain⟨_,_,_,_,_,_,_,_,_,_,_,dv,_,_,_,_,_,_,_,D,_,_⟩:=S.ex;exact Qd (D W).lt' v h) hr g9
 refine VD (X':=fun _ _ _ _ _ _ _=> False) (r:=.ok .next ⟨loc,(hp.add (.ins c [])).set hp.n (.ins c ([]++r))⟩) (as:=.ref hp.n::as) (vs:=.ref x::vs) S O ((HA.less (u6 (uO d))).type c vs kv) I1 ⟨hx,R0.mono le⟩ (K0.mono le) hb
  (fun f' m' s' q0 q1 q2 q3 qa qb q4 q5 q6=> w8 (SB f' _ _ q1 q3 q4 q5 _ _ _ _ _ _ _ _ AB5 q6 (fun z=> by cases(z)))) (fun v s' hv=> ?_) (fun f' e s' q1 _ _ q2 q3=> ?_)
 . obtain⟨a',hp2,W',M',zC,z1,z2,z3,z4⟩:=hv;cases(z1);have hf2:∀i,hp.lv i->((hp.add (.ins c [])).set hp.n (.ins c ([]++r))).f i=hp.f i:=fun i hi=> ((Hp.MP _ g.O0 i).trans (if_neg fun(e:i=hp.n)=> g.nl (e▸hi))).trans (g.old hi);obtain⟨L,M3,I3,hv3⟩:=z3.cut ((Hp.Ke _ _ _).trans g.lv) g.nl hf2 ((Hp.MP _ g.O0 _).trans (if_pos rfl)) (fun y a e=> I.Es e) (fun i hi=> I.oLt hi) br;rw [show W'.r hp.n=x from(z2.r hp.n hx.2).trans (vj.inj hx.1).symm]at hv3;refine⟨z4,ret _ _ ⟨_,_,W'.cut hp.lv L,M3,_,rfl,⟨fun i hi=> hN▸hi,fun i hi=> ?_,fun p yu=> uC _ (z2.fz p yu)⟩,I3,hv3⟩⟩;exact(z2.r i (.inl hi)).trans (le.r i hi)
 . obtain⟨_,_,_,z,_⟩:=q3;cases(z)
theorem kE(MK:Jv G P)(O:AP G f)(HA:Bx f (d+1) A)(CO:∀A',FC f (d+1) A'->Dk G f A' X P cf)(I:Inv G f W l hp M ow m s){i:Nat}(hc:P.cls c=some cl)(he:cl.exc=false)(hi:cl.init= .run i)(R0:AX G.B W as vs)(K0:EA G.B W ks kv){Z:COut}
 (eR:endRun hp.nI (cf i (.ref hp.nI::as) ks (hp.JI (.ins c [])))=Z) (ne:Z≠ .bad) (ret:∀v s',Jo G f W l m Z v s'->R (.ok (.ret v)) s') (exc:∀e s',A9 X W (Z.bind l fun v s=> Out.ok v s) e s'->R (.error e) s'):
 codeAny (mo G) A (.call (.ref c) ⟨vs,kv⟩) R s:=by
 obtain⟨g1,g2⟩:=MK.run c cl i hc he hi;refine make_K I.fr I.nw (I.X O) (MK.make c cl hc he) g1 g2 fun x dx h' F' N' lt1 lt2=> ?_;have g:=hp.Z9 (.ins c []);have le:=Wd.Hj x (I.hi.nl g);obtain⟨M1,ow1,I1⟩:=I.Vz (tk:=s.toks) F' N' lt1 lt2 g;have hx:=V5 (B:=G.B) (W:=W) (x:=x) (k:=hp.nI);generalize hz:cf i (.ref hp.nI::as) ks (hp.JI (.ins c []))=z at eR;refine CO _ (HA.type c vs kv) i (.ref hp.nI::as) (.ref x::vs) ks kv (W.add hp.nI x) l _ M1 ow1 m _ _ I1 ⟨hx,R0.mono le⟩ (K0.mono le) (fun q=> ne (by rw [<-eR,<-hz,q];rfl)) (fun v s' hv=> ?_) fun e s' hxx=> ?_
 . obtain⟨a',hp2,W',M',zC,z1,z2,z3,z4⟩:=hv;rw [hz]at z1;subst z1;have eR:(if isNone a'=true then COut.ok (.ref hp.nI) hp2 else .bad)=Z:=eR;by_cases q:isNone a'=true
   . rw [if_pos q]at eR;rcases z4.isNone with⟨rfl,_⟩ |⟨_,q'⟩
     . exact⟨rfl,ret _ _ ⟨_,_,W',M',zC,eR.symm,le.trans z2,z3,hx.mono z2⟩⟩
     . rw [q']at q;cases(q)
   . rw [if_neg q]at eR;exact absurd eR.symm ne
 . obtain⟨a',σ',W',z1,z2,z3⟩:=hxx;rw [hz]at z1;refine exc e s' ?_;cases(z)with
   |bad=> exact absurd eR.symm ne
   |ok v h=> cases(z1)
   |exc e' h'=> cases(z1);exact eR▸⟨_,_,W',rfl,le.trans z2,z3⟩
set_option tactic.hygienic true in
theorem kF(C:Ck G P)(MK:Jv G P)(RS:NT G P)(O:AP G f)(HA:Bx f (d+1) A)(CO:∀A',FC f (d+1) A'->Dk G f A' X P cf)(I:Inv G f W l hp M ow m s)
 {fv:AV} {u:R5} (hu:AK G.B W fv u) (R0:AX G.B W as vs) (K0:EA G.B W ks kv) {Z:COut} (eR:GF P cf fv as ks hp=Z) (ne:Z≠ .bad)
 (ret:∀v s',Jo G f W l m Z v s'->R (.ok (.ret v)) s') (exc:∀e s',A9 X W (Z.bind l fun v s=> Out.ok v s) e s'->R (.error e) s'):
 codeAny (mo G) A (.call u ⟨vs,kv⟩) R s:=by
 cases fv<;>first |exact absurd eR.symm ne |skip
 . rename_i a;cases(hu:u= .ref a);have eR:cf a as ks hp=Z:=eR;subst eR;exact CO A HA.weak a as vs ks kv W l hp M ow m s R I R0 K0 ne ret exc
 . rename_i c;cases(hu:u= .ref c);obtain⟨cl,hc,eR⟩:=Ir eR ne;unfold ME at eR;cases he:cl.exc with
   |true=> rw [he]at eR;exact absurd eR.symm ne
   |false=>
    rw [he]at eR;cases hi:cl.init with
    |BY fi fs=> rw [hi]at eR;obtain⟨r,hr,eR⟩:=Ir eR ne;subst eR;exact kD C MK RS O HA I hc he hi R0 K0 hr ret
    |run i=> rw [hi]at eR;exact kE MK O HA CO I hc he hi R0 K0 eR ne ret exc
end
end
section
variable{G:Gx}{f:Fx}{A:tx}{X:XP}{P:Prog}
def LQ(G:Gx)(u:R5)(h:Heap):Prop:=∃k,(k=Keeper.frame∨k=Keeper.machine∨k=Keeper.boundFrame)/\uT (mo G) h (keeperOf u) k
set_option tactic.hygienic true in
theorem kG(MK:Jv G P){cf:Nat->List AV->List (N×AV)->Hp->COut}(hcf:∀a as ks h,cf a as ks h≠ .bad->(P.fns a).isSome=true)(O:AP G f){W l hp M ow m s}(I:Inv G f W l hp M ow m s){fv:AV}{u:R5}{as:List AV}{ks:List (N×AV)}(hu:AK G.B W fv u){Z:COut}
 (eR:GF P cf fv as ks hp=Z) (ne:Z≠ .bad):LQ G u s.heap:=by
 cases fv<;>first |exact absurd eR.symm ne |skip
 . rename_i a;cases(hu:u= .ref a);obtain⟨fn,hfn⟩:=wd.mp (hcf a as ks hp (fun z=> ne (eR.symm.trans z)));exact keeps_K (MK.j9 _ _ hfn) _ (I.X O)
 . rename_i c;cases(hu:u= .ref c);obtain⟨cl,hc,eR⟩:=Ir eR ne;unfold ME at eR;cases he:cl.exc with
   |true=> rw [he]at eR;exact absurd eR.symm ne
   |false=> exact keeps_K (MK.kA _ _ hc he) _ (I.X O)
structure Hs(G:Gx)(f:Fx)(A:tx)(X:XP)(P:Prog)(cf:Nat->List AV->List (N×AV)->Hp->COut):Prop where
 C:Ck G P
 MK:Jv G P
 RS:NT G P
 ex:∃d,Bx f (d+1) A/\∀A',FC f (d+1) A'->Dk G f A' X P cf
 fn:∀a as ks h,cf a as ks h≠ .bad->(P.fns a).isSome=true
theorem Hs.Qf{cf:Nat->List AV->List (N×AV)->Hp->COut}(CE:Hs G f A X P cf):Dk G f A X P cf:=by obtain⟨d,HA,CO⟩:=CE.ex;exact CO A HA.weak
theorem V7{cf:Nat->List AV->List (N×AV)->Hp->COut}(CE:Hs G f A X P cf)(O:AP G f){U W l hp M ow m s}(I:Inv G f W l hp M ow m s)
 {fv:AV} {u:R5} {as:List AV} {vs:List R5} {ks:List (N×AV)} {kv:List (tq×R5)} (hu:AK G.B W fv u) (R0:AX G.B W as vs) (K0:EA G.B W ks kv) {Z:Out AV} (eR:((GF P cf fv as ks hp).bind l fun v s=> Out.ok v s)=Z) (hU:U.le W) (ne:Z≠ .bad):
 LQ G u s.heap/\Dj G f A X U (call u vs kv) Z s:=by
 refine cps fun yv yt=> ?_;obtain⟨d,HA,CO⟩:=CE.ex;refine yt ?_;generalize hz:GF P cf fv as ks hp=z at eR;have nz:z≠ .bad:=fun q=> ne (by rw [<-eR,q];rfl);exact⟨kG CE.MK CE.fn O I hu hz nz,vi (kF CE.C CE.MK CE.RS O HA CO I hu R0 K0 hz nz (fun v s' ⟨b,yu,W',M',zC,q1,q2,q3,q4⟩=> q3.V ((VT q1).symm.trans eR) (hU.trans q2) q4) fun e s' h=> eR▸h.le hU)⟩
theorem kH{cf:Nat->List AV->List (N×AV)->Hp->COut}(CE:Hs G f A X P cf)(O:AP G f){n:tq}{np pos:Pos}{args:List Expr}{ef:St->Out AV}{zF:St->Out (List AV)}
 (hs:args.all noStar=true) (hf:AW G f A X (eval (.Name n np) f.env) ef) (ha:Cs G f A X (evalEach args f.env) zF):
 AW G f A X (eval (.Call (.Name n np) args [] pos) f.env) fun s=> (ef s).bind fun fv s=> (zF s).bind fun vs s=> (GF P cf fv vs [] s.hp).bind s.loc fun v s=>.ok v s:=fun W l hp M ow m s Z eR I ne=> by
 refine vZ (Au eR W.le_rfl (fun q=> hf W l hp M ow m s _ rfl I q) ne fun fv σ V L ow m u s' eR h1 h2 I hu ne=> ?_);rw [D8 _ _ _ hs];exact wX (P:=LQ G u) (by rw [plain_any];rfl) (fun h p=> p) (FJ (Fh eR h1 (fun q=> ha V _ _ L ow m s' _ rfl I q) ne fun as σ' V' L ow m vs s' eR h1 yz I hv ne=> V7 CE O I (hu.mono yz) hv (ks:=[]) (kv:=[]) trivial eR h1 ne))
theorem kI{cf:Nat->List AV->List (N×AV)->Hp->COut}(CE:Hs G f A X P cf)(O:AP G f){n:tq}{kn:N}{np kp pos:Pos}{args:List Expr}{e:Expr}{ef ek:St->Out AV}{zF:St->Out (List AV)}
 (hs:args.all noStar=true) (hf:AW G f A X (eval (.Name n np) f.env) ef) (ha:Cs G f A X (evalEach args f.env) zF) (hk:AW G f A X (eval e f.env) ek):
 AW G f A X (eval (.Call (.Name n np) args [⟨some (nm kn),e,kp⟩] pos) f.env) fun s=> (ef s).bind fun fv s=> (zF s).bind fun vs s=> (ek s).bind fun kv s=> (GF P cf fv vs [(kn,kv)] s.hp).bind s.loc fun v s=>.ok v s:=fun W l hp M ow m s Z eR I ne=> by
 show wpAny (mo G) A (do callWith pos (<-eval (.Name n np) f.env) [] (backTo pos (starEach args f.env)) (backToKw pos (keywordEach [⟨some (nm kn),e,kp⟩] f.env))) _ _ s;refine tu (Au eR W.le_rfl (fun q=> hf W l hp M ow m s _ rfl I q) ne fun fv σ V L ow m u s' eR h1 h2 I hu ne=> ?_);rw [D8 _ _ _ hs];exact wX (P:=LQ G u) (by rw [plain_any];rfl) (fun h p=> p) (VV rfl (Fh eR h1 (fun q=> ha V _ _ L ow m s' _ rfl I q) ne fun as σ' V' L ow m vs s' eR h1 yz I hv ne=>
  VU hk eR h1 I ne fun kvv σ'' V'' L ow m w s' eR h1 zj I hw ne=> V7 CE O I (hu.mono (yz.trans zj)) (hv.mono zj) (ks:=[(kn,kvv)]) (kv:=[(nm kn,w)]) ⟨rfl,hw,trivial⟩ eR h1 ne))
end
section
open PySem PySem.W PyProof.Rows PySem.Calls Builtin
theorem Bq{b:Bool}{r:List Bool}(h:allB (b::r)=true):b=true/\allB r=true:=t6.mp h
abbrev CW(C t:Addr):Obj:={cls:=.ref C,data:=.fields #[.ref t,.none,.none,.none,.bool false,.none]}
abbrev Fp(rest:List R5):Obj:={cls:=.type "tuple",data:=.seq rest.toArray}
structure Qg(M:um)(h:Heap)(C:Addr):Prop where
 obj:∃oc od cd sl,h.get? C=some ⟨oc,od,.cls cd,sl⟩/\cd.mro.isEmpty=false/\cd.hasDel=false
 made:uT M h (Bind.madeBy (.ref C)) (some "Exception.__new__")
 base:uT M h (Bind.staticBase (.ref C)) (.ref C)
 self:uT M h (isSubtype (.ref C) (.ref C)) true
 top:uT M h (isSubtype (.ref C) (.type "Exception")) true
 AF:uT M h (isSubtype (.ref C) (.type "AttributeError")) false
 V8:uT M h (isSubtype (.ref C) (.type "NameError")) false
 call:uT M h (specialOf (.ref C) "__call__") (some (.builtin "type.__call__"))
 typ:uT M h (isInstance (.ref C) (.type "type")) true
theorem kJ{K:Frag}{M:um}{h:Heap}(X:K.In h){C:Addr}(e:excIn K C=true):Qg M h C:=by
 unfold excIn at e;cases ho:K.lookup C with
 |none=> rw [ho]at e;cases e
 |some o=>
  obtain⟨oc,od,dat,sl⟩:=o;rw [ho]at e;cases dat with
  |cls cd=>
   obtain⟨e3,e⟩:=Bq e;obtain⟨e4,e⟩:=Bq e;obtain⟨eD,e⟩:=Bq e;obtain⟨e5,e⟩:=Bq e;obtain⟨e6,e⟩:=Bq e;obtain⟨e7,e⟩:=Bq e;obtain⟨e8,e⟩:=Bq e;obtain⟨e9,e⟩:=Bq e;have e10:=(Bq e).1;simp only [Bool.not_eq_true',beq_iff_eq]at e3 e4 eD e7 e8 e9 e10;have hc:clsIn K C=some cd:=by unfold clsIn;rw [ho]
   have hm:uT M h (mroOf (.ref C)) cd.mro:=(looks_clsIn X hc).andThen .now;obtain⟨c,l,hl⟩:∃c l,cd.mro=c::l:=by cases q:cd.mro with |nil=> rw [q]at e4;cases e4 |cons c l=> exact⟨c,l,rfl⟩
   have made:uT M h (Bind.madeBy (.ref C)) (some "Exception.__new__"):=by intro A Q E s k q;unfold Bind.madeBy;refine tu (hm A _ E s k ?_);rw [hl,wO];refine tu (tu (tu (tu (xb (k _ _ (X _ _ ho)) (t4 ?_)))));dsimp only;rw [<-Array.getElem?_toList,e3];exact t4 (t4 (t4 q))
   have mr:∀v b,cd.mro.contains v=b->mroIn K C v=some b:=fun v b z=> by unfold mroIn;rw [hc,Option.bind_some,if_neg (by rw [e4];decide),z]
   refine⟨⟨oc,od,cd,sl,X _ _ ho,e4,eD⟩,made,?_,vQ X (mr _ _ e5),vQ X (mr _ _ e6),vQ X (mr _ _ e7),vQ X (mr _ _ e8),looks_specialIn X e9,looks_instIn X e10⟩;intro A Q E s k q;unfold Bind.staticBase;refine tu (hm A _ E s k ?_);rw [hl,wO];exact tu (tu (tu (made A _ E s k (t4 (t4 (t4 q))))))
  |_=> cases e
section
variable{prog:uQ}{w:uS}{A:tx}{C:Addr}{R:Result->tm->Prop}{h:Heap}{g:Array GenState}{d:Drawn}{t:Nat}{os:vS}
theorem kK{rest:List R5}(Y:Qg (model prog w) h C)(ABa:rest.length<=sizeLine)
 (hq:R (.ok (.ret (.ref (h.objs.size+1)))) ⟨(h.push (Fp rest)).push (CW C h.objs.size),g,d,t,os⟩):
 codeAny (model prog w) A (.call (.builtin "Exception.__new__") ⟨.ref C::rest,[]⟩) R ⟨h,g,d,t,os⟩:=by
 refine cps fun yv yt=> ?_;obtain⟨⟨oc,od,cd,sl,hC,e4,eD⟩,made,base,self,top,AF,V8,call,typ⟩:=Y;refine yt ?_;have F:=PySem.F.excBase_Exception;have hstar:=F.noStar;have hends:=F.ends;have here:uT (model prog w) h (Bind.madeHere "Exception.__new__" (.ref C)) ():=base.andThen (made.andThen (Looks.of_pure (by simp only [xZ,bne_self_eq_false,ux,if_false])));have here':uT (model prog w) h (Bind.madeHere "BaseException.__new__" (.ref C)) ():=base.andThen (made.andThen (Looks.of_pure (by simp only [xZ,F.canon,bne_self_eq_false,ux,if_false])));refine codeAny_call_builtin_code (Code.quiet_builtin _ F.quiet) ?_;simp only [checkBuiltinCall,F.newKind,F.newSplit,F.newRow]
 repeat(first |simp only [bne_self_eq_false,ux,if_false,xd] |lk)
 refine codeAny_builtinAt F.entry ?_;unfold Builtin.«BaseException.__new__»;refine _root_.PySem.wpAt_bind ?_;show _root_.PySem.wpAt _ _ _ (stack >>=_) _ _ _;refine _root_.PySem.wpAt_bind (_root_.PySem.wpAt_stack fun p below=> _root_.PySem.wpAt_of_wpAny ?_)
 wp_walk
 refine _root_.PySem.wpAt_of_wpAny ?_;rw [F.owner]
 repeat(first |simp only [bne_self_eq_false,ux,if_false,xd] |lk)
 rw [if_neg (show¬rest.toArray.size>sizeLine by simpa using ABa)];unfold newObjAsIs
 repeat(first |simp only [bne_self_eq_false,ux,if_false,xd] |lk)
 refine nd_load (vL _ (vL _ hC)) (t4 ?_);dsimp only;rw [eD];refine t4 ?_;unfold ret;refine t4 (t4 ?_);show R _ _;rw [Heap.size_push];exact hq
theorem kL{rest:List R5}{init:R5}(Y:Qg (model prog w) h C)(ABa:rest.length<=sizeLine)(hi:uT (model prog w) h (typeLookup (.ref C) "__init__") (some init))
 (hb:∀self,uT (model prog w) h (bindSpecial init self) (init,[self]))
 (hq:codeAny (model prog w) (A.under (.builtin "type.__call__" ⟨.ref C::rest,[]⟩)) (.call init ⟨.ref (h.objs.size+1)::rest,[]⟩) (InitBack (h.objs.size+1) R) ⟨(h.push (Fp rest)).push (CW C h.objs.size),g,d,t,os⟩):
 codeAny (model prog w) A (.call (.ref C) ⟨rest,[]⟩) R ⟨h,g,d,t,os⟩:=by
 refine cps fun yv yt=> ?_;have Y':=Y;obtain(⟨⟨oc,od,cd,sl,hC,e4,eD⟩,made,base,self,top,AF,V8,call,typ⟩):=Y;refine yt ?_;refine codeAny_of_tree ?_;show wpAny _ _ (callAny (.ref C) _) _ _ _;refine nd_load hC ?_;show wpAny _ _ (callAny.viaDunder (.ref C) _) _ _ _;unfold callAny.viaDunder;refine tu (call.at ?_);dsimp only;rw [tc_bind];refine tu (t4 (tu (t4 ?_)));refine t4 (a:=Fin.again (.call (.builtin "type.__call__") ⟨.ref C::rest,[]⟩)) (And.intro rfl ?_);refine codeAny_call_builtin_at (Code.quiet_builtin _ (by decide+kernel)) entry_typeCall (check_slot tc_kind tc_split typ (tc_args _ _ _) ?_);unfold Builtin.«type.__call__»;have hm:uT (model prog w) h (mroOf (.ref C)) cd.mro:=((Looks.ld (part:=none) hC).andThen .now).andThen .now
 repeat(first |simp only [e4,ux,if_false] |with_reducible refine vi ?_ |lk)
 refine kK Y' ABa ?_;have k:∀b o,h.get? b=some o->((h.push (Fp rest)).push (CW C h.objs.size)).get? b=some o:=fun b o e=> vL _ (vL _ e);have hx:((h.push (Fp rest)).push (CW C h.objs.size)).get? (h.objs.size+1)=some (CW C h.objs.size):=by heap_get
 have t1:uT (model prog w) ((h.push (Fp rest)).push (CW C h.objs.size)) (typeOf (.ref (h.objs.size+1))) (.ref C):=(Looks.ld hx).andThen .now;have s1:=self.keeps k;have i1:=hi.keeps k;have b1:=(hb (.ref (h.objs.size+1))).keeps k;unfold isInstance callSpecial? specialOf
 repeat(first |with_reducible refine vi ?_ |lk)
 refine codeAny_mono hq fun r s' z=> ?_;rcases r with e |(v |_ |_ |_)<;>first |exact z |exact z.elim |skip
 obtain(⟨rfl,z⟩):=z;exact t4 (t4 z)
end
end
section
open PySem PySem.W PyProof.Rows PySem.Calls Builtin Builtin.ObjectAttr Builtin.Getset_descriptor
theorem kM(self:R5):refuseLoop self "__setattr__" [.type "Exception",.type "BaseException",.type "object"]=pure ():=by kernel_rfl
theorem V9:∀{l:List R5},JP l=true->(∃c r,l= .ref c::r/\JP r=true)∨l=[.type "Exception",.type "BaseException",.type "object"]
 | []=>@fun e=> nomatch e
 |a::r=>@fun e=> by
  cases a with
  |ref c=> exact .inl ⟨c,r,rfl,e⟩
  |_=> exact .inr (eq_of_beq (show((_::r:List R5)==[.type "Exception",.type "BaseException",.type "object"])=true from e))
theorem WA(self:R5):∀(n:Nat) {l:List R5},l.length=n->JP l=true->refuseLoop self "__setattr__" l=pure ()
 |0,l,hn,e=> by cases vn.mp hn;cases e
 |n+1,l,hn,e=> by
  rcases V9 e with⟨c,r,rfl,e'⟩ |rfl
  . rw [refuseLoop_ref];exact WA self n (Nat.succ.inj hn) e'
  . exact kM self
theorem WB:∀(n:Nat) {l:List R5},l.length=n->JP l=true->l.contains (.type "object")=true
 |0,l,hn,e=> by cases vn.mp hn;cases e
 |n+1,l,hn,e=> by
  rcases V9 e with⟨c,r,rfl,e'⟩ |rfl
  . rw [wK,WB n (Nat.succ.inj hn) e',Bool.or_true]
  . decide+kernel
abbrev GU(C t dx:Addr):Obj:={cls:=.ref C,dict:=some dx,data:=.fields #[.ref t,.none,.none,.none,.bool false,.none]}
section
variable{prog:uQ}{w:uS}{A:tx}{K:Frag}{C x t:Addr}{s:tm}{h₀:Heap}{L:Addr}{m:tq->Option R5}{R:Result->tm->Prop}{name:tq}{tk:Tok}{v:R5}
theorem WC{ox:Obj}{od:Option Obj}{r:Option R5}(X:K.In s.heap)(I:vc s.heap x ox C od)(hp:IM K C=true)(ht:takerIn K C name=some r)
 (h:∀b,wpAny (model prog w) A.in1 (match r with |some a=> setByDescriptor a (.ref x) v |none=> storeInOwnDict (.ref x) (.ref C) (.str name tk) name v b)
   (fun fin s'=> match fin with | .done f=> R (.ok f) s' | .again c'=> c'.quiet=true/\codeAny (model prog w) A c' R s') (fun e s'=> R (.error e) s') s):
 codeAny (model prog w) A (.call (.builtin "object.__setattr__") ⟨[.ref x,.str name tk,v],[]⟩) R s:=by
 have SF:=PySem.F.store_object;obtain⟨cd,hc,ho⟩:=any_some hp;have ne:cd.mro.isEmpty=false:=by cases q:cd.mro with |nil=> rw [q]at ho;cases ho |cons _ _=> rfl
 have sub:uT (model prog w) s.heap (isInstance (.ref x) (.type "object")) true:=I.type.andThen (vQ X (by unfold mroIn;rw [hc,Option.bind_some,if_neg (by rw [ne];decide),WB _ rfl ho]));refine codeAny_call_builtin SF.slot.plain SF.entry (@check_slot (model prog w) _ _ s "object.__setattr__" "object" "__setattr__" (.ref x) [.str name tk,v] [] _ SF.kind SF.split sub (SF.args (.ref x) (.str name tk) v) ?_);refine AY ht fun attr ha hr=> ?_;have hm:uT (model prog w) s.heap (mroOf (.ref C)) cd.mro:=(looks_clsIn X hc).andThen .now;have L3:uT (model prog w) s.heap (storeTaker? attr) r:=by
  cases attr with
  |none=> cases hr;exact .now
  |some a=> obtain⟨b,hb,rfl⟩:=uF.mp hr;refine(looks_takesIn X hb).andThen ?_;cases b<;>exact .now
 rw [osa_eq,refuse_eq];refine tu (tu (I.type.here (tu (hm.here ?_))));rw [WA _ _ rfl ho];refine t4 (tu (I.type.here (tu ((xh X ha).here (tu (L3.here ?_))))));exact h _
theorem WD{es:List uP}{k dx:Addr}{news news':Led}{Q:PySem.Fin->tm->Prop}{E:R5->tm->Prop}(F:Fr h₀ L s.heap m)(N:News h₀ L s.heap news)
 (hl:(getL name es).isSome=true) (U:Upd dx (dictOf es k) (dictOf (putL name (u9 w.params name) (.str name s.toks) v es) (xk name es k)) news news')
 (hz:(putL name (u9 w.params name) (.str name s.toks) v es).length<=1000)
 (h:∀h',Fr h₀ L h' m->News h₀ L h' news'->Q (.done (.ret .none)) {s with heap:=h',toks:=s.toks+1}):wpAny (model prog w) A (storeInDict dx (.str name tk) name v) Q E s:=by
 refine cps fun yv yt=> ?_;obtain⟨pre,post,rfl,rfl,h1,h2⟩:=U.split;obtain⟨U1,U2⟩:=news_upd (f:=Obj.putName name (u9 w.params name) (.str name s.toks) v) F N h1 h2 (putName_dict _ _ _ _ _ _) rfl;refine yt ?_;have D:=(N (dx,dictOf es k) (uC _ (.head _))).1;have D':=(U2 (dx,dictOf (putL name (u9 w.params name) (.str name s.toks) v es) (xk name es k)) (uC _ (.head _))).1;unfold storeInDict;refine tu (t4 (tu ?_));unfold nsSet;refine tu (tu (wpAny_askSetting (t4 (tu (wpAny_mkText (tu (xb D ?_)))))));have c:(!es.toArray.any (·.key.isStr name)&&es.toArray.any (·.refKey))=false:=by
  rw [<-Array.any_toList,<-Array.any_toList];unfold getL at hl;show(!es.any (·.key.isStr name)&&es.any (·.refKey))=false;cases q:es.find? (·.key.isStr name)with
  |some en=> rw [List.any_eq_true.mpr ⟨en,List.mem_of_find?_eq_some q,List.find?_some q⟩];rfl
  |none=>
   rw [q]at hl;by_cases z:es.any (·.refKey)=true
   . rw [if_pos z]at hl;cases hl
   . rw [Bool.not_eq_true]at z;rw [z,wQ]
 dsimp only;rw [aRefKeyMayBeTheName_at,c];refine wpAny_updatePart D ?_;refine tu (wpAny_lookBehind D' (pastItsLine_dict (by rw [uy,sizeLine_eq];exact Ay)) ?_);exact t4 (h _ U1 U2)
end
end
section
open PySem PySem.W PyProof.Rows PySem.Calls Builtin Builtin.ObjectAttr Builtin.Getset_descriptor
section
variable{prog:uQ}{w:uS}{A:tx}{K:Frag}{C x t:Addr}{s:tm}{h₀:Heap}{L:Addr}{m:tq->Option R5}{name:tq}{v:R5}{Q:Unit->tm->Prop}{E:R5->tm->Prop}{news:Led}
theorem kN{h:Heap}{t:Addr}(hx:h.get? x=some (CW C t)):vc h x (CW C t) C none:=⟨hx,rfl,rfl,trivial⟩
theorem kO{h:Heap}{t dx:Addr}{od:Obj}(hx:h.get? x=some (GU C t dx))(hd:h.get? dx=some od):vc h x (GU C t dx) C (some od):=⟨hx,rfl,rfl,hd⟩
theorem kP{es:List uP}{k dx:Addr}{news':Led}(F:Fr h₀ L s.heap m)(N:News h₀ L s.heap news)(X:K.In s.heap)(hx:(x,GU C t dx)∈news)(hdx:(dx,dictOf es k)∈news)
 (hs:findIn K (.ref C) "__setattr__"=some (some (.builtin "object.__setattr__"))) (hp:IM K C=true) (ht:takerIn K C name=some none) (hh:hasDictIn K C=true) (hl:(getL name es).isSome=true)
 (U:Upd dx (dictOf es k) (dictOf (putL name (u9 w.params name) (.str name (s.toks+1)) v es) (xk name es k)) news news')
 (hz:(putL name (u9 w.params name) (.str name (s.toks+1)) v es).length<=1000)
 (h:∀h',Fr h₀ L h' m->News h₀ L h' news'->Q () {s with heap:=h',toks:=s.toks+2}):wpAny (model prog w) A (setAttr (.ref x) name v) Q E s:=by
 obtain⟨cd,hc,hd'⟩:=any_some hh;have I:=kO (N _ hx).1 (N _ hdx).1;refine set_plain X I hs (WC (s:={s with toks:=s.toks+1}) X I hp ht fun b=> ?_);refine tu (t4 (tu (tu (xb (N _ hx).1 (tu (Looks.here (s:={s with toks:=s.toks+1}) (looks_clsIn X hc) ?_))))));rw [hd'];refine t4 (a:=some dx) ?_;exact WD (s:={s with toks:=s.toks+1}) F N hl U hz fun h' F' N'=> h h' F' N'
theorem kQ{pre post:Led}(F:Fr h₀ L s.heap m)(N:News h₀ L s.heap (pre++(x,CW C t)::post))(X:K.In s.heap)(h1:∀p∈pre,p.1≠x)(h2:∀p∈post,p.1≠x)
 (hs:findIn K (.ref C) "__setattr__"=some (some (.builtin "object.__setattr__"))) (hp:IM K C=true) (ht:takerIn K C name=some none) (hh:hasDictIn K C=true)
 (h:∀h' dx,Fr h₀ L h' m->News h₀ L h' ((dx,dictOf [⟨u9 w.params name,.str name (s.toks+1),v⟩] 1)::(pre++(x,GU C t dx)::post))->(∀p∈pre++(x,CW C t)::post,p.1<dx)->Q () {s with heap:=h',toks:=s.toks+2}):
 wpAny (model prog w) A (setAttr (.ref x) name v) Q E s:=by
 obtain⟨cd,hc,hd'⟩:=any_some hh;have hx:=(N (x,CW C t) (uC _ (.head _))).1;have I:=kN hx;refine set_plain X I hs (WC (s:={s with toks:=s.toks+1}) X I hp ht fun b=> ?_);refine tu (t4 (tu (tu (xb hx (tu (Looks.here (s:={s with toks:=s.toks+1}) (looks_clsIn X hc) ?_))))));rw [hd'];have lt:∀p∈pre++(x,CW C t)::post,p.1<s.heap.objs.size:=fun p hp=> uf (N p hp).1;have hxl:=lt (x,CW C t) (uC _ (.head _));have F1:=F.push emptyDict;have N1:News h₀ L (s.heap.push emptyDict) (((s.heap.objs.size,emptyDict)::pre)++(x,CW C t)::post):=N.push F emptyDict;obtain⟨U1,U2⟩:=news_upd (f:=fun o=> {o with dict:=some s.heap.objs.size}) (o':=GU C t s.heap.objs.size) F1 N1 (fun p hp=> (uI.mp hp).elim (fun e=> e▸vD hxl) (h1 p)) h2 rfl rfl;refine tu (wpAny_alloc (tu (wpAny_update (o:=CW C t) (N1 (x,CW C t) (uC _ (.head _))).1 (tu (t4 (t4 ?_))))));refine WD (s:=⟨_,s.gens,s.drawn,s.toks+1,s.os⟩) (es:=[]) (k:=0) U1 U2 rfl (.head fun p hp=> ?_) (show 1<=1000 by decide) fun h' F' N'=> h h' _ F' N' lt;rcases uN.mp hp with hp |hp
 . exact uu (lt p (uK _ hp))
 . rcases uI.mp hp with rfl |hp
   . exact uu hxl
   . exact uu (lt p (uC _ (.tail _ hp)))
end
end
end Internal
section
namespace Internal
open PySem.Sem (wp)
def f2:Data->Option R5
 | .fields vs=> vs[2]?
 |_=> none
def NU(o o':Obj):Prop:=o'.dict=o.dict/\f2 o'.data=f2 o.data
def DK(h h':Heap):Prop:=∀b o,h.get? b=some o->∃o',h'.get? b=some o'/\NU o o'
theorem DK.rfl'{h:Heap}:DK h h:=fun _ o e=> ⟨o,e,rfl,rfl⟩
theorem DK.trans{h₁ h₂ h₃:Heap}(x:DK h₁ h₂)(y:DK h₂ h₃):DK h₁ h₃:=fun b o e=> let⟨_,e1,q1⟩:=x b o e;let⟨o2,e2,q2⟩:=y b _ e1;⟨o2,e2,q2.1.trans q1.1,q2.2.trans q1.2⟩
theorem DK.push{h:Heap}(o:Obj):DK h (h.push o):=fun _ o e=> ⟨o,vL _ e,rfl,rfl⟩
theorem kR{o:Obj}(h:o.alive=true):o.isFreed=false:=by obtain⟨c,d,dt,sl⟩:=o;cases dt<;>first |rfl |cases h
theorem DK.update{h:Heap}{a:Addr}{f:Obj->Obj}(hf:∀o,NU o (f o)/\((f o).isFreed=o.isFreed)):DK h (h.update a f):=fun b o e=> by
 by_cases q:a=b
 . subst q;exact⟨_,xw _ e (by rw [(hf o).2];exact kR ((Heap.get?_eq_some _ _ _).1 e).2),(hf o).1⟩
 . exact⟨o,(xt _ _ q).trans e,rfl,rfl⟩
structure KD{α:Type}(t:Sem α):Prop where
 out:∀(M:um) (Γ:Ctx) (P:α->Pos->tm->Prop) (Ee:R5->Pos->tm->Prop) (p:Pos) (s:tm),wp M Γ t P Ee p s->wp M Γ t (fun a p' s'=> P a p' s'/\DK s.heap s'.heap) Ee p s
namespace KD
variable{α β:Type}
theorem pure(a:α):KD (Pure.pure a:Sem α):=⟨fun _ _ _ _ _ _ h=> ⟨h,DK.rfl'⟩⟩
theorem unsupported(w:String):KD (PySem.unsupported w:Sem α):=⟨fun _ _ _ _ _ _ h=> h.elim⟩
theorem bind{m:Sem α}{f:α->Sem β}(hm:KD m)(hf:∀a,KD (f a)):KD (m >>=f):=⟨fun M Γ P Ee p s h=> by rw [Sem.wp_bind']at h⊢;exact Sem.wp_mono M Γ m (fun a p' s' h'=> Sem.wp_mono M Γ (f a) (fun b p'' zH h''=> ⟨h''.1,h'.2.trans h''.2⟩) (fun _ _ _ x=> x) p' s' ((hf a).out M Γ P Ee p' s' h'.1)) (fun _ _ _ x=> x) p s (hm.out M Γ _ Ee p s h)⟩
theorem ite{c:Prop} [Decidable c]{t u:Sem α}(ht:KD t)(hu:KD u):KD (if c then t else u):=by split<;>assumption
theorem load(a:Addr):KD (PySem.load a):=⟨fun _ _ _ _ _ _ ⟨o,ho,h⟩=> ⟨o,ho,h,DK.rfl'⟩⟩
theorem update(a:Addr)(f:Obj->Obj)(hf:∀o,NU o (f o)/\((f o).isFreed=o.isFreed)):KD (PySem.update a f):=⟨fun M Γ P Ee p s h=> by have h:=(Sem.wp_cmd_update M Γ _ p s a f _).mp h;exact(Sem.wp_cmd_update M Γ _ p s a f _).mpr ⟨h.1,h.2,DK.update hf⟩⟩
theorem stack:KD PySem.stack:=⟨fun M Γ P Ee p s h=> by unfold PySem.stack at h⊢;rw [Sem.wp_stack]at h⊢;exact⟨h,DK.rfl'⟩⟩
theorem alloc(o:Obj):KD (PySem.alloc o):=⟨fun M Γ P Ee p s h=> by unfold PySem.alloc at h⊢;rw [Sem.wp_alloc]at h⊢;exact⟨h,DK.push o⟩⟩
theorem field(v:R5)(i:Nat):KD (PySem.field v i):=⟨fun M Γ P Ee p s h=> by obtain⟨a,o,vs,x,e,ho,hd,hx,h⟩:=(wp_field_iff Γ v i P Ee p s).mp h;exact(wp_field_iff Γ v i _ Ee p s).mpr ⟨a,o,vs,x,e,ho,hd,hx,h,DK.rfl'⟩⟩
theorem kS{i:Nat}(hi:i≠2)(x:R5)(o:Obj):NU o (w9 (·.setIfInBounds i x) o)/\(w9 (·.setIfInBounds i x) o).isFreed=o.isFreed:=by
 obtain⟨c,d,dt,sl⟩:=o;cases dt with
 |fields vs=> exact⟨⟨rfl,Array.getElem?_setIfInBounds_ne hi⟩,rfl⟩
 |_=> exact⟨⟨rfl,rfl⟩,rfl⟩
theorem setField(v:R5){i:Nat}(hn:i≠2)(x:R5):KD (PySem.setField v i x):=⟨fun M Γ P Ee p s h=> by obtain⟨a,o,vs,e,ho,hd,hi,h⟩:=(wp_setField_iff Γ v i x P Ee p s).mp h;exact(wp_setField_iff Γ v i x _ Ee p s).mpr ⟨a,o,vs,e,ho,hd,hi,h,DK.update (kS hn x)⟩⟩
end KD
theorem KD.keptBack(env:Env)(i:Bool)(l:List Env):KD (keptBack env i l):=by
 cases l with
 |nil=> unfold PySem.keptBack;refine KD.ite (KD.pure _) (KD.bind ?_ fun _=> KD.pure _);unfold underTheClaimsCaller;exact KD.bind KD.stack fun _=> KD.pure _
 |cons c r=> exact KD.pure _
theorem KD.readyFrames:∀l:List Env,KD (readyFrames l)
 | []=> KD.pure _
 |env::outer=> by
  have ih:=KD.readyFrames outer;unfold PySem.readyFrames;cases env.frame with
  |none=> exact KD.unsupported _
  |some f=> refine KD.bind (KD.load f) fun o=> KD.ite (KD.pure _) (KD.bind ?_ fun i=> KD.bind (KD.keptBack env i outer) fun b=> KD.bind (KD.update f _ fun o=> by obtain⟨c,d,dt,sl⟩:=o;cases dt<;>exact⟨⟨rfl,rfl⟩,rfl⟩) fun _=> ih);unfold behindIsImport;exact KD.ite (KD.pure _) (KD.ite (KD.pure _) (KD.bind (KD.field _ _) fun _=> KD.pure _))
theorem KD.frameOf(env:Env):KD (frameOf env):=by
 unfold PySem.frameOf frameEnvs;refine KD.bind (KD.bind KD.stack fun _=> KD.pure _) fun l=> KD.bind ?_ fun r=> ?_
 . generalize List.dropWhile (fun x=> x.frame !=env.frame) l=l';cases l' with
   |nil=> exact KD.pure _
   |cons e r=> unfold frameObject;exact KD.bind (KD.readyFrames _) fun _=> KD.pure _
 . cases r with
   |none=> exact KD.unsupported _
   |some f=> exact KD.pure _
theorem KD.entryPlaceOf(f:Addr)(b:Bool):KD (entryPlaceOf f b):=by
 unfold PySem.entryPlaceOf;refine KD.bind KD.stack fun ACK=> ?_;cases ACK.find? (fun x=> x.1.env?.bind (·.frame)==some f)with
 |none=> exact KD.pure _
 |some p=> exact KD.pure _
theorem KD.newEntry(a b c d e:R5)(l:List R5):KD (yF a b c d e l):=by unfold yF newFields newObj newObjAsIs;exact KD.ite (KD.bind (KD.unsupported _) fun _=> KD.bind (KD.alloc _) fun _=> KD.pure _) (KD.bind (KD.alloc _) fun _=> KD.pure _)
theorem KD.noteFrame(e:R5)(env:Env):KD (noteFrame e env):=by
 unfold PySem.noteFrame;cases env.frame with
 |none=> exact KD.unsupported _
 |some f=>
  have tail:∀hd:R5,KD (do PySem.setField e 1 (<-yF hd (<-PySem.frameOf env) .none (rawInt f) .none (<-PySem.entryPlaceOf f (hd != .none)))):=fun hd=>
   KD.bind (KD.frameOf env) fun _=> KD.bind (KD.entryPlaceOf f _) fun _=> KD.bind (KD.newEntry _ _ _ _ _ _) fun _=> KD.setField _ (by decide) _
  exact KD.bind (KD.field _ _) fun hd=> KD.ite (KD.bind (KD.field _ _) fun _=> KD.ite (KD.pure _) (KD.bind (KD.setField _ (by decide) _) fun _=> tail hd)) (tail hd)
theorem KD.setFlight(e:R5)(f:Option Addr):KD (setFlight e f):=by unfold PySem.setFlight;exact KD.bind (KD.field _ _) fun _=> KD.ite (KD.setField _ (by decide) _) (KD.pure _)
theorem KD.leaving(env:Env)(e:R5):KD (leaving env e):=by unfold PySem.leaving;exact KD.bind (KD.noteFrame e env) fun _=> KD.setFlight e none
theorem KD.any{α:Type}{M:um}{A:tx}{t:Sem α}{Q:α->tm->Prop}{E:R5->tm->Prop}{s:tm}(k:KD t)(h:wpAny M A t Q E s):wpAny M A t (fun a s'=> Q a s'/\DK s.heap s'.heap) E s:=
 fun Γ p hΓ=> k.out M Γ _ _ p s (h Γ p hΓ)
end Internal
end
namespace Internal
section
def kT(G:Gx)(outer:List Env)(g:Heap)(W:Wd)(x:AV)(hp:Hp)(ea c t dx k:Nat)(fs:List (N×AV))(es:List uP)(M:Led)(ow:Addr->Nat)(s:tm):Prop:=
 x= .obj c fs/\(∃B,G.B.StaysIn B/\(∀q∈(dx,dictOf es k)::(M++W.fz),B.get? q.1=some q.2/\G.B.get? q.1=none)/\xl B outer ea (.ref c) (.ref t) s.heap)/\g.UpToSlots s.heap/\
  (∃oe,s.heap.get? ea=some oe/\oe.dict=some dx/\f2 oe.data=some .none)/\A5 G.B W fs es/\Di G.prog G.w G.B W M ow hp/\(∀q∈M,q.1≠dx)/\s.gens= #[]/\s.os=G.os
inductive Arr(G:Gx)(outer:List Env)(g:Heap)(W:Wd)(x:AV)(hp:Hp)(e:R5)(s:tm):Prop
 |mk (ea:_) (c:_) (t:_) (dx:_) (k:_) (fs:_) (es:_) (M:_) (ow:_) (za:e= .ref ea) (zb:kT G outer g W x hp ea c t dx k fs es M ow s)
def Fx.A0(f:Fx):tx:=f.A₀.deeper f.env
def XA(G:Gx)(f:Fx):XP:=fun W x _ hp e s=> wpAny (mo G) f.A0 (leaving f.env e) (fun _ s'=> Arr G f.outer f.g W x hp e s') (fun _ _=> False) s
section
variable{G:Gx}{f:Fx}{W:Wd}{l:List (N×AV)}{hp:Hp}{M:Led}{ow:Addr->Nat}{m:tq->Option R5}{s:tm}
theorem kU(O:AP G f)(F:Fr f.g f.L s.heap m){ea c t dx k:Nat}{fs:List (N×AV)}{es:List uP}(N:News f.g f.L s.heap ((ea,GU c t dx)::(dx,dictOf es k)::(M++W.fz)))
 (ne:∀q∈(dx,dictOf es k)::(M++W.fz),q.1≠ea) (nd:∀q∈M,q.1≠dx) (R:A5 G.B W fs es) (H:Di G.prog G.w G.B W M ow hp) (hg:s.gens= #[]) (zw:s.os=G.os):XA G f W (.obj c fs) l hp (.ref ea) s:=by
 have K':=pushX (env:=f.env) O.below F rfl O.fn;let as:List Addr:=ea::(f.env::f.outer).filterMap (·.frame);have hea:=N _ (.head _);have hin:∀env∈(f.env::f.outer),∀b,env.frame=some b->b∈as:=fun env he b hb=>.tail _ (xN.mpr ⟨env,he,hb⟩);have gB:∀b o,G.B.get? b=some o->b≠ea:=fun b o q z=> by have:=fresh_of_stays O.below.stays hea.2.2;rw [<-z,q]at this;cases this
 have st:G.B.StaysIn (hideAll s.heap as):=fun b o q=> hideAll_get _ (K'.stays b o q) fun hm=> by
  rcases uI.mp hm with h |h
  . exact gB b o q h
  . rw [(K'.frames.mem h).1]at q;cases q
 have hl:∀q∈(dx,dictOf es k)::(M++W.fz),(hideAll s.heap as).get? q.1=some q.2/\G.B.get? q.1=none:=fun q hq=> by
  have z:=N q (.tail _ hq);refine⟨hideAll_get _ z.1 fun hm=> ?_,fresh_of_stays O.below.stays z.2.2⟩;rcases uI.mp hm with h |h
  . exact ne q hq h
  . refine cps fun yv yt=> ?_;obtain⟨env,he,hf⟩:=xN.mp h;refine yt ?_;rcases uI.mp he with rfl |he
    . exact z.2.1 (uR hf).symm
    . refine cps fun zI yy=> ?_;obtain⟨o,ho,_⟩:=(O.below.frames.mem (xN.mpr ⟨env,he,hf⟩)).2;refine yy ?_;rw [z.2.2]at ho;cases ho
 have hen:(hideAll s.heap as).get? ea=none:=hideAll_none _ (.head _);refine uG (KD.any (KD.leaving _ _) (wpAny_leaving_firstW (Q:=fun _ s'=> Heap.LeftW (hideAll s.heap as) (f.env::f.outer) ea (.ref c) (.ref t) s.heap s'.heap/\s'.gens=s.gens/\s'.os=s.os) (a0:=.ref t) (base:=hideAll s.heap as) K'.stack (funFrames_hide K'.frames hin) rfl hea.1 (fun b o q=> of_hideAll _ q) hen rfl rfl rfl fun h' hL=> ⟨hL,rfl,rfl⟩)) (fun _ s' h=> ?_) fun _ _ x=> x;refine cps fun zu zL=> ?_;obtain⟨⟨⟨k1,⟨_,_,k2⟩,k3,k4⟩,hg',AAs⟩,D⟩:=h;obtain⟨oe,he1,zo⟩:=D _ _ hea.1;refine zL ?_;exact⟨ea,c,t,dx,k,fs,es,M,ow,rfl,rfl,⟨_,st,hl,k1,hen,k2,k3⟩,(yl F.keep).trans k4,⟨oe,he1,zo.1,zo.2⟩,R,H,nd,hg'.trans hg,AAs.trans zw⟩
theorem kW(O:AP G f){g:Heap}(F:Fr f.g f.L g m){x:AV}{e:R5}(R:Arr G (f.env::f.outer) g W x hp e s):XA G f W x l hp e s:=by refine cps fun yv yt=> ?_;obtain⟨ea,c,t,dx,k,fs,es,M,ow,rfl,rfl,⟨B,b1,b2,b3⟩,up,⟨oe,he1,zo,he3⟩,fr,H,nd,hg,zw⟩:=R;refine yt ?_;refine uG (KD.any (KD.leaving _ _) (wpAny_leaves_onW (Q:=fun _ s'=> xl B f.outer ea (.ref c) (.ref t) s'.heap/\s.heap.UpToSlots s'.heap/\s'.gens=s.gens/\s'.os=s.os) (xI O.below.stack) (env:=f.env) (L:=f.L) rfl b3 fun h' x1 x2=> ⟨x1,x2,rfl,rfl⟩)) (fun _ s' h=> ?_) fun _ _ x=> x;refine cps fun zI yy=> ?_;obtain⟨⟨x1,x2,hg',AAs⟩,D⟩:=h;obtain⟨oe',ABd,AAu⟩:=D _ _ he1;refine yy ?_;exact⟨ea,c,t,dx,k,fs,es,M,ow,rfl,rfl,⟨B,b1,b2,x1⟩,(yl F.keep).trans (up.trans x2),⟨oe',ABd,AAu.1.trans zo,AAu.2.trans he3⟩,fr,H,nd,hg'.trans hg,AAs.trans zw⟩
theorem WE{M:um}{A:tx}{env:Env}{E E':R5->tm->Prop}{e:R5}{s:tm}(hE:∀e s,E e s->E' e s)(h:cameBackBy M A env E e s):cameBackBy M A env E' e s:=uG h (fun _ _ q=> hE _ _ q) hE
theorem WG{M:um}{A:tx}{env:Env}{E E':R5->tm->Prop}{e:R5}{s:tm}(h:notedBy M A env (cameBackBy M A env E) e s)(hE:∀e s,E e s->E' e s):notedBy M A env (cameBackBy M A env E') e s:=
 uG h (fun _ _ q=> WE hE q) fun _ _ q=> WE hE q
theorem kX:Hr G f f.A0 (XA G f):=fun W r e s h=> by obtain⟨x,σ,W',h1,h2,h3⟩:=h;exact WG (PassesOwn.leaving e s h3) fun e s q=> ⟨x,σ,W',h1,h2,q⟩
end
end
section
def NV(sc:u3):List (N×N)->List Stmt->Prop
 | [],b=> b=[]
 |p::fs,b=> ∃tp p1 p2 pos r,b= .Assign [.Attribute (.Name (nm N.self) p1) (nm p.1) tp] (.Name (nm p.2) p2) pos::r/\sc.names.lookup (nm N.self)=some .local/\(nm N.self==("__debug__":tq))=false/\
   sc.names.lookup (nm p.2)=some .local/\(nm p.2==("__debug__":tq))=false/\NV sc fs r
structure Ht(G:Gx)(P:Prog):Prop where
 made:∀c cl,P.cls c=some cl->cl.exc=true->excIn G.K c=true/\keepIn G.K (.ref c)=true/\typeIn G.K (.ref c)=some (.type "type")/\hasDictIn G.K c=true
 set:∀c cl,P.cls c=some cl->cl.exc=true->findIn G.K (.ref c) "__setattr__"=some (some (.builtin "object.__setattr__"))/\IM G.K c=true/\mroIn G.K c (.type "BaseException")=some true
 up:∀c cl b,P.cls c=some cl->cl.exc=true->cl.mro.contains b=true->mroIn G.K c (.ref b)=some true
 BY:∀c cl fi fs,P.cls c=some cl->cl.exc=true->cl.init= .BY fi fs->findIn G.K (.ref c) "__init__"=some (some (.ref fi))/\typeIn G.K (.ref fi)=some (.type "function")/\
  ∃fn ps,P.fns fi=some fn/\fn.ps= .self::ps/\fs≠[]/\(fs.map (·.1)).Nodup/\fs.length<100/\(∀p∈fs,p.2≠ .self)/\(∀p∈fs,takerIn G.K c (nm p.1)=some none)/\
   ∃qual scope body zB cl',FnShape G fi fn qual scope body zB cl'/\NV scope fs body
section
variable{G:Gx}{f:Fx}{A:tx}{W:Wd}{l:List (N×AV)}{m:tq->Option R5}{s:tm}
def NW(c t x:Nat)(es:List uP)(E:Led):Prop:=(es=[]/\E=[(x,CW c t)])∨∃dx k,E=[(dx,dictOf es k),(x,GU c t dx)]/\x<dx
theorem kY(O:AP G f){c t x:Nat}{p:N×N}{tp p1 p2 pos:Pos}{fs0:List (N×AV)}{v:AV}{es:List uP}{E rest:Led}(g1:findIn G.K (.ref c) "__setattr__"=some (some (.builtin "object.__setattr__")))(g2:IM G.K c=true)(g3:takerIn G.K c (nm p.1)=some none)(g4:hasDictIn G.K c=true)
 (h1:f.cs.names.lookup (nm N.self)=some .local) (h2:(nm N.self==("__debug__":tq))=false) (h3:f.cs.names.lookup (nm p.2)=some .local) (h4:(nm p.2==("__debug__":tq))=false)
 (F:Fr f.g f.L s.heap m) (N':News f.g f.L s.heap (E++rest)) (lt:∀q∈rest,q.1<x) (L:DQ G.B W l m) (hs:look N.self l=some (.fn x)) (hv:look p.2 l=some v) (X:NW c t x es E) (R:A5 G.B W fs0 es) (hz:fs0.length<100):
 wpAny (mo G) A (exec (.Assign [.Attribute (.Name (nm N.self) p1) (nm p.1) tp] (.Name (nm p.2) p2) pos) f.env)
  (fun fl s'=> fl= .next/\∃E' zg,Fr f.g f.L s'.heap m/\News f.g f.L s'.heap (E'++rest)/\NW c t x zg E'/\zg≠[]/\A5 G.B W (put p.1 v fs0) zg/\s'.gens=s.gens/\s'.os=s.os) (fun _ _=> False) s:=by
 obtain(⟨us,e1,(r1:us= .ref x)⟩):=L _ _ hs;subst r1;obtain(⟨u,e2,r2⟩):=L _ _ hv;refine xJ (xW F e2 ?_ O.fn h3 h4) (show swapsWith (.Name (nm p.2) p2) (some (.Attribute (.Name (nm N.self) p1) (nm p.1) tp)) pos.line f.env=pure false from Hq (e:=.Name (nm p.2) p2) rfl) (QI (t:=.Attribute (.Name (nm N.self) p1) (nm p.1) tp) rfl);rw [VI rfl];show wpAny (mo G) A (assign (.Attribute (.Name (nm N.self) p1) (nm p.1) tp) f.env u) _ _ _;refine tu (uE (xW F e1 ?_ O.fn h1 h2));refine tu (uU (tu (uE ?_)));have XK:=O.X.keeps F.keep;rcases X with⟨rfl,rfl⟩ |⟨dx,k,rfl,lx⟩
 . have ACL:fs0=[]:=vn.mp R.len;subst ACL;refine kQ (pre:=[]) F N' XK (fun _ h=> nomatch h) (fun q hq=> uu (lt q hq)) g1 g2 g3 g4 fun h' dx F' N2 l2=> vt ⟨rfl,_,_,F',N2,.inr ⟨dx,1,rfl,l2 _ (.head _)⟩,nofun,?_,rfl,rfl⟩;exact⟨⟨⟨_,rfl⟩,r2⟩,trivial⟩
 . have F2:=A5.put (a:=p.1) r2 (u9 G.w.params (nm p.1)) (s.toks+1) R;have zy:(getL (nm p.1) es).isSome=true:=by
    cases hl:look p.1 fs0 with
    |none=> rw [R.miss hl];rfl
    |some x=> obtain(⟨v,h1,_⟩):=R.look hl;rw [h1];rfl
   have zS:(putL (nm p.1) (u9 G.w.params (nm p.1)) (.str (nm p.1) (s.toks+1)) u es).length<=1000:=by rw [<-F2.len];exact t5 (QA p.1 v fs0) (t5 hz (by decide))
   refine kP F N' XK (.tail _ (.head _)) (.head _) g1 g2 g3 g4 zy (news':=(dx,dictOf (putL (nm p.1) (u9 G.w.params (nm p.1)) (.str (nm p.1) (s.toks+1)) u es) (xk (nm p.1) es k))::(x,GU c t dx)::rest) (.head fun q hq=> ?_) zS fun h' F' N2=> vt ⟨rfl,_,_,F',N2,.inr ⟨dx,_,rfl,lx⟩,?_,F2,rfl,rfl⟩
   . rcases uI.mp hq with rfl |hq
     . exact uu lx
     . exact uu (Nat.lt_trans (lt q hq) lx)
   . intro z;have:=F2.len;rw [z]at this;cases fs0 with
     |nil=> cases this
     |cons a r=> unfold put at this;split at this<;>cases this
theorem WH(O:AP G f){c t x:Nat}{rest:Led}(g1:findIn G.K (.ref c) "__setattr__"=some (some (.builtin "object.__setattr__")))(g2:IM G.K c=true)(g4:hasDictIn G.K c=true)(lt:∀q∈rest,q.1<x)(L:DQ G.B W l m)(hs:look N.self l=some (.fn x)):
 ∀{fs:List (N×N)} {body:List Stmt} {fs0 r:List (N×AV)} {es:List uP} {E:Led} {s:tm},NV f.cs fs body->(∀p∈fs,takerIn G.K c (nm p.1)=some none)->E8 l fs=some r->(fs.map (·.1)).Nodup->(∀p∈fs,look p.1 fs0=none)->fs0.length+fs.length<100->
  Fr f.g f.L s.heap m->News f.g f.L s.heap (E++rest)->NW c t x es E->A5 G.B W fs0 es->(fs≠[]∨es≠[])->
  wpAny (mo G) A (execs body f.env) (fun fl s'=> fl= .next/\∃E' zg,Fr f.g f.L s'.heap m/\News f.g f.L s'.heap (E'++rest)/\NW c t x zg E'/\zg≠[]/\A5 G.B W (fs0++r) zg/\s'.gens=s.gens/\s'.os=s.os) (fun _ _=> False) s
 | [],body,fs0,r,es,E,s,T,_,hr,_,_,_,F,N',X,R,y0=> by cases(show body=[]from T);cases hr;rw [uD];exact vG ⟨rfl,E,es,F,N',X,y0.resolve_left (· rfl),R,rfl,rfl⟩
 |p::fs,body,fs0,r,es,E,s,T,g3,hr,nd,hl,hz,F,N',X,R,_=> by
  obtain⟨tp,p1,p2,pos,b,rfl,h1,h2,h3,h4,T⟩:=T;refine AY (show((look p.2 l).bind fun v=> (E8 l fs).map ((p.1,v)::·))=some r from hr) fun v hv hr=> ?_;obtain⟨r',e1,rfl⟩:=uF.mp hr;rw [ud,vF]at nd;have zS:fs0.length+(fs.length+1)<100:=hz;refine xV (uG (kY O g1 g2 (g3 p (.head _)) g4 h1 h2 h3 h4 F N' lt L hs hv X R (by exact A7 zS)) (fun fl s' q=> ?_) fun _ _ x=> x);obtain⟨rfl,E',zg,F',N2,X',ne',R',hg,ho⟩:=q;rw [Qb (hl p (.head _))]at R';have ih:=WH O g1 g2 g4 lt L hs T (fun q hq=> g3 q (.tail _ hq)) e1 nd.2 (fun q hq=> Qc (hl q (.tail _ hq)) (by show(if p.1=q.1 then some v else none)=none;rw [if_neg];intro z;exact nd.1 (by rw [z];exact vX (f:=fun(p:N×N)=> p.1) hq))) (by rw [t9];show fs0.length+1+fs.length<100;exact A7 zS) F' N2 X' R' (.inr ne')
  rw [t8]at ih;exact uG ih (fun fl zH q=> by obtain⟨rfl,E2,es2,q1,q2,q3,q4,q5,q6,q7⟩:=q;exact⟨rfl,E2,es2,q1,q2,q3,q4,q5,q6.trans hg,q7.trans ho⟩) fun _ _ x=> x
end
end
section
abbrev kZ(t:Addr):Data:=.fields #[.ref t,.none,.none,.none,.bool false,.none]
theorem kc{prog:uQ}{w:uS}{A:tx}{E:R5->tm->Prop}{s:tm}{env:Env}{K:Frag}{C:Addr}{x:Sem R5}{Q:uo->tm->Prop}(hh:A.handled=none)(hm:mroIn K C (.type "BaseException")=some true)(ht:typeIn K (.ref C)=some (.type "type"))
 (h:wpAny (model prog w) A x (fun v s₁=> ∃e oe t,v= .ref e/\s₁.heap.get? e=some oe/\oe.cls= .ref C/\oe.data=kZ t/\K.In s₁.heap/\E (.ref e) s₁) E s):
 wpAny (model prog w) A (raiseStmt env (some x) none) Q E s:=by
 unfold raiseStmt;refine tu (uG h (fun v s₁ h₁=> ?_) fun _ _ x=> x);obtain⟨e,oe,t,rfl,he,hc,hd,X,hE⟩:=h₁;have T1:uT (model prog w) s₁.heap (typeOf (.ref e)) (.ref C):=hc▸(Looks.ld he).andThen .now;have T2:uT (model prog w) s₁.heap (isInstance (.ref e) (.type "BaseException")) true:=T1.andThen (vQ X hm);have T4:uT (model prog w) s₁.heap (typeOf (.ref C)) (.type "type"):=looks_typeIn X ht;have nc:∀c,oe.data≠ .cls c:=fun c z=> by rw [hd]at z;cases z
 obtain⟨hp,g,d,tk,os⟩:=s₁;refine tu (t4 ?_);refine tu (uE ?_)
 . unfold excFromValue isExcClass;refine tu (tu (ks_wpAny_isType_inst he nc ?_));simp only [ux,if_false];refine t4 ?_;simp only [ux,if_false];refine tu (T2.here ?_);simp only [if_true];refine t4 ?_;refine tu (ks_wpAny_isType_inst he nc ?_);simp only [ux,if_false];refine tu ?_;unfold raisedInstance;refine tu (T1.here (tu (T4.here ?_)));rw [if_pos (by rfl)];refine t4 ?_;refine tu ?_;unfold setFlight;refine tu (wpAny_field he hd (x:=.none) rfl ?_);rw [if_neg (by decide)];refine t4 ?_;exact wpAny_raiseNew_none hh hE
section
variable{G:Gx}{f:Fx}{A:tx}{P:Prog}{X:XP}{W:Wd}{l:List (N×AV)}{hp:Hp}{M:Led}{ow:Addr->Nat}{m:tq->Option R5}{s:tm}
theorem kf{fn:Fn}{ps:List N}{v v':AV}{as:List AV}{b:List (N×AV)}{fs:List (N×N)}{r:List (N×AV)}(hps:fn.ps= .self::ps)(h:FV fn (v::as) []=some b)(hr:E8 b fs=some r)(hn:∀p∈fs,p.2≠N.self):
 ∃b',FV fn (v'::as) []=some b'/\E8 b' fs=some r/\look N.self b'=some v':=by
 obtain⟨zE,h1,h2,h3⟩:=QG h;cases h1;rw [hps]at h3 h2;obtain⟨b0,h4,rfl⟩:=uF.mp (show(ER ps as fn.BH).map ((N.self,v)::·)=some b from h3);refine⟨(N.self,v')::b0,?_,?_,if_pos rfl⟩
 . show(some (v'::as)).bind _=_;show(if fn.ps.length<=(v'::as).length+fn.BH.length then ER fn.ps (v'::as) fn.BH else none)=_;rw [hps,if_pos (show(N.self::ps).length<=(v'::as).length+fn.BH.length from h2)];show(ER ps as fn.BH).map _=_;rw [h4];rfl
 . have key:∀u,E8 ((N.self,u)::b0) fs=E8 b0 fs:=fun u=> by
    clear hr
    induction fs with
    |nil=> rfl
    |cons p q ih=> show((if N.self=p.2 then some u else look p.2 b0).bind fun v=> (E8 _ q).map _)=_;rw [if_neg (vK (hn p (.head _))),ih fun p hp=> hn p (.tail _ hp)];rfl
   rw [key v'];rw [key v]at hr;exact hr
theorem kg(EO:Ht G P)(O:AP G f){d c:Nat}{cl:Cl}(HA:Bx f (d+1) A)(I:Inv G f W l hp M ow m s)(hc:P.cls c=some cl)(he:cl.exc=true){as:List AV}{vs:List R5}{r:List (N×AV)}{self:AV}{R:Result->tm->Prop}(R0:AX G.B W as vs)(hr:excOf P c self as=some r)(zU:vs.length<=1000)
 (ret:∀t x dx k es s',Fr f.g f.L s'.heap m->News f.g f.L s'.heap ((dx,dictOf es k)::(x,GU c t dx)::(M++W.fz))->(∀q∈M++W.fz,q.1<x)->x<dx->A5 G.B W r es->s'.gens=s.gens->s'.os=s.os->R (.ok (.ret (.ref x))) s'):
 codeAny (mo G) A (.call (.ref c) ⟨vs,[]⟩) R s:=by
 refine cps fun yv yt=> ?_;refine AY hr fun cl' hc' hr=> ?_;refine yt ?_;cases hc.symm.trans hc';rw [if_pos he]at hr;unfold JM at hr;cases hi:cl.init with
 |run _=> rw [hi]at hr;cases hr
 |BY fi fs=>
  refine cps fun zI yy=> ?_;rw [hi]at hr;dsimp only at hr;obtain⟨q1,q2,fn,ps,q3,q4,q5,q6,q7,q8,q9,qual,scope,body,zB,cl',S,T⟩:=EO.BY c cl fi fs hc he hi;rw [q3]at hr;refine AY (show((FV fn (self::as) []).bind fun b=> E8 b fs)=some r from hr) fun b hb hrf=> ?_;obtain⟨p1,p2,p3,p4⟩:=EO.made c cl hc he;obtain⟨p5,p6,p7⟩:=EO.set c cl hc he;obtain⟨heap,gens,drawn,toks,os⟩:=s;refine yy ?_;have XK:G.K.In heap:=I.X O;have lt:∀q∈M++W.fz,q.1<heap.objs.size:=fun q hq=> uf (I.nw q hq).1;let x:=heap.objs.size+1;have F1:=(I.fr.push (Fp vs)).push (CW c heap.objs.size);have N1:News f.g f.L ((heap.push (Fp vs)).push (CW c heap.objs.size)) ((x,CW c heap.objs.size)::(M++W.fz)):=by have N2:=(News.push I.fr I.nw (Fp vs)).push (I.fr.push (Fp vs)) (CW c heap.objs.size);rw [Heap.size_push]at N2;exact News.sub N2 fun p hp=> (uI.mp hp).elim (fun e=> e▸ .head _) fun h=>.tail _ (.tail _ h)
  have XK1:G.K.In ((heap.push (Fp vs)).push (CW c heap.objs.size)):=O.X.keeps F1.keep;refine kL (kJ XK p1) (t5 zU (by rw [sizeLine_eq];decide)) (xh XK q1) (fun self=> bind_fn XK self q2) ?_;refine cps fun zu zL=> ?_;have HA':=HA.type c vs [];obtain⟨b',hb',ACN,AAo⟩:=kf (v':=.fn x) q4 hb hrf q8;obtain⟨name,params,dV,kV,doc,pm,ct,oc,an,od,zk,binds,ho,hbd,z9,hL⟩:=S.binds (s:=⟨(heap.push (Fp vs)).push (CW c heap.objs.size),gens,drawn,toks,os⟩) XK1 (as:=.fn x::as) (vs:=.ref x::vs) ⟨rfl,R0⟩ (ks:=[]) (kv:=[]) trivial hb';refine zL ?_;refine VC O.below F1 N1 O.T.nolimit HA'.fr rfl O.fn ho rfl (codeRec_of XK1 S.code) (yG (t5 (ur _ _) (ur _ _)) HA'.dp) hbd z9 ?_ S.cell S.co S.gen S.kind;intro g L' h₁ Fg F2 N2 Bg st _;let f':Fx:=⟨qual,scope,L',fi,zB,g,f.env::f.outer,A.under (.builtin "type.__call__" ⟨.ref c::vs,[]⟩),cl'⟩;have O':AP G f':=⟨Bg,O.X.keeps st,O.T.keeps st,S.kind⟩;refine PySem.wpAt_of_wpAny (uG (WH (f:=f') (rest:=M++W.fz) (fs0:=[]) (W:=W) O' p5 p6 p4 (fun q hq=> vB (lt q hq)) hL AAo T q9 ACN q6 (fun _ _=> rfl) (uv _▸q7) F2 N2 (.inl ⟨rfl,rfl⟩) trivial (.inl q5)) (fun fl s' q=> ?_) fun _ _ z=> z.elim);refine cps fun P4_ z0=> ?_;obtain⟨rfl,E',zg,z1,z2,z3,z4,z5,z6,z7⟩:=q;refine z0 ?_;rcases z3 with⟨rfl,_⟩ |⟨dx,k,rfl,lx⟩
  . exact absurd rfl z4
  . exact⟨L',_,_,z1,z2,fun F3 N3=> ⟨rfl,ret _ x dx k zg s' F3 N3 (fun q hq=> vB (lt q hq)) lx z5 z6 z7⟩⟩
def NX(G:Gx)(f:Fx)(X:XP):Prop:=∀{W l hp M ow m s} {ea c t dx k:Nat} {fs:List (N×AV)} {es:List uP},Fr f.g f.L s.heap m->News f.g f.L s.heap ((ea,GU c t dx)::(dx,dictOf es k)::(M++W.fz))->
 (∀q∈(dx,dictOf es k)::(M++W.fz),q.1≠ea)->(∀q∈M,q.1≠dx)->A5 G.B W fs es->Di G.prog G.w G.B W M ow hp->s.gens= #[]->s.os=G.os->X W (.obj c fs) l hp (.ref ea) s
theorem kh(O:AP G f):NX G f (XA G f):=fun F N' ne nd R H hg ho=> kU O F N' ne nd R H hg ho
theorem ki(EO:Ht G P)(O:AP G f){d c:Nat}(HA:Bx f (d+1) A)(TR:NX G f X){y:tq}{np pos AB6:Pos}{args:List Expr}{zF:St->Out (List AV)}{cl:Cl}(hc:P.cls c=some cl)(he:cl.exc=true)
 (hs:args.all noStar=true) (zU:args.length<=1000) (hf:AW G f A X (eval (.Name y np) f.env) fun s=>.ok (.cls c) s) (ha:Cs G f A X (evalEach args f.env) zF) (hlen:∀s vs s',zF s= .ok vs s'->vs.length<=1000):
 A6 G f A X (exec (.Raise (some (.Call (.Name y np) args [] pos)) none AB6) f.env) fun s=> (zF s).bind fun vs s=> AR (excOf P c (.ref s.hp.n) vs) fun r=>.exc (.obj c r) s:=fun W l hp M ow m s Z eR I ne=> by
 obtain⟨p1,p2,p3,p4⟩:=EO.made c cl hc he;obtain⟨p5,p6,p7⟩:=EO.set c cl hc he;rw [arm_exec_Raise];refine tu (uU ?_);show wpAny (mo G) A (raiseStmt f.env (some (do let v<-eval (.Call (.Name y np) args [] pos) f.env;standAt AB6;pure v)) none) _ _ _;refine kc (K:=G.K) (C:=c) HA.hd p7 p3 (tu (vZ (Vv (r:=.ok (.cls c) ⟨l,hp⟩) (k:=fun _ s=> (zF s).bind fun vs s=> AR (excOf P c (.ref s.hp.n) vs) fun r=> (.exc (.obj c r) s:Out Flow)) eR W.le_rfl (fun q=> hf W l hp M ow m _ _ rfl (I.tok _) q) ne fun a σ V L ow m u s' e0 eR h1 h2 I hu=> ?_)));cases e0;cases(hu:u= .ref c);rw [D8 _ _ _ hs];refine wX (P:=LQ G (.ref c)) (by rw [plain_any];rfl) (fun h p=> p) (FJ (Po eR h1 (fun q=> ha V _ _ L ow m s' _ rfl I q) ne fun as σ' V' L ow m vs s' e1 eR h1 yz I hv=> ⟨keeps_K p2 _ (I.X O),?_⟩));obtain⟨r,hr,eR⟩:=BK eR ne;refine vi (kg EO O HA I hc he hv hr (hv.length▸hlen _ _ _ e1) fun t x dx k es zH F N' lt lx R hg ho=> ?_);refine tu (uU (t4 ?_));refine⟨x,_,t,rfl,(N' _ (.tail _ (.head _))).1,rfl,rfl,O.X.keeps F.keep,_,_,V',eR.symm,h1,?_⟩;refine TR (M:=L) (ow:=ow) (m:=m) (t:=t) (k:=k) F (News.sub N' fun p hp=> ?_) (fun q hq=> ?_) (fun q hq=> uu (Nat.lt_trans (lt q (uK _ hq)) lx)) R I.hi (hg.trans I.gn) (ho.trans I.os)
 . rcases uI.mp hp with rfl |hp
   . exact .tail _ (.head _)
   . rcases uI.mp hp with rfl |hp
     . exact .head _
     . exact .tail _ (.tail _ hp)
 . rcases uI.mp hq with rfl |hq
   . exact vD lx
   . exact uu (lt q hq)
end
end
section
inductive WI(G:Gx)(f:Fx)(W:Wd)(x:AV)(l:List (N×AV))(hp:Hp)(e:R5)(s:tm):Prop
 |mk (ea:_) (c:_) (t:_) (dx:_) (k:_) (fs:_) (es:_) (M:_) (ow:_) (m:_) (g:_) (za:e= .ref ea) (zb:x= .obj c fs) (ze:(∃B,G.B.StaysIn B/\(∀q∈(dx,dictOf es k)::(M++W.fz),B.get? q.1=some q.2/\G.B.get? q.1=none)/\Heap.HeldW B (f.env::f.outer) ea (.ref c) (.ref t) f.L s.heap)) (zt:Fr f.g f.L g m) (h4_:g.UpToSlots s.heap) (h5_:(∃oe,s.heap.get? ea=some oe/\oe.dict=some dx/\f2 oe.data=some .none)) (h6_:A5 G.B W fs es) (h7_:Di G.prog G.w G.B W M ow hp) (h8_:(∀q∈M,q.1≠dx)) (h9_:DQ G.B W l m) (h10_:s.gens= #[]) (h11_:s.os=G.os)
def XL(G:Gx)(f:Fx):XP:=fun W x l hp e s=> wpAny (mo G) f.A0 (noteFrame e f.env) (fun _ s'=> WI G f W x l hp e s') (fun _ _=> False) s
section
variable{G:Gx}{f:Fx}{W:Wd}{l:List (N×AV)}{hp:Hp}{M:Led}{ow:Addr->Nat}{m:tq->Option R5}{s:tm}
theorem kj(O:AP G f){g:Heap}(F:Fr f.g f.L g m)(Lr:DQ G.B W l m){x:AV}{e:R5}(R:Arr G (f.env::f.outer) g W x hp e s):XL G f W x l hp e s:=by refine cps fun yv yt=> ?_;obtain⟨ea,c,t,dx,k,fs,es,M,ow,rfl,rfl,⟨B,b1,b2,b3⟩,up,⟨oe,he1,zo,he3⟩,fr,H,nd,hg,zw⟩:=R;refine yt ?_;refine uG (KD.any (KD.noteFrame _ _) (wpAny_looks_onW (Q:=fun _ s'=> Heap.HeldW B (f.env::f.outer) ea (.ref c) (.ref t) f.L s'.heap/\s.heap.UpToSlots s'.heap/\s'.gens=s.gens/\s'.os=s.os) (xI O.below.stack) (env:=f.env) (L:=f.L) rfl b3 fun h' x1 x2=> ⟨x1,x2,rfl,rfl⟩)) (fun _ s' h=> ?_) fun _ _ x=> x;refine cps fun zI yy=> ?_;obtain⟨⟨x1,x2,hg',AAs⟩,D⟩:=h;obtain⟨oe',ABd,AAu⟩:=D _ _ he1;refine yy ?_;exact⟨ea,c,t,dx,k,fs,es,M,ow,m,g,rfl,rfl,⟨B,b1,b2,x1⟩,F,up.trans x2,⟨oe',ABd,AAu.1.trans zo,AAu.2.trans he3⟩,fr,H,nd,Lr,hg'.trans hg,AAs.trans zw⟩
theorem kl:Hr G f f.A0 (XL G f):=fun W r e s h=> by obtain⟨x,σ,W',h1,h2,h3⟩:=h;exact WG (PassesOwn.looking (K:=fun e s'=> WI G f W' x σ.loc σ.hp e s') e s h3) fun e s q=> ⟨x,σ,W',h1,h2,q⟩
theorem km{M:um}{A:tx}{K:Frag}{e c C:Nat}{oe:Obj}{Q:Bool->tm->Prop}{E:R5->tm->Prop}(X:K.In s.heap)(he:s.heap.get? e=some oe)(hc:oe.cls= .ref c)(h1:(clsIn K C).isSome=true)(h2:typeIn K (.ref C)=some (.type "type"))
 (h3:mroIn K C (.type "BaseException")=some true) (h4:mroIn K c (.ref C)=some true) (h:Q true s):wpAny M A (excMatches (.ref e) (.ref C)) Q E s:=by
 have L1:uT M s.heap (typeOf (.ref e)) (.ref c):=hc▸(Looks.ld he).andThen .now;have L2:=looks_typeIn (M:=M) X h2;have L3:=vQ (M:=M) X h3;have L4:=vQ (M:=M) X h4;have L5:uT M s.heap (isSubtype (.type "type") (.type "tuple")) false:=Looks.of_pure tc_notTuple;obtain⟨cd,z8⟩:=wd.mp h1;have L7:uT M s.heap (isType (.ref C)) true:=by
  unfold clsIn at z8;cases ho:K.lookup C with
  |none=> rw [ho]at z8;cases z8
  |some o=>
   obtain⟨oc,od,dat,sl⟩:=o;rw [ho]at z8;cases dat with
   |cls cd=> exact(Looks.ld (X _ _ ho)).andThen .now
   |_=> cases z8
 obtain⟨hp,g,d,t,os⟩:=s;unfold excMatches isExcClass isInstance
 repeat(first |simp only [xd,ux,if_false,if_true,wO,List.forIn_nil] |lk)
 exact h
def XN:XP:=fun _ _ _ _ _ _=> False
theorem Qh{n y:N}{a:AV}:∀{l:List (N×AV)},look y (ES n l)=some a->y≠n/\look y l=some a
 |(z,w)::r,h=> by
  rw [Z5]at h;by_cases q:z=n
  . rw [if_pos q]at h;obtain⟨h1,h2⟩:=Qh h;refine⟨h1,?_⟩;show(if z=y then some w else look y r)=some a;rw [if_neg (fun e=> h1 (e.symm.trans q)),h2]
  . rw [if_neg q]at h;by_cases e:z=y
    . have h:(if z=y then some w else look y (ES n r))=some a:=h;rw [if_pos e]at h;refine⟨fun z'=> q (e.trans z'),?_⟩;show(if z=y then some w else look y r)=some a;rw [if_pos e];exact h
    . have h:(if z=y then some w else look y (ES n r))=some a:=h;rw [if_neg e]at h;obtain⟨h1,h2⟩:=Qh h;refine⟨h1,?_⟩;show(if z=y then some w else look y r)=some a;rw [if_neg e,h2]
theorem kq{P:Prog}{X:XP}(EO:Ht G P)(O:AP G f)(hgB:f.g=G.B){C:Nat}{clC:Cl}(hC:P.cls C=some clC)(hCe:clC.exc=true)(hCc:(clsIn G.K C).isSome=true){b AB7:List Stmt}{b₀:Stmt}{rest:List w7}{y:tq}{n:N}{np ABe pos:Pos}{eb eh:St->Out Flow}
 (hB:A6 G f f.A0 (XL G f) (execs b f.env) eb) (hy:nsIn G.K mainGlobals y=some (some (.ref C))) (hyg:f.cs.names.lookup y=some .globalImplicit) (hyd:(y==("__debug__":tq))=false) (hn:f.cs.names.lookup (nm n)=some .local)
 (hH:∀(ea:Nat) (oe:Obj) (ws:Array R5),oe.data= .fields ws->ws[2]? =some .none->∀W l hp M ow m s Z,(ea,oe)∈W.fz->eh ⟨l,hp⟩=Z->Inv G f W l hp M ow m s->Z≠ .bad->Ia G f (f.A0.mark (some (.ref ea))) XN W (execs (b₀::AB7) f.env) Z s):
 A6 G f f.A0 X (exec (.Try b (.ExceptHandler (some (.Name y np)) (some (nm n)) (b₀::AB7) ABe::rest) [] [] pos) f.env) fun s=> match eb s with
  | .ok f s=>.ok f s
  | .exc e s=> if HW P e C=true then(eh ⟨put n e s.loc,s.hp⟩).bind fun f s=>.ok f ⟨ES n s.loc,s.hp⟩else .bad
  | .bad=>.bad:=fun W l hp M ow m s Z eR I ne=> by
 dsimp only at eR;cases hr:eb ⟨l,hp⟩with
 |bad=> rw [hr]at eR;exact absurd eR.symm ne
 |ok a σ=>
  rw [hr]at eR;dsimp only at eR;refine yM (uG (hB W l hp M ow m s _ hr I nofun) (fun v s' q=> ?_) fun e s' q=> ?_)
  . refine cps fun yv yt=> ?_;obtain⟨a',σ',V,L,zC,m',h1,h2,h3,h4⟩:=q;refine yt ?_;cases(h1);cases(a)<;>cases(v)<;>first |exact h4.elim |skip
    . exact vG (h3.F eR h2 trivial)
    . exact h3.F eR h2 trivial
    . exact h3.F eR h2 trivial
    . exact h3.F eR h2 h4
  . refine cps fun zI yy=> ?_;obtain⟨_,_,_,z,_⟩:=q;refine yy ?_;cases(z)
 |exc x σ=>
  rw [hr]at eR;dsimp only at eR;refine yM (uG (hB W l hp M ow m s _ hr I nofun) (fun v s' q=> ?_) fun e s' q=> ?_)
  . refine cps fun zu zL=> ?_;obtain⟨_,_,_,_,_,_,z,_⟩:=q;refine zL ?_;cases(z)
  . refine cps fun P4_ z0=> ?_;obtain⟨x',σ',V,z,le,q⟩:=q;refine z0 ?_;cases(z);by_cases hx:HW P x C=true
    . rw [if_pos hx]at eR;refine uG q (fun _ s2 q2=> ?_) fun _ _ z=> z.elim;refine cps fun P5_ k5_=> ?_;obtain⟨ea,c,t,dx,k,fs,es,M2,ow2,m2,g,rfl,rfl,⟨B,b1,b2,b3⟩,F,up,hd,fr,H,nd,Lr,hg,zw⟩:=q2;obtain⟨cl,hc,hcx⟩:=any_some (show(P.cls c).any (fun cl=> cl.exc&&cl.mro.contains C)=true from hx);have hcx:=t6.mp hcx;have hup:=EO.up c cl C hc hcx.1 hcx.2;obtain⟨p1,p2,p3,p4⟩:=EO.made C clC hC hCe;obtain⟨p5,p6,p7⟩:=EO.set C clC hC hCe;refine k5_ ?_;refine uG (KD.any (KD.setFlight _ _) (wpAny_landsW (Q:=fun _ s'=> xl B (f.env::f.outer) ea (.ref c) (.ref t) s'.heap/\s2.heap.UpToSlots s'.heap/\s'.gens=s2.gens/\s'.os=s2.os) b3 fun h' x1 x2=> ⟨x1,x2,rfl,rfl⟩)) (fun _ s3 q3=> ?_) fun _ _ z=> z;refine cps fun P6_ k6_=> ?_;obtain⟨⟨x1,x2,hg3,ACO⟩,D3⟩:=q3;obtain⟨oe,hd1,hd2,hd6⟩:=hd;obtain⟨oe3,hd3,hd4⟩:=D3 _ _ hd1;have hLB:B.get? f.L=none:=by
       obtain⟨_,⟨L',_,hf,hn',_⟩,_⟩:=x1.2.2.1;obtain rfl:f.L=L':=uR hf;exact hn'
      have x1':=flyingW_base b1 x1;have F3:Fr f.g f.L s3.heap m2:=F.of_stays (hgB▸x1'.1) (up.trans x2);obtain⟨oe3',hoe,hoc⟩:=x1.there;refine k6_ ?_;cases hd3.symm.trans hoe;refine wpAny_handleBy_cons (codeAny_handlers_test ?_) (by intro q;cases(q));refine PySem.W.nameX_K F3 O.X (topRead_of O.T) hy ?_ O.fn hyg hyd;refine km (O.X.keeps F3.keep) hoe hoc hCc p3 p7 hup ?_;refine codeAny_handlers_suite_as ?_;refine uG (KD.any (KD.setFlight _ _) (lands_againW (Q:=fun _ s'=> xl B (f.env::f.outer) ea (.ref c) (.ref t) s'.heap/\s3.heap.UpToSlots s'.heap/\s'.gens=s3.gens/\s'.os=s3.os) x1 fun h' x1 x2=> ⟨x1,x2,rfl,rfl⟩)) (fun _ s4 q4=> ?_) fun _ _ z=> z;refine cps fun P7_ k7_=> ?_;obtain⟨⟨y1,y2,hg4,ACP⟩,D4⟩:=q4;obtain⟨oe4,he4,hd5⟩:=D4 _ _ hoe;have y1':=flyingW_base b1 y1;have F4:Fr f.g f.L s4.heap m2:=F3.of_stays (hgB▸y1'.1) y2;obtain⟨oe4',ws,hf1,hf2,hf3,_⟩:=y1'.first
      refine k7_ ?_;cases he4.symm.trans hf1;have ndx:dx≠ea:=fun z=> by have:=(b2 (dx,dictOf es k) (.head _)).1;dsimp only at this;rw [z,y1.2.1]at this;cases(this)
      have nea:∀q∈M2++V.fz,q.1≠ea:=fun q hq z=> by have:=(b2 q (.tail _ hq)).1;rw [z,y1.2.1]at this;cases(this)
      let Ice:Led:=[(ea,oe4),(dx,dictOf es k)];have N4:News f.g f.L s4.heap (M2++(V.CK Ice).fz):=fun q hq=> by
       have old:∀q∈(dx,dictOf es k)::(M2++V.fz),s4.heap.get? q.1=some q.2/\q.1≠f.L/\f.g.get? q.1=none:=fun q hq=>
        ⟨y1.1 _ _ (b2 q hq).1,fun z=> (by have:=(b2 q hq).1;rw [z,hLB]at this;cases(this)),hgB▸(b2 q hq).2⟩
       rcases uN.mp hq with h |h
       . exact old q (.tail _ (uK _ h))
       . rcases uN.mp h with h |h
         . rcases uI.mp h with rfl |h
           . refine⟨he4,fun z=> ?_,hgB▸y1'.2.1⟩;refine cps fun P8_ k8_=> ?_;obtain⟨o,es9,ep9,ho,hod,_⟩:=F4.ns;refine k8_ ?_;rw [<-show ea=f.L from z,he4]at ho;cases(ho);rw [hf3]at hod;cases(hod)
           . rcases uI.mp h with rfl |h
             . exact old _ (.head _)
             . cases(h)
         . exact old q (.tail _ (uC _ h))
      have I4:Inv G f (V.CK Ice) σ.loc σ.hp M2 ow2 m2 s4:=⟨F4,N4,H.CK (fun q hq p hp=> by
       rcases uI.mp hq with rfl |hq
       . exact vK (nea p (uK _ hp))
       . rcases uI.mp hq with rfl |hq
         . exact vK (nd p hp)
         . cases(hq)),Lr.mono (V.Cr _),(hg4.trans (hg3.trans hg)),(ACP.trans (ACO.trans zw))⟩
      have v4:AK G.B (V.CK Ice) (.obj c fs) (.ref ea):=⟨ea,oe4,dx,es,k,rfl,.inl (uK _ (.head _)),hf2,hd5.1.trans (hd4.1.trans hd2),by refine cps fun P9_ k9_=> ?_;obtain⟨c',d',dt',sl'⟩:=oe4;refine k9_ ?_;cases(hf3);rfl,.inl (uK _ (.tail _ (.head _))),fr.mono (V.Cr _)⟩
      refine GR O.fn hn I4 v4 fun m5 s5 I5=> ?_;have hw2:ws[2]? =some .none:=by have:=hd5.2.trans (hd4.2.trans hd6);rw [hf3]at this;exact this
      refine uG (hH ea oe4 ws hf3 hw2 _ _ _ _ _ _ _ _ (uK _ (.head _)) rfl I5 (CC (eR▸ne))) (fun fl s6 q6=> ?_) fun _ _ q=> ?_
      . refine cps fun P10_ ACQ=> ?_;obtain⟨a,σ6,V6,M6,ow6,m6,z1,z2,z3,z4⟩:=q6;refine ACQ ?_;refine wpAny_nameGoes_keeps (env:=f.env) hn z3.fr.ns (by show(f.cs.kind==.class||(f.cs.kind==.module&&f.L !=mainGlobals))=false;rw [O.fn];rfl) fun h' v hns hs=> ?_;have Z:Inv G f V6 (ES n σ6.loc) σ6.hp M6 ow6 (fun x=> if x=nm n then v else m6 x) {s6 with heap:=h',toks:=s6.toks+1}:=⟨z3.fr.set hns hs,z3.nw.set hs,z3.hi,fun y a e=> by
         refine cps fun P11_ ACR=> ?_;obtain⟨e1,e2⟩:=Qh e;obtain⟨u,w1,w2⟩:=z3.lr y a e2;refine ACR ?_;exact⟨u,(if_neg fun q=> e1 (JN q)).trans w1,w2⟩,z3.gn,z3.os⟩
        exact⟨a,_,V6,M6,ow6,_,eR.symm.trans (CD z1),le.trans ((V.Cr _).trans z2),Z,z4⟩
      . refine cps fun P12_ ACS=> ?_;obtain⟨_,_,_,_,_,z⟩:=q;refine ACS ?_;exact z.elim
    . rw [if_neg hx]at eR;exact absurd eR.symm ne
end
end
section
theorem ku:entryFor table "proto.unchain"=some Builtin.«proto.unchain»:=entryFor_of_tree (by kernel_rfl)
section
variable{prog:uQ}{w:uS}{A:tx}{E:R5->tm->Prop}{s:tm}{ea:Addr}{oe:Obj}{ws:Array R5}
theorem kx{α:Type}{a:Addr}{oa:Obj}{vs:Array R5}{Q:α->tm->Prop}(hh:A.handled=some (.ref ea))(he:s.heap.get? ea=some oe)(hd:oe.data= .fields ws)(h2:ws[2]? =some .none)(ne:ea≠a)
 (ha:s.heap.get? a=some oa) (hda:oa.data= .fields vs) (hz:2<vs.size) (h:E (.ref a) {s with heap:=s.heap.update a (w9 (·.setIfInBounds 2 (.ref ea)))}):wpAny (model prog w) A (raiseNew (.ref a):Sem α) Q E s:=by
 unfold raiseNew;refine tu (wpAny_handled ?_);rw [hh];dsimp only;rw [if_pos (show(vj ea !=vj a)=true from by simpa using ne)];refine tu (uE (wpAny_runValue (codeAny_builtin ku ?_)));show wpAny _ _ (field (.ref ea) 2 >>=_) _ _ s;refine tu (wpAny_field he hd h2 ?_);rw [if_pos (show(vy==vy)=true from rfl)];refine tu (t4 (t4 ?_));show wpAny _ _ (updateField a 2 (.ref ea) >>=_) _ _ _;unfold updateField;refine tu (tu (wpAny_load ha ?_));rw [hda];dsimp only;rw [if_pos hz];exact wpAny_update ha (wpAny_throw h)
theorem kz{it t:Addr}{i:Nat}{items:Array R5}{Q:Option R5->tm->Prop}(hh:A.handled=some (.ref ea))(he:s.heap.get? ea=some oe)(hd:oe.data= .fields ws)(h2:ws[2]? =some .none)(ne:ea≠it)
 (hit:IsTupIter s.heap it t i) (ht:IsTup s.heap t items) (hx:items[i]? =none) (hQ:∀h',Heap.ExtBut it s.heap h'->Q none {s with heap:=h'}):wpAny (model prog w) A (pyNext (.ref it)) Q E s:=by
 refine cps fun yv yt=> ?_;obtain⟨o,ho,hc,zp⟩:=id hit;obtain⟨ol,KQ,_,nl,hdl⟩:=ht;refine yt ?_;unfold pyNext;refine tu (wpAny_attempt (yk (name:=PySem.Str.ofString "__next__") hit.typeIs slot_tupleiter_next (wpAny_call_entry slot_tupleiter_next hit.typeIs entry_tupleiter_next ?_ (args_tupleiter_next _))));show wpAny _ _ (field (.ref it) 0 >>=_) _ _ s;refine tu (wpAny_field ho zp (x:=.ref t) rfl ?_);show wpAny _ _ (if(vj t==vy)=true then _ else _) _ _ s;rw [if_neg (show¬((vj t==vy)=true)from vY)];show wpAny _ _ (field (.ref it) 1 >>=_) _ _ s;refine tu (wpAny_field ho zp (x:=.int i 0) rfl ?_);show wpAny _ _ (seqItems? (.ref t) >>=_) _ _ s;refine tu (wpAny_seqItems KQ hdl ?_);simp only [vq,hx];refine tu (wpAny_rule (tu (wpAny_setField ho zp (by simp) ?_)));show wpAny _ _ (newExc (.type "StopIteration") [] >>=_) _ _ _;refine tu ?_;simp only [newExc,newTuple];refine tu (wpAny_newObj_type ?_ (by size_fits));refine tu (m:=firstArgMember _ _) (wpAny_of_eq (a:=vy) (by first |rfl |(simp only [firstArgMember];rfl)) ?_);refine wpAny_newObj_type ?_ (by size_fits);have el:=uf he;have keep:∀(o2 o3:Obj) b o,b≠it->s.heap.get? b=some o->(((s.heap.update it (w9 fun x=> x.setIfInBounds 0 vy)).push o2).push o3).get? b=some o:=fun o2 o3 b o hb e=>
  vL _ (vL _ ((xt _ _ (vK hb)).trans e))
 have sz:∀o2:Obj,((s.heap.update it (w9 fun x=> x.setIfInBounds 0 vy)).push o2).objs.size=s.heap.objs.size+1:=fun o2=> by rw [Heap.size_push,Heap.size_update]
 refine kx (A:=A.in1) hh (keep _ _ _ _ ne he) hd h2 (by dsimp only;rw [sz];exact uu (vB el)) (xK _ rfl) rfl (by simp;exact Gj) ?_;refine tu (yL (T:="StopIteration") (b:=true) ⟨_,xw _ (xK _ rfl) rfl,rfl⟩ isSubtype_stop ?_);refine t4 (hQ _ fun b o hb e=> ?_);have bl:=uf e;exact(xt _ _ (by dsimp only;rw [sz];exact vD (vB bl))).trans (keep _ _ _ _ hb e)
theorem lA{n:Nat}{t:Addr}{items:Array R5}{Q:List R5->tm->Prop}(hh:A.handled=some (.ref ea))(he:s.heap.get? ea=some oe)(hd:oe.data= .fields ws)(h2:ws[2]? =some .none)(ht:IsTup s.heap t items)(hn:n=items.size)
 (hQ:∀h',Heap.ExtBut s.heap.objs.size s.heap h'->Q items.toList {s with heap:=h'}):wpAny (model prog w) A (unpackItems (.ref t) n none) Q E s:=by
 subst hn;have y9:t≠s.heap.objs.size:=by obtain⟨o,ho,_⟩:=ht;exact uu (uf ho)
 have hle:ea≠s.heap.objs.size:=uu (uf he);unfold unpackItems notIterableAtAll;refine tu (tu (wpAny_specialOf ht.typeIs slot_tuple_iter.lookup (t4 ?_)));simp only [ux,if_false];refine tu (uE (iter_tuple ht ?_));refine tu (uE (draw_tuple y9 items.size 0 _ _ ⟨_,xK _ rfl,rfl,rfl⟩ (ht.push _) (t7 (uv _)) fun h₁ ACT hs₁=> ?_));rw [w6,wF (by simp)];rw [if_neg (by simp)];have he₁:h₁.get? ea=some oe:=hs₁.extBut _ _ hle (vL _ he);refine tu (uE (kz hh he₁ hd h2 hle ACT ((ht.push _).extBut hs₁.extBut y9) (by simp) fun h₂ he₂=> ?_));simp only [Option.isSome_none,ux,if_false];exact t4 (hQ h₂ fun b o hb e=> he₂ b o hb (hs₁.extBut b o hb (vL _ e)))
end
end
section
theorem It:∀{a b:List Nat},C3 a b=true->a=b
 | [],b,h=> (u7.mp h).symm
 |a::r,[],h=> nomatch h
 |a::r,c::t,h=> by have h:=t6.mp h;rw [uq h.1,It h.2]
theorem NY:∀a:List Nat,C3 a a=true
 | []=> rfl
 |a::r=> t6.mpr ⟨Nat.beq_refl a,NY r⟩
theorem str_of_list{x:tq}{l:List Nat}(h:x.cps.toList=l):x=⟨l.toArray⟩:=h▸rfl
theorem WJ{x:tq}{n:N}(h:isNm x n=true):x=nm n:=str_of_list (It h)
theorem NZ{x:tq}:∀l:List (tq×v5),JQ l x.cps.toList=l.lookup x
 | []=> rfl
 |(y,k)::r=> by
  rw [ug,<-NZ r];show(match C3 y.cps.toList x.cps.toList with |true=> some k |false=> JQ r x.cps.toList)=_;cases h:C3 y.cps.toList x.cps.toList with
  |true=> rw [str_of_list (It h),show(x==(⟨x.cps.toList.toArray⟩:tq))=true from beq_self_eq_true x]
  |false=> rw [show(x==y)=false from beq_eq_false_iff_ne.mpr fun e=> by rw [e,NY]at h;cases h]
theorem WK{x:tq}(h:C3 x.cps.toList MR=false):(x==("__debug__":tq))=false:=
 beq_eq_false_iff_ne.mpr fun e=> by rw [e,show C3 (("__debug__":tq)).cps.toList MR=true by decide+kernel]at h;cases h
theorem WL{l:List Nat}(h:O2 l=true):BN l:=
 have h:=t6.mp h
 ⟨uH h.1,fun c hc=> uH (uM.mp h.2 c hc)⟩
theorem LR{α:Type}{b:Bool}{o:Option α}{a:α}(h:Ha b o=some a):b=true/\o=some a:=by
 cases b
 . cases h
 . exact⟨rfl,h⟩
theorem HB{α:Type}{a:α}{q:Prop}(h:(none:Option α)=some a):q:=nomatch h
variable{G:Gx}{f:Fx}{A:tx}{X:XP}{P:Prog}{cf:Nat->List AV->List (N×AV)->Hp->COut}{gl:tq->Option (Option R5)}{PQ:Nat->Bool}
structure B5(G:Gx)(f:Fx)(A:tx)(X:XP)(P:Prog)(cf:Nat->List AV->List (N×AV)->Hp->COut)(gl:tq->Option (Option R5)):Prop where
 O:AP G f
 CE:Hs G f A X P cf
 IS:QZ G P
 DR:∀y r,gl y=some r->nsIn G.K mainGlobals y=some r
theorem B5.HA(H:B5 G f A X P cf gl):∃d,Bx f d A:=let⟨d,h,_⟩:=H.CE.ex;⟨_,h⟩
theorem WM{k:Option v5}(h:O3 k=true):k=some .local:=by
 cases k with
 |none=> cases h
 |some k=> cases k<;>first |rfl |cases h
theorem lB{k:Option v5}(h:S0 k=true):k=some .globalImplicit:=by
 cases k with
 |none=> cases h
 |some k=> cases k<;>first |rfl |cases h
theorem lC{k:Option (Option R5)}(h:S1 k=true):k=some none:=by
 cases k with
 |none=> cases h
 |some k=> cases k<;>first |rfl |cases h
theorem Qi{k:Option (Option R5)}{a:Nat}(h:O5 k a=true):k=some (some (.ref a)):=by
 cases k with
 |none=> exact cFT h
 |some k=> cases k with
  |none=> exact cFT h
  |some v=> cases v with
   |ref b=> rw [uq h]
   |_=> exact cFT h
theorem HC{b:Bool}(h:(!b)=true):b=false:=by cases b;rfl;exact cFT h
theorem Dl{x:N}(h:Dw f.cs x=true):f.cs.names.lookup (nm x)=some .local:=NZ f.cs.names▸WM (t6.mp h).1
theorem HD{x:N}(h:Dw f.cs x=true):(nm x==("__debug__":tq))=false:=WK (HC (t6.mp h).2)
theorem Qj{y:tq}(h:MS f.cs y.cps.toList=true):f.cs.names.lookup y=some .globalImplicit:=NZ f.cs.names▸lB (t6.mp h).1
theorem Qk{y:tq}(h:MS f.cs y.cps.toList=true):(y==("__debug__":tq))=false:=WK (HC (t6.mp h).2)
theorem Jw(H:B5 G f A X P cf gl){y:tq}{b:Nat}{pos:Pos}{a:AV}(hv:∀W,AK G.B W a (.ref b))(h:GI f.cs gl y b=true):AW G f A X (eval (.Name y pos) f.env) fun s=>.ok a s:=
 Aa h fun h1 h2=> d8 H.O (H.DR _ _ (Qi h2)) hv (Qj h1) (Qk h1)
theorem Hu(H:B5 G f A X P cf gl){l:List Nat}{v:R5}(h:Gv f.cs gl l=true)(hv:bootBuiltins ⟨l.toArray⟩=some v)(hn:C3 l (("__name__":tq)).cps.toList=false):Built G f ⟨l.toArray⟩ v:=
 Aa h fun h1 h2=> ⟨H.DR _ _ (lC h2),hv,fun z=> by
  have e:l=(("__name__":tq)).cps.toList:=by rw [<-z]
  rw [e,NY]at hn;exact cTF hn,Qk (y:=⟨l.toArray⟩) h1,Qj (y:=⟨l.toArray⟩) h1⟩
theorem boot_len:bootBuiltins ⟨O6.toArray⟩=some (.builtin "len"):=by decide+kernel
theorem boot_int:bootBuiltins ⟨O7.toArray⟩=some (.type "int"):=by decide+kernel
theorem boot_list:bootBuiltins ⟨O8.toArray⟩=some (.type "list"):=by decide+kernel
theorem boot_str:bootBuiltins ⟨O9.toArray⟩=some (.type "str"):=by decide+kernel
theorem WN:bootBuiltins ⟨Kg.toArray⟩=some (.builtin "isinstance"):=by decide+kernel
theorem boot_range:bootBuiltins ⟨PA.toArray⟩=some (.type "range"):=by decide+kernel
theorem lD:bootBuiltins ⟨PB.toArray⟩=some (.type "enumerate"):=by decide+kernel
theorem WO{t:Sem R5}:AW G f A X t (Ai P cf .Al):=fun W l hp M ow m s Z eR I ne=> absurd eR.symm ne
def LS(G:Gx)(f:Fx)(A:tx)(X:XP)(P:Prog)(cf:Nat->List AV->List (N×AV)->Hp->COut)(e:Expr)(c:CE):Prop:=
 AW G f A X (eval e f.env) (Ai P cf c)/\B8 G f A X (isTrue e f.env (eval e f.env)) (A8 P cf c)
theorem WQ{t:Sem Bool}{c:CE}(h:∀s,A8 P cf c s= .bad):B8 G f A X t (A8 P cf c):=fun W l hp M ow m s Z eR I ne=> absurd (eR.symm.trans (h _)) ne
theorem Hv(O:AP G f){e:Expr}{c:CE}(hs:∀s,A8 P cf c s=Cf (Ai P cf c s))(hv:isTrue e f.env (eval e f.env)=(do let v<-eval e f.env;standAt e.pos;holding [v] (vu v)))(h:AW G f A X (eval e f.env) (Ai P cf c)):LS G f A X P cf e c:=
 ⟨h,fun W l hp M ow m s Z eR I ne=> eL O h hv W l hp M ow m s Z ((hs _).symm.trans eR) I ne⟩
theorem GV{e:Expr}{c:CE}(hb:∀s,A8 P cf c s= .bad)(h:AW G f A X (eval e f.env) (Ai P cf c)):LS G f A X P cf e c:=⟨h,WQ hb⟩
theorem Na{n:Nat}(h:uJ n 1000=true):n<=lim:=t5 (uH h) (by decide)
theorem Jx:∀{cs:List CE} {s s':St} {vs:List AV},Cg P cf cs s= .ok vs s'->vs.length=cs.length
 | [],s,s',vs,e=> by cases e;rfl
 |c::cs,s,s',vs,e=> by
  replace e:((Ai P cf c s).bind fun v s=> (Cg P cf cs s).bind fun vs s=> Out.ok (v::vs) s)= .ok vs s':=e;cases h1:Ai P cf c s with
  |bad=> rw [h1]at e;cases e
  |exc _ _=> rw [h1]at e;cases e
  |ok v σ=>
   rw [h1]at e;replace e:((Cg P cf cs σ).bind fun vs s=> Out.ok (v::vs) s)= .ok vs s':=e;cases h2:Cg P cf cs σ with
   |bad=> rw [h2]at e;cases e
   |exc _ _=> rw [h2]at e;cases e
   |ok us σ'=> rw [h2]at e;cases e;exact congrArg (· +1) (Jx h2)
end
section
variable{G:Gx}{f:Fx}{A:tx}{X:XP}{P:Prog}{cf:Nat->List AV->List (N×AV)->Hp->COut}{gl:tq->Option (Option R5)}
theorem Nb{v:AV}{t:PT}(h:Hb v=true):AW G f A X (eval (Kh v t) f.env) fun s=>.ok v s:=by
 cases v with
 |none=> exact d4
 |bool b=> exact d5
 |int i=> exact d6
 |str s=> exact d7 rfl (WL h)
 |_=> exact cFT h
theorem lE(H:B5 G f A X P cf gl){v:AV}{t:PT}(h:PE f.cs gl v t=true):AW G f A X (eval (Kh v t) f.env) fun s=>.ok v s:=by
 cases v with
 |cls b=> exact Jw H (fun W=> rfl) h
 |fn b=> exact Jw H (fun W=> rfl) h
 |_=> exact Nb h
theorem lF(H:B5 G f A X P cf gl){v:AV}{t:PT}(h:PE f.cs gl v t=true):LS G f A X P cf (Kh v t) (.cst v):=
 Hv H.O (fun _=> rfl) (by cases v<;>rfl) (lE H h)
theorem WS(H:B5 G f A X P cf gl){g:CE}{t:PT}(h:PF f.cs gl g t=true):AW G f A X (eval (.Name (PC g t) t.p) f.env) (Ai P cf g):=by
 cases g with
 |var x=> exact Jd H.O.fn (Dl h) (HD h)
 |cst v=> cases v with
  |fn b=> exact Jw H (fun W=> rfl) h
  |cls b=> exact Jw H (fun W=> rfl) h
  |_=> exact cFT h
 |Al=> exact WO
 |_=> exact cFT h
inductive BL(G:Gx)(f:Fx)(A:tx)(X:XP)(P:Prog)(cf:Nat->List AV->List (N×AV)->Hp->COut):List Expr->List CE->Prop
 |nil:BL G f A X P cf [] []
 |cons {e:Expr} {c:CE} {es:List Expr} {cs:List CE} (h:LS G f A X P cf e c) (r:BL G f A X P cf es cs):BL G f A X P cf (e::es) (c::cs)
theorem BL.L{es:List Expr}{cs:List CE}(h:BL G f A X P cf es cs):Cs G f A X (evalEach es f.env) (Cg P cf cs):=by
 induction h with
 |nil=> exact Uk
 |cons h _ ih=> exact Ul h.1 ih
theorem BL.Aw(O:AP G f){pos:Pos}{es:List Expr}{cs:List CE}(h:BL G f A X P cf es cs):AW G f A X (boolOp pos .And (evalEach es f.env)) (MH P cf cs):=by
 induction h with
 |nil=> exact fun W l hp M ow m s Z eR I ne=> absurd eR.symm ne
 |cons h r ih=> cases r with
  |nil=> exact fI h.1
  |cons _ _=> exact fK O h.1 ih
theorem BL.Bk(O:AP G f){pos:Pos}{es:List Expr}{cs:List CE}(h:BL G f A X P cf es cs):AW G f A X (boolOp pos .Or (evalEach es f.env)) (MI P cf cs):=by
 induction h with
 |nil=> exact fun W l hp M ow m s Z eR I ne=> absurd eR.symm ne
 |cons h r ih=> cases r with
  |nil=> exact fJ h.1
  |cons _ _=> exact fL O h.1 ih
theorem BL.lG{es:List Expr}{cs:List CE}(h:BL G f A X P cf es cs):B8 G f A X (allTrue .And es f.env) (MM P cf cs):=by
 induction h with
 |nil=> exact fM
 |cons h _ ih=> exact fO h.2 ih
theorem BL.JF{es:List Expr}{cs:List CE}(h:BL G f A X P cf es cs):B8 G f A X (allTrue .Or es f.env) (MN P cf cs):=by
 induction h with
 |nil=> exact fN
 |cons h _ ih=> exact fP h.2 ih
inductive RL(G:Gx)(f:Fx)(A:tx)(X:XP)(P:Prog)(cf:Nat->List AV->List (N×AV)->Hp->COut):List Expr->List (COp×CE)->Prop
 |nil:RL G f A X P cf [] []
 |cons {e:Expr} {c:CE} {o:COp} {es:List Expr} {cs:List (COp×CE)} (h:AW G f A X (eval e f.env) (Ai P cf c)) (r:RL G f A X P cf es cs):RL G f A X P cf (e::es) ((o,c)::cs)
theorem RL.ok(O:AP G f)(HA:A.units+200<cLine){es:List Expr}{cs:List (COp×CE)}(h:RL G f A X P cf es cs)(ne:cs≠[]):Ji G f A X (cs.map fun p=> HZ p.1) (evalEach es f.env) (fun a s=> Kb P cf a cs s):=by
 induction h with
 |nil=> exact absurd rfl ne
 |cons h r ih=> cases r with
  |nil=> exact Uj O HA h
  |cons _ _=> exact fR O HA h (ih nofun)
inductive DL(G:Gx)(f:Fx)(A:tx)(X:XP)(P:Prog)(cf:Nat->List AV->List (N×AV)->Hp->COut):List Expr->List (AV×CE)->Prop
 |nil:DL G f A X P cf [] []
 |cons {e:Expr} {c:CE} {v:AV} {es:List Expr} {cs:List (AV×CE)} (h:AW G f A X (eval e f.env) (Ai P cf c)) (r:DL G f A X P cf es cs):DL G f A X P cf (e::es) ((v,c)::cs)
inductive lH(G:Gx)(f:Fx)(A:tx)(X:XP)(P:Prog)(cf:Nat->List AV->List (N×AV)->Hp->COut)(pos:Pos)(xs:List (Option Expr))(ys:List Expr)(ks:List (AV×CE)):Prop
 |mk (kvs:List (Expr×Expr)) (h1:xs=kvs.map fun p=> some p.1) (h2:ys=kvs.map (·.2)) (h3:kvs.length=ks.length) (h4:LP G f A X kvs pos (MJ P cf ks))
theorem DL.ok{t:PT}{pos:Pos}{ys:List Expr}{ks:List (AV×CE)}(h:DL G f A X P cf ys ks):∀{i:Nat},(ks.all fun p=> Hb p.1)=true->lH G f A X P cf pos (MU ks t i) ys ks:=by
 induction h with
 |nil=> exact fun _=> ⟨[],rfl,rfl,rfl,jv⟩
 |cons h r ih=> exact fun z=> Aa (show(Hb _&&List.all _ _)=true from z) fun z1 z2=> match ih z2 with
  |⟨kvs,h1,h2,h3,h4⟩=> ⟨(_,_)::kvs,congrArg (_::·) h1,congrArg (_::·) h2,congrArg (· +1) h3,jw (Nb z1) h h4⟩
theorem lI(O:AP G f){pos:Pos}{ks:List (AV×CE)}{ys:List Expr}{t:PT}{i:Nat}(h:DL G f A X P cf ys ks)(hl:uJ ks.length 15=true)(z:(ks.all fun p=> Hb p.1)=true):AW G f A X (eval (.Dict (MU ks t i) ys pos) f.env) (Ai P cf (.A4 ks)):=by
 obtain⟨kvs,h1,h2,h3,h4⟩:=h.ok (pos:=pos) (t:=t) (i:=i) z;rw [h1,h2];cases kvs with
 |nil=> cases vn.mp h3.symm;exact ju O
 |cons p r=> exact jy O (h3▸uH hl) nofun h4
theorem lJ(H:B5 G f A X P cf gl){b:BI}{as:List Expr}{ea:St->Out (List AV)}{np pos:Pos}(h:S3 f.cs gl b=true)(hs:as.all noStar=true)(hl:Cs G f A X (evalEach as f.env) ea):
 AW G f A X (eval (.Call (IP (S2 b) np) as [] pos) f.env) fun s=> (ea s).bind fun vs s=> AR (GC s.hp b vs) fun v=>.ok v s:=by
 cases b with
 |len=> exact iq H.O (Hu H h boot_len (by decide+kernel)) hs hl
 |int=> exact Vq H.O (Hu H h boot_int (by decide+kernel)) hs hl fun I hu e eR hU=> jt I hu e eR hU
 |list=> obtain⟨d,HA⟩:=H.HA;exact Vq H.O (Hu H h boot_list (by decide+kernel)) hs hl fun I hu e eR hU=> jq H.O HA I hu e eR hU
 |_=> exact cFT h
mutual
theorem TE(H:B5 G f A X P cf gl):∀(c:CE) (t:PT),A1 f.cs gl c t=true->LS G f A X P cf (Am c t) c
 | .cst v=>@fun t h=> lF H h
 | .var x=>@fun t h=> Hv H.O (fun _=> rfl) rfl (Jd H.O.fn (Dl h) (HD h))
 | .AF e a=>@fun t h=> Hv H.O (fun _=> rfl) rfl (UK H.CE.C H.O (AL h) (TE H e _ (Ag h)).1)
 | .app g as=>@fun t h=> Hv H.O (fun _=> rfl) rfl (kH H.CE H.O (AL (AL h)) (WS H (Ag (AL h))) (EB H as t 1 (Ag h)).L)
 | .F7 g as n k=>@fun t h=> GV (fun _=> rfl) (kI H.CE H.O (AL (AL (AL h))) (WS H (Ag (AL (AL h)))) (EB H as t 1 (Ag h)).L (TE H k _ (Ag (AL h))).1)
 | .AH e a as=>@fun t h=> Hv H.O (fun _=> rfl) rfl (iz H.CE.C H.O H.CE.Qf (jJ H.O) (Ag (AL (AL h))) (Ag (AL (AL (AL h)))) (Ag (AL (AL (AL (AL h))))) (wq (uH (AL (AL (AL (AL (AL h))))))) (TE H e _ (Ag (AL h))).1 (EB H as t 1 (Ag h)).L)
 | .F8 e a as n k=>@fun t h=> GV (fun _=> rfl) (i3 H.CE.C H.O H.CE.Qf (Ag (AL (AL (AL h)))) (Ag (AL (AL (AL (AL h))))) (Ag (AL (AL (AL (AL (AL h)))))) (wq (uH (AL (AL (AL (AL (AL (AL h)))))))) (TE H e _ (Ag (AL (AL h)))).1 (EB H as t 1 (Ag (AL h))).L (TE H k _ (Ag h)).1)
 | .sup _ _ _=>@fun _ h=> cFT h
 | .bi b as=>@fun t h=> GV (fun _=> rfl) (lJ H (Ag (AL h)) (AL (AL h)) (EB H as t 1 (Ag h)).L)
 | .Cb e c=>@fun t h=> Hv H.O (fun _=> rfl) rfl (j0 H.O H.IS (Hu H (Ag (AL h)) WN (by decide+kernel)) (Ag (AL (AL h))) (TE H e _ (Ag h)).1 (Jw H (fun W=> rfl) (AL (AL (AL h)))))
 | .isStr e=>@fun t h=> Hv H.O (fun _=> rfl) rfl (jz H.O (Hu H (Ag (AL h)) WN (by decide+kernel)) (Hu H (AL (AL (AL h))) boot_str (by decide+kernel)) (Ag (AL (AL h))) (TE H e _ (Ag h)).1)
 | .bin op l r=>@fun t h=> GV (fun _=> rfl) (fH H.O (TE H l _ (Ag h)).1 (TE H r _ (AL h)).1)
 | .fmt l r=>@fun t h=> GV (fun _=> rfl) (j7 (TE H l _ (Ag h)).1 (TE H r _ (AL h)).1)
 | .neg e=>@fun t h=> GV (fun _=> rfl) (eI (TE H e _ h).1)
 | .nt e=>@fun t h=> ⟨eH H.O (TE H e _ h).1,eK (TE H e _ h).2⟩
 | .Aw es=>@fun t h=> ⟨(EB H es t 0 h).Aw H.O,Ui (EB H es t 0 h).lG⟩
 | .Bk es=>@fun t h=> ⟨(EB H es t 0 h).Bk H.O,Ui (EB H es t 0 h).JF⟩
 | .cmp l rs=>@fun t h=> match H.HA with
   |⟨d,HA⟩=>
    have h3:=Ag (AL (AL h));have q:=(WT H rs t 1 (Ag (AL h))).ok H.O HA.room fun z=> by rw [z]at h3;exact cFT h3
    have h4:=HC (AL (AL (AL h)))
    ⟨fS h4 (TE H l _ (Ag h)).1 q,cmp_T h4 (TE H l _ (Ag h)).1 q⟩
 | .ite c b o=>@fun t h=> ⟨UL (TE H c _ (Ag h)).2 (TE H b _ (Ag (AL h))).1 (TE H o _ (AL (AL h))).1,eJ (TE H c _ (Ag h)).2 (TE H b _ (Ag (AL h))).2 (TE H o _ (AL (AL h))).2⟩
 | .tup es=>@fun t h=> GV (fun _=> rfl) (Um (Ag (AL h)) (fun s vs s' e=> Jx e▸Na (AL (AL h))) (EB H es t 0 (Ag h)).L)
 | .lst fr es=>@fun t h=> GV (fun _=> rfl) (Uo (Ag (AL h)) (fun s vs s' e=> Jx e▸Na (AL (AL h))) (EB H es t 0 (Ag h)).L)
 | .A4 ks=>@fun t h=> GV (fun _=> rfl) (lI H.O (WU H ks _ 0 (Ag h)) (Ag (AL h)) (AL (AL h)))
 | .sub e i=>@fun t h=> Hv H.O (fun _=> rfl) rfl (fV H.O (AL (AL h)) (TE H e _ (Ag h)).1 (TE H i _ (Ag (AL h))).1)
 | .Bu fr e lo hi=>@fun t h=> GV (fun _=> rfl) (fk H.O (TE H e _ (Ag h)).1 (TO H lo _ (Ag (AL h))) (TO H hi _ (AL (AL h))))
 | .Al=>@fun _ h=> ⟨WO,WQ fun _=> rfl⟩
theorem EB(H:B5 G f A X P cf gl):∀(cs:List CE) (t:PT) (i:Nat),Dg f.cs gl cs t i=true->BL G f A X P cf (Bi cs t i) cs
 | []=>@fun _ _ _=>.nil
 |c::r=>@fun t i h=>.cons (TE H c _ (Ag h)) (EB H r t (i+1) (AL h))
theorem WT(H:B5 G f A X P cf gl):∀(cs:List (COp×CE)) (t:PT) (i:Nat),PG f.cs gl cs t i=true->RL G f A X P cf (MV cs t i) cs
 | []=>@fun _ _ _=>.nil
 |(_,c)::r=>@fun t i h=>.cons (TE H c _ (Ag h)).1 (WT H r t (i+1) (AL h))
theorem WU(H:B5 G f A X P cf gl):∀(cs:List (AV×CE)) (t:PT) (i:Nat),PH f.cs gl cs t i=true->DL G f A X P cf (PD cs t i) cs
 | []=>@fun _ _ _=>.nil
 |(_,c)::r=>@fun t i h=>.cons (TE H c _ (Ag h)).1 (WU H r t (i+1) (AL h))
theorem TO(H:B5 G f A X P cf gl):∀(o:Option CE) (t:PT),MX f.cs gl o t=true->LG G f A X (MW o t) (ML P cf o)
 |none=>@fun _ _=> ff
 |some c=>@fun t h=> fg (TE H c t h).1
end
end
section
theorem WV:∀(xs:List N) (t:PT) (i:Nat),(JS xs t i).map (·.1)=xs
 | []=>@fun _ _=> rfl
 |x::r=>@fun t i=> congrArg (x::·) (WV r t (i+1))
theorem WW{c l r:CE}{o:COp}(h:PJ c=some (l,o,r)):c= .cmp l [(o,r)]:=by
 cases c with
 |cmp l rs=> cases rs with
  |nil=> exact cNS h
  |cons p rs=> cases rs with
   |nil=> cases h;rfl
   |cons _ _=> exact cNS h
 |_=> exact cNS h
theorem lK{c a b:CE}(h:S5 c=some (a,b)):c= .Bk [a,b]:=by
 cases c with
 |Bk rs=> cases rs with
  |nil=> exact cNS h
  |cons p rs=> cases rs with
   |nil=> exact cNS h
   |cons q rs=> cases rs with
    |nil=> cases h;rfl
    |cons _ _=> exact cNS h
 |_=> exact cNS h
theorem lL{c:CE}{x:N}(h:S6 c=some x):c= .var x:=by
 cases c with
 |var x=> cases h;rfl
 |_=> exact cNS h
theorem lM{c:CE}{x:AV}(h:S7 c=some x):c= .cst x:=by
 cases c with
 |cst x=> cases h;rfl
 |_=> exact cNS h
theorem lN{c:CE}{x:List CE}(h:S8 c=some x):c= .tup x:=by
 cases c with
 |tup x=> cases h;rfl
 |_=> exact cNS h
theorem WX{c:CS}{g:CT}{e:CE}(h:PK c=some (g,e)):c= .asg g e:=by
 cases c with
 |asg g e=> cases h;rfl
 |_=> exact cNS h
theorem lO{c:CS}{e:CE}(h:PM c=some e):c= .ret (some e):=by
 cases c with
 |ret o=> rw [show o=some e from h]
 |_=> exact cNS h
theorem WY{g:CT}{x:N}(h:MY g=some x):g= .name x:=by
 cases g with
 |name x=> cases h;rfl
 |_=> exact cNS h
theorem lP{g:CT}{x:List N}(h:S9 g=some x):g= .tup x:=by
 cases g with
 |tup x=> cases h;rfl
 |_=> exact cNS h
theorem lQ{α:Type}{l:List α}{x y:α}(h:two l=some (x,y)):l=[x,y]:=by
 cases l with
 |nil=> exact cNS h
 |cons a l=> cases l with
  |nil=> exact cNS h
  |cons b l=> cases l with
   |nil=> cases h;rfl
   |cons _ _=> exact cNS h
theorem HE{α:Type}{o:Option α}{k:α->Bool}{G:Prop}(h:FZ o k=true)(f:∀a,o=some a->k a=true->G):G:=match o,h,f with
 |some a,h,f=> f a rfl h
 |none,h,_=> cFT h
variable{G:Gx}{f:Fx}{A:tx}{X:XP}{P:Prog}{cf:Nat->List AV->List (N×AV)->Hp->COut}{gl:tq->Option (Option R5)}{yw:Nat->Bool}{fu:Nat}{ea:Nat}{oe:Obj}
theorem Nc:∀{xs:List N} {t:PT} {i:Nat},(xs.all (Dw f.cs))=true->∀p∈JS xs t i,f.cs.names.lookup (nm p.1)=some .local
 | [],_,_,_=> fun _ h=> nomatch h
 |x::r,t,i,h=> Aa (show(Dw f.cs x&&List.all _ _)=true from h) fun h1 h2 p hp=> by
  cases hp with
  |head=> exact Dl h1
  |tail _ hp=> exact Nc h2 p hp
theorem TT(H:B5 G f A X P cf gl)(S:Fi G P){g:CT}{t:PT}(h:Ki f.cs gl g t=true):G8 G f A X (toT g t) (fun v s=> DA P cf g v s):=by
 cases g with
 |name x=> exact VE H.O.fn (Dl h)
 |AF e a=> exact VF H.CE.C S H.O (TE H e _ h).1
 |sub e i=> exact Aa h fun h1 h2=> iA H.O (TE H e _ h1).1 (TE H i _ h2).1
 |tup xs=> obtain⟨d,HA⟩:=H.HA;have q:=jN (X:=X) (k:=t.k) (pos:=t.p) H.O HA.hd (Nc (t:=t) (i:=0) h);rw [WV]at q;exact q
def CM(G:Gx)(f:Fx)(A:tx)(P:Prog)(cf:Nat->List AV->List (N×AV)->Hp->COut)(gl:tq->Option (Option R5))(c:CE):Prop:=∀t,pE c=true->A1 f.cs gl c t=true->Fo G f A (eval (Am c t) f.env) (Ai P cf c)
theorem CM.of{c:CE}(h:pE c=false):CM G f A P cf gl c:=fun _ z=> cFT (h▸z)
theorem Jy(H:B5 G f A X P cf gl):∀c:CE,CM G f A P cf gl c
 | .cst v=> fun t h _=> by
   cases v with
   |none=> exact jZ
   |_=> exact cFT h
 | .var x=> fun t _ h=> ja H.O.fn (Dl h) (HD h)
 | .AF e a=> fun t h h'=> Aa h' fun h1 h2=> jb H.CE.C H.O h2 (Jy H e _ h h1)
 | .sub e i=> fun t h h'=> Aa h' fun h3 h4=> Aa h4 fun h4 h5=> jc H.O h5 (Jy H e _ (Ag h) h3) (Jy H i _ (AL h) h4)
 | .app _ _=> CM.of rfl
 | .F7 _ _ _ _=> CM.of rfl
 | .AH _ _ _=> CM.of rfl
 | .F8 _ _ _ _ _=> CM.of rfl
 | .sup _ _ _=> CM.of rfl
 | .bi _ _=> CM.of rfl
 | .Cb _ _=> CM.of rfl
 | .isStr _=> CM.of rfl
 | .bin _ _ _=> CM.of rfl
 | .fmt _ _=> CM.of rfl
 | .neg _=> CM.of rfl
 | .nt _=> CM.of rfl
 | .Aw _=> CM.of rfl
 | .Bk _=> CM.of rfl
 | .cmp _ _=> CM.of rfl
 | .ite _ _ _=> CM.of rfl
 | .tup _=> CM.of rfl
 | .lst _ _=> CM.of rfl
 | .A4 _=> CM.of rfl
 | .Bu _ _ _ _=> CM.of rfl
 | .Al=> CM.of rfl
theorem WZ(H:B5 G f A X P cf gl){c:CE}{t:PT}(h:pC c=true)(h':A1 f.cs gl c t=true):Ip G f A (isTrue (Am c t) f.env (eval (Am c t) f.env)) (A8 P cf c):=
 HE h fun⟨l,o,r⟩ e h=> by cases WW e;obtain⟨d,HA⟩:=H.HA;exact Aa h fun h1 h2=> Aa h' fun h3 h4=> Aa h4 fun h4 h5=> Aa h5 fun _ h6=> jd H.O HA.room (HC h6) (Jy H l _ h1 h3) (Jy H r _ h2 (Aa h4 fun h _=> h))
theorem lR(H:B5 G f A X P cf gl){c:CE}{t:PT}(h:pT c=true)(h':A1 f.cs gl c t=true):Ip G f A (isTrue (Am c t) f.env (eval (Am c t) f.env)) (A8 P cf c):=
 HE h fun⟨a,b⟩ e h=> by cases lK e;exact Aa h fun h1 h2=> Aa h' fun h3 h4=> Aa h4 fun h4 _=> je (WZ H h1 h3) (WZ H h2 h4)
theorem Wa{α:Type}{o:Option α}(h:o.isSome=true){G:Prop}(f:∀a,o=some a->G):G:=match o,h,f with
 |some a,_,f=> f a rfl
 |none,h,_=> cFT h
theorem Wb(H:B5 G f A X P cf gl){c:CS}{t:PS}{md:Nat}(h:pA c=true)(h':Kj f.cs gl yw c md t=true):FK G f A (exec (toS c t) f.env) (Az P fu cf c):=
 HE h fun⟨g,e⟩ hc h=> Aa h fun h1 h2=> Wa h1 fun x hx=> by cases WX hc;cases WY hx;exact Aa h' fun h3 h4=> Aa h4 fun h4 h5=> Aa h5 fun h5 _=> jf H.O (Dl h3) h5 (Jy H e _ h2 h4)
theorem Ql{p:CS->Bool}{md:Nat}(hp:∀c t,p c=true->Kj f.cs gl yw c md t=true->FK G f A (exec (toS c t) f.env) (Az P fu cf c)):∀{cs:List CS} {ts:List PS},cs.all p=true->Dx f.cs gl yw cs md ts=true->FK G f A (execs (C4 cs ts) f.env) (AN P fu cf cs)
 | [],_,_,_=> jh
 |c::cs,ts,h,h'=> Aa (show(p c&&List.all _ _)=true from h) fun h1 h2=> Aa h' fun h3 h4=> ji (hp _ _ h1 h3) (Ql hp h2 h4)
theorem lS(H:B5 G f A X P cf gl){md:Nat}(c:CS)(t:PS)(h:pS c=true)(h':Kj f.cs gl yw c md t=true):FK G f A (exec (toS c t) f.env) (Az P fu cf c):=by
 cases c with
 |ifs c b o=> refine Aa h fun h1 h2=> Aa h2 fun h2 h3=> ?_;cases u7.mp h2;exact Aa h' fun h4 h5=> Aa h5 fun h5 _=> jg (lR H h1 h4) (Ql (fun c t=> Wb H) h3 h5)
 |asg g e=> exact Wb H h h'
 |_=> exact cFT h
theorem lT(O:AP G f)(hu:A.units+200<cLine){c:CE}{t:PT}(h:hC c=true)(h':A1 f.cs gl c t=true):B8 G f A X (isTrue (Am c t) f.env (eval (Am c t) f.env)) (A8 P cf c):=
 HE h fun⟨l,o,r⟩ e h=> Aa h fun h1 h2=> Wa h1 fun x hx=> HE h2 fun v hv h2=> by cases WW e;cases lL hx;cases lM hv;exact Aa h' fun h3 h4=> Aa h4 fun _ h5=> Aa h5 fun _ h6=> cmp_T (HC h6) (Jd O.fn (Dl h3) (HD h3)) (Uj (op:=o) O hu (Nb h2))
def Cm(G:Gx)(f:Fx)(A:tx)(X:XP)(P:Prog)(cf:Nat->List AV->List (N×AV)->Hp->COut)(gl:tq->Option (Option R5))(c:CE):Prop:=∀t,hE c=true->A1 f.cs gl c t=true->AW G f A X (eval (Am c t) f.env) (Ai P cf c)
theorem Cm.of{c:CE}(h:hE c=false):Cm G f A X P cf gl c:=fun _ z=> cFT (h▸z)
mutual
theorem Jz(C:Ck G P)(O:AP G f)(hu:A.units+200<cLine):∀c:CE,Cm G f A X P cf gl c
 | .cst v=> fun t h _=> Nb h
 | .var x=> fun t _ h=> Jd O.fn (Dl h) (HD h)
 | .AF e a=> fun t h h'=> Aa h' fun h1 h2=> UK C O h2 (Jz C O hu e _ h h1)
 | .tup es=> fun t h h'=> Aa h' fun h1 h2=> Aa h2 fun h2 h3=> Um h2 (fun s vs s' e=> Jx e▸Na h3) (Qm C O hu es t 0 h h1)
 | .lst _ es=> fun t h h'=> Aa h' fun h1 h2=> Aa h2 fun h2 h3=> Uo h2 (fun s vs s' e=> Jx e▸Na h3) (Qm C O hu es t 0 h h1)
 | .ite c b e=> fun t h h'=> Aa h' fun h4 h5=> Aa h5 fun h5 h6=> UL (lT O hu (Ag h) h4) (Jz C O hu b _ (Ag (AL h)) h5) (Jz C O hu e _ (AL (AL h)) h6)
 | .app _ _=> Cm.of rfl
 | .F7 _ _ _ _=> Cm.of rfl
 | .AH _ _ _=> Cm.of rfl
 | .F8 _ _ _ _ _=> Cm.of rfl
 | .sup _ _ _=> Cm.of rfl
 | .bi _ _=> Cm.of rfl
 | .Cb _ _=> Cm.of rfl
 | .isStr _=> Cm.of rfl
 | .bin _ _ _=> Cm.of rfl
 | .fmt _ _=> Cm.of rfl
 | .neg _=> Cm.of rfl
 | .nt _=> Cm.of rfl
 | .Aw _=> Cm.of rfl
 | .Bk _=> Cm.of rfl
 | .cmp _ _=> Cm.of rfl
 | .A4 _=> Cm.of rfl
 | .sub _ _=> Cm.of rfl
 | .Bu _ _ _ _=> Cm.of rfl
 | .Al=> Cm.of rfl
theorem Qm(C:Ck G P)(O:AP G f)(hu:A.units+200<cLine):∀(cs:List CE) (t:PT) (i:Nat),MZ cs=true->Dg f.cs gl cs t i=true->Cs G f A X (evalEach (Bi cs t i) f.env) (Cg P cf cs)
 | []=>@fun _ _ _ _=> Uk
 |c::r=>@fun t i h h'=> Aa h' fun h3 h4=> Ul (Jz C O hu c _ (Ag h) h3) (Qm C O hu r t (i+1) (AL h) h4)
end
def Nd(G:Gx)(f:Fx)(A:tx)(X:XP)(ea:Nat)(oe:Obj)(t:Sem uo)(ev:St->Out Flow):Prop:=
 ∀W l hp M ow m s Z,(ea,oe)∈W.fz->ev ⟨l,hp⟩=Z->Inv G f W l hp M ow m s->Z≠ .bad->Ia G f A X W t Z s
theorem Qn{t:Sem uo}{ev:St->Out Flow}(h:A6 G f A X t ev):Nd G f A X ea oe t ev:=fun W l hp M ow m s Z _=> h W l hp M ow m s Z
theorem lU{ws:Array R5}{x y:N}{p q zJ zV pos:Pos}{k n:Nat}{vs:List Expr}{ev:St->Out AV}(O:AP G f)(hh:A.handled=some (.ref ea))(hd:oe.data= .fields ws)(h2:ws[2]? =some .none)(hlx:f.cs.names.lookup (nm x)=some .local)(hly:f.cs.names.lookup (nm y)=some .local)
 (hw:JO [.Name (nm x) p,.Name (nm y) q] (.Tuple vs n zV)=true) (hc:FY (.Tuple vs n zV)=true) (hv:AW G f A X (eval (.Tuple vs n zV) f.env) ev):
 Nd G f A X ea oe (exec (.Assign [.Tuple [.Name (nm x) p,.Name (nm y) q] k zJ] (.Tuple vs n zV) pos) f.env) fun s=> (ev s).bind fun v s=> (AR (E7 v) fun vs=> AR (putAll [x,y] vs s.loc) fun l=> Out.ok () (⟨l,s.hp⟩:St)).bind fun _ s=>.ok .next s:=fun W l hp M ow m s Z hm eR I ne=> by
 refine Assign_Tuple_swapped (names:=[nm x,nm y]) (Au eR W.le_rfl (fun q=> hv W l hp M ow m s _ rfl I q) ne fun a σ V L ow m u s' eR h1 yz I hu ne=> ?_) (show swapsWith (.Tuple vs n zV) (some (.Tuple [.Name (nm x) p,.Name (nm y) q] k zJ)) pos.line f.env=pure false from Hq hc)
  (Vg hw (show(if f.cs.kind.isAnnotationScope then _ else f.cs.kind)=_ by rw [O.fn];rfl) hlx hly)
 refine cps fun yv yt=> ?_;obtain⟨as,h3,eR⟩:=Hl eR ne;obtain⟨l',h4,eR⟩:=Hl eR ne;rw [Ie h3]at hu;obtain⟨⟨t,us,n,rfl,q1,q2⟩,q3⟩:=hu;refine yt ?_;have hea:=(I.nw _ (uC _ (yz.fz _ hm))).1;obtain⟨a,b,u1,u2,rfl,rfl,r1,r2,rfl⟩:=Vj q2 h4;refine lA hh hea hd h2 (Fl (I.kn O q1)) (by rfl) fun h' he=> ?_;have F':=I.fr.extBut he (uW _);have N':=I.nw.extBut he (uW _);have I':Inv G f V σ.loc σ.hp L ow m ⟨h',s'.gens,s'.drawn,s'.toks,s'.os⟩:=⟨F',N',I.hi,I.lr,I.gn,I.os⟩;refine wm (bindName_ (GR O.fn hly I' r2 fun m' s' I'=> ?_));refine wm (bindName_ (GR O.fn hlx I' r1 fun m' s' I'=> yJ ?_));exact Inv.F ⟨I'.fr,I'.nw,I'.hi,I'.lr.ext (Vh (Vi hw)),I'.gn,I'.os⟩ eR h1 trivial
inductive lV(xs:List N)(e:CE)(t:PS):Prop
 |mk (x y:N) (es:List CE) (h1:xs=[x,y]) (h2:e= .tup es) (h:JO (GH (JS [x,y] (t.e 0) 0)) (Am (.tup es) (t.e 1))=true)
theorem Wc{xs:List N}{e:CE}{t:PS}(h:PN xs e t=true):lV xs e t:=HE h fun⟨x,y⟩ h1 h=> HE h fun es h2 h=> ⟨x,y,es,lQ h1,lN h2,h⟩
theorem lW(C:Ck G P)(O:AP G f)(hu:A.units+200<cLine){ws:Array R5}(hh:A.handled=some (.ref ea))(hd:oe.data= .fields ws)(h2:ws[2]? =some .none){c:CS}{t:PS}(h:hS f.cs gl c t=true):Nd G f A X ea oe (exec (toS c t) f.env) (Az P fu cf c):=by
 unfold hS at h;cases hr:PM c with
 |some e=> rw [hr]at h;cases lO hr;exact Aa h fun h1 h2=> Qn (VG (Jz C O hu e _ h1 h2))
 |none=>
  rw [hr]at h;refine HE h fun⟨g,e⟩ hc z=> Aa z fun h1 z=> Aa z fun yz z=> Aa z fun h3 z=> ?_;clear h;cases WX hc;have hv:=Jz (X:=X) (cf:=cf) C O hu e _ h1 yz;unfold hA at z;cases hx:MY g with
  |some x=> rw [hx]at z;cases WY hx;exact Qn (LH rfl h3 hv (VE O.fn (Dl z)))
  |none=> rw [hx]at z;refine HE z fun xs hx z=> Aa z fun h4 h5=> ?_;cases lP hx;obtain⟨x,y,es,rfl,rfl,h5⟩:=Wc h5;have q:=Nc (t:=t.e 0) (i:=0) h4;exact lU O hh hd h2 (q _ (.head _)) (q _ (.tail _ (.head _))) h5 h3 hv
theorem We(C:Ck G P)(O:AP G f)(hu:A.units+200<cLine){ws:Array R5}(hh:A.handled=some (.ref ea))(hd:oe.data= .fields ws)(h2:ws[2]? =some .none):∀(cs:List CS) (ts:List PS),Ma f.cs gl cs ts=true->Nd G f A X ea oe (execs (C4 cs ts) f.env) (AN P fu cf cs)
 | []=>@fun _ _=> Qn NK
 |c::r=>@fun ts h=> Aa h fun g1 g2=> fun W l hp M ow m s Z hm eR I ne=> by
  refine xV (M5 eR W.le_rfl (fun q=> lW C O hu hh hd h2 g1 W l hp M ow m s _ hm rfl I q) ne fun a σ V L ow m v s' eR h1 yz I hv ne=> ?_);cases a<;>cases v<;>first |exact hv.elim |skip
  . exact LA h1 (We C O hu hh hd h2 r _ g2 V _ _ _ _ _ _ _ (yz.fz _ hm) eR I ne)
  . exact(I.F eR h1 trivial)
  . exact(I.F eR h1 trivial)
  . exact(I.F eR h1 hv)
theorem lX{b:List Stmt}{h₀:w7}{hs:List w7}{pos:Pos}{eb:St->Out Flow}(hb:A6 G f A X (execs b f.env) eb):
 A6 G f A X (exec (.Try b (h₀::hs) [] [] pos) f.env) fun s=> match eb s with | .ok f s=>.ok f s |_=>.bad:=fun W l hp M ow m s Z eR I ne=> by
 subst eR;dsimp only at ne⊢;cases hr:eb ⟨l,hp⟩with
 |bad=> rw [hr]at ne;exact absurd rfl ne
 |exc _ _=> rw [hr]at ne;exact absurd rfl ne
 |ok a σ=>
  refine yM (uG (hb W l hp M ow m s _ hr I nofun) (fun v s' q=> ?_) fun e s' q=> ?_)
  . obtain⟨a',σ',V,L,zC,m',h1,h2,h3,h4⟩:=q;cases(h1);cases(a)<;>cases(v)<;>first |exact h4.elim |skip
    . exact vG (h3.F rfl h2 trivial)
    . exact h3.F rfl h2 trivial
    . exact h3.F rfl h2 trivial
    . exact h3.F rfl h2 h4
  . obtain⟨_,_,_,z,_⟩:=q;cases(z)
def LU(G:Gx)(P:Prog)(yw:Nat->Bool):Prop:=∀b,yw b=true->(∃cl,P.cls b=some cl/\cl.exc=true)/\(clsIn G.K b).isSome=true
structure Wf(G:Gx)(f:Fx)(A:tx)(X:XP)(P:Prog)(cf:Nat->List AV->List (N×AV)->Hp->COut)(gl:tq->Option (Option R5))(md:Nat):Prop where
 m0:md=0->NX G f X
 m1:md=1->A=f.A0/\f.g=G.B/\B5 G f A (XL G f) P cf gl
theorem lY(H:B5 G f A X P cf gl)(I:Fi G P){g:CT}{e:CE}{t:PS}{pos:Pos}(h1:Ki f.cs gl g (t.e 0)=true)(hv:AW G f A X (eval (Am e (t.e 1)) f.env) (Ai P cf e))(h3:FY (Am e (t.e 1))=true)(h4:TA g e t=true):
 A6 G f A X (exec (.Assign [toT g (t.e 0)] (Am e (t.e 1)) pos) f.env) (Az P fu cf (.asg g e)):=by
 cases g with
 |tup xs=>
  cases wH.mp h4 with
  |inl h4=> exact jP h4 h3 hv (TT H I h1)
  |inr h4=> obtain⟨x,y,es,rfl,rfl,h4⟩:=Wc h4;obtain⟨d,HA⟩:=H.HA;have q:=Nc (t:=t.e 0) (i:=0) h1;exact jT H.O HA.hd (q _ (.head _)) (q _ (.tail _ (.head _))) h4 h3 hv
 |name x=> exact LH h4 h3 hv (TT H I h1)
 |AF o a=> exact LH h4 h3 hv (TT H I h1)
 |sub o i=> exact LH h4 h3 hv (TT H I h1)
theorem lZ(H:B5 G f A X P cf gl)(I:Fi G P){g:CT}{op:BOp}{e:CE}{t:PS}{pos:Pos}(hv:AW G f A X (eval (Am e (t.e 1)) f.env) (Ai P cf e))(h:TB f.cs gl g (t.e 0)=true):
 A6 G f A X (exec (.AugAssign (toT g (t.e 0)) (Gu op) (Am e (t.e 1)) pos) f.env) (Az P fu cf (.aug g op e)):=by
 cases g with
 |name x=> exact iH H.O (Dl h) hv
 |AF b a=> exact iI H.CE.C I H.O (TE H b _ h).1 hv
 |sub b i=> exact Aa h fun h1 h2=> Aa h2 fun h2 h3=> iK H.O h3 (TE H b _ h1).1 (TE H i _ h2).1 hv
 |tup _=> exact cFT h
theorem la(H:B5 G f A X P cf gl)(I:Fi G P)(hX:Hr G f A X){g:CT}{src:CSrc}{b:List CS}{t:PS}{md:Nat}(hb:A6 G f A X (execs (C4 b t.b) f.env) (AN P fu cf b))(hp:Dx f.cs gl yw b md t.b=true)(h:TC f.cs gl g src b t=true):
 A6 G f A X (exec (.For (toT g (t.e 0)) (S4 src (t.e 1)) (C4 b t.b) [] t.p) f.env) (Az P fu cf (.Cc g src b)):=by
 obtain⟨d,HA⟩:=H.HA;cases src with
 |it e=> exact VO (Pu:=False) hX (Ag (AL (AL h))) (ig H.O HA (AL (AL (AL h))) (TE H e _ (Ag (AL h))).1) (TT H I (Ag h)) hb (fun z=> z.elim) fun z=> z.elim
 |keys e=>
   refine Aa h fun h1 z=> Aa z fun h2 z=> Aa z fun h3 z=> ?_;cases g with
   |name x=> exact jk H.O HA (Dl h1) h3 (TE H e _ h2).1 (Ql (fun c t=> lS H c t) z hp)
   |_=> exact cFT h1
 |E5 as=> exact VO (Pu:=False) hX rfl (ie H.O HA (Ag (AL (AL (AL h)))) (Hu H (Ag (AL (AL h))) boot_range (by decide+kernel)) (AL (AL (AL (AL h)))) (EB H as _ 1 (Ag (AL h))).L) (TT H I (Ag h)) hb (fun z=> z.elim) fun z=> z.elim
 |enum e=>
   refine Aa h fun h1 z=> Aa z fun h2 z=> Aa z fun h3 z=> ?_;cases g with
   |tup xs=> exact jY H.O HA hX (Hu H h3 lD (by decide+kernel)) z (TE H e _ h2).1 (TT (g:=.tup xs) (t:=t.e 0) H I h1) hb
   |_=> exact cFT h1
theorem lb(H:B5 G f A X P cf gl)(EO:Ht G P)(XH:LU G P yw)(TR:NX G f X){c:Nat}{as:List CE}{t:PT}{np cp pos:Pos}{y:tq}(h1:Dg f.cs gl as t 1=true)(h2:yw c=true)(h3:GI f.cs gl y c=true)(h4:(Bi as t 1).all noStar=true)(h5:uJ (Bi as t 1).length 1000=true)(h6:uJ as.length 1000=true):
 A6 G f A X (exec (.Raise (some (.Call (.Name y np) (Bi as t 1) [] cp)) none pos) f.env) (Az P fu cf (.EM c as)):=by
 obtain⟨⟨cl,hc,he⟩,_⟩:=XH c h2;obtain⟨d,HA,_⟩:=H.CE.ex;exact ki EO H.O HA TR hc he h4 (uH h5) (Jw H (a:=.cls c) (fun W=> rfl) h3) (EB H as t 1 h1).L fun s vs s' e=> Jx e▸uH h6
theorem lg(C:Ck G P)(O:AP G f)(EO:Ht G P)(XH:LU G P yw)(DR:∀y r,gl y=some r->nsIn G.K mainGlobals y=some r)(hA:A=f.A0)(hg:f.g=G.B)(hu:A.units+200<cLine){b h:List CS}{c:Nat}{x:N}{t:PS}(hB:A6 G f A (XL G f) (execs (C4 b t.b) f.env) (AN P fu cf b))
 (h1:yw c=true) (h2:GI f.cs gl (t.e 0).y c=true) (h3:Dw f.cs x=true) (h4:(!h.isEmpty)=true) (h5:Ma f.cs gl h t.o=true):A6 G f A X (exec (toS (.F9 b c x h) t) f.env) (Az P fu cf (.F9 b c x h)):=by
 subst hA;obtain⟨⟨cl,hcl,he⟩,hcs⟩:=XH c h1;cases h with
 |nil=> exact cFT h4
 |cons h₀ hr=> exact Aa h2 fun g1 g2=> kq EO O hg hcl he hcs hB (DR _ _ (Qi g2)) (Qj g1) (Qk g1) (Dl h3) fun ea oe ws hd h2 W l hp M ow m s Z hm eR I ne=> We (A:=f.A0.mark (some (.ref ea))) C O hu rfl hd h2 (h₀::hr) t.o h5 W l hp M ow m s Z hm eR I ne
mutual
theorem TS(J:Fi G P)(EO:Ht G P)(XH:LU G P yw)(hi:interactive f.env=false):∀(c:CS) (t:PS) {X:XP} {md:Nat},B5 G f A X P cf gl->Hr G f A X->Wf G f A X P cf gl md->Kj f.cs gl yw c md t=true->A6 G f A X (exec (toS c t) f.env) (Az P fu cf c)
 | .expr e=>@fun t _ _ H hX MO h=> iB (AL h) hi (TE H e _ (Ag h)).1
 | .asg g e=>@fun t _ _ H hX MO h=> lY H J (Ag h) (TE H e _ (Ag (AL h))).1 (Ag (AL (AL h))) (AL (AL (AL h)))
 | .aug g op e=>@fun t _ _ H hX MO h=> lZ H J (TE H e _ (Ag h)).1 (AL h)
 | .ret none=>@fun t _ _ H hX MO h=> iC
 | .ret (some e)=>@fun t _ _ H hX MO h=> VG (TE H e _ h).1
 | .ifs c b o=>@fun t _ _ H hX MO h=> iD (TE H c _ (Ag h)).2 (Hw J EO XH hi b _ H hX MO (Ag (AL h))) (Hw J EO XH hi o _ H hX MO (AL (AL h)))
 | .BQ c b=>@fun t _ _ H hX MO h=> iM fu hX (TE H c _ (Ag h)).2 (Hw J EO XH hi b _ H hX MO (AL h))
 | .Cc g src b=>@fun t _ _ H hX MO h=> la H J hX (Hw J EO XH hi b _ H hX MO (Ag h)) (Ag h) (AL h)
 | .EM c as=>@fun t _ _ H hX MO h=> lb H EO XH (MO.m0 (uq (Ag h))) (Ag (AL h)) (Ag (AL (AL h))) (Ag (AL (AL (AL h)))) (Ag (AL (AL (AL (AL h))))) (Ag (AL (AL (AL (AL (AL h)))))) (AL (AL (AL (AL (AL (AL h))))))
 | .F9 b c x h'=>@fun t _ _ H hX MO h=> Aa h fun h0 h=> Aa h fun h1 h=> Aa h fun h2 h=> Aa h fun h3 h=> Aa h fun h4 h=> Aa h fun h5 h6=>
     match MO.m1 (uq h0),H.HA with
     |⟨m1,m2,m3⟩,⟨d,HA⟩=> lg H.CE.C H.O EO XH H.DR m1 m2 HA.room (Hw J EO XH hi b _ (md:=2) m3 (m1▸kl) ⟨fun z=> (nomatch z),fun z=> (nomatch z)⟩ h1) h2 h3 h4 h5 h6
 | .IG b=>@fun t _ _ H hX MO h=> Aa h fun h0 h=> Aa h fun h1 h=> match t,h1,h with
   | .nd p es (h₀::hs) b' o x,h1,_=> lX (Hw J EO XH hi b _ H hX MO h1)
   | .nd p es [] b' o x,_,h=> cFT h
 | .del e i=>@fun t _ _ H hX MO h=> iL H.O (TE H e _ (Ag h)).1 (TE H i _ (AL h)).1
 | .pass=>@fun t _ _ H hX MO h=> pass_S
 | .brk=>@fun t _ _ H hX MO h=> iE
 | .cont=>@fun t _ _ H hX MO h=> iG
 | .Al=>@fun t _ _ H hX MO h=> fun W l hp M ow m s Z eR I ne=> absurd eR.symm ne
theorem Hw(J:Fi G P)(EO:Ht G P)(XH:LU G P yw)(hi:interactive f.env=false):∀(cs:List CS) (ts:List PS) {X:XP} {md:Nat},B5 G f A X P cf gl->Hr G f A X->Wf G f A X P cf gl md->Dx f.cs gl yw cs md ts=true->A6 G f A X (execs (C4 cs ts) f.env) (AN P fu cf cs)
 | []=>@fun _ _ _ H hX MO h=> NK
 |c::r=>@fun ts _ _ H hX MO h=> VH (TS J EO XH hi c _ H hX MO (Ag h)) (Hw J EO XH hi r _ H hX MO (AL h))
end
end
section
variable{G:Gx}{f:Fx}{A:tx}{X:XP}{P:Prog}{cf:Nat->List AV->List (N×AV)->Hp->COut}{fu:Nat}
theorem LV{K:Frag}{a:Nat}{d:Data}(h:Em K a=some d):∃c di sl,K.lookup a=some ⟨c,di,d,sl⟩:=by obtain⟨⟨c,di,d',sl⟩,h1,rfl⟩:=uF.mp h;exact⟨c,di,sl,h1⟩
structure Wg(G:Gx)(a:Nat)(fd:uz)(q:Mb)(g c:Nat)(mn:N):Prop where
 func:Em G.K a=some (.func fd)
 code:fd.code= .ref q.Hc
 tc:fd.closure=[(("__class__":tq),q.cc)]
 arg:(fd.params.posonlyargs++fd.params.args).head? =some q.ar
 self:q.ar.arg=nm N.self
 co:Em G.K q.Hc=some (.fields q.vs)
 v2:q.vs[2]? =some (.str q.file q.tf)
 file:((G.prog.main.file:tq)==q.file)=true
 cell:Em G.K q.cc=some (.cell (some (.ref q.D)))
 cls:clsIn G.K q.D=some q.Kk
 mro:mroIn G.K c (.ref q.D)=some true
 sup:ks_superIn G.K c q.D (nm mn)=some (some (.ref g))
 td:nsIn G.K mainGlobals "super"=some none
 tg:nsIn G.K cStatics "thirdparty.any"=some none
 n1:fd.scope.names.lookup ("super":tq)=some .globalImplicit
 n2:fd.scope.names.lookup ("__class__":tq)=some .free
 n3:fd.scope.names.lookup (nm N.self)=some .local
 ty:typeIn G.K (.ref g)=some (.type "function")
 Wh:fnIn G.K g=true
 top:(G.prog.main.scope.names.lookup ("super":tq)).isSome=false
 Qo:(nm mn==("__class__":tq))=false
theorem lh:bootBuiltins ("super":tq)=some (.type "super"):=by decide+kernel
theorem lj{α:Type}{p:Prop} [Decidable p]{a b:α}(h:(if p then some a else none)=some b):p/\a=b:=by
 by_cases q:p
 . rw [if_pos q]at h;exact⟨q,uR h⟩
 . rw [if_neg q]at h;cases h
theorem ll{g c:Nat}{mn:N}{fd:uz}{q:Mb}{body:List Stmt}{p0 p1 apos pos AAe:Pos}{args:List Expr}{zF:St->Out (List AV)}(O:AP G f)(CO:Dk G f A X P cf)(SO:Wg G f.ca fd q g c mn)
 (ed:f.cd=fd.code) (es:f.cs=fd.scope) (el:f.cl=fd.closure)
 (hl:(apos.endLine==pos.line)=true) (hs:args.all noStar=true) (zU:args.length<28) (hi:interactive f.env=false) (ha:Cs G f A X (evalEach args f.env) zF)
 {W l hp M ow m s} (I:Inv G f W l hp M ow m s) {Z:Out Flow} (eR:((AR (Ou c ⟨l,hp⟩) fun o=> (zF ⟨l,hp⟩).bind fun vs s=> (cf g (o::vs) [] s.hp).bind s.loc fun v s=> Out.ok v s).bind fun _ s=> Out.ok Flow.next s)=Z) (ne:Z≠ .bad):
 PySem.wpAt (mo G) A (.func body f.env) (exec (.Expr (.Call (.Attribute (.Call (.Name "super" p0) [] [] p1) (nm mn) apos) args [] pos) AAe) f.env) (Hk G f W Z) (A9 X W Z) s:=by
 refine cps fun yv yt=> ?_;obtain⟨Hc,cc,D,ar,vs0,file,tf,Kk⟩:=q;obtain⟨k0,e1,e2,k2,k3,k4,k5,k6,k7,k8,k9,k10,ACU,ACV,n1,n2,n3,ty,Wh,top,Qo⟩:=SO;dsimp only at e1 e2 k2 k3 k4 k5 k6 k7 k8 k9 k10;obtain⟨oc,od,zk,k1⟩:=LV k0;obtain⟨ccl,cdd,ccs,k4⟩:=LV k4;obtain⟨clv,cld,csl,k7⟩:=LV k7;rw [<-es]at n1 n2 n3;obtain⟨o,h1,h2⟩:=dz (CC (eR▸ne));rw [h2]at eR;refine AY h1 fun o' AAo h1=> ?_;refine AY h1 fun i hr h1=> ?_;obtain⟨⟨d,fs⟩,hf,h1⟩:=xC.mp h1;obtain⟨hd,rfl⟩:=lj h1;refine yt ?_;cases(show d=c from hd);cases Ig hr;refine cps fun zI yy=> ?_;have hf:=Pq hf;obtain⟨v,hv1,hv2⟩:=I.lr N.self _ AAo;obtain⟨rfl,hil⟩:=I.lt hv2;obtain⟨dx,zg,n,H,_,_,_,F⟩:=I.LB hil hf;refine yy ?_;have henv:f.env=ksEnv f.cn f.cs f.L f.ca (.ref Hc) cc:=by unfold Fx.env;rw [ed,el,e1,e2]
 refine ks_wpAt_Expr_any ?_ hi (Hq rfl);rw [arm_eval_Call,D8 _ _ _ hs];refine _root_.PySem.wpAt_bind ?_;rw [henv];refine ks_node I.fr O.X I.nw O.T k1 k2 (by rw [k3];exact hv1) H k4 k5 k6 k7 k8 k9 ACU Qo n1 n2 (by rw [k3];exact n3) O.fn top lh fun so h' F' N' lt=> ?_;have I1:=I.freeze (tk:=s.toks) F' N' lt;rw [<-henv];refine w8 (tu (uU ?_));show wpAny (mo G) A (methodCall (.Call (.Name "super" p0) [] [] p1) (nm mn) apos pos f.env (.ref so) (args.length+0) (FH (evalEach args f.env)) []) _ _ _;unfold methodCall;rw [LL rfl (vB (show args.length+0<28 from zU)),LM hl];refine cps fun zu zL=> ?_;obtain⟨dx1,es1,n1',H1,_,_,_,F1⟩:=I1.LB hil hf;refine zL ?_;refine tu (uE (ks_method I1.fr O.X I1.nw (uC _ (uK _ (.head _))) H1 ACV k10 ty Qo fun q h'' F'' N'' lt'=> tu (t4 ?_)));have I2:=I1.freeze (tk:=s.toks+1) F'' N'' lt';have le2:W.le ((W.CK [(so,ks_superObj D (W.r i) c)]).CK [(q,methodObj (.ref g) (.ref (W.r i)))]):=(W.Cr _).trans (Wd.Cr _ _);have mq:(q,methodObj (.ref g) (.ref (W.r i)))∈((W.CK [(so,ks_superObj D (W.r i) c)]).CK [(q,methodObj (.ref g) (.ref (W.r i)))]).fz:=uK _ (.head _);generalize((W.CK [(so,ks_superObj D (W.r i) c)]).CK [(q,methodObj (.ref g) (.ref (W.r i)))])=W2 at I2 le2 mq;refine wX (P:=MethP G.K q g (.ref (W.r i))) (by rw [plain_any];rfl) (keeps_M Wh) (FJ ?_);have eR:((zF ⟨l,hp⟩).bind fun vs s=> ((cf g (.ref i::vs) [] s.hp).bind s.loc fun v s=> Out.ok v s).bind fun _ s=> Out.ok Flow.next s)=Z:=by rw [<-eR];exact(bind_assoc _ _ _).symm
 refine Fh eR le2 (fun z=> ha W2 l hp M ow m _ _ rfl I2 z) ne fun as σ V L zC m' vs s' eR h3 h4 I3 hvs ne=> ?_;have R3:AX G.B V (.ref i::as) (.ref (W.r i)::vs):=⟨hv2.mono h3,hvs⟩;have gq:s'.heap.get? q=some (methodObj (.ref g) (.ref (W.r i))):=(I3.nw _ (uC _ (h4.fz _ mq))).1;refine⟨⟨gq,I3.X O⟩,?_⟩;show wpAny (mo G) A (call (.ref q) ([]++vs) []) _ _ s';refine vi (ks_codeAny_call_bound gq ?_);refine CO g (.ref i::as) (.ref (W.r i)::vs) [] [] V _ _ _ _ _ _ _ I3 R3 trivial (fun z=> ne (by rw [<-eR,z];rfl)) (fun v zH hc=> ?_) fun e zH hx=> ?_
 . refine cps fun P4_ z0=> ?_;obtain⟨b,yu,W',M',ow'',q1,q2,q3,q4⟩:=hc;refine z0 ?_;exact q3.F (a:=.next) (by rw [<-eR,q1];rfl) (h3.trans q2) trivial
 . exact eR▸(hx.le h3).bind
end
theorem lp{d:Data}{fd:uz}(h:Mc d=some fd):d= .func fd:=by
 cases d with
 |func _=> cases h;rfl
 |_=> exact HB h
theorem Wi{d:Data}{vs:Array R5}(h:Md d=some vs):d= .fields vs:=by
 cases d with
 |fields _=> cases h;rfl
 |_=> exact HB h
theorem Qp{v:R5}{a:Nat}(h:DJ v=some a):v= .ref a:=by
 cases v with
 |ref _=> cases h;rfl
 |_=> exact HB h
theorem lq{d:Data}{v:R5}(h:TG d=some v):d= .cell (some v):=by
 cases d with
 |cell _=> cases(show _=some v from h);rfl
 |_=> exact HB h
theorem Wj{v:R5}{p:tq×Tok}(h:Me v=some p):v= .str p.1 p.2:=by
 cases v with
 |str _ _=> cases h;rfl
 |_=> exact HB h
theorem lu{l:List (tq×Addr)}{a:Addr}(h:TH l=some a):l=[(("__class__":tq),a)]:=by
 cases l with
 |nil=> exact HB h
 |cons p r=> obtain⟨h1,h2⟩:=LR (show Ha (C3 p.1.cps.toList TF&&r.isEmpty) (some p.2)=some a from h);have h1:=t6.mp h1;cases h2;cases u7.mp h1.2;rw [<-show p.1=("__class__":tq)from(str_of_list (It h1.1)).trans (by decide+kernel)]
theorem ly{c:CS}{q:Nat×Nat×List CE}(h:Mf c=some q):c= .expr (.sup q.1 q.2.1 q.2.2):=by
 cases c with
 |expr e=> cases e with
  |sup g c as=> cases h;rfl
  |_=> exact cNS h
 |_=> exact cNS h
theorem l4{o:Option (Nat×Nat)}{g c:Nat}(h:TK o g c=true):o=some (g,c):=by
 cases o with
 |none=> exact cFT h
 |some p=> exact Aa h fun h1 h2=> by rw [<-uq h1,<-uq h2]
theorem l5{G:Gx}{a:Nat}{fd:uz}{p:Nat×Nat}(hf:Em G.K a=some (.func fd))(h:TJ G.prog G.K fd=some p):∃q,Wg G a fd q p.1 p.2 N.L8:=by refine AY h fun q hq h=> ?_;refine AY h fun g hg h=> ?_;obtain⟨h1,h2⟩:=LR h;cases h2;refine AY hq fun Hc ACW hq=> ?_;refine AY hq fun cc hcc hq=> ?_;refine AY hq fun ar har hq=> ?_;refine AY hq fun vs hvs hq=> ?_;refine AY hvs fun dt hdt hvs=> ?_;cases Wi hvs;refine AY hq fun ft hft hq=> ?_;refine AY hft fun fv hfv hft=> ?_;cases Wj hft;refine AY hq fun D hD hq=> ?_;refine AY hD fun cv hcv hD=> ?_;cases Qp hD;refine AY hcv fun ct hct hcv=> ?_;cases lq hcv;obtain⟨Kk,ACX,rfl⟩:=uF.mp hq;obtain⟨b1,h1⟩:=Bq h1;obtain⟨b2,h1⟩:=Bq h1;obtain⟨b3,h1⟩:=Bq h1;obtain⟨b4,h1⟩:=Bq h1;obtain⟨b5,h1⟩:=Bq h1;obtain⟨b6,h1⟩:=Bq h1;obtain⟨b7,h1⟩:=Bq h1;obtain⟨b8,h1⟩:=Bq h1;obtain⟨b9,h1⟩:=Bq h1;obtain⟨b10,h1⟩:=Bq h1;obtain⟨b11,h1⟩:=Bq h1;exact⟨_,hf,Qp ACW,lu hcc,har,WJ b1,hdt,hfv,b2,hct,ACX,eq_of_beq b3,eq_of_beq b4,eq_of_beq b5,eq_of_beq b6,eq_of_beq b7,eq_of_beq b8,eq_of_beq b9,eq_of_beq b10,b11,Bool.not_eq_true' _▸(Bq h1).1,by decide+kernel⟩
section
variable{G:Gx}{f:Fx}{A:tx}{X:XP}{P:Prog}{gl:tq->Option (Option R5)}{yw:Nat->Bool}{fu:Nat}
theorem Wk(C:Ck G P)(S:Fi G P)(O:AP G f){cf:Nat->List AV->List (N×AV)->Hp->COut}:∀{fs:List (N×N)} {ts:List PS} {md:Nat},Dx f.cs gl yw (Dt fs) md ts=true->A6 G f A X (execs (C4 (Dt fs) ts) f.env) (AN P fu cf (Dt fs))
 | [],_,_,_=> NK
 |p::fs,ts,md,h=> Aa h fun h1 h2=> Aa h1 fun h3 h4=> Aa h4 fun h4 _=> VH (LH rfl rfl (Jd O.fn (Dl h4) (HD h4)) (VF C S O (Jd O.fn (Dl h3) (HD h3)))) (Wk C S O h2)
theorem Wl{sc:u3}:∀{fs:List (N×N)} {ts:List PS} {md:Nat},Dx sc gl yw (Dt fs) md ts=true->NV sc fs (C4 (Dt fs) ts)
 | [],_,_,_=> rfl
 |p::fs,ts,md,h=> Aa h fun h1 h2=> Aa h1 fun h3 h4=> Aa h4 fun h4 _=>
  ⟨_,_,_,_,_,rfl,Dl (f:=⟨"",sc,0,0,.none,default,[],callerA,[]⟩) h3,HD (f:=⟨"",sc,0,0,.none,default,[],callerA,[]⟩) h3,Dl (f:=⟨"",sc,0,0,.none,default,[],callerA,[]⟩) h4,HD (f:=⟨"",sc,0,0,.none,default,[],callerA,[]⟩) h4,Wl h2⟩
structure FnAt(G:Gx)(gl:tq->Option (Option R5))(yw:Nat->Bool)(md:Nat)(a:Nat)(fn:Fn)(fd:uz)(ts:List PS):Prop where
 func:Em G.K a=some (.func fd)
 shape:FnShape G a fn fd.qualname fd.scope (Fb fn.body ts) fd.code fd.closure
 ok:Mg G.prog G.K gl yw md fd fn.body ts=true
structure Hx(G:Gx)(P:Prog)(gl:tq->Option (Option R5))(yw:Nat->Bool):Prop where
 C:Ck G P
 S:Fi G P
 MK:Jv G P
 IS:QZ G P
 EO:Ht G P
 XH:LU G P yw
 DR:∀y r,gl y=some r->nsIn G.K mainGlobals y=some r
 fns:∀a fn,P.fns a=some fn->∃fd ts,FnAt G gl yw 0 a fn fd ts
theorem inter{f:Fx}(h:f.cs.kind= .function):interactive f.env=false:=by unfold interactive;show(f.cs.kind==.module&&_)=false;rw [h];rfl
theorem Qq{d a:Nat}{as:List AV}{ks:List (N×AV)}{h:Hp}(ne:AD P fu d a as ks h≠ .bad):(P.fns a).isSome=true:=by
 cases d with
 |zero=> exact absurd rfl ne
 |succ d=> obtain⟨fn,e,_⟩:=Ir (Z:=AD P fu (d+1) a as ks h) rfl ne;rw [e];rfl
theorem Wm{G:Gx}{gl:tq->Option (Option R5)}{yw:Nat->Bool}{md:Nat}{fd:uz}{ts:List PS}:∀{fs:List (N×N)},Mg G.prog G.K gl yw md fd (Dt fs) ts=true->Fb (Dt fs) ts=C4 (Dt fs) ts/\Dx fd.scope gl yw (Dt fs) md ts=true
 | []=>@fun _=> ⟨rfl,rfl⟩
 |_::_=>@fun h=> ⟨rfl,h⟩
theorem Qr(H:Hx G P gl yw):NT G P:=by intro c cl fi fs fn hc he hi hf;obtain⟨fd,ts,F⟩:=H.fns fi fn hf;refine⟨_,_,_,_,_,F.shape,fun f' A' X' e1 e2 O HA=> ?_⟩;obtain⟨_,_,fn',_,g1,g2,gr⟩:=H.MK.BY c cl fi fs hc he hi;cases hf.symm.trans g1;have q:=F.ok;rw [g2]at q⊢;obtain⟨q1,q2⟩:=Wm q;rw [q1];exact Wk H.C H.S O (e1▸q2)
theorem Wn(H:Hx G P gl yw){cf:Nat->List AV->List (N×AV)->Hp->COut}{fn:Fn}{fd:uz}{ts:List PS}{f':Fx}{md:Nat}(F:FnAt G gl yw md f'.ca fn fd ts)(ed:f'.cd=fd.code)(es:f'.cs=fd.scope)(el:f'.cl=fd.closure)
 (O:AP G f') (CE:Hs G f' f'.A0 (XA G f') P cf) (top:md=1->f'.g=G.B/\Hs G f' f'.A0 (XL G f') P cf) {W l hp M ow m s} (I:Inv G f' W l hp M ow m s) {Z:Out Flow} (eR:AN P fu cf fn.body ⟨l,hp⟩=Z) (ne:Z≠ .bad):
 PySem.wpAt (mo G) f'.A0 (.func (Fb fn.body ts) f'.env) (execs (Fb fn.body ts) f'.env) (Hk G f' W Z) (A9 (XA G f') W Z) s:=by
 have H':B5 G f' f'.A0 (XA G f') P cf gl:=⟨O,CE,H.IS,H.DR⟩;have hi:=inter O.fn;have sem:=fun cs ts=> Hw (fu:=fu) H.S H.EO H.XH hi cs ts H' kX (md:=md) ⟨fun _=> kh O,fun e=> ⟨rfl,(top e).1,O,(top e).2,H.IS,H.DR⟩⟩;have ok:=F.ok;generalize fn.body=cs at ok eR⊢;cases cs with
 |nil=> exact w8 (NK W l hp M ow m s Z eR I ne)
 |cons c r=>
  unfold Mg Fb at *;dsimp only at ok⊢;cases hc:Mf c with
  |none=> rw [hc]at ok;dsimp only at ok⊢;exact w8 (sem (c::r) ts (es▸ok) W l hp M ow m s Z eR I ne)
  |some q=>
   rw [hc]at ok;cases ly hc;dsimp only at ok⊢;refine Aa ok fun h1 ok=> Aa ok fun h2 ok=> Aa ok fun h3 ok=> Aa ok fun h4 ok=> Aa ok fun h5 h6=> ?_;obtain⟨sd,SO⟩:=l5 F.func (l4 h1);refine ks_wpAt_execs_cons (xj (ll O CE.Qf SO ed es el h3 h4 (wq (uH h5)) hi (EB H' q.2.2 _ 1 (es▸h2)).L I rfl (CC (eR▸ne))) (fun v zH hq=> ?_) fun e zH hx=> eR▸hx.bind);obtain⟨a0,σ,V,L,zC,m'',z1,z2,z3,z4⟩:=hq;replace eR:=(CD z1).symm.trans eR;cases a0<;>cases v<;>first |exact z4.elim |skip
   . exact w8 (LA z2 (sem r ts.tail (es▸h6) V _ _ _ _ _ _ Z eR z3 ne))
   . exact z3.F eR z2 trivial
   . exact z3.F eR z2 trivial
   . exact z3.F eR z2 z4
theorem l6{r:Out Flow}{x:AV}{σ:St}(h:r= .exc x σ):Gr r= .exc x σ.hp:=by rw [h];rfl
theorem Wo{X:Fx->XP}(hX:∀(f:Fx) {g:Heap} {m W l x hp e s},AP G f->Fr f.g f.L g m->DQ G.B W l m->Arr G (f.env::f.outer) g W x hp e s->X f W x l hp e s)(H:Hx G P gl yw){d:Nat}
 (ih:∀(f:Fx) (A:tx),AP G f->FC f (d+2) A->Dk G f A (XA G f) P (AD P fu d)) (f:Fx) (A:tx) (O:AP G f) (HA:FC f (d+3) A):Dk G f A (X f) P (AD P fu (d+1)):=fun a as vs ks kv W l hp M ow m s R I Rv Kv ne ret exc=> by
 obtain⟨fn,hf,eR⟩:=Ir (Z:=AD P fu (d+1) a as ks hp) rfl ne;obtain⟨loc,he,eR⟩:=Ir eR ne;rw [<-eR]at ne ret exc;obtain⟨fd,ts,F⟩:=H.fns a fn hf;refine VD (d:=d+2) (X':=fun f'=> XA G f') F.shape O HA I Rv Kv he (fun f' m' s' e0 e1 e2 e3 ea eb O' HA' I'=> ?_) ret fun f' e s' e1 e0 Fg O' h=> ?_
 . subst ea;have hA:A.deeper f'.env=f'.A0:=by unfold Fx.A0;rw [e0]
   rw [hA]at HA'⊢;exact Wn H F eb e1 e3 O' ⟨H.C,H.MK,Qr H,⟨d+1,HA',fun A' h=> ih f' A' O' h⟩,fun a as ks h=> Qq⟩ nofun I' rfl fun z=> ne (by rw [z];rfl)
 . obtain⟨x,σ,W',h1,h2,h3⟩:=h;have hA:A.deeper f'.env=f'.A0:=by unfold Fx.A0;rw [e0]
   rw [hA];refine uG h3 (fun _ zH h4=> exc e zH ?_) fun _ _ z=> z.elim;exact⟨x,⟨l,σ.hp⟩,W',by rw [l6 h1];rfl,h2,hX f O Fg (I.lr.mono h2) (e1▸h4)⟩
theorem main(H:Hx G P gl yw):∀d (f:Fx) (A:tx),AP G f->FC f (d+2) A->Dk G f A (XA G f) P (AD P fu d)
 |0=>@fun f A O HA=> fun a as vs ks kv W l hp M ow m s R I Rv Kv ne ret exc=> absurd rfl ne
 |d+1=>@fun f A O HA=> Wo (X:=XA G) (fun f=> fun O Fg _ h=> kW O Fg h) H (fun f A O h=> main H d f A O h) f A O HA
theorem l7(H:Hx G P gl yw):∀d (f:Fx) (A:tx),AP G f->FC f (d+2) A->Dk G f A (XL G f) P (AD P fu d)
 |0=>@fun f A O HA=> fun a as vs ks kv W l hp M ow m s R I Rv Kv ne ret exc=> absurd rfl ne
 |d+1=>@fun f A O HA=> Wo (X:=XL G) (fun f=> fun O Fg Lr h=> kj O Fg Lr h) H (fun f A O h=> main H d f A O h) f A O HA
end
section
variable{G:Gx}{P:Prog}{gl:tq->Option (Option R5)}{yw:Nat->Bool}{fu:Nat}
def Nf:Hp:=⟨[],[]⟩
def W0:Wd:=⟨fun _=> 0,Nf.lv,[]⟩
theorem l8(i:Nat):¬Nf.lv i:=by unfold Hp.lv;cases i % 2<;>exact Nat.not_lt_zero _
theorem l9{B:Heap}{W:Wd}{vs:List R5}{ns:List Int}(h:IntsAre vs ns):AX B W (ns.map AV.int) vs:=by
 induction h with
 |nil=> trivial
 |cons _ t _ ih=> exact⟨⟨t,rfl⟩,ih⟩
theorem mA{r:Out Flow}{c:Flow}{σ:St}{h:Hp}(h1:r= .ok c σ)(hr:Gr r= .ok (.bool true) h):c= .ret (.bool true):=by
 subst h1;cases c<;>cases hr
 rfl
def mB(P:Prog)(fu d:Nat)(fn:Fn)(as:List AV):COut:=GD (FV fn as []) fun loc=> Gr (AN P fu (AD P fu d) fn.body ⟨loc,Nf⟩)
theorem enter(H:Hx G P gl yw){a:Nat}{fn:Fn}{fd:uz}{ts:List PS}(F:FnAt G gl yw 1 a fn fd ts){s:tm}(hB:G.B=s.heap)(X:G.K.In s.heap)(T:Top G.p G.loose G.UA G.mg G.mb s.heap)(hg:s.gens= #[])(zw:s.os=G.os)
 {l:Addr} {vs:List R5} {k:Nat} (hl:s.heap.get? l=some (listOf vs.toArray k)) {ns:List Int} (hv:IntsAre vs ns) (hn:ns.length<=lim) {d:Nat} (hd:d<=100) {h':Hp} (hr:mB P fu d fn [.Ae (ns.map .int)]= .ok (.bool true) h'):
 wpAny (mo G) callerA (call (.ref a) [.ref l]) (fun v s'=> v= .bool true/\(∀b o,s.heap.get? b=some o->s'.heap.get? b=some o)/\s'.gens= #[]/\s'.os=s.os) (fun _ _=> False) s:=by
 obtain⟨loc,he,hr⟩:=Ir hr nofun;have S:=F.shape;have R0:AX G.B W0 [.Ae (ns.map .int)] [.ref l]:=⟨⟨⟨l,vs,k,rfl,.inr (hB▸hl),l9 hv⟩,(uL (f:=AV.int) (as:=ns)).symm▸hn⟩,trivial⟩;obtain⟨name,params,dV,kV,doc,pm,ct,oc,an,od,zk,binds,ho,hb,z9,hL⟩:=S.binds X R0 (ks:=[]) (kv:=[]) trivial he;refine vi (ks_codeAny_call_defAt (fd:=fnX name fd.qualname params (Fb fn.body ts) fd.scope fd.closure dV kV doc pm an fd.code ct) (body:=Fb fn.body ts) (binds:=binds) (by decide) ho rfl T.nolimit (codeRec_of X S.code) rfl hb S.cell z9 (fun h₁ hns hk₁=> ?_) S.co S.gen S.kind);let f':Fx:=⟨fd.qualname,fd.scope,s.heap.objs.size,a,fd.code,s.heap,[],callerA,fd.closure⟩;have O':AP G f':=⟨⟨rfl,fun b o e=> show s.heap.get? b=some o from hB▸e,trivial⟩,X,T,S.kind⟩;have HA':Bx f' (d+2) f'.A0:=⟨xI rfl,rfl,by show 1+300+1+3 * (d+2)+10<1000;lia,by show 4+3+30 * (d+2)+200<9900;lia⟩;have I':Inv G f' W0 loc Nf [] (fun _=> 0) _ {s with heap:=h₁,toks:=s.toks+binds.length}:=
  ⟨⟨hns,hk₁,uW _⟩,fun p hp=> (by cases hp),⟨rfl,List.nodup_nil,fun p hp=> (by cases hp),fun i hi=> absurd hi (l8 i)⟩,hL,hg,zw⟩
 refine xj (Wn (fu:=fu) (cf:=AD P fu d) (f':=f') H F rfl rfl rfl O' ⟨H.C,H.MK,Qr H,⟨d+1,HA',fun A' h=> main H d f' A' O' h⟩,fun a as ks h=> Qq⟩ (fun _=> ⟨hB.symm,H.C,H.MK,Qr H,⟨d+1,HA',fun A' h=> l7 H d f' A' O' h⟩,fun a as ks h=> Qq⟩) I' rfl fun z=> by rw [z]at hr;cases hr) (fun fl s' hq=> ?_) fun e s' hx=> ?_
 . obtain⟨c,σ,W',M',zC,m',h1,h2,h3,h4⟩:=hq;cases mA h1 hr;cases fl<;>first |exact h4.elim |exact⟨h4,h3.fr.keep,h3.gn,h3.os.trans zw.symm⟩
 . obtain⟨x,σ,W',h1,_⟩:=hx;rw [h1]at hr;cases hr
end
section
theorem Wq{α:Type}{x:N}{v:α}:∀{l:List (N×α)},look x l=some v->(x,v)∈l
 |(y,w)::r,h=> by
  unfold look at h;by_cases e:y=x
  . rw [if_pos e]at h;cases h;subst e;exact .head _
  . rw [if_neg e]at h;exact .tail _ (Wq h)
theorem Wr{B:Heap}{v:AV}{u:R5}(h:JT u=some v)(W:Wd):AK B W v u:=by
 cases u with
 |str x t=> obtain⟨h1,h2⟩:=LR h;cases h2;exact⟨⟨_,rfl⟩,WL h1⟩
 |int j t=> cases h;exact⟨_,rfl⟩
 |none=> cases h;rfl
 |bool b=> cases h;rfl
 |_=> exact HB h
theorem Qs{B:Heap}:∀{us:List R5} {vs:List AV},Km us=some vs->∀W,AX B W vs us
 | [],_,h,_=> by cases h;trivial
 |u::r,_,h,W=> by refine AY (show((JT u).bind fun v=> (Km r).map (v::·))=some _ from h) fun v h1 h2=> ?_;obtain⟨vs,h3,rfl⟩:=uF.mp h2;exact⟨Wr h1 W,Qs h3 W⟩
theorem Ws{a b:AV}(h:PO a b=true):a=b:=by
 cases a with
 |str s=> cases b with
  |str t=> rw [It h]
  |_=> cases h
 |int i=> cases b with
  |int j=> rw [of_decide_eq_true h]
  |_=> cases h
 |none=> cases b with
  |none=> rfl
  |_=> cases h
 |bool x=> cases b with
  |bool y=> rw [eq_of_beq h]
  |_=> cases h
 |_=> cases h
theorem mC{o:Obj}{vs:List R5}(h:isTup o=some vs):∃k,o=G5 vs k:=by
 obtain⟨c,d,dat,sl⟩:=o;cases dat with
 |seq us k=>
  obtain⟨h1,h2⟩:=LR (show Ha (c==.type "tuple"&&d.isNone&&sl.isEmpty) (some us.toList)=some vs from h);cases h2;have h1:=t6.mp h1;have h3:=t6.mp h1.1;rw [eq_of_beq h3.1];have e1:d=none:=by cases d with
   |none=> rfl
   |some _=> cases h3.2
  have e2:sl= #[]:=Array.isEmpty_iff.mp h1.2;rw [e1,e2];exact⟨k,rfl⟩
 |_=> exact HB h
theorem J0:∀{l:List Bool},allB l=true->∀i,l.getD i true=true
 | [],_,i=> by cases i<;>rfl
 |b::r,h,0=> (Bq h).1
 |b::r,h,i+1=> J0 (l:=r) (Bq h).2 i
variable{G:Gx}{gl:tq->Option (Option R5)}{yw:Nat->Bool}{fnl:List (Nat×Fn)}{Aq:List (Nat×Cl)}{Bm:List Nat}
theorem Wt:∀{as:List Arg} {ps:List N},PX as ps=true->as.map (·.arg)=ps.map nm
 | [],ps,h=> by rw [u7.mp h];rfl
 |a::r,[],h=> cFT h
 |a::r,n::t,h=> Aa h fun h1 h2=> by show a.arg::r.map (·.arg)=nm n::_;rw [WJ h1,Wt h2]
theorem Wu:∀{a b:List (N×AV)},PY a b=true->a=b
 | [],b,h=> (u7.mp h).symm
 |p::r,[],h=> cFT h
 |(n,v)::r,(m,w)::t,h=> Aa h fun h1 h=> Aa h fun h2 h3=> by rw [show n=m from uq h1,show v=w from Ws h2,Wu h3]
theorem mD{o:Option (List (N×AV))}{b:List (N×AV)}(h:TV o b=true):o=some b:=by
 cases o with
 |none=> exact cFT h
 |some d=> rw [Wu h]
theorem mE{ps:List N}(h:ps.Nodup):(ps.map nm).Nodup:=by
 induction ps with
 |nil=> exact List.nodup_nil
 |cons p r ih=> rw [vF]at h;rw [ud,vF];refine⟨fun hm=> ?_,ih h.2⟩;obtain⟨q,hq,e⟩:=uj.mp hm;exact h.1 (JN e▸hq)
theorem Wv{α:Type}{o:Option α}(h:o.isNone=true):o=none:=by cases o<;>first |rfl |cases h
theorem mF:∀{us:List R5} {vs:List AV},Km us=some vs->us.length=vs.length
 |us,vs,h=> (Qs (B:=default) h W0).length.symm
theorem mG{ps:List N}{dV:R5}{BH:List (N×AV)}(h:TU G.K ps dV=some BH):
 ∃dv,((dV= .none/\dv=[])∨∃T k,dV= .ref T/\G.K.lookup T=some (G5 dv k))/\(∀W,AX G.B W (BH.map (·.2)) dv)/\BH.map (fun p=> nm p.1)=(ps.map nm).drop (ps.length - dv.length)/\dv.length<=ps.length:=by
 cases dV with
 |none=> cases h;exact⟨[],.inl ⟨rfl,rfl⟩,fun _=> trivial,(wD (t7 (uL ..))).symm,uO _⟩
 |ref T=>
  refine AY h fun o h1 h=> ?_;refine AY h fun us h2 h=> ?_;refine AY h fun vs h3 h=> ?_;obtain⟨h4,h5⟩:=LR h;cases h5;have h4:=uH h4;obtain⟨k,rfl⟩:=mC h2;have hl:=mF h3;have hz:(ps.drop (ps.length - vs.length)).length=vs.length:=by rw [wM];exact Nat.sub_sub_self h4
  refine⟨us,.inr ⟨T,k,rfl,h1⟩,fun W=> ?_,?_,hl▸h4⟩
  . rw [List.map_snd_zip (t7 hz.symm)];exact Qs h3 W
  . rw [show(fun p:N×AV=> nm p.1)=nm∘Prod.fst from rfl,<-vO,List.map_fst_zip (t7 hz),<-List.map_drop,hl]
 |_=> exact HB h
theorem mH{K:Frag}{cd:R5}{q:tq}(h:codeB K cd q=true):codeIn K cd q=true:=by
 unfold codeB at h;cases hq:((DJ cd).bind fun c=> (Em K c).bind Md).bind fun vs=> (vs.toList[1]?).bind Me with
 |none=> rw [hq]at h;exact cFT h
 |some p=>
 obtain⟨n,tk⟩:=p;rw [hq]at h;refine AY hq fun vs e e2=> ?_;refine AY e fun c e1 e=> ?_;refine AY e fun d e e3=> ?_;refine AY e2 fun v e2 e4=> ?_;cases Qp e1;cases Wi e3;cases Wj e4;obtain⟨oc,od,zk,k⟩:=LV e;unfold codeIn;dsimp only;rw [k];dsimp only
 match hl:vs.toList,e2 with
 | [],e2=> exact cNS e2
 | [_],e2=> exact cNS e2
 |_::w::r,e2=> cases Zo e2;exact beq_iff_eq.mpr ((str_of_list (It h)).trans (str_of_list rfl).symm)
inductive mI(G:Gx)(gl:tq->Option (Option R5))(yw:Nat->Bool)(md:Nat)(a:Nat)(fn:Fn)(ts:List PS):Prop
 |mk (fd:uz) (h:FnAt G gl yw md a fn fd ts)
theorem Qt{md a:Nat}{fn:Fn}{ts:List PS}(h:IT G.prog G.K gl yw md a fn ts=true)(hb:Kq G.K a=some (Fb fn.body ts)):mI G gl yw md a fn ts:=by
 refine Aa h fun _ h=> ?_;unfold Kq at hb;cases hf:(Em G.K a).bind Mc with
 |none=> rw [hf]at h;exact cFT h
 |some fd=>
  rw [hf]at h hb;refine AY hf fun da hd hda=> ?_;cases lp hda;clear hda hf;have q:=J0 h;clear h;obtain⟨oc,od,zk,hl⟩:=LV hd;obtain⟨name,qual,params,fb,scope,glb,cl,dV,kV,doc,pm,anA,zB,ct,blt⟩:=fd;cases fb with
  |stmts body=> cases hb;cases uq (q 0);cases uq (q 1);obtain⟨dv,k1,k2,k3,k4⟩:=mG (G:=G) (mD (q 14));exact⟨_,hd,⟨⟨name,params,dV,kV,doc,pm,ct,oc,_,od,zk,dv,hl,u7.mp (q 2),Wt (q 3),Wv (q 4),u7.mp (q 5),Wv (q 6),k1,k2,k3,k4⟩,mH (q 7),mE (of_decide_eq_true (q 8)),fun p hp=> NZ scope.names▸WM (uM.mp (q 9) p hp),HC (q 10),HC (q 11),eq_of_beq (q 12),fun x hx=> bne_iff_ne.mp (uM.mp (q 13) x hx)⟩,q 15⟩
  |_=> exact cNS hb
theorem mJ{c:CS}{s x q:N}(h:Mj c=some (s,x,q)):c= .asg (.AF (.var s) x) (.var q):=by
 cases c with
 |asg g e=> cases g with
  |AF o x=> cases o with
   |var s=> cases e with
    |var q=> cases h;rfl
    |_=> exact cNS h
   |_=> exact cNS h
  |_=> exact cNS h
 |_=> exact cNS h
theorem mK{c:CS}{p:N×N}(h:TQ (Mj c) p=true):c= .asg (.AF (.var N.self) p.1) (.var p.2):=by
 cases hq:Mj c with
 |none=> rw [hq]at h;exact cFT h
 |some t=> rw [hq]at h;obtain⟨s,x,q⟩:=t;rw [mJ hq];exact Aa h fun h1 h=> Aa h fun h2 h3=> by rw [show s=N.self from uq h1,show x=p.1 from uq h2,show q=p.2 from uq h3]
theorem Ww:∀{fs:List (N×N)} {b:List CS},PW fs b=true->b=Dt fs
 | [],b,h=> u7.mp h
 |p::fs,[],h=> cFT h
 |p::fs,c::r,h=> Aa h fun h1 h2=> by rw [mK h1,Ww h2];rfl
theorem Wx{P:Prog}{c:Nat}{cl:Cl}{fi:Nat}{fs:List (N×N)}(h:Kp P (c,cl)=true)(hi:cl.init= .BY fi fs):
 ∃fn ps,P.fns fi=some fn/\fn.body=Dt fs/\fn.ps= .self::ps/\(∀p∈fs,cl.fields.contains p.1=true)/\(fs.map (·.1)).Nodup/\fs.length<100/\(∀p∈fs,p.2≠ .self)/\(cl.exc=true->fs≠[]):=by
 unfold Kp at h;dsimp only at h;rw [hi]at h;dsimp only at h;cases hf:P.fns fi with
 |none=> rw [hf]at h;cases h
 |some fn=>
  rw [hf]at h;obtain⟨k1,h⟩:=Bq h;obtain⟨k2,h⟩:=Bq h;obtain⟨k3,h⟩:=Bq h;obtain⟨k4,h⟩:=Bq h;obtain⟨k5,h⟩:=Bq h;obtain⟨k6,h⟩:=Bq h;have k7:=(Bq h).1;have hp:∃ps,fn.ps= .self::ps:=by
   cases hps:fn.ps with
   |nil=> rw [hps]at k5;cases k5
   |cons x r=> rw [hps]at k5;exact⟨r,by rw [uq k5]⟩
  obtain⟨ps,hps⟩:=hp;exact⟨fn,ps,rfl,Ww k6,hps,fun p hp=> uM.mp k1 p hp,of_decide_eq_true k2,wq (uH k3),(fun p hp z=> by have:=uM.mp k4 p hp;rw [z]at this;cases this),fun z1 z2=> by subst z2;rw [z1]at k7;cases k7⟩
inductive mL(Aq:List (Nat×Cl))(b:Nat):Prop
 |mk (cl:Cl) (h:DB Aq b=some cl) (he:cl.exc=true)
theorem mM{Aq:List (Nat×Cl)}{b:Nat}(h:Gw Aq b=true):mL Aq b:=by
 unfold Gw at h;cases hq:DB Aq b with
 |none=> rw [hq]at h;exact cFT h
 |some cl=> rw [hq]at h;exact⟨cl,hq,h⟩
theorem mN{c:Nat}{cl:Cl}(h:JV G.K (c,cl)=true)(he:cl.exc=false):∀i,(TP G.K (c,cl)).getD i true=true:=by unfold JV at h;rw [he]at h;exact J0 h
theorem mO{c:Nat}{cl:Cl}(h:JV G.K (c,cl)=true)(he:cl.exc=true):∀i,(TN G.K (c,cl)).getD i true=true:=by unfold JV at h;rw [he]at h;exact J0 h
theorem Wy{c fi:Nat}{cl:Cl}{fs:List (N×N)}(h:JU G.K (c,cl)=true)(hi:cl.init= .BY fi fs):Ko G.K c fi=true:=by unfold JU at h;rw [hi]at h;exact h
theorem mP{c i:Nat}{cl:Cl}(h:JU G.K (c,cl)=true)(hi:cl.init= .run i):Ko G.K c i=true:=by unfold JU at h;rw [hi]at h;exact h
theorem Qu{c i:Nat}(h:Ko G.K c i=true):findIn G.K (.ref c) "__init__"=some (some (.ref i))/\typeIn G.K (.ref i)=some (.type "function"):=Aa h fun h1 h2=> ⟨eq_of_beq h1,eq_of_beq h2⟩
theorem Qv{c:Nat}{a:N}(h:Mh G.K c a=true):(∃attr,findIn G.K (.ref c) (nm a)=some attr/\noGet G.K attr=true)/\takerIn G.K c (nm a)=some none:=by
 refine Aa h fun h1 h2=> ⟨?_,eq_of_beq h2⟩;cases hq:findIn G.K (.ref c) (nm a)with
 |none=> rw [hq]at h1;exact cFT h1
 |some attr=> rw [hq]at h1;exact⟨attr,rfl,h1⟩
theorem mQ{B:Heap}{u:R5}{v:AV}(h:PQ (JT u) v=true)(W:Wd):AK B W v u:=by
 cases hc:JT u with
 |none=> rw [hc]at h;exact cFT h
 |some v'=> rw [hc]at h;rw [<-Ws h];exact Wr hc W
theorem mR{c:Nat}{a:N}{v:AV}(h:PU G.K c a v=true):∃u,findIn G.K (.ref c) (nm a)=some (some u)/\specialIn G.K u "__get__"=some none/\copiedNames.contains (nm a)=false/\∀W,AK G.B W v u:=by
 unfold PU at h;cases hq:findIn G.K (.ref c) (nm a)with
 |none=> rw [hq]at h;exact cFT h
 |some o=> cases o with
  |none=> rw [hq]at h;exact cFT h
  |some u=> rw [hq]at h;exact Aa h fun h1 h2=> Aa h2 fun h2 h3=> ⟨u,rfl,eq_of_beq h2,HC h3,fun W=> mQ h1 W⟩
theorem mS{c g:Nat}{a:N}(h:TL G.K c a g=true):findIn G.K (.ref c) (nm a)=some (some (.ref g))/\isFn G.K (.ref g)=true/\keepIn G.K (.ref g)=true:=Aa h fun h1 h2=> Aa h2 fun h2 h3=> ⟨Qi h1,h2,h3⟩
theorem mT{BR:Nat->List PS}(hf:∀a fn,DB fnl a=some fn->IT G.prog G.K gl (Gw Aq) 0 a fn (BR a)=true/\Kq G.K a=some (Fb fn.body (BR a)))(hh:TX G.K Aq Bm=true)(hr:Aq.all (Kp (progOf fnl Aq Bm))=true)(DR:∀y r,gl y=some r->nsIn G.K mainGlobals y=some r):Hx G (progOf fnl Aq Bm) gl (Gw Aq):=by
 have hh:=J0 hh;have C:∀{c cl},DB Aq c=some cl->JV G.K (c,cl)=true:=fun e=> uM.mp (hh 0) _ (Kl e);have R:∀{c cl},DB Aq c=some cl->Kp (progOf fnl Aq Bm) (c,cl)=true:=fun e=> uM.mp hr _ (Kl e);have D:=fun{c cl} (e:DB Aq c=some cl) he=> mN (C e) he;have DX:=fun{c cl} (e:DB Aq c=some cl) he=> mO (C e) he;have AF:∀{c cl},DB Aq c=some cl->∀{a g},look a cl.attrs=some g->TM G.K c cl (a,g)=true:=fun{c cl} e {a g} hg=> by
  cases he:cl.exc with
  |true=> rw [u7.mp (DX e he 7)]at hg;exact cNS hg
  |false=> exact uM.mp (D e he 3) _ (Wq hg)
 have fld:∀{c cl a},DB Aq c=some cl->cl.fields.contains a=true->Mh G.K c a=true:=fun{c cl a} e ha=> by
  refine uM.mp ?_ a (xH.mp ha);cases he:cl.exc with
  |true=> exact DX e he 8
  |false=> exact D e he 2
 have Cb:∀{d cl c},DB Aq d=some cl->cl.exc=false->Bm.contains c=true->Mi G.K (d,cl) c=true:=fun{d cl c} e he hc=> by have:=uM.mp (hh 1) _ (Kl e);dsimp only at this;rw [he,wV]at this;exact uM.mp this _ (xH.mp hc)
 exact⟨⟨fun c cl e he=> D e he 0,fun c cl e he=> ⟨eq_of_beq (DX e he 4),eq_of_beq (DX e he 5),eq_of_beq (DX e he 6),u7.mp (DX e he 7)⟩,fun c cl e=> (by
  cases he:cl.exc with
  |true=> exact DX e he 3
  |false=> exact D e he 1),fun c cl a e ha=> (Qv (fld e ha)).1,fun c cl a v e hv=> Aa (AF e hv) fun _ h=> mR h,fun c cl a g e hg=> Aa (AF e hg) fun _ h=> mS h,fun c cl a g e hg=> Aa (AF e hg) fun h _=> HC h⟩,
  ⟨fun c cl a e he ha=> (Qv (fld e ha)).2,fun c cl e he=> ⟨eq_of_beq (D e he 4),D e he 5⟩⟩,
  ⟨fun a fn e=> Aa (hf a fn e).1 fun h _=> h,fun c cl e he=> D e he 6,fun c cl e he=> D e he 7,fun c cl fi fs e he hi=> (by obtain⟨fn,ps,q1,q2,q3,q4,q5,q6,q7,_⟩:=Wx (R e) hi;have z:=Qu (Wy (D e he 10) hi);exact⟨z.1,z.2,fn,ps,q1,q2,q3,q4,q5,q6,q7⟩),fun c cl i e he hi=> Qu (mP (D e he 10) hi)⟩,
  ⟨fun d cl c e he hc hm=> (by have z:=Cb e he hc;unfold Mi at z;rw [hm]at z;exact z),fun d cl c e he hc hm=> (by have z:=Cb e he hc;unfold Mi at z;rw [hm]at z;exact z),fun d cl e he=> ⟨D e he 0,D e he 1,eq_of_beq (D e he 8),eq_of_beq (D e he 9)⟩,eq_of_beq (hh 2),eq_of_beq (hh 3)⟩,
  ⟨fun c cl e he=> ⟨DX e he 0,DX e he 1,eq_of_beq (DX e he 2),DX e he 3⟩,fun c cl e he=> ⟨eq_of_beq (DX e he 9),DX e he 10,eq_of_beq (DX e he 6)⟩,fun c cl b e he hb=> eq_of_beq (uM.mp (DX e he 11) b (xH.mp hb)),fun c cl fi fs e he hi=> (by obtain⟨fn,ps,q1,q2,q3,q4,q5,q6,q7,q8⟩:=Wx (R e) hi;have z:=Qu (Wy (DX e he 12) hi);obtain⟨fd,F⟩:=Qt (hf fi fn q1).1 (hf fi fn q1).2;have ok:=F.ok;have sh:=F.shape;rw [q2]at ok sh;obtain⟨g1,g2⟩:=Wm ok;rw [g1]at sh;exact⟨z.1,z.2,fn,ps,q1,q3,q8 he,q5,q6,q7,fun p hp=> (Qv (fld e (q4 p hp))).2,_,_,_,_,_,sh,Wl g2⟩)⟩,
  fun b hb=> (by
   obtain⟨cl,h1,h2⟩:=mM hb;exact⟨⟨cl,h1,h2⟩,DX h1 h2 13⟩),DR,fun a fn e=> (by
   obtain⟨fd,F⟩:=Qt (hf a fn e).1 (hf a fn e).2;exact⟨fd,_,F⟩)⟩
end
theorem Wz{y:tq}:∀es:List uP,JW es y.cps.toList=(es.find? (·.key.isStr y)).map (·.val)
 | []=> rfl
 |e::r=> by
  have ih:=Wz (y:=y) r;obtain⟨zy,key,val⟩:=e;cases key with
  |str x t=>
   show(if C3 x.cps.toList y.cps.toList=true then some val else JW r y.cps.toList)=_;have hk:(wZ x t).isStr y=(x==y):=rfl;by_cases h:C3 x.cps.toList y.cps.toList=true
   . have:x=y:=by rw [str_of_list (It h)]
     rw [if_pos h,xY];have hk2:(wZ x t).isStr y=true:=by rw [hk,this];simp
     show some val=Option.map (·.val) (match(wZ x t).isStr y with |true=> some (⟨zy,.str x t,val⟩:uP) |false=> r.find? (·.key.isStr y));rw [hk2];rfl
   . have:(x==y)=false:=by
      rw [beq_eq_false_iff_ne];rintro rfl;exact h (NY _)
     rw [if_neg h,xY];have hk2:(wZ x t).isStr y=false:=by rw [hk,this]
     show JW r y.cps.toList=Option.map (·.val) (match(wZ x t).isStr y with |true=> some (⟨zy,.str x t,val⟩:uP) |false=> r.find? (·.key.isStr y));rw [hk2];exact ih
  |_=> rw [xY];exact ih
set_option tactic.hygienic true in
theorem mU{K:Frag}(h:(K.lookup mainGlobals).any (fun o=> match o.data with | .dict _ _=> true |_=> false)=true):∀y r,Gy (Gz K) y=some r->nsIn K mainGlobals y=some r:=by
 intro y r e;unfold Gy Gz at e;unfold nsIn;cases hk:K.lookup mainGlobals with
 |none=> rw [hk]at h;cases h
 |some o=>
  rw [hk]at h e;obtain⟨oc,od,dat,sl⟩:=o;cases dat<;>first |cases h |skip
  rename_i es ep;dsimp only at e⊢;rw [Wz]at e;cases hf:es.toList.find? (·.key.isStr y)with
  |none=> rw [hf]at e;exact e
  |some en=> rw [hf]at e;exact e
section
inductive Key where
 |call (f:Nat) (as:List AV) (ks:List (N×AV)) (h:Hp)
 |cmp (op:COp) (a b:AV)
 |get (o i:AV)
 |Bu (o l u:AV)
 |BA (h:Hp) (o:AV) (m:N) (as:List AV)
 |bin (op:BOp) (a b:AV)
 |Ao (c:CS) (s:St)
 |Cf (h:Hp) (v:AV)
 |met (h:Hp) (o:AV) (m:N)
 |Et (h:Hp) (op:COp) (a b:AV)
 |Ct (h:Hp) (o i:AV)
 |aug (h:Hp) (op:BOp) (a b:AV)
 |EV (h:Hp) (op:BOp) (a b:AV)
 |skip
def Key.V:Key->Type
 | .call .. => COut×Nat
 | .cmp .. => Bool
 | .Et .. => Bool
 | .Cf .. => Bool
 | .BA .. => AV×Hp
 | .aug .. => AV×Hp
 | .Ao .. => Out Flow×Nat
 | .met .. => Option Nat
 | .skip=> Unit
 |_=> AV
section
variable(P:Prog)(fu:Nat)
def Key.Ask:(k:Key)->k.V->Prop
 | .call f as ks h,v=> ∀d,AD P fu (d+v.2) f as ks h=v.1
 | .cmp op a b,c=> ∀h,BZ h op a b=some c
 | .get o i,v=> ∀h,CP h o i=some v
 | .Bu o l u,v=> ∀h,GA h o l u=some v
 | .BA h o m as,v=> Bv h o m as=some v
 | .bin op a b,v=> ∀h,binOp h op a b=some v
 | .Ao c s,v=> ∀d,Az P fu (AD P fu (d+v.2)) c s=v.1
 | .Cf h v,b=> truthy h v=some b
 | .met h o m,k=> GG P h o m=some k
 | .Et h op a b,c=> BZ h op a b=some c
 | .Ct h o i,v=> CP h o i=some v
 | .aug h op a b,v=> Du h op a b=some v
 | .EV h op a b,v=> binOp h op a b=some v
 | .skip,_=> True
structure Ent where
 key:Key
 v:key.V
 ok:key.Ask P fu v
abbrev Tr:=List (Ent P fu)
structure Rn(α:Type)where
 r:α
 t:Tr P fu
 ps:List (Key×Key)
end
variable{P:Prog}{fu:Nat}{α β:Type}
def Ent.call(f:Nat)(as:List AV)(ks:List (N×AV))(h:Hp)(r:COut)(n:Nat)(ok:∀d,AD P fu (d+n) f as ks h=r):Ent P fu:=⟨.call f as ks h,(r,n),ok⟩
def Ent.cmp(op:COp)(a b:AV)(c:Bool)(ok:∀h,BZ h op a b=some c):Ent P fu:=⟨.cmp op a b,c,ok⟩
def Ent.get(o i v:AV)(ok:∀h,CP h o i=some v):Ent P fu:=⟨.get o i,v,ok⟩
def Ent.Bu(o l u v:AV)(ok:∀h,GA h o l u=some v):Ent P fu:=⟨.Bu o l u,v,ok⟩
def Ent.BA(h:Hp)(o:AV)(m:N)(as:List AV)(v:AV)(h':Hp)(ok:Bv h o m as=some (v,h')):Ent P fu:=⟨.BA h o m as,(v,h'),ok⟩
def Ent.bin(op:BOp)(a b v:AV)(ok:∀h,binOp h op a b=some v):Ent P fu:=⟨.bin op a b,v,ok⟩
def Ent.Ao(c:CS)(s:St)(r:Out Flow)(n:Nat)(ok:∀d,Az P fu (AD P fu (d+n)) c s=r):Ent P fu:=⟨.Ao c s,(r,n),ok⟩
def Ent.Cf(h:Hp)(v:AV)(b:Bool)(ok:truthy h v=some b):Ent P fu:=⟨.Cf h v,b,ok⟩
def Ent.met(h:Hp)(o:AV)(m:N)(k:Option Nat)(ok:GG P h o m=some k):Ent P fu:=⟨.met h o m,k,ok⟩
def Ent.Et(h:Hp)(op:COp)(a b:AV)(c:Bool)(ok:BZ h op a b=some c):Ent P fu:=⟨.Et h op a b,c,ok⟩
def Ent.Ct(h:Hp)(o i v:AV)(ok:CP h o i=some v):Ent P fu:=⟨.Ct h o i,v,ok⟩
def Ent.aug(h:Hp)(op:BOp)(a b v:AV)(h':Hp)(ok:Du h op a b=some (v,h')):Ent P fu:=⟨.aug h op a b,(v,h'),ok⟩
def Ent.EV(h:Hp)(op:BOp)(a b v:AV)(ok:binOp h op a b=some v):Ent P fu:=⟨.EV h op a b,v,ok⟩
def Ent.skip:Ent P fu:=⟨.skip,(),trivial⟩
def Rn.fit(R:Rn P fu α):Prop:=∀p∈R.ps,p.1=p.2
def rX(a:α)(t:Tr P fu):Option (Rn P fu α):=some ⟨a,t,[]⟩
def HF(ps:List (Key×Key)):Option (Rn P fu α)->Option (Rn P fu α)
 |none=> none
 |some ⟨r,t,qs⟩=> some ⟨r,t,ps++qs⟩
def tick(q q':Key)(m:Option (Rn P fu α)):Option (Rn P fu α):=HF [(q,q')] m
def bX(m:Option (Rn P fu (Out α)))(f:α->St->Tr P fu->Option (Rn P fu (Out β))):Option (Rn P fu (Out β)):=match m with
 |none=> none
 |some ⟨.ok a s,t,ps⟩=> HF ps (f a s t)
 |some ⟨.exc e s,t,ps⟩=> some ⟨.exc e s,t,ps⟩
 |some ⟨.bad,_,_⟩=> none
def cX(m:Option (Rn P fu COut))(l:List (N×AV))(f:AV->St->Tr P fu->Option (Rn P fu (Out β))):Option (Rn P fu (Out β)):=match m with
 |none=> none
 |some ⟨.ok a h,t,ps⟩=> HF ps (f a ⟨l,h⟩ t)
 |some ⟨.exc e h,t,ps⟩=> some ⟨.exc e ⟨l,h⟩,t,ps⟩
 |some ⟨.bad,_,_⟩=> none
def oX(o:Option α)(f:α->Option (Rn P fu β)):Option (Rn P fu β):=match o with
 |none=> none
 |some a=> f a
def mX(f:α->β):Option (Rn P fu α)->Option (Rn P fu β)
 |none=> none
 |some ⟨r,t,ps⟩=> some ⟨f r,t,ps⟩
def AE(m:Option (Rn P fu α))(o:α):Prop:=∀R,m=some R->R.fit->o=R.r
theorem AE.none(o:α):AE (P:=P) (fu:=fu) none o:=fun _ h=> by cases h
theorem AE.r(a:α)(t:Tr P fu):AE (rX a t) a:=fun _ h _=> by cases h;rfl
theorem Ng{ps:List (Key×Key)}{m:Option (Rn P fu α)}{R:Rn P fu α}(h:HF ps m=some R)(hf:R.fit):∃R',m=some R'/\R'.fit/\R'.r=R.r/\∀p∈ps,p.1=p.2:=by
 cases m with
 |none=> cases h
 |some Q=> cases h;exact⟨Q,rfl,fun p hp=> hf p (uN.mpr (.inr hp)),rfl,fun p hp=> hf p (uN.mpr (.inl hp))⟩
theorem AE.add{ps:List (Key×Key)}{m:Option (Rn P fu α)}{o:α}(h:(∀p∈ps,p.1=p.2)->AE m o):AE (HF ps m) o:=fun R e hf=> by obtain⟨R',h1,h2,h3,h4⟩:=Ng e hf;rw [<-h3];exact h h4 R' h1 h2
theorem AE.tick{q q':Key}{m:Option (Rn P fu α)}{o:α}(h:q=q'->AE m o):AE (Internal.tick q q' m) o:=AE.add fun hp=> h (hp _ (.head _))
theorem AE.b{m:Option (Rn P fu (Out α))}{f:α->St->Tr P fu->Option (Rn P fu (Out β))}{o:Out α}{g:α->St->Out β}(hm:AE m o)(hf:∀a s t,AE (f a s t) (g a s)):AE (bX m f) (o.bind g):=fun R e hR=> by
 cases m with
 |none=> cases e
 |some Q=>
  obtain⟨r,t,ps⟩:=Q;cases r with
  |ok a s=> obtain⟨R',h1,h2,h3,h4⟩:=Ng (show HF ps (f a s t)=some R from e) hR;rw [hm _ rfl h4,<-h3];exact hf a s t R' h1 h2
  |exc x s=> cases e;rw [hm _ rfl hR];rfl
  |bad=> cases e
theorem AE.c{m:Option (Rn P fu COut)}{l:List (N×AV)}{f:AV->St->Tr P fu->Option (Rn P fu (Out β))}{o:COut}{g:AV->St->Out β}(hm:AE m o)(hf:∀a s t,AE (f a s t) (g a s)):AE (cX m l f) (o.bind l g):=fun R e hR=> by
 cases m with
 |none=> cases e
 |some Q=>
  obtain⟨r,t,ps⟩:=Q;cases r with
  |ok a s=> obtain⟨R',h1,h2,h3,h4⟩:=Ng (show HF ps (f a ⟨l,s⟩ t)=some R from e) hR;rw [hm _ rfl h4,<-h3];exact hf a _ t R' h1 h2
  |exc x s=> cases e;rw [hm _ rfl hR];rfl
  |bad=> cases e
theorem AE.o{x:Option α}{f:α->Option (Rn P fu (Out β))}{g:α->Out β}(hf:∀a,AE (f a) (g a)):AE (oX x f) (AR x g):=by
 cases x with
 |none=> exact AE.none _
 |some a=> exact hf a
theorem AE.oc{x:Option α}{f:α->Option (Rn P fu COut)}{g:α->COut}(hf:∀a,AE (f a) (g a)):AE (oX x f) (GD x g):=by
 cases x with
 |none=> exact AE.none _
 |some a=> exact hf a
theorem AE.m{m:Option (Rn P fu α)}{o:α}(f:α->β)(hm:AE m o):AE (mX f m) (f o):=fun R e hR=> by
 cases m with
 |none=> cases e
 |some Q=> obtain⟨r,t,ps⟩:=Q;cases e;rw [hm _ rfl hR]
def FL{γ:Type}(b:Bool)(x:γ):Option γ:=match b with
 |true=> some x
 |false=> none
def EC{γ:Type}(x:Option γ):Option (Key×Key×γ)->Prop
 |none=> True
 |some p=> p.1=p.2.1->x=some p.2.2
theorem Hz{γ:Type}{x:Option γ}{b:Bool}{p:Key×Key×γ}(h:p.1=p.2.1->x=some p.2.2):EC x (FL b p):=by
 cases b
 . trivial
 . exact h
def Qw{γ δ:Type}(x:Option γ)(f:γ->Tr P fu->Option (Rn P fu δ))(e:Ent P fu)(t:Tr P fu):Option (Key×Key×γ)->Option (Rn P fu δ)
 |some p=> tick p.1 p.2.1 (f p.2.2 t)
 |none=> oX x fun c=> f c (e::t)
def GW{γ δ:Type}(x:Option γ)(zR:Ent P fu->Option (Key×Key×γ))(f:γ->Tr P fu->Option (Rn P fu δ)):Tr P fu->Option (Rn P fu δ)
 | []=> oX x fun c=> f c []
 |e::t=> Qw x f e t (zR e)
theorem AE.pl{γ:Type}{x:Option γ}{zR:Ent P fu->Option (Key×Key×γ)}(ha:∀e,EC x (zR e)){t:Tr P fu}{f:γ->Tr P fu->Option (Rn P fu (Out β))}{g:γ->Out β}(hf:∀c t,AE (f c t) (g c)):AE (GW x zR f t) (AR x g):=by
 cases t with
 |nil=> exact AE.o fun c=> hf c _
 |cons e t=>
  have h:=ha e;show AE (Qw x f e t (zR e)) _;cases hq:zR e with
  |none=> exact AE.o fun c=> hf c _
  |some p=> rw [hq]at h;exact AE.tick fun z=> by rw [h z];exact hf _ _
theorem AE.HG{γ:Type}{x:Option γ}{zR:Ent P fu->Option (Key×Key×γ)}(ha:∀e,EC x (zR e)){t:Tr P fu}{f:γ->Tr P fu->Option (Rn P fu COut)}{g:γ->COut}(hf:∀c t,AE (f c t) (g c)):AE (GW x zR f t) (GD x g):=by
 cases t with
 |nil=> exact AE.oc fun c=> hf c _
 |cons e t=>
  have h:=ha e;show AE (Qw x f e t (zR e)) _;cases hq:zR e with
  |none=> exact AE.oc fun c=> hf c _
  |some p=> rw [hq]at h;exact AE.tick fun z=> by rw [h z];exact hf _ _
def W3(h:Hp)(op:COp)(a b:AV)(e:Ent P fu):Option (Key×Key×Bool):=match e with
 |⟨.cmp zG a' b',c,_⟩=> FL (decide (op=zG)) (.cmp op a b,.cmp zG a' b',c)
 |⟨.Et h' zG a' b',c,_⟩=> FL (decide (op=zG)) (.Et h op a b,.Et h' zG a' b',c)
 |⟨.skip,_,_⟩=> (BZ h op a b).map fun c=> (.skip,.skip,c)
 |_=> none
theorem mV{h:Hp}{op:COp}{a b:AV}(e:Ent P fu):EC (BZ h op a b) (W3 h op a b e):=by
 obtain⟨k,c,ok⟩:=e;cases(k)with
 |cmp zG a' b'=> exact Hz fun(q:(Key.cmp op a b)= .cmp zG a' b')=> by cases(q);exact ok h
 |Et h' zG a' b'=> exact Hz fun(q:Key.Et h op a b= .Et h' zG a' b')=> by cases(q);exact ok
 |skip=>
  show EC (BZ h op a b) ((BZ h op a b).map fun c=> (.skip,.skip,c));cases BZ h op a b
  . trivial
  . exact fun _=> rfl
 |_=> trivial
def Qx(h:Hp)(op:COp)(a b:AV)(t:Tr P fu)(f:Bool->Tr P fu->Option (Rn P fu (Out β))):Option (Rn P fu (Out β)):=GW (BZ h op a b) (W3 h op a b) f t
theorem AE.cmp{h:Hp}{op:COp}{a b:AV}{t:Tr P fu}{f:Bool->Tr P fu->Option (Rn P fu (Out β))}{g:Bool->Out β}(hf:∀c t,AE (f c t) (g c)):AE (Qx h op a b t f) (AR (BZ h op a b) g):=AE.pl mV hf
def tA(h:Hp)(v:AV)(e:Ent P fu):Option (Key×Key×Bool):=match e with
 |⟨.Cf h' v',b,_⟩=> FL (FU v).isSome (.Cf h v,.Cf h' v',b)
 |_=> none
theorem mW{h:Hp}{v:AV}(e:Ent P fu):EC (truthy h v) (tA h v e):=by
 obtain⟨k,c,ok⟩:=e;cases(k)with
 |Cf h' v'=> exact Hz fun(q:Key.Cf h v= .Cf h' v')=> by cases(q);exact ok
 |_=> trivial
def LW(h:Hp)(v:AV)(t:Tr P fu)(f:Bool->Tr P fu->Option (Rn P fu (Out β))):Option (Rn P fu (Out β)):=GW (truthy h v) (tA h v) f t
theorem AE.t{h:Hp}{v:AV}{t:Tr P fu}{f:Bool->Tr P fu->Option (Rn P fu (Out β))}{g:Bool->Out β}(hf:∀c t,AE (f c t) (g c)):AE (LW h v t f) (AR (truthy h v) g):=AE.pl mW hf
def W4(h:Hp)(o:AV)(m:N)(e:Ent P fu):Option (Key×Key×(Option Nat)):=match e with
 |⟨.met h' o' m',k,_⟩=> FL (ua m m') (.met h o m,.met h' o' m',k)
 |_=> none
theorem mY{h:Hp}{o:AV}{m:N}(e:Ent P fu):EC (GG P h o m) (W4 h o m e):=by
 obtain⟨k,c,ok⟩:=e;cases(k)with
 |met h' o' m'=> exact Hz fun(q:Key.met h o m= .met h' o' m')=> by cases(q);exact ok
 |_=> trivial
def Qy(h:Hp)(o:AV)(m:N)(t:Tr P fu)(f:(Option Nat)->Tr P fu->Option (Rn P fu (Out β))):Option (Rn P fu (Out β)):=GW (GG P h o m) (W4 h o m) f t
theorem AE.met{h:Hp}{o:AV}{m:N}{t:Tr P fu}{f:(Option Nat)->Tr P fu->Option (Rn P fu (Out β))}{g:(Option Nat)->Out β}(hf:∀c t,AE (f c t) (g c)):AE (Qy h o m t f) (AR (GG P h o m) g):=AE.pl mY hf
def W5(h:Hp)(o i:AV)(e:Ent P fu):Option (Key×Key×AV):=match e with
 |⟨.get o' i',c,_⟩=> some (.get o i,.get o' i',c)
 |⟨.Ct h' o' i',c,_⟩=> FL (FU o).isSome (.Ct h o i,.Ct h' o' i',c)
 |_=> none
theorem mZ{h:Hp}{o i:AV}(e:Ent P fu):EC (CP h o i) (W5 h o i e):=by
 obtain⟨k,c,ok⟩:=e;cases(k)with
 |get o' i'=> exact fun(q:Key.get o i= .get o' i')=> by cases(q);exact ok h
 |Ct h' o' i'=> exact Hz fun(q:Key.Ct h o i= .Ct h' o' i')=> by cases(q);exact ok
 |_=> trivial
def Qz(h:Hp)(o i:AV)(t:Tr P fu)(f:AV->Tr P fu->Option (Rn P fu (Out β))):Option (Rn P fu (Out β)):=GW (CP h o i) (W5 h o i) f t
theorem AE.get{h:Hp}{o i:AV}{t:Tr P fu}{f:AV->Tr P fu->Option (Rn P fu (Out β))}{g:AV->Out β}(hf:∀c t,AE (f c t) (g c)):AE (Qz h o i t f) (AR (CP h o i) g):=AE.pl mZ hf
def W6(h:Hp)(op:BOp)(a b:AV)(e:Ent P fu):Option (Key×Key×(AV×Hp)):=match e with
 |⟨.aug h' zG a' b',v,_⟩=> some (.aug h op a b,.aug h' zG a' b',v)
 |_=> none
theorem ma{h:Hp}{op:BOp}{a b:AV}(e:Ent P fu):EC (Du h op a b) (W6 h op a b e):=by
 obtain⟨k,c,ok⟩:=e;cases(k)with
 |aug h' zG a' b'=> exact fun(q:Key.aug h op a b= .aug h' zG a' b')=> by cases(q);exact ok
 |_=> trivial
def W7(h:Hp)(op:BOp)(a b:AV)(t:Tr P fu)(f:(AV×Hp)->Tr P fu->Option (Rn P fu (Out β))):Option (Rn P fu (Out β)):=GW (Du h op a b) (W6 h op a b) f t
theorem AE.aug{h:Hp}{op:BOp}{a b:AV}{t:Tr P fu}{f:(AV×Hp)->Tr P fu->Option (Rn P fu (Out β))}{g:(AV×Hp)->Out β}(hf:∀c t,AE (f c t) (g c)):AE (W7 h op a b t f) (AR (Du h op a b) g):=AE.pl ma hf
def W8(h:Hp)(o l u:AV)(e:Ent P fu):Option (Key×Key×AV):=match e with
 |⟨.Bu o' l' u',c,_⟩=> some (.Bu o l u,.Bu o' l' u',c)
 |_=> none
theorem mh{h:Hp}{o l u:AV}(e:Ent P fu):EC (GA h o l u) (W8 h o l u e):=by
 obtain⟨k,c,ok⟩:=e;cases(k)with
 |Bu o' l' u'=> exact fun(q:Key.Bu o l u= .Bu o' l' u')=> by cases(q);exact ok h
 |_=> trivial
def W9(h:Hp)(o l u:AV)(t:Tr P fu)(f:AV->Tr P fu->Option (Rn P fu (Out β))):Option (Rn P fu (Out β)):=GW (GA h o l u) (W8 h o l u) f t
theorem AE.Bu{h:Hp}{o l u:AV}{t:Tr P fu}{f:AV->Tr P fu->Option (Rn P fu (Out β))}{g:AV->Out β}(hf:∀c t,AE (f c t) (g c)):AE (W9 h o l u t f) (AR (GA h o l u) g):=AE.pl mh hf
def XB(h:Hp)(op:BOp)(a b:AV)(e:Ent P fu):Option (Key×Key×AV):=match e with
 |⟨.bin zG a' b',c,_⟩=> FL ((E7 a).isNone&&decide (op=zG)) (.bin op a b,.bin zG a' b',c)
 |⟨.EV h' zG a' b',c,_⟩=> FL ((E7 a).isNone&&decide (op=zG)) (.EV h op a b,.EV h' zG a' b',c)
 |_=> none
theorem mi{h:Hp}{op:BOp}{a b:AV}(e:Ent P fu):EC (binOp h op a b) (XB h op a b e):=by
 obtain⟨k,c,ok⟩:=e;cases(k)with
 |bin zG a' b'=> exact Hz fun(q:Key.bin op a b= .bin zG a' b')=> by cases(q);exact ok h
 |EV h' zG a' b'=> exact Hz fun(q:Key.EV h op a b= .EV h' zG a' b')=> by cases(q);exact ok
 |_=> trivial
def XC(h:Hp)(op:BOp)(a b:AV)(t:Tr P fu)(f:AV->Tr P fu->Option (Rn P fu (Out β))):Option (Rn P fu (Out β)):=GW (binOp h op a b) (XB h op a b) f t
theorem AE.bin{h:Hp}{op:BOp}{a b:AV}{t:Tr P fu}{f:AV->Tr P fu->Option (Rn P fu (Out β))}{g:AV->Out β}(hf:∀c t,AE (f c t) (g c)):AE (XC h op a b t f) (AR (binOp h op a b) g):=AE.pl mi hf
def XD(h:Hp)(o:AV)(m:N)(as:List AV)(e:Ent P fu):Option (Key×Key×(AV×Hp)):=match e with
 |⟨.BA h' o' m' zE,v,_⟩=> FL (ua m m') (.BA h o m as,.BA h' o' m' zE,v)
 |_=> none
theorem mj{h:Hp}{o:AV}{m:N}{as:List AV}(e:Ent P fu):EC (Bv h o m as) (XD h o m as e):=by
 obtain⟨k,c,ok⟩:=e;cases(k)with
 |BA h' o' m' zE=> exact Hz fun(q:Key.BA h o m as= .BA h' o' m' zE)=> by cases(q);exact ok
 |_=> trivial
def XE(h:Hp)(o:AV)(m:N)(as:List AV)(t:Tr P fu):Option (Rn P fu COut):=GW (Bv h o m as) (XD h o m as) (fun p t=> rX (.ok p.1 p.2) t) t
theorem AE.BA{h:Hp}{o:AV}{m:N}{as:List AV}{t:Tr P fu}:AE (XE h o m as t) (GD (Bv h o m as) fun p=>.ok p.1 p.2):=AE.HG mj fun p t=> AE.r _ _
end
section
section
variable{P:Prog}{fu:Nat}
abbrev CX(P:Prog)(fu:Nat):=Nat->List AV->List (N×AV)->Hp->Tr P fu->Option (Rn P fu COut)
def Eu(b:Bool){α:Type}(x y:Option (Rn P fu α)):Option (Rn P fu α):=match b with
 |true=> x
 |false=> y
theorem AE.p{c:Bool}{α:Type}{x y:Option (Rn P fu α)}{a b:α}(h1:AE x a)(h2:AE y b):AE (Eu c x y) (if c=true then a else b):=by
 cases c
 . exact h2
 . exact h1
def newX(cx:CX P fu)(cl:Cl)(c:Nat)(as:List AV)(ks:List (N×AV))(h:Hp)(t:Tr P fu):Option (Rn P fu COut):=match cl.exc,cl.init with
 |true,_=> none
 |false,.BY _ _=> oX (JM P cl (.ref h.n) as ks) fun r=> rX (.ok (.obj c r) h) t
 |false,.run i=> mX (endRun h.nI) (cx i (.ref h.nI::as) ks (h.JI (.ins c [])) t)
def Nh(cx:CX P fu)(f:AV)(as:List AV)(ks:List (N×AV))(h:Hp)(t:Tr P fu):Option (Rn P fu COut):=match f with
 | .fn a=> cx a as ks h t
 | .cls c=> oX (P.cls c) fun cl=> newX cx cl c as ks h t
 |_=> none
def Q0(cx:CX P fu)(k:Option Nat)(o:AV)(m:N)(as:List AV)(h:Hp)(t:Tr P fu):Option (Rn P fu COut):=match k with
 |some f=> cx f (o::as) [] h t
 |none=> XE h o m as t
def HH(m:Option (Rn P fu (Out AV))):Option (Rn P fu (Out Bool)):=bX m fun v s t=> LW s.hp v t fun b t=> rX (.ok b s) t
variable(cx:CX P fu)
mutual
noncomputable def xE:CE->St->Tr P fu->Option (Rn P fu (Out AV))
 | .cst v,s,t=> rX (.ok v s) t
 | .var x,s,t=> oX (look x s.loc) fun v=> rX (.ok v s) t
 | .AF e a,s,t=> bX (xE e s t) fun o s t=> oX (GB P s.hp o a) fun v=> rX (.ok v s) t
 | .app f as,s,t=> bX (xE f s t) fun fv s t=> bX (ED as s t) fun vs s t=> cX (Nh cx fv vs [] s.hp t) s.loc fun v s t=> rX (.ok v s) t
 | .F7 f as n k,s,t=> bX (xE f s t) fun fv s t=> bX (ED as s t) fun vs s t=> bX (xE k s t) fun kv s t=> cX (Nh cx fv vs [(n,kv)] s.hp t) s.loc fun v s t=> rX (.ok v s) t
 | .AH e a as,s,t=> bX (xE e s t) fun o s t=> Qy s.hp o a t fun k t=> bX (ED as s t) fun vs s t=> cX (Q0 cx k o a vs s.hp t) s.loc fun v s t=> rX (.ok v s) t
 | .F8 e a as n x,s,t=> bX (xE e s t) fun o s t=> oX (MG P s.hp o a) fun k=> bX (ED as s t) fun vs s t=> bX (xE x s t) fun kv s t=> cX (cx k (o::vs) [(n,kv)] s.hp t) s.loc fun v s t=> rX (.ok v s) t
 | .sup f c as,s,t=> oX (Ou c s) fun o=> bX (ED as s t) fun vs s t=> cX (cx f (o::vs) [] s.hp t) s.loc fun v s t=> rX (.ok v s) t
 | .bi b as,s,t=> bX (ED as s t) fun vs s t=> oX (GC s.hp b vs) fun v=> rX (.ok v s) t
 | .Cb e c,s,t=> bX (xE e s t) fun v s t=> oX (KZ P v c) fun b=> rX (.ok (.bool b) s) t
 | .isStr e,s,t=> bX (xE e s t) fun v s t=> oX (Bl v) fun _=> rX (.ok (.bool true) s) t
 | .bin op l r,s,t=> bX (xE l s t) fun a s t=> bX (xE r s t) fun b s t=> XC s.hp op a b t fun v t=> rX (.ok v s) t
 | .fmt l r,s,t=> bX (xE l s t) fun a s t=> bX (xE r s t) fun b s t=> oX (Ot a b) fun v=> rX (.ok v s) t
 | .neg e,s,t=> bX (xE e s t) fun v s t=> oX (Bb v) fun i=> rX (.ok (.int (-i)) s) t
 | .nt e,s,t=> bX (xE e s t) fun v s t=> LW s.hp v t fun b t=> rX (.ok (.bool (!b)) s) t
 | .Aw es,s,t=> Q1 es s t
 | .Bk es,s,t=> Q2 es s t
 | .cmp l rs,s,t=> bX (xE l s t) fun a s t=> bX (Ni a rs s t) fun b s t=> rX (.ok (.bool b) s) t
 | .ite c b o,s,t=> bX (xT c s t) fun v s t=> Eu v (xE b s t) (xE o s t)
 | .tup es,s,t=> bX (ED es s t) fun vs s t=> rX (.ok (.tup vs) s) t
 | .lst yr es,s,t=> bX (ED es s t) fun vs s t=> Eu yr (rX (.ok (.ref s.hp.n) ⟨s.loc,s.hp.add (.lst vs)⟩) t) (rX (.ok (.Ae vs) s) t)
 | .A4 ks,s,t=> bX (Q3 ks ⟨s.loc,s.hp.add (.A4 [])⟩ t) fun es s' t=> oX (KX s'.hp s.hp.n es) fun h=> rX (.ok (.ref s.hp.n) ⟨s'.loc,h⟩) t
 | .sub e i,s,t=> bX (xE e s t) fun o s t=> bX (xE i s t) fun k s t=> Qz s.hp o k t fun v t=> rX (.ok v s) t
 | .Bu yr e lo hi,s,t=> bX (xE e s t) fun o s t=> bX (xO lo s t) fun l s t=> bX (xO hi s t) fun u s t=> W9 s.hp o l u t fun v t=> rX (freshen yr v s) t
 | .Al,_,_=> none
noncomputable def ED:List CE->St->Tr P fu->Option (Rn P fu (Out (List AV)))
 | [],s,t=> rX (.ok [] s) t
 |e::r,s,t=> bX (xE e s t) fun v s t=> bX (ED r s t) fun vs s t=> rX (.ok (v::vs) s) t
noncomputable def Q3:List (AV×CE)->St->Tr P fu->Option (Rn P fu (Out (List (AV×AV))))
 | [],s,t=> rX (.ok [] s) t
 |(n,e)::r,s,t=> bX (xE e s t) fun v s t=> bX (Q3 r s t) fun vs s t=> rX (.ok ((n,v)::vs) s) t
noncomputable def xO:Option CE->St->Tr P fu->Option (Rn P fu (Out AV))
 |none,s,t=> rX (.ok .none s) t
 |some e,s,t=> xE e s t
noncomputable def Q1:List CE->St->Tr P fu->Option (Rn P fu (Out AV))
 | [],_,_=> none
 | [e],s,t=> xE e s t
 |e::e'::r,s,t=> bX (xE e s t) fun v s t=> LW s.hp v t fun b t=> Eu b (Q1 (e'::r) s t) (rX (.ok v s) t)
noncomputable def Q2:List CE->St->Tr P fu->Option (Rn P fu (Out AV))
 | [],_,_=> none
 | [e],s,t=> xE e s t
 |e::e'::r,s,t=> bX (xE e s t) fun v s t=> LW s.hp v t fun b t=> Eu b (rX (.ok v s) t) (Q2 (e'::r) s t)
noncomputable def Ni(a:AV):List (COp×CE)->St->Tr P fu->Option (Rn P fu (Out Bool))
 | [],_,_=> none
 | [(op,e)],s,t=> bX (xE e s t) fun b s t=> Qx s.hp op a b t fun c t=> rX (.ok c s) t
 |(op,e)::x::r,s,t=> bX (xE e s t) fun b s t=> Qx s.hp op a b t fun c t=> Eu c (Ni b (x::r) s t) (rX (.ok false s) t)
noncomputable def xT:CE->St->Tr P fu->Option (Rn P fu (Out Bool))
 | .nt e,s,t=> bX (xT e s t) fun b s t=> rX (.ok (!b) s) t
 | .Aw es,s,t=> Q4 es s t
 | .Bk es,s,t=> Q5 es s t
 | .ite c b o,s,t=> bX (xT c s t) fun v s t=> Eu v (xT b s t) (xT o s t)
 | .cmp l rs,s,t=> bX (xE l s t) fun a s t=> Ni a rs s t
 | .cst v,s,t=> HH (rX (.ok v s) t)
 | .var x,s,t=> HH (oX (look x s.loc) fun v=> rX (.ok v s) t)
 | .AF e a,s,t=> HH (bX (xE e s t) fun o s t=> oX (GB P s.hp o a) fun v=> rX (.ok v s) t)
 | .AH e a as,s,t=> HH (bX (xE e s t) fun o s t=> Qy s.hp o a t fun k t=> bX (ED as s t) fun vs s t=> cX (Q0 cx k o a vs s.hp t) s.loc fun v s t=> rX (.ok v s) t)
 | .app f as,s,t=> HH (bX (xE f s t) fun fv s t=> bX (ED as s t) fun vs s t=> cX (Nh cx fv vs [] s.hp t) s.loc fun v s t=> rX (.ok v s) t)
 | .Cb e c,s,t=> HH (bX (xE e s t) fun v s t=> oX (KZ P v c) fun b=> rX (.ok (.bool b) s) t)
 | .isStr e,s,t=> HH (bX (xE e s t) fun v s t=> oX (Bl v) fun _=> rX (.ok (.bool true) s) t)
 | .sub e i,s,t=> HH (bX (xE e s t) fun o s t=> bX (xE i s t) fun k s t=> Qz s.hp o k t fun v t=> rX (.ok v s) t)
 |_,_,_=> none
noncomputable def Q4:List CE->St->Tr P fu->Option (Rn P fu (Out Bool))
 | [],s,t=> rX (.ok true s) t
 |e::r,s,t=> bX (xT e s t) fun b s t=> Eu b (Q4 r s t) (rX (.ok false s) t)
noncomputable def Q5:List CE->St->Tr P fu->Option (Rn P fu (Out Bool))
 | [],s,t=> rX (.ok false s) t
 |e::r,s,t=> bX (xT e s t) fun b s t=> Eu b (rX (.ok true s) t) (Q5 r s t)
end
variable{cf:Nat->List AV->List (N×AV)->Hp->COut}{cx}
theorem ml(H:∀f as ks h t,AE (cx f as ks h t) (cf f as ks h))(cl:Cl)(c:Nat)(as:List AV)(ks:List (N×AV))(h:Hp)(t:Tr P fu):AE (newX cx cl c as ks h t) (ME P cf cl c as ks h):=by
 obtain⟨a,fs,m,x,i⟩:=cl;cases x with
 |true=> exact AE.none _
 |false=> cases i with
  |BY _ _=> exact AE.oc fun r=> AE.r _ _
  |run i=> exact AE.m _ (H _ _ _ _ _)
theorem Q6(H:∀f as ks h t,AE (cx f as ks h t) (cf f as ks h))(f:AV)(as:List AV)(ks:List (N×AV))(h:Hp)(t:Tr P fu):AE (Nh cx f as ks h t) (GF P cf f as ks h):=by
 cases f with
 |fn a=> exact H _ _ _ _ _
 |cls c=> exact AE.oc fun cl=> ml H _ _ _ _ _ _
 |_=> exact AE.none _
theorem XF(H:∀f as ks h t,AE (cx f as ks h t) (cf f as ks h))(k:Option Nat)(o:AV)(m:N)(as:List AV)(h:Hp)(t:Tr P fu):AE (Q0 cx k o m as h t) (Gq cf k o m as h):=by
 cases k with
 |some f=> exact H _ _ _ _ _
 |none=> exact AE.BA
theorem H0{m:Option (Rn P fu (Out AV))}{o:Out AV}(h:AE m o):AE (HH m) (Cf o):=h.b fun v s t=> AE.t fun b t=> AE.r _ _
section
variable(H:∀f as ks h t,AE (cx f as ks h t) (cf f as ks h))
include H
mutual
theorem sE:∀(e:CE) (s:St) (t:Tr P fu),AE (xE cx e s t) (Ai P cf e s)
 | .cst v=>@fun s t=> AE.r _ _
 | .var x=>@fun s t=> AE.o fun v=> AE.r _ _
 | .AF e a=>@fun s t=> (sE e s t).b fun o s t=> AE.o fun v=> AE.r _ _
 | .app f as=>@fun s t=> (sE f s t).b fun fv s t=> (EW as s t).b fun vs s t=> (Q6 H _ _ _ _ _).c fun v s t=> AE.r _ _
 | .F7 f as n k=>@fun s t=> (sE f s t).b fun fv s t=> (EW as s t).b fun vs s t=> (sE k s t).b fun kv s t=> (Q6 H _ _ _ _ _).c fun v s t=> AE.r _ _
 | .AH e a as=>@fun s t=> (sE e s t).b fun o s t=> AE.met fun k t=> (EW as s t).b fun vs s t=> (XF H _ _ _ _ _ _).c fun v s t=> AE.r _ _
 | .F8 e a as n x=>@fun s t=> (sE e s t).b fun o s t=> AE.o fun k=> (EW as s t).b fun vs s t=> (sE x s t).b fun kv s t=> (H _ _ _ _ _).c fun v s t=> AE.r _ _
 | .sup f c as=>@fun s t=> AE.o fun o=> (EW as s t).b fun vs s t=> (H _ _ _ _ _).c fun v s t=> AE.r _ _
 | .bi b as=>@fun s t=> (EW as s t).b fun vs s t=> AE.o fun v=> AE.r _ _
 | .Cb e c=>@fun s t=> (sE e s t).b fun v s t=> AE.o fun v=> AE.r _ _
 | .isStr e=>@fun s t=> (sE e s t).b fun v s t=> AE.o fun v=> AE.r _ _
 | .bin op l r=>@fun s t=> (sE l s t).b fun a s t=> (sE r s t).b fun b s t=> AE.bin fun v t=> AE.r _ _
 | .fmt l r=>@fun s t=> (sE l s t).b fun a s t=> (sE r s t).b fun b s t=> AE.o fun v=> AE.r _ _
 | .neg e=>@fun s t=> (sE e s t).b fun v s t=> AE.o fun i=> AE.r _ _
 | .nt e=>@fun s t=> (sE e s t).b fun v s t=> AE.t fun i t=> AE.r _ _
 | .Aw es=>@fun s t=> XG es s t
 | .Bk es=>@fun s t=> XI es s t
 | .cmp l rs=>@fun s t=> (sE l s t).b fun a s t=> (Q7 a rs s t).b fun b s t=> AE.r _ _
 | .ite c b o=>@fun s t=> (sT c s t).b fun v s t=> AE.p (sE b s t) (sE o s t)
 | .tup es=>@fun s t=> (EW es s t).b fun v s t=> AE.r _ _
 | .lst yr es=>@fun s t=> (EW es s t).b fun v s t=> AE.p (AE.r _ _) (AE.r _ _)
 | .A4 ks=>@fun s t=> (XJ ks _ t).b fun v s t=> AE.o fun h=> AE.r _ _
 | .sub e i=>@fun s t=> (sE e s t).b fun o s t=> (sE i s t).b fun k s t=> AE.get fun v t=> AE.r _ _
 | .Bu yr e lo hi=>@fun s t=> (sE e s t).b fun o s t=> (sO lo s t).b fun l s t=> (sO hi s t).b fun u s t=> AE.Bu fun v t=> AE.r _ _
 | .Al=>@fun _ _=> AE.none _
theorem EW:∀(e:List CE) (s:St) (t:Tr P fu),AE (ED cx e s t) (Cg P cf e s)
 | []=>@fun s t=> AE.r _ _
 |e::r=>@fun s t=> (sE e s t).b fun v s t=> (EW r s t).b fun vs s t=> AE.r _ _
theorem XJ:∀(e:List (AV×CE)) (s:St) (t:Tr P fu),AE (Q3 cx e s t) (MJ P cf e s)
 | []=>@fun s t=> AE.r _ _
 |(n,e)::r=>@fun s t=> (sE e s t).b fun v s t=> (XJ r s t).b fun vs s t=> AE.r _ _
theorem sO:∀(e:Option CE) (s:St) (t:Tr P fu),AE (xO cx e s t) (ML P cf e s)
 |none=>@fun s t=> AE.r _ _
 |some e=>@fun s t=> sE e s t
theorem XG:∀(e:List CE) (s:St) (t:Tr P fu),AE (Q1 cx e s t) (MH P cf e s)
 | []=>@fun s t=> AE.none _
 | [e]=>@fun s t=> sE e s t
 |e::e'::r=>@fun s t=> (sE e s t).b fun v s t=> AE.t fun b t=> AE.p (XG (e'::r) s t) (AE.r _ _)
theorem XI:∀(e:List CE) (s:St) (t:Tr P fu),AE (Q2 cx e s t) (MI P cf e s)
 | []=>@fun s t=> AE.none _
 | [e]=>@fun s t=> sE e s t
 |e::e'::r=>@fun s t=> (sE e s t).b fun v s t=> AE.t fun b t=> AE.p (AE.r _ _) (XI (e'::r) s t)
theorem Q7(a:AV):∀(e:List (COp×CE)) (s:St) (t:Tr P fu),AE (Ni cx a e s t) (Kb P cf a e s)
 | []=>@fun s t=> AE.none _
 | [(op,e)]=>@fun s t=> (sE e s t).b fun b s t=> AE.cmp fun c t=> AE.r _ _
 |(op,e)::x::r=>@fun s t=> (sE e s t).b fun b s t=> AE.cmp fun c t=> AE.p (Q7 b (x::r) s t) (AE.r _ _)
theorem sT:∀(e:CE) (s:St) (t:Tr P fu),AE (xT cx e s t) (A8 P cf e s)
 | .nt e=>@fun s t=> (sT e s t).b fun b s t=> AE.r _ _
 | .Aw es=>@fun s t=> XM es s t
 | .Bk es=>@fun s t=> XO es s t
 | .ite c b o=>@fun s t=> (sT c s t).b fun v s t=> AE.p (sT b s t) (sT o s t)
 | .cmp l rs=>@fun s t=> (sE l s t).b fun a s t=> Q7 a rs s t
 | .cst v=>@fun s t=> H0 (AE.r _ _)
 | .var x=>@fun s t=> H0 (AE.o fun v=> AE.r _ _)
 | .AF e a=>@fun s t=> H0 ((sE e s t).b fun o s t=> AE.o fun v=> AE.r _ _)
 | .AH e a as=>@fun s t=> H0 ((sE e s t).b fun o s t=> AE.met fun k t=> (EW as s t).b fun vs s t=> (XF H _ _ _ _ _ _).c fun v s t=> AE.r _ _)
 | .app f as=>@fun s t=> H0 ((sE f s t).b fun fv s t=> (EW as s t).b fun vs s t=> (Q6 H _ _ _ _ _).c fun v s t=> AE.r _ _)
 | .Cb e c=>@fun s t=> H0 ((sE e s t).b fun v s t=> AE.o fun v=> AE.r _ _)
 | .isStr e=>@fun s t=> H0 ((sE e s t).b fun v s t=> AE.o fun v=> AE.r _ _)
 | .sub e i=>@fun s t=> H0 ((sE e s t).b fun o s t=> (sE i s t).b fun k s t=> AE.get fun v t=> AE.r _ _)
 | .F7 _ _ _ _=>@fun _ _=> AE.none _
 | .F8 _ _ _ _ _=>@fun _ _=> AE.none _
 | .sup _ _ _=>@fun _ _=> AE.none _
 | .bi _ _=>@fun _ _=> AE.none _
 | .bin _ _ _=>@fun _ _=> AE.none _
 | .fmt _ _=>@fun _ _=> AE.none _
 | .neg _=>@fun _ _=> AE.none _
 | .tup _=>@fun _ _=> AE.none _
 | .lst _ _=>@fun _ _=> AE.none _
 | .A4 _=>@fun _ _=> AE.none _
 | .Bu _ _ _ _=>@fun _ _=> AE.none _
 | .Al=>@fun _ _=> AE.none _
theorem XM:∀(e:List CE) (s:St) (t:Tr P fu),AE (Q4 cx e s t) (MM P cf e s)
 | []=>@fun s t=> AE.r _ _
 |e::r=>@fun s t=> (sT e s t).b fun b s t=> AE.p (XM r s t) (AE.r _ _)
theorem XO:∀(e:List CE) (s:St) (t:Tr P fu),AE (Q5 cx e s t) (MN P cf e s)
 | []=>@fun s t=> AE.r _ _
 |e::r=>@fun s t=> (sT e s t).b fun b s t=> AE.p (AE.r _ _) (XO r s t)
end
end
end
end
section
section
variable{P:Prog}{fu:Nat}
def XQ(f:Flow)(s:St)(t:Tr P fu)(again:Option (Rn P fu (Out Flow))):Option (Rn P fu (Out Flow)):=match f with
 | .next=> again
 | .cont=> again
 | .brk=> rX (.ok .next s) t
 | .ret v=> rX (.ok (.ret v) s) t
def Q8(test:St->Tr P fu->Option (Rn P fu (Out Bool)))(body:St->Tr P fu->Option (Rn P fu (Out Flow))):Nat->St->Tr P fu->Option (Rn P fu (Out Flow))
 |0,_,_=> none
 |n+1,s,t=> bX (test s t) fun b s t=> Eu b (bX (body s t) fun f s t=> XQ f s t (Q8 test body n s t)) (rX (.ok .next s) t)
def Q9(asg:AV->St->Tr P fu->Option (Rn P fu (Out Unit)))(body:St->Tr P fu->Option (Rn P fu (Out Flow))):List AV->St->Tr P fu->Option (Rn P fu (Out Flow))
 | [],s,t=> rX (.ok .next s) t
 |v::r,s,t=> bX (asg v s t) fun _ s t=> bX (body s t) fun f s t=> XQ f s t (Q9 asg body r s t)
theorem RA{test:St->Tr P fu->Option (Rn P fu (Out Bool))}{body:St->Tr P fu->Option (Rn P fu (Out Flow))}{te:St->Out Bool}{bo:St->Out Flow}(h1:∀s t,AE (test s t) (te s))(h2:∀s t,AE (body s t) (bo s)):
 ∀n s t,AE (Q8 test body n s t) (B0 te bo n s)
 |0=>@fun _ _=> AE.none _
 |n+1=>@fun s t=> (h1 s t).b fun b s t=> AE.p ((h2 s t).b fun f s t=> by
   cases f with
   |next=> exact RA h1 h2 n s t
   |cont=> exact RA h1 h2 n s t
   |brk=> exact AE.r _ _
   |ret v=> exact AE.r _ _) (AE.r _ _)
theorem RB{asg:AV->St->Tr P fu->Option (Rn P fu (Out Unit))}{body:St->Tr P fu->Option (Rn P fu (Out Flow))}{te:AV->St->Out Unit}{bo:St->Out Flow}(h1:∀v s t,AE (asg v s t) (te v s))(h2:∀s t,AE (body s t) (bo s)):
 ∀l s t,AE (Q9 asg body l s t) (B1 te bo l s)
 | []=>@fun _ _=> AE.r _ _
 |v::r=>@fun s t=> (h1 v s t).b fun _ s t=> (h2 s t).b fun f s t=> by
   cases f with
   |next=> exact RB h1 h2 r s t
   |cont=> exact RB h1 h2 r s t
   |brk=> exact AE.r _ _
   |ret v=> exact AE.r _ _
variable(k:Nat)(cx:CX P fu)
def Nj(g:CT)(v:AV)(s:St)(t:Tr P fu):Option (Rn P fu (Out Unit)):=match g with
 | .name x=> rX (.ok () ⟨put x v s.loc,s.hp⟩) t
 | .AF e a=> bX (xE cx e s t) fun o s t=> oX (setAt P s.hp o a v) fun h=> rX (.ok () ⟨s.loc,h⟩) t
 | .sub e i=> bX (xE cx e s t) fun o s t=> bX (xE cx i s t) fun k s t=> oX (IK s.hp o k v) fun h=> rX (.ok () ⟨s.loc,h⟩) t
 | .tup xs=> oX (E7 v) fun vs=> oX (putAll xs vs s.loc) fun l=> rX (.ok () ⟨l,s.hp⟩) t
def XR(g:CT)(op:BOp)(e:CE)(s:St)(t:Tr P fu):Option (Rn P fu (Out Flow)):=match g with
 | .name x=> oX (look x s.loc) fun old=> bX (xE cx e s t) fun v s t=> W7 s.hp op old v t fun r t=> rX (.ok .next ⟨put x r.1 s.loc,r.2⟩) t
 | .AF o a=> bX (xE cx o s t) fun ov s t=> oX (GB P s.hp ov a) fun old=> bX (xE cx e s t) fun v s t=>
     oX (Du s.hp op old v) fun r=> oX (setAt P r.2 ov a r.1) fun h=> rX (.ok .next ⟨s.loc,h⟩) t
 | .sub o i=> bX (xE cx o s t) fun ov s t=> bX (xE cx i s t) fun k s t=> oX (CP s.hp ov k) fun old=> bX (xE cx e s t) fun v s t=>
     oX (Du s.hp op old v) fun r=> oX (IK r.2 ov k r.1) fun h=> rX (.ok .next ⟨s.loc,h⟩) t
 | .tup _=> none
def RC(src:CSrc)(s:St)(t:Tr P fu):Option (Rn P fu (Out (List AV))):=match src with
 | .it e=> bX (xE cx e s t) fun v s t=> oX (Ow v) fun xs=> rX (.ok xs s) t
 | .keys e=> bX (xE cx e s t) fun v s t=> oX (keysOf s.hp v) fun xs=> rX (.ok xs s) t
 | .E5 as=> bX (ED cx as s t) fun vs s t=> oX (HV vs) fun xs=> rX (.ok xs s) t
 | .enum e=> bX (xE cx e s t) fun v s t=> oX (Bl v) fun u=> rX (.ok (FW u) s) t
def CS.same:CS->CS->Bool
 | .BQ _ _,.BQ _ _=> true
 | .Cc _ _ _,.Cc _ _ _=> true
 |_,_=> false
def XS{δ:Type}(m:Option (Rn P fu δ))(t:Tr P fu):Option (Key×Key×δ)->Option (Rn P fu δ)
 |some p=> tick p.1 p.2.1 (rX p.2.2 t)
 |none=> m
def H3{δ:Type}(m:Option (Rn P fu δ))(zR:Ent P fu->Option (Key×Key×δ)):Tr P fu->Option (Rn P fu δ)
 | []=> m
 |e::t=> XS m t (zR e)
def mu(c:CS)(s:St)(e:Ent P fu):Option (Key×Key×Out Flow):=match e with
 |⟨.Ao c' s',(r,n),_⟩=> FL (uJ n k&&CS.same c c') (.Ao c s,.Ao c' s',r)
 |_=> none
def RD(c:CS)(s:St)(t:Tr P fu)(m:Option (Rn P fu (Out Flow))):Option (Rn P fu (Out Flow)):=H3 m (mu k c s) t
def RE(x:N)(r:Option (Rn P fu (Out Flow))):Option (Rn P fu (Out Flow)):=bX r fun f s t=> rX (.ok f ⟨s.loc |> ES x,s.hp⟩) t
def XT(m:Option (Rn P fu (Out Flow)))(c:Nat)(x:N)(h:St->Tr P fu->Option (Rn P fu (Out Flow))):Option (Rn P fu (Out Flow)):=match m with
 |none=> none
 |some ⟨.ok f s,t,ps⟩=> some ⟨.ok f s,t,ps⟩
 |some ⟨.exc e s,t,ps⟩=> Eu (HW P e c) (HF ps (RE x (h ⟨put x e s.loc,s.hp⟩ t))) none
 |some ⟨.bad,_,_⟩=> none
def XU(m:Option (Rn P fu (Out Flow))):Option (Rn P fu (Out Flow)):=match m with
 |some ⟨.ok f s,t,ps⟩=> some ⟨.ok f s,t,ps⟩
 |_=> none
mutual
noncomputable def xS:CS->St->Tr P fu->Option (Rn P fu (Out Flow))
 | .expr e,s,t=> bX (xE cx e s t) fun _ s t=> rX (.ok .next s) t
 | .asg g e,s,t=> bX (xE cx e s t) fun v s t=> bX (Nj cx g v s t) fun _ s t=> rX (.ok .next s) t
 | .aug g op e,s,t=> XR cx g op e s t
 | .ret none,s,t=> rX (.ok (.ret .none) s) t
 | .ret (some e),s,t=> bX (xE cx e s t) fun v s t=> rX (.ok (.ret v) s) t
 | .ifs c b o,s,t=> bX (xT cx c s t) fun v s t=> Eu v (Fq b s t) (Fq o s t)
 | .BQ c b,s,t=> RD k (.BQ c b) s t (Q8 (fun s t=> xT cx c s t) (fun s t=> Fq b s t) fu s t)
 | .Cc g src b,s,t=> RD k (.Cc g src b) s t (bX (RC cx src s t) fun xs s t=> Q9 (fun v s t=> Nj cx g v s t) (fun s t=> Fq b s t) xs s t)
 | .EM c as,s,t=> bX (ED cx as s t) fun vs s t=> oX (excOf P c (.ref s.hp.n) vs) fun r=> rX (.exc (.obj c r) s) t
 | .F9 b c x h,s,t=> XT (Fq b s t) c x (fun s t=> Fq h s t)
 | .IG b,s,t=> XU (Fq b s t)
 | .del e i,s,t=> bX (xE cx e s t) fun o s t=> bX (xE cx i s t) fun k s t=> oX (MC s.hp o k) fun h=> rX (.ok .next ⟨s.loc,h⟩) t
 | .Al,_,_=> none
 | .pass,s,t=> rX (.ok .next s) t
 | .brk,s,t=> rX (.ok .brk s) t
 | .cont,s,t=> rX (.ok .cont s) t
noncomputable def Fq:List CS->St->Tr P fu->Option (Rn P fu (Out Flow))
 | [],s,t=> rX (.ok .next s) t
 |c::r,s,t=> bX (xS c s t) fun f s t=> match f with
  | .next=> Fq r s t
  | .brk=> rX (.ok .brk s) t
  | .cont=> rX (.ok .cont s) t
  | .ret v=> rX (.ok (.ret v) s) t
end
section
variable{k}{cx}{d:Nat}
variable(H:∀f as ks h t,AE (cx f as ks h t) (AD P fu (d+k) f as ks h))
include H
theorem RF(g:CT)(v:AV)(s:St)(t:Tr P fu):AE (Nj cx g v s t) (DA P (AD P fu (d+k)) g v s):=by
 cases g with
 |name x=> exact AE.r _ _
 |AF e a=> exact(sE H e s t).b fun o s t=> AE.o fun h=> AE.r _ _
 |sub e i=> exact(sE H e s t).b fun o s t=> (sE H i s t).b fun k s t=> AE.o fun h=> AE.r _ _
 |tup xs=> exact AE.o fun vs=> AE.o fun l=> AE.r _ _
theorem mv(g:CT)(op:BOp)(e:CE)(s:St)(t:Tr P fu):AE (XR cx g op e s t) (Su P (AD P fu (d+k)) g op e s):=by
 cases g with
 |name x=> exact AE.o fun old=> (sE H e s t).b fun v s t=> AE.aug fun r t=> AE.r _ _
 |AF o a=> exact(sE H o s t).b fun ov s t=> AE.o fun old=> (sE H e s t).b fun v s t=> AE.o fun r=> AE.o fun h=> AE.r _ _
 |sub o i=> exact(sE H o s t).b fun ov s t=> (sE H i s t).b fun k s t=> AE.o fun old=> (sE H e s t).b fun v s t=> AE.o fun r=> AE.o fun h=> AE.r _ _
 |tup xs=> exact AE.none _
theorem XW(src:CSrc)(s:St)(t:Tr P fu):AE (RC cx src s t) (FX P (AD P fu (d+k)) src s):=by
 cases src with
 |it e=> exact(sE H e s t).b fun v s t=> AE.o fun xs=> AE.r _ _
 |keys e=> exact(sE H e s t).b fun v s t=> AE.o fun xs=> AE.r _ _
 |E5 e=> exact(EW H e s t).b fun v s t=> AE.o fun xs=> AE.r _ _
 |enum e=> exact(sE H e s t).b fun v s t=> AE.o fun xs=> AE.r _ _
omit H in
theorem AE.H3{δ:Type}{o:δ}{m:Option (Rn P fu δ)}{zR:Ent P fu->Option (Key×Key×δ)}(ha:∀e,EC (some o) (zR e))(hm:AE m o){t:Tr P fu}:AE (Internal.H3 m zR t) o:=by
 cases t with
 |nil=> exact hm
 |cons e t=>
  have h:=ha e;show AE (XS m t (zR e)) _;cases hq:zR e with
  |none=> exact hm
  |some p=> rw [hq]at h;exact AE.tick fun z=> by cases(h z);exact AE.r _ _
omit H in
theorem XX{α:Type}{n k:Nat}{g:Nat->α}{r:α}{b:Bool}(hb:(uJ n k&&b)=true)(ok:∀d,g (d+n)=r):g (d+k)=r:=by have hn:=uH (t6.mp hb).1;rw [<-ok (d+(k - n)),ui,wk hn]
omit H in
theorem XY{γ:Type}{x:Option γ}{b:Bool}{p:Key×Key×γ}(h:b=true->p.1=p.2.1->x=some p.2.2):EC x (FL b p):=by
 cases b
 . trivial
 . exact h rfl
omit H in
theorem XZ{c:CS}{s:St}{t:Tr P fu}{m:Option (Rn P fu (Out Flow))}(h:AE m (Az P fu (AD P fu (d+k)) c s)):AE (RD k c s t m) (Az P fu (AD P fu (d+k)) c s):=AE.H3 (fun e=> by
 obtain⟨k',c0,ok⟩:=e;cases(k')with
 |Ao c' s'=> exact XY fun hb (q:Key.Ao c s= .Ao c' s')=> by cases(q);exact congrArg some (XX (g:=fun j=> Az P fu (AD P fu j) c s) hb ok)
 |_=> trivial) h
omit H in
theorem mw{m:Option (Rn P fu (Out Flow))}{o:Out Flow}(hb:AE m o){c:Nat}{x:N}{h:St->Tr P fu->Option (Rn P fu (Out Flow))}{g:St->Out Flow}(hh:∀s t,AE (h s t) (g s)):
 AE (XT m c x h) (match(generalizing:=false) o with
  | .ok f s=>.ok f s
  | .exc e s=> if HW P e c=true then(g ⟨put x e s.loc,s.hp⟩).bind fun f s=>.ok f ⟨ES x s.loc,s.hp⟩else .bad
  | .bad=>.bad):=fun R e hR=> by
 cases m with
 |none=> exact cNS e
 |some Q=>
  obtain⟨r,t',ps⟩:=Q;cases r with
  |ok f s'=> cases e;rw [hb _ rfl hR]
  |bad=> exact cNS e
  |exc x' s'=>
   replace e:Eu (HW P x' c) (HF ps (RE x (h ⟨put x x' s'.loc,s'.hp⟩ t'))) none=some R:=e;cases hx:HW P x' c with
   |false=> rw [hx]at e;exact cNS e
   |true=> rw [hx]at e;obtain⟨R',h1,h2,h3,h4⟩:=Ng e hR;rw [hb _ rfl h4,<-h3];show(if HW P x' c=true then _ else _)=_;rw [if_pos hx];have h5:AE (RE x (h ⟨put x x' s'.loc,s'.hp⟩ t')) ((g ⟨put x x' s'.loc,s'.hp⟩).bind fun f s=>.ok f ⟨ES x s.loc,s.hp⟩):=(hh _ t').b fun f s t=> AE.r _ _;exact h5 R' h1 h2
omit H in
theorem mx{m:Option (Rn P fu (Out Flow))}{o:Out Flow}(hb:AE m o):AE (XU m) (match(generalizing:=false) o with | .ok f s=>.ok f s |_=>.bad):=fun R e hR=> by
 cases m with
 |none=> exact cNS e
 |some Q=>
  obtain⟨r,t',ps⟩:=Q;cases r with
  |ok f s'=> cases e;rw [hb _ rfl hR]
  |bad=> exact cNS e
  |exc x' s'=> exact cNS e
mutual
theorem sS:∀(c:CS) (s:St) (t:Tr P fu),AE (xS k cx c s t) (Az P fu (AD P fu (d+k)) c s)
 | .expr e=>@fun s t=> (sE H e s t).b fun _ s t=> AE.r _ _
 | .asg g e=>@fun s t=> (sE H e s t).b fun v s t=> (RF H g v s t).b fun _ s t=> AE.r _ _
 | .aug g op e=>@fun s t=> mv H g op e s t
 | .ret none=>@fun s t=> AE.r _ _
 | .ret (some e)=>@fun s t=> (sE H e s t).b fun v s t=> AE.r _ _
 | .ifs c b o=>@fun s t=> (sT H c s t).b fun v s t=> AE.p (GY b s t) (GY o s t)
 | .BQ c b=>@fun s t=> XZ (c:=.BQ c b) (RA (fun s t=> sT H c s t) (fun s t=> GY b s t) fu s t)
 | .Cc g src b=>@fun s t=> XZ (c:=.Cc g src b) ((XW H src s t).b fun xs s t=> RB (fun v s t=> RF H g v s t) (fun s t=> GY b s t) xs s t)
 | .EM c as=>@fun s t=> (EW H as s t).b fun vs s t=> AE.o fun r=> AE.r _ _
 | .F9 b c x h=>@fun s t=> mw (GY b s t) fun s t=> GY h s t
 | .IG b=>@fun s t=> mx (GY b s t)
 | .del e i=>@fun s t=> (sE H e s t).b fun o s t=> (sE H i s t).b fun k s t=> AE.o fun h=> AE.r _ _
 | .Al=>@fun _ _=> AE.none _
 | .pass=>@fun s t=> AE.r _ _
 | .brk=>@fun s t=> AE.r _ _
 | .cont=>@fun s t=> AE.r _ _
theorem GY:∀(c:List CS) (s:St) (t:Tr P fu),AE (Fq k cx c s t) (AN P fu (AD P fu (d+k)) c s)
 | []=>@fun s t=> AE.r _ _
 |c::r=>@fun s t=> (sS c s t).b fun f s t=> match f with
  | .next=> GY r s t
  | .brk=> AE.r _ _
  | .cont=> AE.r _ _
  | .ret v=> AE.r _ _
end
end
end
variable{P:Prog}{fu:Nat}
def RG(k:Nat)(cx:CX P fu)(f:Nat)(as:List AV)(ks:List (N×AV))(h:Hp)(t:Tr P fu):Option (Rn P fu COut):=
 oX (P.fns f) fun fn=> oX (FV fn as ks) fun loc=> mX Gr (Fq k cx fn.body ⟨loc,h⟩ t)
def RH(k:Nat)(f:Nat)(as:List AV)(ks:List (N×AV))(h:Hp)(e:Ent P fu):Option (Key×Key×COut):=match e with
 |⟨.call f' zE ks' h',(r,n),_⟩=> FL (uJ n k&&ua f f') (.call f as ks h,.call f' zE ks' h',r)
 |_=> none
def HI:Nat->CX P fu
 |0,f,as,ks,h,t=> H3 none (RH 0 f as ks h) t
 |k+1,f,as,ks,h,t=> H3 (RG k (HI k) f as ks h t) (RH (k+1) f as ks h) t
theorem Xa{d k:Nat}{cx:CX P fu}(H:∀f as ks h t,AE (cx f as ks h t) (AD P fu (d+k) f as ks h))(f:Nat)(as:List AV)(ks:List (N×AV))(h:Hp)(t:Tr P fu):AE (RG k cx f as ks h t) (AD P fu (d+(k+1)) f as ks h):=
 AE.oc fun fn=> AE.oc fun loc=> AE.m _ (GY H fn.body _ t)
theorem Xb{d k:Nat}{f:Nat}{as:List AV}{ks:List (N×AV)}{h:Hp}(e:Ent P fu):EC (some (AD P fu (d+k) f as ks h)) (RH k f as ks h e):=by
 obtain⟨k',c0,ok⟩:=e;cases(k')with
 |call f' zE ks' h'=> exact XY fun hb (q:Key.call f as ks h= .call f' zE ks' h')=> by cases(q);exact congrArg some (XX (g:=fun j=> AD P fu j f as ks h) hb ok)
 |_=> trivial
theorem H4(d:Nat):∀(k:Nat) (f:Nat) (as:List AV) (ks:List (N×AV)) (h:Hp) (t:Tr P fu),AE (HI k f as ks h t) (AD P fu (d+k) f as ks h)
 |0=>@fun f as ks h t=> AE.H3 Xb (AE.none _)
 |k+1=>@fun f as ks h t=> AE.H3 Xb (Xa (fun f as ks h t=> H4 d k f as ks h t) f as ks h t)
def dup(e:Ent P fu):Key×Key:=(e.key,e.key)
theorem cert{k:Nat}{f:Nat}{as:List AV}{ks:List (N×AV)}{h:Hp}{r:COut}(tr:Tr P fu)(e:RG k (HI k) f as ks h tr=some ⟨r,[],tr.map dup⟩:=by kernel_rfl!):∀d,AD P fu (d+(k+1)) f as ks h=r:=fun d=>
 Xa (fun f as ks h t=> H4 d k f as ks h t) f as ks h tr _ e fun p hp=> by obtain⟨q,_,rfl⟩:=uj.mp hp;rfl
theorem th{k:Nat}{c:CS}{s:St}{r:Out Flow}(tr:Tr P fu)(e:xS k (HI k) c s tr=some ⟨r,[],tr.map dup⟩:=by kernel_rfl!):∀d,Az P fu (AD P fu (d+k)) c s=r:=fun d=>
 sS (fun f as ks h t=> H4 d k f as ks h t) c s tr _ e fun p hp=> by obtain⟨q,_,rfl⟩:=uj.mp hp;rfl
theorem AZ{k:Nat}{c:List CS}{s:St}{r:Out Flow}(tr:Tr P fu)(e:Fq k (HI k) c s tr=some ⟨r,[],tr.map dup⟩:=by kernel_rfl!):∀d,AN P fu (AD P fu (d+k)) c s=r:=fun d=>
 GY (fun f as ks h t=> H4 d k f as ks h t) c s tr _ e fun p hp=> by obtain⟨q,_,rfl⟩:=uj.mp hp;rfl
theorem Cx{k:Nat}{c:CE}{s:St}{r:Out Bool}(tr:Tr P fu)(e:xT (HI k) c s tr=some ⟨r,[],tr.map dup⟩:=by kernel_rfl!):∀d,A8 P (AD P fu (d+k)) c s=r:=fun d=>
 sT (fun f as ks h t=> H4 d k f as ks h t) c s tr _ e fun p hp=> by obtain⟨q,_,rfl⟩:=uj.mp hp;rfl
end
end Internal
section
namespace Internal
abbrev N.name:N:=1851878757
abbrev N.stream:N:=126943972647277
abbrev N.RI:N:=2341702975124311297391685803468146
abbrev N.eof:N:=6647654
abbrev N.buffer:N:=108256368682354
abbrev N.Nk:N:=31647696006964594
abbrev N.RJ:N:=540147714924359050487154
abbrev N.RK:N:=540147714926489304523877
abbrev N.encoding:N:=7308888575346044519
abbrev N.index:N:=452823639416
abbrev N.line:N:=1818848869
abbrev N.column:N:=109330212154734
abbrev N.Xc:N:=1685024357
abbrev N.Xd:N:=483681661606044045305196
abbrev N.tokens:N:=128021892001395
abbrev N.Xe:N:=36034959069546880227118638446
abbrev N.indent:N:=115922851688052
abbrev N.Xf:N:=29676250032141427
abbrev N.Xg:N:=129498082983365943657840870465989207417
abbrev N.Xh:N:=641892406234741257400485027431320278878166284659
abbrev N.my:N:=36034959069541267224754546034
abbrev N.required:N:=8243119442065778020
abbrev N.mark:N:=1835102827
abbrev N.Fs:N:=545218989645281737405035
abbrev N.H5:N:=7308889606288667243
abbrev N.value:N:=508440638821
abbrev N.plain:N:=482854660462
abbrev N.RM:N:=495875353701
abbrev N.length:N:=119182899770472
abbrev N.ch:N:=25448
abbrev N.context:N:=27988542884247668
abbrev N.mz:N:=30773728345737535801669022315
abbrev N.problem:N:=31651020109800813
abbrev N.m4:N:=34800664641698002562615177835
abbrev N.note:N:=1852798053
namespace L4
def PP:Prog:=progOf Dv Aq Bm
structure Ky where
 tn:Nat
 req:Bool
 ptr:Nat
 line:Nat
 col:Nat
structure Sc where
 buf:List Nat
 ptr:Nat
 line:Nat
 col:Nat
 toks:List AV
 taken:Nat
 st:List Int
 allow:Bool
 key:Option Ky
def Nl:List Nat:=[60,117,110,105,99,111,100,101,32,115,116,114,105,110,103,62]
def Ac(buf:List Nat)(ptr line col:Nat):AV:=.obj 53 [(N.name,.str Nl),(N.index,.int ptr),(N.line,.int line),(N.column,.int col),(N.buffer,.str buf),(N.Nk,.int ptr)]
def Ky.v(b:List Nat)(k:Ky):AV:=.obj 530 [(N.my,.int k.tn),(N.required,.bool k.req),(N.index,.int k.ptr),(N.line,.int k.line),(N.column,.int k.col),(N.mark,Ac b k.ptr k.line k.col)]
def Xi(b:List Nat):Option Ky->List (AV×AV)
 |none=>[]
 |some k=>[(.int 0,k.v b)]
def Sc.m7(s:Sc):List (N×AV):=[(N.name,.str Nl),(N.stream,.none),(N.RI,.int 0),(N.eof,.bool true),(N.buffer,.str s.buf),(N.Nk,.int s.ptr),(N.RJ,.none),(N.RK,.none),
 (N.encoding,.none),(N.index,.int s.ptr),(N.line,.int s.line),(N.column,.int s.col),(N.Xc,.bool false),(N.Xd,.int 0),(N.tokens,.ref 3),(N.Xe,.int s.taken),(N.indent,.int (s.st.headD 0)),(N.Xf,.ref 5),(N.Xg,.bool s.allow),
 (N.Xh,.ref 7)]
def Sc.hp(s:Sc)(lo g:List AObj):Hp:=⟨lo,.ins 1048 s.m7::.lst s.toks::.lst (s.st.tail.reverse.map .int)::.A4 (Xi s.buf s.key)::g⟩
def Sc.mark(s:Sc):AV:=Ac s.buf s.ptr s.line s.col
abbrev fu:Nat:=5000
abbrev me:AV:=.ref 1
variable{s:Sc}{lo g:List AObj}
theorem RN{n p:Nat}(h:p<n):C2 n (p:Int)=some p:=by unfold C2;rw [if_pos (by exact u4 _),if_pos (by lia)];rfl
theorem D9{b:List Nat}{p c:Nat}(k:Int)(hk:k=(p:Int))(h:b[p]? =some c)(hp:Hp):CP hp (.str b) (.int k)=some (.str [c]):=by
 have hl:p<b.length:=by
  rcases vI p b.length with q |q
  . exact q
  . rw [vU q]at h;cases h
 subst hk;show(C2 b.length (p:Int)).bind (fun j=> b[j]?.map fun c=> AV.str [c])=_;rw [RN hl];show b[p]?.map _=_;rw [h];rfl
theorem m8{k c:Nat}(h:s.buf[s.ptr+k]? =some c):∀d,AD PP fu (d+1) DP [me,.int k] [] (s.hp lo g)= .ok (.str [c]) (s.hp lo g):=
 cert [.get (.str s.buf) (.int ((s.ptr:Int)+k)) (.str [c]) (D9 _ (by rfl) h)]
theorem EX{c:Nat}(h:s.buf[s.ptr]? =some c):∀d,AD PP fu (d+1) DP [me] [] (s.hp lo g)= .ok (.str [c]) (s.hp lo g):=
 cert [.get (.str s.buf) (.int ((s.ptr:Int)+0)) (.str [c]) (D9 _ (by exact Int.add_zero _) h)]
end L4
end Internal
end
namespace Internal
namespace L4
section
variable{s:Sc}{lo g:List AObj}
def CG:CS->CE
 | .BQ t _=> t
 |_=>.Al
def BM:CS->List CS
 | .BQ _ b=> b
 | .Cc _ _ b=> b
 |_=>[]
def B9:List CS->Nat->CS
 | [],_=>.pass
 |c::_,0=> c
 |_::r,n+1=> B9 r n
section
variable{te:St->Out Bool}{bo:St->Out Flow}{n:Nat}{a b c:St}
theorem HJ(h1:te a= .ok true b)(h2:bo b= .ok .next c):B0 te bo (n+1) a=B0 te bo n c:=by show(te a).bind _=_;rw [h1];show(bo b).bind _=_;rw [h2];rfl
theorem H6(h1:te a= .ok false b):B0 te bo (n+1) a= .ok .next b:=by show(te a).bind _=_;rw [h1];rfl
theorem m9(h1:te a= .ok true b)(h2:bo b= .ok .brk c):B0 te bo (n+1) a= .ok .next c:=by show(te a).bind _=_;rw [h1];show(bo b).bind _=_;rw [h2];rfl
theorem Xj{e:AV}(h1:te a= .ok true b)(h2:bo b= .exc e c):B0 te bo (n+1) a= .exc e c:=by show(te a).bind _=_;rw [h1];show(bo b).bind _=_;rw [h2];rfl
end
section
variable{k:Nat}{c:CS}{S:Nat->St}{m:Nat}
theorem Xk{te:St->Out Bool}{bo:St->Out Flow}{r:Out Flow}:∀(m i n:Nat),(∀j,i<=j->j<i+m->te (S j)= .ok true (S j)/\bo (S j)= .ok .next (S (j+1)))->(∀n,B0 te bo (n+2) (S (i+m))=r)->m+1<n->B0 te bo n (S i)=r
 |m,i,0,_,_,h=> absurd h (Nat.not_lt_zero _)
 |m,i,1,_,_,h=> absurd h (by lia)
 |0,i,n+2,_,h,_=> h n
 |m+1,i,n+1,hs,h,hm=> by have h0:=hs i (uW _) (by exact Zq);refine(HJ h0.1 h0.2).trans (Xk m (i+1) n (fun j h1 h2=> hs j (by exact AU h1) (by exact A7 h2)) (fun n=> ?_) (by exact A7 hm));rw [show i+1+m=i+(m+1) by exact uc (Bt) (Bt)];exact h n
theorem Xl{r:Out Flow}(hc:c= .BQ (CG c) (BM c))(ht:∀i,i<m->∀d,A8 PP (AD PP fu (d+k)) (CG c) (S i)= .ok true (S i))(hb:∀i,i<m->∀d,AN PP fu (AD PP fu (d+k)) (BM c) (S i)= .ok .next (S (i+1)))
 (he:∀d n,B0 (fun s=> A8 PP (AD PP fu (d+k)) (CG c) s) (fun s=> AN PP fu (AD PP fu (d+k)) (BM c) s) (n+2) (S m)=r) (hm:m+1<fu):∀d,Az PP fu (AD PP fu (d+k)) c (S 0)=r:=fun d=> by
 rw [hc];show B0 (fun s=> A8 PP (AD PP fu (d+k)) (CG c) s) (fun s=> AN PP fu (AD PP fu (d+k)) (BM c) s) fu (S 0)=_;exact Xk m 0 fu (fun j _ h=> ⟨ht j (by exact A7 h) d,hb j (by exact A7 h) d⟩) (fun n=> by rw [uv];exact he d n) hm
theorem RO(hc:c= .BQ (CG c) (BM c))(ht:∀i,i<m->∀d,A8 PP (AD PP fu (d+k)) (CG c) (S i)= .ok true (S i))(hb:∀i,i<m->∀d,AN PP fu (AD PP fu (d+k)) (BM c) (S i)= .ok .next (S (i+1)))
 (he:∀d,A8 PP (AD PP fu (d+k)) (CG c) (S m)= .ok false (S m)) (hm:m+1<fu):∀d,Az PP fu (AD PP fu (d+k)) c (S 0)= .ok .next (S m):=Xl hc ht hb (fun d n=> H6 (he d)) hm
end
section
variable(hp:Hp)
theorem in1{c:Nat}{l:List Nat}{b:Bool}(h:l.contains c=b):BZ hp .Be (.str [c]) (.str l)=some b:=congrArg some h
theorem RP{c:Nat}{l:List Nat}{b:Bool}(h:(!l.contains c)=b):BZ hp .De (.str [c]) (.str l)=some b:=congrArg some h
theorem RQ{x y:List Nat}{b:Bool}(h:(x==y)=b):BZ hp .eq (.str x) (.str y)=some b:=congrArg some h
theorem nA{x y:List Nat}{b:Bool}(h:(x !=y)=b):BZ hp .ne (.str x) (.str y)=some b:=congrArg some h
theorem LX{x y:Int}{b:Bool}(h:(x==y)=b):BZ hp .eq (.int x) (.int y)=some b:=congrArg some h
theorem RR{x y:Int}{b:Bool}(h:(x !=y)=b):BZ hp .ne (.int x) (.int y)=some b:=congrArg some h
theorem ltI{x y:Int}{b:Bool}(h:decide (x<y)=b):BZ hp .lt (.int x) (.int y)=some b:=congrArg some h
theorem LY{x y:Int}{b:Bool}(h:decide (x>y)=b):BZ hp .gt (.int x) (.int y)=some b:=congrArg some h
theorem Iu{x y:Nat}{b:Bool}(h:(x==y)=b):BZ hp .eq (.str [x]) (.str [y])=some b:=RQ _ (by rw [<-h];show([x]==[y])=_;simp)
theorem Nm{x y:Nat}{b:Bool}(h:(x !=y)=b):BZ hp .ne (.str [x]) (.str [y])=some b:=nA _ (by rw [<-h];show([x] !=[y])=_;simp [bne])
end
def EE(c:Nat):Bool:= !([10,133,8232,8233].contains c)&&(c !=13&&c !=65279)
def Xm(c:Nat):Bool:=[10,133,8232,8233].contains c
theorem Xn{c:Nat}(h:EE c=true):[10,133,8232,8233].contains c=false:=by have:=(t6.mp h).1;simpa using this
theorem Xo{c:Nat}(h:EE c=true):(c==13)=false:=by have:=(t6.mp (t6.mp h).2).1;simpa using this
theorem Xp{c:Nat}(h:EE c=true):(c !=65279)=true:=(t6.mp (t6.mp h).2).2
def Ab(b:List Nat)(p:Nat)(w:List Nat):Prop:=∀i c,w[i]? =some c->b[p+i]? =some c
theorem Ab.head{b:List Nat}{p c:Nat}{w:List Nat}(h:Ab b p (c::w)):b[p]? =some c:=h 0 c rfl
theorem Ab.tail{b:List Nat}{p c:Nat}{w:List Nat}(h:Ab b p (c::w)):Ab b (p+1) w:=fun i x e=> by have:=h (i+1) x e;rw [<-ui,yH]at this;exact this
theorem Ab.drop{b:List Nat}{p:Nat}:∀{u w:List Nat},Ab b p (u++w)->Ab b (p+u.length) w
 | [],w,h=> h
 |c::u,w,h=> by have:=Ab.drop (u:=u) (w:=w) h.tail;rw [ui,xm 1]at this;exact this
theorem Ab.left{b:List Nat}{p:Nat}{u w:List Nat}(h:Ab b p (u++w)):Ab b p u:=fun i c e=> h i c (by
 have:i<u.length:=by
  rcases vI i u.length with q |q
  . exact q
  . rw [vU q]at e;cases e
 rw [List.getElem?_append_left this];exact e)
def RT:CS:=B9 TZ 1
def Sc.on(s:Sc)(n:Nat):Sc:={s with ptr:=s.ptr+n,col:=s.col+n}
def J3(w:List Nat)(i:Nat):List (N×AV):=match i with
 |0=>[(N.self,me),(N.length,.int w.length)]
 |i+1=>[(N.self,me),(N.length,.int ((w.length:Int) - (i+1:Nat))),(N.ch,.str [w.getD i 0])]
theorem Sc.H7(s:Sc)(a b:Nat):(s.on a).on b=s.on (a+b):=by unfold Sc.on;simp only [ui]
theorem Ab.at{b:List Nat}{p:Nat}{w:List Nat}(h:Ab b p w){i:Nat}(hi:i<w.length):b[p+i]? =some (w.getD i 0):=h i _ (by rw [vT,u0 hi];rfl)
theorem Nn{w:List Nat}{f:Nat->Bool}(h:w.all f=true){i:Nat}(hi:i<w.length):f (w.getD i 0)=true:=by rw [vT,u0 hi];exact uM.mp h _ (wy hi)
def Ft(s:Sc)(lo g:List AObj)(w:List Nat)(i:Nat):St:=⟨J3 w i,(s.on i).hp lo g⟩
theorem nC{a b:Nat}(h:b<a):∃n:Nat,(a:Int) - (b:Nat)=(n+1:Nat):=by obtain⟨k,hk⟩:=Nat.exists_eq_add_of_lt h;exact⟨k,by rw [hk,ui,Int.natCast_add,Int.add_comm,xP]⟩
theorem Xq{w:List Nat}(hh:Ab s.buf s.ptr w)(hw:w.all EE=true)(hn:w.length+1<fu):∀d,Az PP fu (AD PP fu (d+0)) RT (Ft s lo g w 0)= .ok .next (Ft s lo g w w.length):=by
 refine RO rfl (fun i hi=> ?_) (fun i hi=> ?_) ?_ hn
 . cases i with
   |zero=> obtain⟨n,hn⟩:∃n,w.length=n+1:=⟨w.length - 1,by exact OZ⟩;unfold Ft J3;rw [hn];exact Cx []
   |succ i=> obtain⟨n,hn⟩:∃n:Nat,(w.length:Int) - (i+1:Nat)=(n+1:Nat):=nC hi;unfold Ft J3;dsimp only;rw [hn];exact Cx []
 . have h:=hh.at hi;have hc:=Nn hw hi;cases i with
   |zero=> exact AZ [.get (.str s.buf) (.int s.ptr) (.str [w.getD 0 0]) (D9 _ rfl h),.cmp .Be (.str [w.getD 0 0]) (.str [10,133,8232,8233]) false (fun _=> in1 _ (Xn hc)),.cmp .eq (.str [w.getD 0 0]) (.str [13]) false (fun _=> Iu _ (Xo hc)),.cmp .ne (.str [w.getD 0 0]) (.str [65279]) true (fun _=> Nm _ (Xp hc))]
   |succ i=> have e:((w.length:Int) - (i+1:Nat)) - 1=(w.length:Int) - (i+1+1:Nat):=Int.sub_sub ..;unfold Ft J3;dsimp only;rw [<-e,<-Sc.H7];generalize w.getD i 0=c';generalize w.getD (i+1) 0=c at h hc;generalize(w.length:Int) - (i+1:Nat)=n;exact AZ [.get (.str s.buf) (.int (s.ptr+(i+1):Nat)) (.str [c]) (D9 _ rfl h),.cmp .Be (.str [c]) (.str [10,133,8232,8233]) false (fun _=> in1 _ (Xn hc)),.cmp .eq (.str [c]) (.str [13]) false (fun _=> Iu _ (Xo hc)),.cmp .ne (.str [c]) (.str [65279]) true (fun _=> Nm _ (Xp hc))]
 . generalize hm:w.length=m;cases m with
   |zero=> unfold Ft J3;rw [hm];exact Cx []
   |succ i=> unfold Ft J3;dsimp only;rw [hm,show((i+1:Nat):Int) - (i+1:Nat)=0 from Int.sub_self _];exact Cx []
theorem Np{x y:Int}:∃b,∀h,BZ h .ge (.int x) (.int y)=some b:=⟨_,fun _=> rfl⟩
theorem Xr{w:List Nat}(hh:Ab s.buf s.ptr w)(hw:w.all EE=true)(hn:w.length+1<fu):∀d,AD PP fu (d+2) Er [me,.int w.length] [] (s.hp lo g)= .ok .none ((s.on w.length).hp lo g):=by
 obtain⟨b,hb⟩:=Np (x:=(s.ptr:Int)+(w.length:Int)+1) (y:=s.buf.length);cases b
 . exact cert [.cmp .ge (.int ((s.ptr:Int)+(w.length:Int)+1)) (.int s.buf.length) false hb,.Ao RT (Ft s lo g w 0) (.ok .next (Ft s lo g w w.length)) 0 (Xq hh hw hn)]
 . exact cert [.cmp .ge (.int ((s.ptr:Int)+(w.length:Int)+1)) (.int s.buf.length) true hb,.Ao RT (Ft s lo g w 0) (.ok .next (Ft s lo g w w.length)) 0 (Xq hh hw hn)]
theorem Nq{c:Nat}(h:s.buf[s.ptr]? =some c)(hc:EE c=true):∀d,AD PP fu (d+2) Er [me] [] (s.hp lo g)= .ok .none ((s.on 1).hp lo g):=by
 have h1:=Xr (s:=s) (lo:=lo) (g:=g) (w:=[c]) (fun i x e=> by
  cases i with
  |zero=> cases e;exact h
  |succ i=> cases e) (by rw [vH,hc];rfl) (by show 1+1<5000;decide)
 exact fun d=> (show AD PP fu (d+2) Er [me] [] (s.hp lo g)=AD PP fu (d+2) Er [me,.int 1] [] (s.hp lo g)from rfl).trans (h1 d)
def Sc.nl(s:Sc)(n:Nat):Sc:={s with ptr:=s.ptr+n,line:=s.line+1,col:=0}
theorem Xs{c:Nat}(h:s.buf[s.ptr]? =some c)(hc:Xm c=true):∀d,AD PP fu (d+2) Er [me] [] (s.hp lo g)= .ok .none ((s.nl 1).hp lo g):=by
 obtain⟨b,hb⟩:=Np (x:=(s.ptr:Int)+1+1) (y:=s.buf.length);cases b
 . exact cert [.cmp .ge (.int ((s.ptr:Int)+1+1)) (.int s.buf.length) false hb,.get (.str s.buf) (.int s.ptr) (.str [c]) (D9 _ rfl h),.cmp .Be (.str [c]) (.str [10,133,8232,8233]) true (fun _=> in1 _ hc)]
 . exact cert [.cmp .ge (.int ((s.ptr:Int)+1+1)) (.int s.buf.length) true hb,.get (.str s.buf) (.int s.ptr) (.str [c]) (D9 _ rfl h),.cmp .Be (.str [c]) (.str [10,133,8232,8233]) true (fun _=> in1 _ hc)]
theorem nD(h:s.buf[s.ptr]? =some 13)(h':s.buf[s.ptr+1]? =some 10):∀d,AD PP fu (d+2) Er [me,.int 2] [] (s.hp lo g)= .ok .none ((s.nl 2).hp lo g):=by
 obtain⟨b,hb⟩:=Np (x:=(s.ptr:Int)+2+1) (y:=s.buf.length);cases b
 . exact cert [.cmp .ge (.int ((s.ptr:Int)+2+1)) (.int s.buf.length) false hb,.get (.str s.buf) (.int s.ptr) (.str [13]) (D9 _ rfl h),.get (.str s.buf) (.int ((s.ptr:Int)+1)) (.str [10]) (D9 _ rfl h'),.get (.str s.buf) (.int ((s.ptr:Int)+1)) (.str [10]) (D9 _ rfl h')]
 . exact cert [.cmp .ge (.int ((s.ptr:Int)+2+1)) (.int s.buf.length) true hb,.get (.str s.buf) (.int s.ptr) (.str [13]) (D9 _ rfl h),.get (.str s.buf) (.int ((s.ptr:Int)+1)) (.str [10]) (D9 _ rfl h'),.get (.str s.buf) (.int ((s.ptr:Int)+1)) (.str [10]) (D9 _ rfl h')]
theorem RU(l n:Nat):Dr l (n:Int)=min n l:=by
 show(max 0 (min (if(n:Int)<0 then(n:Int)+l else n) l)).toNat=_;rw [if_neg (vv.mpr (u4 n))];rcases xi n l with h |h
 . rw [Int.min_eq_left (vA.mpr h),xU (u4 _),vq,wz h]
 . rw [Int.min_eq_right (vA.mpr h),xU (u4 _),vq,yN h]
theorem nE{b:List Nat}{p q:Nat}{x:Int}(hx:x=(q:Int))(hp:p<=b.length)(h:Hp):GA h (.str b) (.int p) (.int x)=some (.str ((b.drop p).take (q - p))):=by
 subst hx;show some (AV.str ((b.drop (Dr b.length p)).take (Dr b.length q - Dr b.length p)))=_;rw [RU,RU,wz hp];rcases xi q b.length with h |h
 . rw [wz h]
 . rw [yN h,wF (t7 wM),wF (t5 (t7 wM) (Nat.sub_le_sub_right h p))]
def Sc.pre(s:Sc)(n:Nat):List Nat:=(s.buf.drop s.ptr).take n
theorem Nr{n:Nat}(hp:s.ptr<=s.buf.length):∀d,AD PP fu (d+2) IW [me,.int n] [] (s.hp lo g)= .ok (.str (s.pre n)) (s.hp lo g):=by
 obtain⟨b,hb⟩:=Np (x:=(s.ptr:Int)+n) (y:=s.buf.length);have hs:=fun h=> nE (b:=s.buf) (p:=s.ptr) (q:=s.ptr+n) (x:=(s.ptr:Int)+n) rfl hp h;rw [Nat.add_sub_cancel_left]at hs;cases b
 . exact cert [.cmp .ge (.int ((s.ptr:Int)+n)) (.int s.buf.length) false hb,.Bu (.str s.buf) (.int s.ptr) (.int ((s.ptr:Int)+n)) (.str (s.pre n)) hs]
 . exact cert [.cmp .ge (.int ((s.ptr:Int)+n)) (.int s.buf.length) true hb,.Bu (.str s.buf) (.int s.ptr) (.int ((s.ptr:Int)+n)) (.str (s.pre n)) hs]
theorem Ab.take{b w:List Nat}{p:Nat}(h:Ab b p w):(b.drop p).take w.length=w:=by
 apply List.ext_getElem?;intro i;rw [List.getElem?_take];rcases vI i w.length with q |q
 . rw [if_pos q,List.getElem?_drop,u0 q];exact h i _ (u0 q)
 . rw [if_neg (by exact KP),vU q]
theorem Ab.le{b w:List Nat}{p:Nat}(h:Ab b p w)(hw:w≠[]):p+w.length<=b.length:=by
 have hl:0<w.length:=wJ.mpr hw;have:=h (w.length - 1) _ (u0 (by lia));rcases vI (p+(w.length - 1)) b.length with q |q
 . lia
 . rw [vU q]at this;cases this
theorem Xu{w:List Nat}(h:Ab s.buf s.ptr w)(hw:w≠[]):∀d,AD PP fu (d+2) IW [me,.int w.length] [] (s.hp lo g)= .ok (.str w) (s.hp lo g):=fun d=> by have h1:=Nr (s:=s) (lo:=lo) (g:=g) (n:=w.length) (by have:=h.le hw;exact AU this) d;rw [h1];unfold Sc.pre;rw [h.take]
end
end L4
end Internal
section
namespace Internal
abbrev N.found:N:=439956631140
namespace L4
variable{s:Sc}{lo g:List AObj}
def isLE(l:List Nat):Bool:=[[10],[13,10],[133],[8232]].contains l
def Iv(l:List Nat):List Nat:=if l==[8232]then [8232]else [10]
theorem RV{l:List Nat}(h:isLE l=true):l=[10]∨l=[13,10]∨l=[133]∨l=[8232]:=by unfold isLE at h;simpa using h
theorem nG{n c:Nat}(h:s.buf[s.ptr]? =some c):∃u,s.pre (n+1)=c::u:=by
 have hl:s.ptr<s.buf.length:=by
  rcases vI s.ptr s.buf.length with q |q
  . exact q
  . rw [vU q]at h;cases h
 rw [u0 hl]at h;cases h;exact⟨_,by unfold Sc.pre;rw [v9 hl];rfl⟩
theorem Xv{c k:Nat}(h:s.buf[s.ptr+k]? =some c):s.ptr<=s.buf.length:=by
 rcases vI (s.ptr+k) s.buf.length with q |q
 . exact AU q
 . rw [vU q]at h;cases h
theorem Nt{c:Nat}(h:s.buf[s.ptr]? =some c)(hc:[13,10,133,8232,8233].contains c=false):∀d,AD PP fu (d+4) GL [me] [] (s.hp lo g)= .ok (.str []) (s.hp lo g):=by
 have h1:[13,10,133].contains c=false:=by simp only [wK,x7]at hc⊢;exact⟨hc.1,hc.2.1,hc.2.2.1,rfl⟩
 have h2:[8232,8233].contains c=false:=by simp only [wK,x7]at hc⊢;exact hc.2.2.2
 exact cert [.call DP [me] [] (s.hp lo g) (.ok (.str [c]) (s.hp lo g)) 1 (EX h),.cmp .Be (.str [c]) (.str [13,10,133]) false (fun _=> in1 _ h1),.cmp .Be (.str [c]) (.str [8232,8233]) false (fun _=> in1 _ h2)]
theorem Nu{l:List Nat}(hl:isLE l=true)(h:Ab s.buf s.ptr l):∀d,AD PP fu (d+4) GL [me] [] (s.hp lo g)= .ok (.str (Iv l)) ((s.nl l.length).hp lo g):=by
 have one:∀c,(c==13)=false->Xm c=true->s.buf[s.ptr]? =some c->[13,10,133].contains c=true->∀d,AD PP fu (d+4) GL [me] [] (s.hp lo g)= .ok (.str [10]) ((s.nl 1).hp lo g):=fun c h13 hb h hc=> by
  obtain⟨u,hu⟩:=nG (n:=1) h;have hp:(s.pre 2==[13,10])=false:=by rw [hu];show(c==13&&_)=false;rw [h13];rfl
  exact cert [.call DP [me] [] (s.hp lo g) (.ok (.str [c]) (s.hp lo g)) 1 (EX h),.cmp .Be (.str [c]) (.str [13,10,133]) true (fun _=> in1 _ hc),
   .call IW [me,.int 2] [] (s.hp lo g) (.ok (.str (s.pre 2)) (s.hp lo g)) 2 (Nr (n:=2) (Xv (k:=0) h)),.cmp .eq (.str (s.pre 2)) (.str [13,10]) false (fun _=> RQ _ hp),
   .call Er [me] [] (s.hp lo g) (.ok .none ((s.nl 1).hp lo g)) 2 (Xs h hb)]
 rcases RV hl with rfl |rfl |rfl |rfl
 . exact one 10 rfl rfl h.head rfl
 . exact cert [.call DP [me] [] (s.hp lo g) (.ok (.str [13]) (s.hp lo g)) 1 (EX h.head),
    .call IW [me,.int 2] [] (s.hp lo g) (.ok (.str [13,10]) (s.hp lo g)) 2 (Xu h nofun),
    .call Er [me,.int 2] [] (s.hp lo g) (.ok .none ((s.nl 2).hp lo g)) 2 (nD h.head h.tail.head)]
 . exact one 133 rfl rfl h.head rfl
 . exact cert [.call DP [me] [] (s.hp lo g) (.ok (.str [8232]) (s.hp lo g)) 1 (EX h.head),
    .call Er [me] [] (s.hp lo g) (.ok .none ((s.nl 1).hp lo g)) 2 (Xs h.head rfl)]
def HK(c:Nat):Bool:=[0,13,10,133,8232,8233].contains c
def J4(c:Nat):Bool:=EE c&& !HK c
def H8:CS:=.BQ (.cmp (.AH (.var N.self) 1885693291 []) [(.eq,.cst (.str [32]))]) [.expr (.AH (.var N.self) 28832985044316772 [])]
def Iw:CS:=.BQ (.cmp (.AH (.var N.self) 1885693291 []) [(.De,.cst (.str [0,13,10,133,8232,8233]))]) [.expr (.AH (.var N.self) 28832985044316772 [])]
def Cn(s:Sc)(lo g:List AObj)(x:List (N×AV))(i:Nat):St:=⟨(N.self,me)::x,(s.on i).hp lo g⟩
theorem Ab.on{w:List Nat}(h:Ab s.buf s.ptr w){i:Nat}(hi:i<w.length):(s.on i).buf[(s.on i).ptr]? =some (w.getD i 0):=h.at hi
theorem J5{x:List (N×AV)}{n c:Nat}(h:Ab s.buf s.ptr (tv n 32++[c]))(hc:(c==32)=false)(hn:n+1<fu):∀d,Az PP fu (AD PP fu (d+2)) H8 (Cn s lo g x 0)= .ok .next (Cn s lo g x n):=by
 have zx:∀i,i<n->(s.on i).buf[(s.on i).ptr]? =some 32:=fun i hi=> by have:=h.left.on (i:=i) (by rw [ub];exact hi);rw [this,vT,List.getElem?_replicate,if_pos hi];rfl
 have hz:(s.on n).buf[(s.on n).ptr]? =some c:=by have:=h.drop.head;rw [ub]at this;exact this
 refine RO rfl (fun i hi=> ?_) (fun i hi=> ?_) ?_ hn
 . exact Cx [.call DP [me] [] ((s.on i).hp lo g) (.ok (.str [32]) ((s.on i).hp lo g)) 1 (EX (zx i hi))]
 . unfold Cn;rw [<-Sc.H7 s i 1];exact AZ [.call Er [me] [] ((s.on i).hp lo g) (.ok .none (((s.on i).on 1).hp lo g)) 2 (Nq (zx i hi) rfl)]
 . exact Cx [.call DP [me] [] ((s.on n).hp lo g) (.ok (.str [c]) ((s.on n).hp lo g)) 1 (EX hz),.cmp .eq (.str [c]) (.str [32]) false (fun _=> Iu _ hc)]
theorem RW{x:List (N×AV)}{w:List Nat}{c:Nat}(h:Ab s.buf s.ptr (w++[c]))(hw:w.all J4=true)(hc:HK c=true)(hn:w.length+1<fu):∀d,Az PP fu (AD PP fu (d+2)) Iw (Cn s lo g x 0)= .ok .next (Cn s lo g x w.length):=by
 have hz:(s.on w.length).buf[(s.on w.length).ptr]? =some c:=h.drop.head;refine RO rfl (fun i hi=> ?_) (fun i hi=> ?_) ?_ hn
 . have hr:=t6.mp (Nn hw hi);exact Cx [.call DP [me] [] ((s.on i).hp lo g) (.ok (.str [w.getD i 0]) ((s.on i).hp lo g)) 1 (EX (h.left.on hi)),.cmp .De (.str [w.getD i 0]) (.str [0,13,10,133,8232,8233]) true (fun _=> RP _ hr.2)]
 . have hr:=t6.mp (Nn hw hi);unfold Cn;rw [<-Sc.H7 s i 1];exact AZ [.call Er [me] [] ((s.on i).hp lo g) (.ok .none (((s.on i).on 1).hp lo g)) 2 (Nq (h.left.on hi) hr.1)]
 . exact Cx [.call DP [me] [] ((s.on w.length).hp lo g) (.ok (.str [c]) ((s.on w.length).hp lo g)) 1 (EX hz),.cmp .De (.str [c]) (.str [0,13,10,133,8232,8233]) false (fun _=> RP _ (by rw [show [0,13,10,133,8232,8233].contains c=true from hc];rfl))]
end L4
end Internal
end
namespace Internal
namespace L4
section
variable{s:Sc}{lo g:List AObj}
def Ew(w:List Nat):Bool:=match w with
 | []=> true
 |c::u=> c==35&&u.all J4
structure Gp where
 k:Nat
 w:List Nat
 l:List Nat
def Gp.ok(p:Gp):Bool:=Ew p.w&&isLE p.l&&uJ (p.k+p.w.length) 2000
def Gp.txt(p:Gp):List Nat:=tv p.k 32++(p.w++p.l)
def Gp.go(p:Gp)(s:Sc):Sc:={s.on (p.k+p.w.length)with ptr:=s.ptr+(p.k+p.w.length)+p.l.length,line:=s.line+1,col:=0,allow:=true}
def HL:CS:=B9 Td 2
def EY(s:Sc)(lo g:List AObj)(b:Bool):St:=⟨[(N.self,me),(N.found,.bool b)],s.hp lo g⟩
theorem Xw{l:List Nat}(h:isLE l=true):∃c u,l=c::u/\[13,10,133,8232,8233].contains c=true/\(c==32)=false/\(c==35)=false/\HK c=true:=by rcases RV h with rfl |rfl |rfl |rfl<;>exact⟨_,_,rfl,rfl,rfl,rfl,rfl⟩
theorem Xx{u:List Nat}(h:u.all J4=true):(35::u).all J4=true:=by rw [vH,h];rfl
theorem Ab.snoc{b:List Nat}{p:Nat}{u v:List Nat}{c:Nat}{t:List Nat}(h:Ab b p (u++v))(e:v=c::t):Ab b p (u++[c]):=by subst e;refine Ab.left (w:=t) ?_;rw [t8];exact h
theorem nH{p:Gp}(hp:p.ok=true)(h:Ab s.buf s.ptr p.txt):∀d,AN PP fu (AD PP fu (d+4)) (BM HL) (EY s lo g false)= .ok .next (EY (p.go s) lo g false):=by
 obtain⟨k,w,l⟩:=p;have hp:=t6.mp hp;have hp1:=t6.mp hp.1;have hk:k+w.length<=2000:=uH hp.2;have h:Ab s.buf s.ptr (tv k 32++(w++l)):=h;obtain⟨c,u,rfl,c1,c2,c3,c4⟩:=Xw hp1.2;have hk2:k+1<fu:=by show k+1<5000;exact A7 hk
 have h2:=h.drop;rw [ub]at h2;cases w with
 |nil=>
  have hz:(s.on k).buf[(s.on k).ptr]? =some c:=h2.head;have h3:Ab (s.on k).buf (s.on k).ptr (c::u):=h2;obtain⟨y,hy⟩:∃y,Iv (c::u)=10::y∨Iv (c::u)=8232::y:=by unfold Iv;cases(c::u==[8232])<;>exact⟨[],by simp⟩
  rcases hy with hy |hy
  all_goals
   have hb:=Nu (s:=s.on k) (lo:=lo) (g:=g) hp1.2 h3;rw [hy]at hb;exact AZ [.Ao H8 (Cn s lo g [(N.found,.bool false)] 0) (.ok .next (Cn s lo g [(N.found,.bool false)] k)) 2 (J5 (h.snoc rfl) c2 hk2),
    .call DP [me] [] ((s.on k).hp lo g) (.ok (.str [c]) ((s.on k).hp lo g)) 1 (EX hz),.cmp .eq (.str [c]) (.str [35]) false (fun _=> Iu _ c3),
    .call GL [me] [] ((s.on k).hp lo g) _ 4 hb]
 |cons x w=>
  have hx:=t6.mp (show(x==35&&w.all J4)=true from hp1.1);obtain rfl:x=35:=by simpa using hx.1
  have hz:(s.on k).buf[(s.on k).ptr]? =some 35:=h2.head;have hrm:Ab (s.on k).buf (s.on k).ptr ((35::w)++[c]):=h2.snoc rfl;have h4:Ab ((s.on k).on (35::w).length).buf ((s.on k).on (35::w).length).ptr (c::u):=h2.drop;have hl:(35::w).length+1<fu:=by have:(35::w).length=w.length+1:=rfl;show(35::w).length+1<5000;exact A7 hk
  have hb:=Nu (s:=(s.on k).on (35::w).length) (lo:=lo) (g:=g) hp1.2 h4;have hr:∀d,Az PP fu (AD PP fu (d+2)) Iw (Cn (s.on k) lo g [(N.found,.bool false)] 0)= .ok .next ⟨[(N.self,me),(N.found,.bool false)],((s.on k).on (35::w).length).hp lo g⟩:=RW hrm (Xx hx.2) c4 hl
  have ego:Gp.go ⟨k,35::w,c::u⟩ s={((s.on k).on (35::w).length).nl (c::u).length with allow:=true}:=by rw [Sc.H7];rfl
  rw [ego];generalize(s.on k).on (35::w).length=s2 at hb hr;obtain⟨y,hy⟩:∃y,Iv (c::u)=10::y∨Iv (c::u)=8232::y:=by unfold Iv;cases(c::u==[8232])<;>exact⟨[],by simp⟩
  rcases hy with hy |hy
  all_goals
   rw [hy]at hb;exact AZ [.Ao H8 (Cn s lo g [(N.found,.bool false)] 0) (.ok .next (Cn s lo g [(N.found,.bool false)] k)) 2 (J5 (h.snoc rfl) rfl hk2),
    .call DP [me] [] ((s.on k).hp lo g) (.ok (.str [35]) ((s.on k).hp lo g)) 1 (EX hz),.Ao Iw (Cn (s.on k) lo g [(N.found,.bool false)] 0) _ 2 hr,
    .call GL [me] [] (s2.hp lo g) _ 4 hb]
structure Gl where
 k:Nat
 w:List Nat
def Gl.ok(p:Gl)(c:Nat):Bool:=Ew p.w&&uJ (p.k+p.w.length) 2000&& !([13,10,133,8232,8233].contains c)&&c !=32&&(match p.w with
 | []=> c !=35
 |_::_=> c==0)
def Gl.txt(p:Gl):List Nat:=tv p.k 32++p.w
def Gl.go(p:Gl)(s:Sc):Sc:=s.on (p.k+p.w.length)
theorem nJ{p:Gl}{c:Nat}(hp:p.ok c=true)(h:Ab s.buf s.ptr (p.txt++[c])):∀d,AN PP fu (AD PP fu (d+4)) (BM HL) (EY s lo g false)= .ok .next (EY (p.go s) lo g true):=by
 obtain⟨k,w⟩:=p;have hp:=t6.mp hp;have hp1:=t6.mp hp.1;have hp2:=t6.mp hp1.1;have hp3:=t6.mp hp2.1;have hk:k+w.length<=2000:=uH hp3.2;have hb:[13,10,133,8232,8233].contains c=false:=by simpa using hp2.2
 have hc:(c==32)=false:=by simpa using hp1.2
 have h:Ab s.buf s.ptr ((tv k 32++w)++[c]):=h;rw [t8]at h;have hk2:k+1<fu:=by show k+1<5000;exact A7 hk
 have h2:=h.drop;rw [ub]at h2;cases w with
 |nil=>
  have hz:(s.on k).buf[(s.on k).ptr]? =some c:=h2.head;have h35:(c==35)=false:=by have:=hp.2;simpa using this
  exact AZ [.Ao H8 (Cn s lo g [(N.found,.bool false)] 0) (.ok .next (Cn s lo g [(N.found,.bool false)] k)) 2 (J5 h hc hk2),
   .call DP [me] [] ((s.on k).hp lo g) (.ok (.str [c]) ((s.on k).hp lo g)) 1 (EX hz),.cmp .eq (.str [c]) (.str [35]) false (fun _=> Iu _ h35),
   .call GL [me] [] ((s.on k).hp lo g) _ 4 (Nt hz hb)]
 |cons x w=>
  have hx:=t6.mp (show(x==35&&w.all J4)=true from hp3.1);obtain rfl:x=35:=by simpa using hx.1
  obtain rfl:c=0:=by have:=hp.2;simpa using this
  have hz:(s.on k).buf[(s.on k).ptr]? =some 35:=h2.head;have hrm:Ab (s.on k).buf (s.on k).ptr ((35::w)++[0]):=h2;have h4:((s.on k).on (35::w).length).buf[((s.on k).on (35::w).length).ptr]? =some 0:=(h2.drop (u:=35::w)).head;have hl:(35::w).length+1<fu:=by have:(35::w).length=w.length+1:=rfl;show(35::w).length+1<5000;exact A7 hk
  have hr:∀d,Az PP fu (AD PP fu (d+2)) Iw (Cn (s.on k) lo g [(N.found,.bool false)] 0)= .ok .next ⟨[(N.self,me),(N.found,.bool false)],((s.on k).on (35::w).length).hp lo g⟩:=RW hrm (Xx hx.2) rfl hl
  have hb:=Nt (lo:=lo) (g:=g) h4 rfl;have ego:Gl.go ⟨k,35::w⟩ s=(s.on k).on (35::w).length:=by rw [Sc.H7];rfl
  rw [ego];generalize(s.on k).on (35::w).length=s2 at hb hr;exact AZ [.Ao H8 (Cn s lo g [(N.found,.bool false)] 0) (.ok .next (Cn s lo g [(N.found,.bool false)] k)) 2 (J5 (h.snoc rfl) rfl hk2),
   .call DP [me] [] ((s.on k).hp lo g) (.ok (.str [35]) ((s.on k).hp lo g)) 1 (EX hz),.Ao Iw (Cn (s.on k) lo g [(N.found,.bool false)] 0) _ 2 hr,
   .call GL [me] [] (s2.hp lo g) _ 4 hb]
def A3(l:List Gp)(s:Sc):Sc:=l.foldl (fun s p=> p.go s) s
def BS:List Gp->List Nat
 | []=>[]
 |p::r=> p.txt++BS r
theorem Gp.Xy(p:Gp)(s:Sc):(p.go s).ptr=s.ptr+p.txt.length:=by show s.ptr+(p.k+p.w.length)+p.l.length=s.ptr+(tv p.k 32++(p.w++p.l)).length;rw [t9,ub,t9];exact uc (Bt) (Bt)
theorem Xz:∀d,A8 PP (AD PP fu (d+4)) (CG HL) (EY s lo g false)= .ok true (EY s lo g false):=Cx []
theorem nK:∀d,A8 PP (AD PP fu (d+4)) (CG HL) (EY s lo g true)= .ok false (EY s lo g true):=Cx []
theorem X0{p:Gl}{c:Nat}(hp:p.ok c=true):∀(l:List Gp) (s:Sc) (n:Nat),l.all Gp.ok=true->Ab s.buf s.ptr (BS l++(p.txt++[c]))->l.length+2<=n->
 ∀d,B0 (fun s=> A8 PP (AD PP fu (d+4)) (CG HL) s) (fun s=> AN PP fu (AD PP fu (d+4)) (BM HL) s) n (EY s lo g false)= .ok .next (EY (p.go (A3 l s)) lo g true)
 | []=>@fun s n _ h hn d=> by obtain⟨m,rfl⟩:∃m,n=m+2:=⟨n - 2,by have:([]:List Gp).length=0:=rfl;exact Sa⟩;exact(HJ (Xz d) (nJ (lo:=lo) (g:=g) hp h d)).trans (H6 (nK d))
 |q::l=>@fun s n hl h hn d=> by have hl:=t6.mp (show(q.ok&&l.all Gp.ok)=true from hl);have hn:l.length+1+2<=n:=hn;obtain⟨m,rfl⟩:∃m,n=m+1:=⟨n - 1,by exact IE⟩;have h:Ab s.buf s.ptr ((q.txt++BS l)++(p.txt++[c])):=h;rw [t8]at h;refine(HJ (Xz d) (nH (lo:=lo) (g:=g) hl.1 h.left d)).trans (X0 hp l (q.go s) m hl.2 ?_ (by exact AU hn) d);rw [Gp.Xy];exact h.drop
theorem RX{l:List Gp}{p:Gl}{c:Nat}(hl:l.all Gp.ok=true)(hp:p.ok c=true)(hn:l.length<=2000)(h:Ab s.buf s.ptr (BS l++(p.txt++[c])))(hu:∀c,s.buf[s.ptr]? =some c->(c==65279)=false):
 ∀d,AD PP fu (d+5) Mq [me] [] (s.hp lo g)= .ok .none ((p.go (A3 l s)).hp lo g):=by
 refine cps fun yv yt=> ?_;have hw:∀d,Az PP fu (AD PP fu (d+4)) HL (EY s lo g false)= .ok .next (EY (p.go (A3 l s)) lo g true):=fun d=> X0 hp l s fu hl h (by show l.length+2<=5000;exact AU hn) d
 obtain⟨b,hb⟩:∃b,(((s.ptr:Int))==0)=b:=⟨_,rfl⟩;obtain⟨c0,h0⟩:∃c0,s.buf[s.ptr]? =some c0:=by obtain⟨x,y,e⟩:∃x y,BS l++(p.txt++[c])=x::y:=List.exists_cons_of_ne_nil (by simp);rw [e]at h;exact⟨x,h.head⟩
 refine yt ?_;generalize p.go (A3 l s)=s2 at hw;cases(b)
 . exact cert [.cmp .eq (.int s.ptr) (.int 0) false (fun _=> LX _ hb),.Ao HL (EY s lo g false) _ 4 hw]
 . exact cert [.cmp .eq (.int s.ptr) (.int 0) true (fun _=> LX _ hb),.call DP [me] [] (s.hp lo g) (.ok (.str [c0]) (s.hp lo g)) 1 (EX h0),.cmp .eq (.str [c0]) (.str [65279]) false (fun _=> Iu _ (hu _ h0)),.Ao HL (EY s lo g false) _ 4 hw]
end
section
variable{s:Sc}{lo g:List AObj}
theorem Fu{h:Hp}{r:Nat}{xs:List AV}{v:AV}(e:h.f r= .lst xs)(hl:xs.length<lim):Bv h (.ref r) N.append [v]=some (.none,h.set r (.lst (xs++[v]))):=by show((C9 (h.f r)).bind fun xs=> (KY h xs N.append [v]).map fun p=> (p.1,h.set r (.lst p.2)))=_;rw [e];show((ck (xs.length+1) ((AV.none,xs++[v]):AV×List AV)).map fun p=> (p.1,h.set r (.lst p.2)))=_;unfold ck;rw [if_pos (show xs.length+1<=lim from hl)];rfl
theorem RY{h:Hp}{r:Nat}{xs:List AV}{v:AV}(e:h.f r= .lst (xs++[v])):Bv h (.ref r) N.pop []=some (v,h.set r (.lst xs)):=by show((C9 (h.f r)).bind fun xs=> (KY h xs N.pop []).map fun p=> (p.1,h.set r (.lst p.2)))=_;rw [e];show((Om (xs++[v]) []).map fun p=> (p.1,h.set r (.lst p.2)))=_;show(((xs++[v]).getLast?.map fun v'=> (v',(xs++[v]).dropLast)).map fun p=> (p.1,h.set r (.lst p.2)))=_;rw [List.getLast?_concat,List.dropLast_concat];rfl
def Sc.add(s:Sc)(v:AV):Sc:={s with toks:=s.toks++[v]}
def Dm(s:Sc)(lo g:List AObj)(v:AV)(hl:s.toks.length<lim):Ent PP fu:=.BA (s.hp lo g) (.ref 3) N.append [v] .none ((s.add v).hp lo g) (Fu rfl hl)
def Ax(c:Nat)(a b:AV):AV:=.obj c [(N.Fs,a),(N.H5,b)]
abbrev BE(m:AV):AV:=Ax 326 m m
def Iy(ctx cm ABD pm:AV):AV:=.obj 511 [(N.context,ctx),(N.mz,cm),(N.problem,ABD),(N.m4,pm),(N.note,.none)]
def Nv:AV:=.str [119,104,105,108,101,32,115,99,97,110,110,105,110,103,32,97,32,115,105,109,112,108,101,32,107,101,121]
def Nw:AV:=.str [99,111,117,108,100,32,110,111,116,32,102,105,110,100,32,101,120,112,101,99,116,101,100,32,39,58,39]
def Sc.RZ(s:Sc)(k:Ky):AV:=Iy Nv (Ac s.buf k.ptr k.line k.col) Nw s.mark
theorem Ra(hk:s.key=none):∀d,AD PP fu (d+2) G2 [me] [] (s.hp lo g)= .ok .none (s.hp lo g):=by obtain⟨bf,p,l,c,ts,tk,st,al,ky⟩:=s;obtain rfl:ky=none:=hk;exact cert []
theorem LZ{k:Ky}(hk:s.key=some k)(h1:k.line=s.line)(h2:s.ptr<=k.ptr+1024):∀d,AD PP fu (d+2) G2 [me] [] (s.hp lo g)= .ok .none (s.hp lo g):=by obtain⟨bf,p,l,c,ts,tk,st,al,ky⟩:=s;obtain rfl:ky=some k:=hk;exact cert [.cmp .ne (.int k.line) (.int l) false (fun _=> RR _ (by rw [h1];exact bne_self_eq_false _)),.cmp .gt (.int ((p:Int) - k.ptr)) (.int 1024) false (fun _=> LY _ (by have h2:p<=k.ptr+1024:=h2;exact decide_eq_false (by lia)))]
theorem X1{x y:Nat}(h:x≠y):(((x:Int)) !=(y:Int))=true:=by rw [bne_iff_ne];lia
theorem X2{k:Ky}(hk:s.key=some k)(h1:k.line≠s.line)(h2:k.req=false):∀d,AD PP fu (d+2) G2 [me] [] (s.hp lo g)= .ok .none ({s with key:=none}.hp lo g):=by obtain⟨bf,p,l,c,ts,tk,st,al,ky⟩:=s;obtain rfl:ky=some k:=hk;obtain⟨a1,a2,a3,a4,a5⟩:=k;obtain rfl:a2=false:=h2;exact cert [.cmp .ne (.int a4) (.int l) true (fun _=> RR _ (X1 h1))]
theorem nL{k:Ky}(hk:s.key=some k)(h1:k.line≠s.line)(h2:k.req=true):∀d,AD PP fu (d+2) G2 [me] [] (s.hp lo g)= .exc (s.RZ k) (s.hp lo g):=by obtain⟨bf,p,l,c,ts,tk,st,al,ky⟩:=s;obtain rfl:ky=some k:=hk;obtain⟨a1,a2,a3,a4,a5⟩:=k;obtain rfl:a2=true:=h2;exact cert [.cmp .ne (.int a4) (.int l) true (fun _=> RR _ (X1 h1))]
theorem nM(hk:s.key=none):∀d,AD PP fu (d+2) JY [me] [] (s.hp lo g)= .ok .none (s.hp lo g):=by obtain⟨bf,p,l,c,ts,tk,st,al,ky⟩:=s;obtain rfl:ky=none:=hk;exact cert []
theorem nN{k:Ky}(hk:s.key=some k)(h2:k.req=false):∀d,AD PP fu (d+2) JY [me] [] (s.hp lo g)= .ok .none ({s with key:=none}.hp lo g):=by obtain⟨bf,p,l,c,ts,tk,st,al,ky⟩:=s;obtain rfl:ky=some k:=hk;obtain⟨a1,a2,a3,a4,a5⟩:=k;obtain rfl:a2=false:=h2;exact cert []
theorem nO{k:Ky}(hk:s.key=some k)(h2:k.req=true):∀d,AD PP fu (d+2) JY [me] [] (s.hp lo g)= .exc (s.RZ k) (s.hp lo g):=by obtain⟨bf,p,l,c,ts,tk,st,al,ky⟩:=s;obtain rfl:ky=some k:=hk;obtain⟨a1,a2,a3,a4,a5⟩:=k;obtain rfl:a2=true:=h2;exact cert []
def Sc.La(s:Sc):Ky:=⟨s.taken+s.toks.length,s.st.headD 0==(s.col:Int),s.ptr,s.line,s.col⟩
theorem X3{x y:Int}:∀h,BZ h .eq (.int x) (.int y)=some (x==y):=fun _=> rfl
theorem X4(ha:s.allow=false):∀d,AD PP fu (d+3) JX [me] [] (s.hp lo g)= .ok .none (s.hp lo g):=by obtain⟨bf,p,l,c,ts,tk,st,al,ky⟩:=s;obtain rfl:al=false:=ha;exact cert [.cmp .eq (.int (st.headD 0)) (.int c) (st.headD 0==(c:Int)) X3]
theorem X5(ha:s.allow=true)(hk:s.key=none):∀d,AD PP fu (d+3) JX [me] [] (s.hp lo g)= .ok .none ({s with key:=some s.La}.hp lo g):=by obtain⟨bf,p,l,c,ts,tk,st,al,ky⟩:=s;obtain rfl:al=true:=ha;obtain rfl:ky=none:=hk;exact cert [.cmp .eq (.int (st.headD 0)) (.int c) (st.headD 0==(c:Int)) X3]
def Iz:CS:=B9 Tc 1
def FN(s:Sc)(lo g:List AObj)(col:Int)(x:List (N×AV)):St:=⟨(N.self,me)::(N.column,.int col)::x,s.hp lo g⟩
theorem nP{a b col:Int}{r:List Int}(hs:s.st=a::b::r)(hl:s.toks.length<lim):
 ∀d,AN PP fu (AD PP fu (d+2)) (BM Iz) (FN s lo g col [])= .ok .next (FN {s with st:=b::r,toks:=s.toks++[BE s.mark]} lo g col [(N.mark,s.mark)]):=by
 obtain⟨bf,p,l,c,ts,tk,st,al,ky⟩:=s;obtain rfl:st=a::b::r:=hs;exact AZ [.BA (Sc.hp ⟨bf,p,l,c,ts,tk,a::b::r,al,ky⟩ lo g) (.ref 5) N.pop [] (.int b) ((Sc.hp ⟨bf,p,l,c,ts,tk,a::b::r,al,ky⟩ lo g).set 5 (.lst (r.reverse.map .int))) (RY (by show AObj.lst ((b::r).reverse.map .int)=_;rw [vp,uB];rfl)),
  Dm ⟨bf,p,l,c,ts,tk,b::r,al,ky⟩ lo g (BE (Ac bf p l c)) hl]
theorem nQ{a b col:Int}{r:List Int}{v:AV}(hs:s.st=a::b::r)(hl:s.toks.length<lim):
 ∀d,AN PP fu (AD PP fu (d+2)) (BM Iz) (FN s lo g col [(N.mark,v)])= .ok .next (FN {s with st:=b::r,toks:=s.toks++[BE s.mark]} lo g col [(N.mark,s.mark)]):=by
 obtain⟨bf,p,l,c,ts,tk,st,al,ky⟩:=s;obtain rfl:st=a::b::r:=hs;exact AZ [.BA (Sc.hp ⟨bf,p,l,c,ts,tk,a::b::r,al,ky⟩ lo g) (.ref 5) N.pop [] (.int b) ((Sc.hp ⟨bf,p,l,c,ts,tk,a::b::r,al,ky⟩ lo g).set 5 (.lst (r.reverse.map .int))) (RY (by show AObj.lst ((b::r).reverse.map .int)=_;rw [vp,uB];rfl)),
  Dm ⟨bf,p,l,c,ts,tk,b::r,al,ky⟩ lo g (BE (Ac bf p l c)) hl]
theorem X6{a col:Int}{r:List Int}{x:List (N×AV)}(hs:s.st=a::r)(h:a>col):∀d,A8 PP (AD PP fu (d+2)) (CG Iz) (FN s lo g col x)= .ok true (FN s lo g col x):=by obtain⟨bf,p,l,c,ts,tk,st,al,ky⟩:=s;obtain rfl:st=a::r:=hs;exact Cx [.cmp .gt (.int a) (.int col) true (fun _=> LY _ (decide_eq_true h))]
theorem X7{a col:Int}{r:List Int}{x:List (N×AV)}(hs:s.st=a::r)(h:¬a>col):∀d,A8 PP (AD PP fu (d+2)) (CG Iz) (FN s lo g col x)= .ok false (FN s lo g col x):=by obtain⟨bf,p,l,c,ts,tk,st,al,ky⟩:=s;obtain rfl:st=a::r:=hs;exact Cx [.cmp .gt (.int a) (.int col) false (fun _=> LY _ (decide_eq_false h))]
def AB(col:Int):List Int->Nat×List Int
 | []=> (0,[])
 | [a]=> (0,[a])
 |a::b::r=> if a>col then((AB col (b::r)).1+1,(AB col (b::r)).2)else(0,a::b::r)
theorem nR{col a b:Int}{r:List Int}:AB col (a::b::r)=if a>col then((AB col (b::r)).1+1,(AB col (b::r)).2)else(0,a::b::r):=rfl
def Sc.AB(s:Sc)(col:Int):Sc:={s with st:=(L4.AB col s.st).2,toks:=s.toks++tv (L4.AB col s.st).1 (BE s.mark)}
def low(col:Int)(st:List Int):Prop:=∃a∈st.getLast?,a<=col
theorem X8{col:Int}:∀(st:List Int) (s:Sc) (x:List (N×AV)) (n:Nat),s.st=st->low col st->s.toks.length+st.length<lim->st.length+1<=n->(x=[]∨∃v,x=[(N.mark,v)])->
 ∃y,∀d,B0 (fun s=> A8 PP (AD PP fu (d+2)) (CG Iz) s) (fun s=> AN PP fu (AD PP fu (d+2)) (BM Iz) s) n (FN s lo g col x)= .ok .next (FN (s.AB col) lo g col y)
 | []=>@fun s x n hs hl _ _ _=> by obtain⟨a,h,_⟩:=hl;cases h
 | [a]=>@fun s x n hs hl _ hn hx=> by
   obtain⟨m,rfl⟩:∃m,n=m+1:=⟨n - 1,by exact IE⟩;obtain⟨a',h,hle⟩:=hl;obtain rfl:a=a':=uR h;have e:s.AB col=s:=by unfold Sc.AB;rw [hs];show{s with st:=[a],toks:=s.toks++[]}=s;rw [uD,<-hs]
   rw [e];exact⟨x,fun d=> H6 (X7 hs (by exact L6) d)⟩
 |a::b::r=>@fun s x n hs hl ht hn hx=> by
  have hn:r.length+1+1+1<=n:=hn;have ht:s.toks.length+(r.length+1+1)<lim:=ht;obtain⟨m,rfl⟩:∃m,n=m+1:=⟨n - 1,by exact IE⟩;by_cases h:a>col
  . have zz:low col (b::r):=hl;have hlen:(s.toks++[BE s.mark]).length=s.toks.length+1:=by rw [t9];rfl
    obtain⟨y,hy⟩:=X8 (b::r) {s with st:=b::r,toks:=s.toks++[BE s.mark]} [(N.mark,s.mark)] m rfl zz (by show(s.toks++[BE s.mark]).length+(r.length+1)<lim;rw [hlen];exact A7 ht) (by show r.length+1+1<=m;exact AU hn) (.inr ⟨_,rfl⟩);have e:s.AB col=Sc.AB {s with st:=b::r,toks:=s.toks++[BE s.mark]} col:=by unfold Sc.AB;rw [hs];show _=({s with st:=(L4.AB col (b::r)).2,toks:=(s.toks++[BE s.mark])++tv (L4.AB col (b::r)).1 (BE s.mark)}:Sc);rw [show L4.AB col (a::b::r)=((L4.AB col (b::r)).1+1,(L4.AB col (b::r)).2)from if_pos h,t8];rfl
    rw [e];refine⟨y,fun d=> ?_⟩;rcases hx with rfl |⟨v,rfl⟩
    . exact(HJ (X6 hs h d) (nP hs (by exact A7 ht) d)).trans (hy d)
    . exact(HJ (X6 hs h d) (nQ hs (by exact A7 ht) d)).trans (hy d)
  . have e:s.AB col=s:=by unfold Sc.AB;rw [hs,show L4.AB col (a::b::r)=(0,a::b::r)from if_neg h];show{s with st:=a::b::r,toks:=s.toks++[]}=s;rw [uD,<-hs]
    rw [e];exact⟨x,fun d=> H6 (X7 hs h d)⟩
theorem HM{col:Int}(hl:low col s.st)(ht:s.toks.length+s.st.length<=2000):∀d,AD PP fu (d+3) Ku [me,.int col] [] (s.hp lo g)= .ok .none ((s.AB col).hp lo g):=by obtain⟨y,hy⟩:=X8 (lo:=lo) (g:=g) s.st s [] fu rfl hl (by show _<1000000;exact BF) (by show _<=5000;exact AU ht) (.inl rfl);generalize s.AB col=s2 at hy;exact cert [.Ao Iz (FN s lo g col []) (.ok .next (FN s2 lo g col y)) 2 (fun d=> hy d)]
theorem nS(h:s.toks=[]):∀d,AD PP fu (d+1) IX [me] [] (s.hp lo g)= .ok (.bool true) (s.hp lo g):=by obtain⟨bf,p,l,c,ts,tk,st,al,ky⟩:=s;obtain rfl:ts=[]:=h;exact cert []
theorem nT{t:AV}{r:List AV}(h:s.toks=t::r)(hk:s.key=none):∀d,AD PP fu (d+3) IX [me] [] (s.hp lo g)= .ok .none (s.hp lo g):=by obtain⟨bf,p,l,c,ts,tk,st,al,ky⟩:=s;obtain rfl:ts=t::r:=h;obtain rfl:ky=none:=hk;exact cert []
theorem nU{t:AV}{r:List AV}{k:Ky}(h:s.toks=t::r)(hk:s.key=some k)(h1:k.line=s.line)(h2:s.ptr<=k.ptr+1024)(h3:k.tn=s.taken):∀d,AD PP fu (d+3) IX [me] [] (s.hp lo g)= .ok (.bool true) (s.hp lo g):=by have hs:=LZ (lo:=lo) (g:=g) hk h1 h2;obtain⟨bf,p,l,c,ts,tk,st,al,ky⟩:=s;obtain rfl:ts=t::r:=h;obtain rfl:ky=some k:=hk;exact cert [.call G2 [me] [] _ _ 2 hs,.cmp .eq (.int k.tn) (.int tk) true (fun _=> LX _ (by have h3:k.tn=tk:=h3;rw [h3];exact beq_self_eq_true _))]
theorem nV{t:AV}{r:List AV}{k:Ky}(h:s.toks=t::r)(hk:s.key=some k)(h1:k.line=s.line)(h2:s.ptr<=k.ptr+1024)(h3:k.tn≠s.taken):∀d,AD PP fu (d+3) IX [me] [] (s.hp lo g)= .ok .none (s.hp lo g):=by have hs:=LZ (lo:=lo) (g:=g) hk h1 h2;obtain⟨bf,p,l,c,ts,tk,st,al,ky⟩:=s;obtain rfl:ts=t::r:=h;obtain rfl:ky=some k:=hk;exact cert [.call G2 [me] [] _ _ 2 hs,.cmp .eq (.int k.tn) (.int tk) false (fun _=> LX _ (by have h3:k.tn≠tk:=h3;rw [beq_eq_false_iff_ne];lia))]
end
section
variable{s:Sc}{lo g:List AObj}
def sn(g:List AObj)(o:AObj):List AObj:=g++[o]
def L1(xs:List AV):AObj:=.lst xs
def BC(k:Nat):Nat:=2 * (k+4)+1
theorem Rb{G:List AObj}{k:Nat}:(s.hp lo G).f (BC k)=Cv G k:=by show Cv ((s.hp lo G).row ((2 * (k+4)+1) % 2)) ((2 * (k+4)+1) / 2)=_;rw [show(2 * (k+4)+1) % 2=1 by exact Ob _,show(2 * (k+4)+1) / 2=k+4 by exact Oc _];rfl
theorem X9{G:List AObj}{k:Nat}{o:AObj}:(s.hp lo G).set (BC k) o=s.hp lo (DI G k o):=by show(s.hp lo G).JH ((2 * (k+4)+1) / 2) o ((2 * (k+4)+1) % 2)=_;rw [show(2 * (k+4)+1) % 2=1 by exact Ob _,show(2 * (k+4)+1) / 2=k+4 by exact Oc _];rfl
theorem Gs:∀(g r:List AObj) (j:Nat),Cv (g++r) (g.length+j)=Cv r j
 | []=>@fun r j=> by rw [List.length_nil,uv];rfl
 |o::g=>@fun r j=> by rw [uh,yH];exact Gs g r j
theorem Nx:∀(g r:List AObj) (j:Nat) (o:AObj),DI (g++r) (g.length+j) o=g++DI r j o
 | []=>@fun r j o=> by rw [List.length_nil,uv];rfl
 |x::g=>@fun r j o=> by rw [uh,yH];show x::DI (g++r) (g.length+j) o=_;rw [Nx g r j o];rfl
theorem Ny{o:AObj}:(s.hp lo (sn g o)).f (BC g.length)=o:=by rw [Rb];exact Gs g [o] 0
theorem Nz{o x:AObj}:(s.hp lo (sn (sn g o) x)).f (BC g.length)=o:=by rw [Rb,sn,sn,t8];exact Gs g ([o]++[x]) 0
theorem nW{o o':AObj}:(s.hp lo (sn g o)).set (BC g.length) o'=s.hp lo (sn g o'):=by rw [X9];exact congrArg _ (Nx g [o] 0 o')
theorem YA{o x o':AObj}:(s.hp lo (sn (sn g o) x)).set (BC g.length) o'=s.hp lo (sn (sn g o') x):=by rw [X9,sn,sn,sn,sn,t8,t8];exact congrArg _ (Nx g ([o]++[x]) 0 o')
theorem nX{h:Hp}{r q:Nat}{xs ys:List AV}(e:h.f r= .lst xs)(e':h.f q= .lst ys)(hl:xs.length+ys.length<=lim):Bv h (.ref r) N.extend [.ref q]=some (.none,h.set r (.lst (xs++ys))):=by show((C9 (h.f r)).bind fun xs=> ((C9 (h.f q)).bind fun ys=> ck (xs.length+ys.length) (AV.none,xs++ys)).map fun p=> (p.1,h.set r (.lst p.2)))=_;rw [e,e'];show((ck (xs.length+ys.length) ((AV.none,xs++ys):AV×List AV)).map fun p=> (p.1,h.set r (.lst p.2)))=_;unfold ck;rw [if_pos hl];rfl
theorem YB{h:Hp}{r:Nat}{w:List Nat}(e:h.f r= .lst [.str w])(hl:w.length<=50000):Bv h (.str []) N.join [.ref r]=some (.str w,h):=by show((((C9 (h.f r)).bind strs?).bind fun l=> if([]:List Nat).length<=16/\(l.map uY).sum+l.length<=60000 then some (AV.str (BJ [] l))else none).map fun v=> (v,h))=_;rw [e];show((if([]:List Nat).length<=16/\(([w]:List (List Nat)).map uY).sum+([w]:List (List Nat)).length<=60000 then some (AV.str w)else none).map fun v=> (v,h))=_;rw [if_pos ⟨by decide,by show w.length+0+1<=60000;exact BF⟩];rfl
theorem Rc{h:Hp}{r:Nat}{xs:List AV}{m:N}(e:h.f r= .lst xs)(hm:HX m=true):GG PP h (.ref r) m=some none:=by show MF PP m (h.f r)=_;rw [e];show(if HX m=true then some none else none)=_;rw [if_pos hm]
section
variable(s lo g)
def Bd{c:Nat}(h:s.buf[s.ptr]? =some c):Ent PP fu:=.call DP [me] [] (s.hp lo g) (.ok (.str [c]) (s.hp lo g)) 1 (EX h)
def pk(k:Nat){c:Nat}(h:s.buf[s.ptr+k]? =some c):Ent PP fu:=.call DP [me,.int k] [] (s.hp lo g) (.ok (.str [c]) (s.hp lo g)) 1 (m8 h)
def FO{c:Nat}(h:s.buf[s.ptr]? =some c)(hc:EE c=true):Ent PP fu:=.call Er [me] [] (s.hp lo g) (.ok .none ((s.on 1).hp lo g)) 2 (Nq h hc)
def fw(w:List Nat)(h:Ab s.buf s.ptr w)(hw:w.all EE=true)(hn:w.length+1<fu):Ent PP fu:=.call Er [me,.int w.length] [] (s.hp lo g) (.ok .none ((s.on w.length).hp lo g)) 2 (Xr h hw hn)
def pf(w:List Nat)(h:Ab s.buf s.ptr w)(hw:w≠[]):Ent PP fu:=.call IW [me,.int w.length] [] (s.hp lo g) (.ok (.str w) (s.hp lo g)) 2 (Xu h hw)
def YC(xs:List AV)(m:N)(hm:HX m=true):Ent PP fu:=.met (s.hp lo (sn g (L1 xs))) (.ref (BC g.length)) m none (Rc (r:=BC g.length) (xs:=xs) (Ny (s:=s) (lo:=lo) (g:=g) (o:=.lst xs)) hm)
def YD(xs:List AV)(o:AObj)(m:N)(hm:HX m=true):Ent PP fu:=.met (s.hp lo (sn (sn g (L1 xs)) o)) (.ref (BC g.length)) m none (Rc (r:=BC g.length) (xs:=xs) (Nz (s:=s) (lo:=lo) (g:=g) (o:=.lst xs) (x:=o)) hm)
theorem nY(xs:List AV)(v:AV)(hl:xs.length<lim):Bv (s.hp lo (sn g (L1 xs))) (.ref (BC g.length)) N.append [v]=some (.none,s.hp lo (sn g (L1 (xs++[v])))):=by rw [Fu (h:=s.hp lo (sn g (L1 xs))) (r:=BC g.length) (xs:=xs) (Ny (s:=s) (lo:=lo) (g:=g) (o:=.lst xs)) hl,nW];rfl
theorem nZ(xs ys:List AV)(hl:xs.length+ys.length<=lim):Bv (s.hp lo (sn (sn g (L1 xs)) (L1 ys))) (.ref (BC g.length)) N.extend [.ref (BC (sn g (L1 xs)).length)]=some (.none,s.hp lo (sn (sn g (L1 (xs++ys))) (L1 ys))):=by rw [nX (h:=s.hp lo (sn (sn g (L1 xs)) (L1 ys))) (r:=BC g.length) (q:=BC (sn g (L1 xs)).length) (xs:=xs) (ys:=ys) (Nz (s:=s) (lo:=lo) (g:=g) (o:=.lst xs) (x:=.lst ys)) (Ny (s:=s) (lo:=lo) (g:=sn g (L1 xs)) (o:=.lst ys)) hl,YA];rfl
def nf(xs:List AV)(v:AV)(hl:xs.length<lim):Ent PP fu:=.BA (s.hp lo (sn g (L1 xs))) (.ref (BC g.length)) N.append [v] .none (s.hp lo (sn g (L1 (xs++[v])))) (nY s lo g xs v hl)
def YE(xs ys:List AV)(hl:xs.length+ys.length<=lim):Ent PP fu:=.BA (s.hp lo (sn (sn g (L1 xs)) (L1 ys))) (.ref (BC g.length)) N.extend [.ref (BC (sn g (L1 xs)).length)] .none (s.hp lo (sn (sn g (L1 (xs++ys))) (L1 ys))) (nZ s lo g xs ys hl)
def ng(w:List Nat)(o:AObj)(hl:w.length<=50000):Ent PP fu:=.BA (s.hp lo (sn (sn g (L1 [.str w])) o)) (.str []) N.join [.ref (BC g.length)] (.str w) (s.hp lo (sn (sn g (L1 [.str w])) o)) (YB (h:=s.hp lo (sn (sn g (L1 [.str w])) o)) (r:=BC g.length) (w:=w) (Nz (s:=s) (lo:=lo) (g:=g) (o:=.lst [.str w]) (x:=o)) hl)
end
section
variable{c:Nat}{l x y:List Nat}{b:Bool}
def DS(c:Nat)(l:List Nat)(h:l.contains c=b):Ent PP fu:=.cmp .Be (.str [c]) (.str l) b (fun _=> in1 _ h)
def N0(c:Nat)(l:List Nat)(h:(!l.contains c)=b):Ent PP fu:=.cmp .De (.str [c]) (.str l) b (fun _=> RP _ h)
def Lb(c e:Nat)(h:(c==e)=b):Ent PP fu:=.cmp .eq (.str [c]) (.str [e]) b (fun _=> Iu _ h)
def nh(x y:List Nat)(h:(x==y)=b):Ent PP fu:=.cmp .eq (.str x) (.str y) b (fun _=> RQ _ h)
def BW(x y:Int)(h:(x==y)=b):Ent PP fu:=.cmp .eq (.int x) (.int y) b (fun _=> LX _ h)
def DD(x y:Int)(h:decide (x<y)=b):Ent PP fu:=.cmp .lt (.int x) (.int y) b (fun _=> ltI _ h)
end
def Rd(c:Nat):Bool:=[39,34,92,0,32,9,13,10,133,8232,8233].contains c
theorem ni{c x:Nat}{m:AV}(h:Ab s.buf s.ptr [c,39,x])(hc:Rd c=false)(hp:EE c=true)(hx:(x==39)=false):
 ∀d,AD PP fu (d+6) dM [me,.bool false,m] [] (s.hp lo g)= .ok (.ref (BC g.length)) ((s.on 1).hp lo (sn g (L1 [.str [c]]))):=
 have h1:(s.on 1).buf[(s.on 1).ptr]? =some 39:=h.tail.head;have h2:(s.on 1).buf[(s.on 1).ptr+1]? =some x:=h.tail.tail.head
 cert [pk s lo (sn g (L1 [])) 0 h.head,N0 c [39,34,92,0,32,9,13,10,133,8232,8233] (b:=true) (congrArg not hc),pk s lo (sn g (L1 [])) 1 h.tail.head,
  YC s lo g [] N.append rfl,pf s lo (sn g (L1 [])) [c] (h.left (u:=[c])) nofun,nf s lo g [] (.str [c]) (Nat.lt_of_lt_of_le Nat.zero_lt_one (uH rfl)),
  fw s lo (sn g (L1 [.str [c]])) [c] (h.left (u:=[c])) (by rw [vH,hp];rfl) (uH rfl),Bd (s.on 1) lo (sn g (L1 [.str [c]])) h1,.skip,pk (s.on 1) lo (sn g (L1 [.str [c]])) 1 h2,Lb x 39 hx]
def I0(w:List Nat)(plain:Bool)(a b RM:AV):AV:=.obj 499 [(N.value,.str w),(N.plain,.bool plain),(N.Fs,a),(N.H5,b),(N.RM,RM)]
theorem nj{c x:Nat}(h:Ab s.buf s.ptr [39,c,39,x])(hc:Rd c=false)(hp:EE c=true)(hx:(x==39)=false):
 ∀d,AD PP fu (d+7) dK [me,.str [39]] [] (s.hp lo g)= .ok (I0 [c] false s.mark (s.on 3).mark (.str [39])) ((s.on 3).hp lo (sn (sn g (L1 [.str [c]])) (L1 [.str [c]]))):=by
 have h1:Ab (s.on 1).buf (s.on 1).ptr [c,39,x]:=h.tail;have h2:(s.on 2).buf[(s.on 2).ptr]? =some 39:=h.tail.tail.head;have e2:(s.on 1).on 1=s.on 2:=Sc.H7 s 1 1;have e3:(s.on 2).on 1=s.on 3:=Sc.H7 s 2 1;have hn:=ni (s:=s.on 1) (lo:=lo) (g:=sn g (L1 [])) (m:=s.mark) h1 hc hp hx;rw [e2]at hn;have hf:=Nq (s:=s.on 2) (lo:=lo) (g:=sn (sn g (L1 [.str [c]])) (L1 [.str [c]])) h2 rfl;rw [e3]at hf;exact cert [Bd s lo (sn g (L1 [])) h.head,FO s lo (sn g (L1 [])) h.head rfl,YC (s.on 1) lo g [] N.extend rfl,
  .call _ _ _ _ _ 6 hn,YE (s.on 2) lo g [] [.str [c]] (uH rfl),Bd (s.on 2) lo (sn (sn g (L1 [.str [c]])) (L1 [.str [c]])) h2,.call _ _ _ _ _ 2 hf,
  ng (s.on 3) lo g [c] (.lst [.str [c]]) (uH rfl)]
end
end L4
end Internal
section
namespace Internal
abbrev N.YF:N:=109300297919347
abbrev N.YG:N:=126926507435379
namespace L4
variable{s:Sc}{lo g:List AObj}
def C6(c:Nat):Bool:=[0,32,9,13,10,133,8232,8233].contains c
def I6(c:Nat):Bool:= !C6 c&&(c !=58&&EE c)
def N5:CS:=B9 (BM (B9 Te 5)) 2
def Lc(s:Sc)(lo g:List AObj)(w:List Nat)(i:Nat):St:=
 ⟨[(N.self,me),(N.YF,.ref (BC g.length)),(N.Fs,s.mark),(N.H5,s.mark),(N.indent,.int (s.st.headD 0+1)),(N.YG,.ref (BC (sn g (L1 [])).length)),(N.length,.int i)]++(match i with |0=>[] |i+1=>[(N.ch,.str [w.getD i 0])]),s.hp lo (sn (sn g (L1 [])) (L1 []))⟩
def N6(s:Sc)(lo g:List AObj)(w:List Nat):St:=
 ⟨[(N.self,me),(N.YF,.ref (BC g.length)),(N.Fs,s.mark),(N.H5,s.mark),(N.indent,.int (s.st.headD 0+1)),(N.YG,.ref (BC (sn g (L1 [])).length)),(N.length,.int w.length),(N.ch,.str [58])],s.hp lo (sn (sn g (L1 [])) (L1 []))⟩
theorem YH{c:Nat}(h:I6 c=true):[0,32,9,13,10,133,8232,8233].contains c=false:=by have:=(t6.mp h).1;simpa [C6]using this
theorem YI{c:Nat}(h:I6 c=true):(c==58)=false:=by have:=(t6.mp (t6.mp h).2).1;simpa using this
theorem nk{c:Nat}(h:I6 c=true):EE c=true:=(t6.mp (t6.mp h).2).2
theorem YJ{w:List Nat}(h:w.all I6=true):w.all EE=true:=uM.mpr fun x hx=> nk (uM.mp h x hx)
theorem nq{w:List Nat}{x:Nat}(h:Ab s.buf s.ptr (w++[58,x]))(hw:w.all I6=true)(hx:C6 x=true)(hn:w.length+1<fu):
 ∀d,Az PP fu (AD PP fu (d+1)) N5 (Lc s lo g w 0)= .ok .next (N6 s lo g w):=by
 refine Xl rfl (m:=w.length) (fun i hi=> ?_) (fun i hi=> ?_) (fun d n=> ?_) hn
 . exact Cx []
 . have h1:=h.left.at hi;have hc:=Nn hw hi;cases i with
   |zero=> exact AZ [pk s lo (sn (sn g (L1 [])) (L1 [])) 0 h1,DS _ _ (YH hc),Lb _ _ (YI hc)]
   |succ i=> exact AZ [pk s lo (sn (sn g (L1 [])) (L1 [])) (i+1) h1,DS _ _ (YH hc),Lb _ _ (YI hc)]
 . have h1:s.buf[s.ptr+w.length]? =some 58:=h.drop.head;have h2:s.buf[s.ptr+(w.length+1)]? =some x:=h.drop.tail.head;generalize hm:w.length=m at h1 h2;have ht:A8 PP (AD PP fu (d+1)) (CG N5) (Lc s lo g w m)= .ok true (Lc s lo g w m):=Cx [] (by kernel_rfl!) d;have hb:AN PP fu (AD PP fu (d+1)) (BM N5) (Lc s lo g w m)= .ok .brk (N6 s lo g w):=by
    unfold N6;rw [hm];cases m with
    |zero=> exact AZ [pk s lo (sn (sn g (L1 [])) (L1 [])) 0 h1,.skip,.skip,pk s lo (sn (sn g (L1 [])) (L1 [])) (0+1) h2,DS x _ hx] (by kernel_rfl!) d
    |succ m=> exact AZ [pk s lo (sn (sn g (L1 [])) (L1 [])) (m+1) h1,.skip,.skip,pk s lo (sn (sn g (L1 [])) (L1 [])) (m+1+1) h2,DS x _ hx] (by kernel_rfl!) d
   exact m9 ht hb
def nr(c:Nat):Bool:=[13,10,133,8232,8233].contains c
theorem nu{c:Nat}{a b:AV}(h:s.buf[s.ptr]? =some c)(h1:(c==32)=false)(h2:nr c=false):
 ∀d,AD PP fu (d+5) dO [me,a,b] [] (s.hp lo g)= .ok (.ref (BC g.length)) (s.hp lo (sn g (L1 []))):=
 cert [pk s lo (sn g (L1 [])) 0 h,DS c [32] (b:=false) (by rw [wK,h1];rfl),.call IW [me,.int 0] [] (s.hp lo (sn g (L1 []))) (.ok (.str (s.pre 0)) (s.hp lo (sn g (L1 [])))) 2 (Nr (n:=0) (Xv (k:=0) h)),
  fw s lo (sn g (L1 [])) [] (fun i c e=> by cases e) rfl (uH rfl),Bd s lo (sn g (L1 [])) h,DS c [13,10,133,8232,8233] h2]
theorem nv{o x y:AObj}:(s.hp lo (sn (sn (sn g o) x) y)).f (BC g.length)=o:=by rw [Rb,sn,sn,sn,t8,t8];exact Gs g ([o]++([x]++[y])) 0
section
variable(s lo g)
theorem nx(xs:List AV)(o:AObj)(v:AV)(hl:xs.length<lim):Bv (s.hp lo (sn (sn g (L1 xs)) o)) (.ref (BC g.length)) N.append [v]=some (.none,s.hp lo (sn (sn g (L1 (xs++[v]))) o)):=by rw [Fu (h:=s.hp lo (sn (sn g (L1 xs)) o)) (r:=BC g.length) (xs:=xs) (Nz (s:=s) (lo:=lo) (g:=g) (o:=L1 xs) (x:=o)) hl,YA];rfl
def ny(xs:List AV)(o:AObj)(v:AV)(hl:xs.length<lim):Ent PP fu:=.BA (s.hp lo (sn (sn g (L1 xs)) o)) (.ref (BC g.length)) N.append [v] .none (s.hp lo (sn (sn g (L1 (xs++[v]))) o)) (nx s lo g xs o v hl)
def n4(w:List Nat)(o x:AObj)(hl:w.length<=50000):Ent PP fu:=.BA (s.hp lo (sn (sn (sn g (L1 [.str w])) o) x)) (.str []) N.join [.ref (BC g.length)] (.str w) (s.hp lo (sn (sn (sn g (L1 [.str w])) o) x)) (YB (h:=s.hp lo (sn (sn (sn g (L1 [.str w])) o) x)) (r:=BC g.length) (w:=w) (nv (s:=s) (lo:=lo) (g:=g) (o:=L1 [.str w]) (x:=o) (y:=x)) hl)
theorem n5(xs:List AV):truthy (s.hp lo (sn g (L1 xs))) (.ref (BC g.length))=some (!xs.isEmpty):=by show Of ((s.hp lo (sn g (L1 xs))).f (BC g.length))=_;rw [Ny];rfl
def n6(xs:List AV):Ent PP fu:=.Cf (s.hp lo (sn g (L1 xs))) (.ref (BC g.length)) (!xs.isEmpty) (n5 s lo g xs)
end
def Sc.off(s:Sc):Sc:={s with allow:=false}
theorem n7{c:Nat}{w:List Nat}{x:Nat}(h:Ab s.buf s.ptr ((c::w)++[58,x]))(hw:(c::w).all I6=true)(hx:C6 x=true)(hc:(c==35)=false)(hn:w.length<=2000):
 ∀d,AD PP fu (d+6) dN [me] [] (s.hp lo g)= .ok (I0 (c::w) true s.mark (s.on (c::w).length).mark .none) ((s.off.on (c::w).length).hp lo (sn (sn (sn g (L1 [.str (c::w)])) (L1 [])) (L1 []))):=by
 have hl:(c::w).length+1<fu:=by show w.length+1+1<5000;exact A7 hn
 have h58:(s.off.on (c::w).length).buf[(s.off.on (c::w).length).ptr]? =some 58:=h.drop.head;have hf:=fw s.off lo (sn (sn g (L1 [.str (c::w)])) (L1 [])) (c::w) h.left (YJ hw) hl;have hsp:=nu (s:=s.off.on (c::w).length) (lo:=lo) (g:=sn (sn g (L1 [.str (c::w)])) (L1 [])) (a:=.int (s.st.headD 0+1)) (b:=s.mark) h58 rfl rfl;exact cert [Bd s lo (sn (sn g (L1 [])) (L1 [])) h.head,Lb c 35 hc,.Ao N5 (Lc s lo g (c::w) 0) (.ok .next (N6 s lo g (c::w))) 1 (nq h hw hx hl),BW ((c::w).length) 0 (b:=false) (by rw [beq_eq_false_iff_ne];simp;lia),
  YD s.off lo g [] (L1 []) N.extend rfl,YE s.off lo g [] [] (uH rfl),YD s.off lo g [] (L1 []) N.append rfl,pf s.off lo (sn (sn g (L1 [])) (L1 [])) (c::w) h.left nofun,ny s.off lo g [] (L1 []) (.str (c::w)) (uH rfl),
  fw s.off lo (sn (sn g (L1 [.str (c::w)])) (L1 [])) (c::w) h.left (YJ hw) hl,.call _ _ _ _ _ 5 hsp,n6 (s.off.on (c::w).length) lo (sn (sn g (L1 [.str (c::w)])) (L1 [])) [],
  n4 (s.off.on (c::w).length) lo g (c::w) (L1 []) (L1 []) (by show w.length+1<=50000;exact BF)]
end L4
end Internal
end
namespace Internal
namespace L4
section
variable{s:Sc}{lo g:List AObj}
def Sc.J6(s:Sc)(ym:Int):Sc:={s with st:=ym::s.st}
def Sc.HN(s:Sc)(k:Nat)(ym:Nat):Sc:=if s.st.headD 0<(ym:Int)then(s.J6 ym).add (Ax k s.mark s.mark)else s
theorem n8{h:Hp}{r:Nat}{xs:List AV}{v:AV}{i:Int}(e:h.f r= .lst xs)(hi:i=0)(hl:xs.length<lim):Bv h (.ref r) N.insert [.int i,v]=some (.none,h.set r (.lst (v::xs))):=by subst hi;show((C9 (h.f r)).bind fun xs=> (KY h xs N.insert [.int 0,v]).map fun p=> (p.1,h.set r (.lst p.2)))=_;rw [e];show((if(0:Int)<=0/\(0:Int)<=(xs.length:Int)then ck (xs.length+1) ((AV.none,xs.take 0++v::xs.drop 0):AV×List AV)else none).map fun p=> (p.1,h.set r (.lst p.2)))=_;rw [if_pos ⟨xB _,by exact u4 _⟩];unfold ck;rw [if_pos (show xs.length+1<=lim from hl)];rfl
theorem n9(s:Sc)(lo g:List AObj)(a:Int)(r:List Int)(hs:s.st=a::r)(hl:r.length<lim):Bv (s.hp lo g) (.ref 5) N.append [.int a]=some (.none,(s.hp lo g).set 5 (.lst ((a::r).reverse.map .int))):=by refine(Fu (h:=s.hp lo g) (r:=5) (xs:=r.reverse.map .int) (by show AObj.lst (s.st.tail.reverse.map .int)=_;rw [hs];rfl) (by rw [uL,wi];exact hl)).trans ?_;rw [vp,uB];rfl
def oA(s:Sc)(lo g:List AObj)(a:Int)(r:List Int)(hs:s.st=a::r)(hl:r.length<lim):Ent PP fu:=.BA (s.hp lo g) (.ref 5) N.append [.int a] .none ((s.hp lo g).set 5 (.lst ((a::r).reverse.map .int))) (n9 s lo g a r hs hl)
theorem N7{ym:Int}(hs:s.st≠[])(hl:s.st.length<=1000)(h:s.st.headD 0<ym):∀d,AD PP fu (d+1) Tf [me,.int ym] [] (s.hp lo g)= .ok (.bool true) ((s.J6 ym).hp lo g):=by
 obtain⟨bf,p,l,c,ts,tk,sk,al,ky⟩:=s;cases sk with
 |nil=> exact absurd rfl hs
 |cons a r=> have hl:r.length+1<=1000:=hl;exact cert [DD a ym (decide_eq_true h),oA ⟨bf,p,l,c,ts,tk,a::r,al,ky⟩ lo g a r rfl (by show r.length<1000000;exact Ay)]
theorem N8{ym:Int}(h:¬s.st.headD 0<ym):∀d,AD PP fu (d+1) Tf [me,.int ym] [] (s.hp lo g)= .ok (.bool false) (s.hp lo g):=
 cert [DD (s.st.headD 0) ym (decide_eq_false h)]
structure Sc.HO(s:Sc):Prop where
 st:s.st≠[]
 sl:s.st.length<=900
 tl:s.toks.length<=900
theorem GZ{a:Nat}(h:a<=1000):a<lim:=by show a<1000000;exact BF
theorem oB(hF:s.HO)(ha:s.allow=true)(hk:s.key=none)(h:s.buf[s.ptr]? =some 45):
 ∀d,AD PP fu (d+3) Mn [me] [] (s.hp lo g)= .ok .none ((((s.HN JZ s.col).on 1).add (Ax Ms s.mark (s.on 1).mark)).hp lo g):=by
 obtain⟨h1,h2,h3⟩:=hF;obtain⟨bf,p,l,c,ts,tk,sk,al,ky⟩:=s;obtain rfl:al=true:=ha;obtain rfl:ky=none:=hk;have h3:ts.length<=900:=h3;unfold Sc.HN;by_cases q:sk.headD 0<(c:Int)
 . rw [if_pos q];have hlen:(ts++[Ax JZ (Ac bf p l c) (Ac bf p l c)]).length=ts.length+1:=by rw [t9];rfl
   exact cert [.call _ _ _ _ _ 1 (N7 (s:=⟨bf,p,l,c,ts,tk,sk,true,none⟩) (lo:=lo) (g:=g) (ym:=c) h1 (t5 h2 (by decide)) q),
    Dm ⟨bf,p,l,c,ts,tk,(c:Int)::sk,true,none⟩ lo g (Ax JZ (Ac bf p l c) (Ac bf p l c)) (GZ (by show ts.length<=1000;exact Ay)),
    FO ⟨bf,p,l,c,ts++[Ax JZ (Ac bf p l c) (Ac bf p l c)],tk,(c:Int)::sk,true,none⟩ lo g h rfl,
    Dm ⟨bf,p+1,l,c+1,ts++[Ax JZ (Ac bf p l c) (Ac bf p l c)],tk,(c:Int)::sk,true,none⟩ lo g (Ax Ms (Ac bf p l c) (Ac bf (p+1) l (c+1))) (GZ (by rw [hlen];exact BF))]
 . rw [if_neg q];exact cert [.call _ _ _ _ _ 1 (N8 (s:=⟨bf,p,l,c,ts,tk,sk,true,none⟩) (lo:=lo) (g:=g) (ym:=c) q),
    FO ⟨bf,p,l,c,ts,tk,sk,true,none⟩ lo g h rfl,
    Dm ⟨bf,p+1,l,c+1,ts,tk,sk,true,none⟩ lo g (Ax Ms (Ac bf p l c) (Ac bf (p+1) l (c+1))) (GZ (by show ts.length<=1000;exact Ay))]
theorem oC(ha:s.allow=false)(hk:s.key=none):∀d,AD PP fu (d+3) Mn [me] [] (s.hp lo g)= .exc (Iy .none .none (.str [115,101,113,117,101,110,99,101,32,101,110,116,114,105,101,115,32,97,114,101,32,110,111,116,32,97,108,108,111,119,101,100,32,104,101,114,101]) s.mark) (s.hp lo g):=by obtain⟨bf,p,l,c,ts,tk,sk,al,ky⟩:=s;obtain rfl:al=false:=ha;obtain rfl:ky=none:=hk;exact cert []
theorem oD(hF:s.HO)(ha:s.allow=true)(hk:s.key=none)(h:s.buf[s.ptr]? =some 63):
 ∀d,AD PP fu (d+3) Mo [me] [] (s.hp lo g)= .ok .none ((((s.HN D5 s.col).on 1).add (Ax EU s.mark (s.on 1).mark)).hp lo g):=by
 obtain⟨h1,h2,h3⟩:=hF;obtain⟨bf,p,l,c,ts,tk,sk,al,ky⟩:=s;obtain rfl:al=true:=ha;obtain rfl:ky=none:=hk;have h3:ts.length<=900:=h3;unfold Sc.HN;by_cases q:sk.headD 0<(c:Int)
 . rw [if_pos q];have hlen:(ts++[Ax D5 (Ac bf p l c) (Ac bf p l c)]).length=ts.length+1:=by rw [t9];rfl
   exact cert [.call _ _ _ _ _ 1 (N7 (s:=⟨bf,p,l,c,ts,tk,sk,true,none⟩) (lo:=lo) (g:=g) (ym:=c) h1 (t5 h2 (by decide)) q),
    Dm ⟨bf,p,l,c,ts,tk,(c:Int)::sk,true,none⟩ lo g (Ax D5 (Ac bf p l c) (Ac bf p l c)) (GZ (by show ts.length<=1000;exact Ay)),
    FO ⟨bf,p,l,c,ts++[Ax D5 (Ac bf p l c) (Ac bf p l c)],tk,(c:Int)::sk,true,none⟩ lo g h rfl,
    Dm ⟨bf,p+1,l,c+1,ts++[Ax D5 (Ac bf p l c) (Ac bf p l c)],tk,(c:Int)::sk,true,none⟩ lo g (Ax EU (Ac bf p l c) (Ac bf (p+1) l (c+1))) (GZ (by rw [hlen];exact BF))]
 . rw [if_neg q];exact cert [.call _ _ _ _ _ 1 (N8 (s:=⟨bf,p,l,c,ts,tk,sk,true,none⟩) (lo:=lo) (g:=g) (ym:=c) q),
    FO ⟨bf,p,l,c,ts,tk,sk,true,none⟩ lo g h rfl,
    Dm ⟨bf,p+1,l,c+1,ts,tk,sk,true,none⟩ lo g (Ax EU (Ac bf p l c) (Ac bf (p+1) l (c+1))) (GZ (by show ts.length<=1000;exact Ay))]
theorem oE(ha:s.allow=false)(hk:s.key=none):∀d,AD PP fu (d+3) Mo [me] [] (s.hp lo g)= .exc (Iy .none .none (.str [109,97,112,112,105,110,103,32,107,101,121,115,32,97,114,101,32,110,111,116,32,97,108,108,111,119,101,100,32,104,101,114,101]) s.mark) (s.hp lo g):=by obtain⟨bf,p,l,c,ts,tk,sk,al,ky⟩:=s;obtain rfl:al=false:=ha;obtain rfl:ky=none:=hk;exact cert []
theorem oF(hF:s.HO)(ha:s.allow=true)(hk:s.key=none)(h:s.buf[s.ptr]? =some 58):
 ∀d,AD PP fu (d+3) Kx [me] [] (s.hp lo g)= .ok .none ((((s.HN D5 s.col).on 1).add (Ax IY s.mark (s.on 1).mark)).hp lo g):=by
 obtain⟨h1,h2,h3⟩:=hF;obtain⟨bf,p,l,c,ts,tk,sk,al,ky⟩:=s;obtain rfl:al=true:=ha;obtain rfl:ky=none:=hk;have h3:ts.length<=900:=h3;unfold Sc.HN;by_cases q:sk.headD 0<(c:Int)
 . rw [if_pos q];have hlen:(ts++[Ax D5 (Ac bf p l c) (Ac bf p l c)]).length=ts.length+1:=by rw [t9];rfl
   exact cert [.call _ _ _ _ _ 1 (N7 (s:=⟨bf,p,l,c,ts,tk,sk,true,none⟩) (lo:=lo) (g:=g) (ym:=c) h1 (t5 h2 (by decide)) q),
    Dm ⟨bf,p,l,c,ts,tk,(c:Int)::sk,true,none⟩ lo g (Ax D5 (Ac bf p l c) (Ac bf p l c)) (GZ (by show ts.length<=1000;exact Ay)),
    FO ⟨bf,p,l,c,ts++[Ax D5 (Ac bf p l c) (Ac bf p l c)],tk,(c:Int)::sk,true,none⟩ lo g h rfl,
    Dm ⟨bf,p+1,l,c+1,ts++[Ax D5 (Ac bf p l c) (Ac bf p l c)],tk,(c:Int)::sk,true,none⟩ lo g (Ax IY (Ac bf p l c) (Ac bf (p+1) l (c+1))) (GZ (by rw [hlen];exact BF))]
 . rw [if_neg q];exact cert [.call _ _ _ _ _ 1 (N8 (s:=⟨bf,p,l,c,ts,tk,sk,true,none⟩) (lo:=lo) (g:=g) (ym:=c) q),
    FO ⟨bf,p,l,c,ts,tk,sk,true,none⟩ lo g h rfl,
    Dm ⟨bf,p+1,l,c+1,ts,tk,sk,true,none⟩ lo g (Ax IY (Ac bf p l c) (Ac bf (p+1) l (c+1))) (GZ (by show ts.length<=1000;exact Ay))]
theorem YK(ha:s.allow=false)(hk:s.key=none):∀d,AD PP fu (d+3) Kx [me] [] (s.hp lo g)= .exc (Iy .none .none (.str [109,97,112,112,105,110,103,32,118,97,108,117,101,115,32,97,114,101,32,110,111,116,32,97,108,108,111,119,101,100,32,104,101,114,101]) s.mark) (s.hp lo g):=by obtain⟨bf,p,l,c,ts,tk,sk,al,ky⟩:=s;obtain rfl:al=false:=ha;obtain rfl:ky=none:=hk;exact cert []
def Sc.keyed(s:Sc)(k:Ky)(t:AV):Sc:=
 let m:=Ac s.buf k.ptr k.line k.col;let s1:Sc:={s with toks:=[Ax EU m m,t],allow:=false,key:=none};let s2:Sc:=if s.st.headD 0<(k.col:Int)then{s1 with st:=(k.col:Int)::s.st,toks:=Ax D5 m m::s1.toks}else s1
 (s2.on 1).add (Ax IY s.mark (s.on 1).mark)
theorem oG{k:Ky}{t:AV}(hF:s.HO)(hk:s.key=some k)(zA:s.toks=[t])(hn:k.tn=s.taken)(h:s.buf[s.ptr]? =some 58):
 ∀d,AD PP fu (d+3) Kx [me] [] (s.hp lo g)= .ok .none ((s.keyed k t).hp lo g):=by
 obtain⟨h1,h2,h3⟩:=hF;obtain⟨bf,p,l,c,ts,tk,sk,al,ky⟩:=s;obtain rfl:ky=some k:=hk;obtain rfl:ts=[t]:=zA;have hz:(k.tn:Int) - (tk:Int)=0:=by have hn:k.tn=tk:=hn;lia
 have ei:∀(S:Sc) (xs:List AV) (v:AV) (hx:xs.length<=3),S.toks=xs->Bv (S.hp lo g) (.ref 3) N.insert [.int ((k.tn:Int) - (tk:Int)),v]=some (.none,{S with toks:=v::xs}.hp lo g):=fun S xs v hx e=>
  n8 (h:=S.hp lo g) (r:=3) (xs:=xs) (by rw [<-e];rfl) hz (GZ (by exact Ay))
 by_cases q:sk.headD 0<(k.col:Int)
 . have e:Sc.keyed ⟨bf,p,l,c,[t],tk,sk,al,some k⟩ k t=Sc.add (Sc.on {(⟨bf,p,l,c,[t],tk,sk,al,some k⟩:Sc)with toks:=Ax D5 (Ac bf k.ptr k.line k.col) (Ac bf k.ptr k.line k.col)::[Ax EU (Ac bf k.ptr k.line k.col) (Ac bf k.ptr k.line k.col),t],allow:=false,key:=none,st:=(k.col:Int)::sk} 1) (Ax IY (Ac bf p l c) (Ac bf (p+1) l (c+1))):=by
    unfold Sc.keyed;dsimp only;rw [if_pos q];rfl
   rw [e];exact cert [.BA _ _ N.insert _ _ _ (ei ⟨bf,p,l,c,[t],tk,sk,al,none⟩ [t] (Ax EU (Ac bf k.ptr k.line k.col) (Ac bf k.ptr k.line k.col)) (by show 1<=3;decide) rfl),
    .call _ _ _ _ _ 1 (N7 (s:=⟨bf,p,l,c,[Ax EU (Ac bf k.ptr k.line k.col) (Ac bf k.ptr k.line k.col),t],tk,sk,al,none⟩) (lo:=lo) (g:=g) (ym:=k.col) h1 (t5 h2 (by decide)) q),
    .BA _ _ N.insert _ _ _ (ei ⟨bf,p,l,c,[Ax EU (Ac bf k.ptr k.line k.col) (Ac bf k.ptr k.line k.col),t],tk,(k.col:Int)::sk,al,none⟩ _ (Ax D5 (Ac bf k.ptr k.line k.col) (Ac bf k.ptr k.line k.col)) (by show 2<=3;decide) rfl),
    FO ⟨bf,p,l,c,Ax D5 (Ac bf k.ptr k.line k.col) (Ac bf k.ptr k.line k.col)::[Ax EU (Ac bf k.ptr k.line k.col) (Ac bf k.ptr k.line k.col),t],tk,(k.col:Int)::sk,false,none⟩ lo g h rfl]
 . have e:Sc.keyed ⟨bf,p,l,c,[t],tk,sk,al,some k⟩ k t=Sc.add (Sc.on {(⟨bf,p,l,c,[t],tk,sk,al,some k⟩:Sc)with toks:=[Ax EU (Ac bf k.ptr k.line k.col) (Ac bf k.ptr k.line k.col),t],allow:=false,key:=none} 1) (Ax IY (Ac bf p l c) (Ac bf (p+1) l (c+1))):=by
    unfold Sc.keyed;dsimp only;rw [if_neg q];rfl
   rw [e];exact cert [.BA _ _ N.insert _ _ _ (ei ⟨bf,p,l,c,[t],tk,sk,al,none⟩ [t] (Ax EU (Ac bf k.ptr k.line k.col) (Ac bf k.ptr k.line k.col)) (by show 1<=3;decide) rfl),
    .call _ _ _ _ _ 1 (N8 (s:=⟨bf,p,l,c,[Ax EU (Ac bf k.ptr k.line k.col) (Ac bf k.ptr k.line k.col),t],tk,sk,al,none⟩) (lo:=lo) (g:=g) (ym:=k.col) q),
    FO ⟨bf,p,l,c,[Ax EU (Ac bf k.ptr k.line k.col) (Ac bf k.ptr k.line k.col),t],tk,sk,false,none⟩ lo g h rfl]
end
section
variable{s:Sc}{lo g:List AObj}
def Sc.marked(s:Sc)(k:Nat):Sc:=(({s.AB (-1)with allow:=false,key:=none}).on 3).add (Ax k s.mark (s.on 3).mark)
theorem Rf(col:Int):∀st:List Int,(AB col st).1<=st.length
 | []=> uO _
 | [a]=> uO _
 |a::b::r=> by
  rw [nR];by_cases h:a>col
  . rw [if_pos h];exact u6 (Rf col (b::r))
  . rw [if_neg h];exact uO _
theorem YL(col:Int):(s.AB col).toks.length<=s.toks.length+s.st.length:=by show(s.toks++tv _ _).length<=_;rw [t9,ub];have:=Rf col s.st;exact AU this
theorem oH(hF:s.HO)(hl:low (-1) s.st)(hk:s.key=none)(h:Ab s.buf s.ptr [45,45,45]):
 ∀d,AD PP fu (d+5) Th [me] [] (s.hp lo g)= .ok .none ((s.marked K3).hp lo g):=by
 obtain⟨h1,h2,h3⟩:=hF;have hu:=HM (lo:=lo) (g:=g) hl (show s.toks.length+s.st.length<=2000 by exact AU (uA h3 h2));have ht:=YL (s:=s) (-1);have hmk:(s.AB (-1)).mark=s.mark:=rfl;have hky:(s.AB (-1)).key=none:=hk;have h':Ab (s.AB (-1)).buf (s.AB (-1)).ptr [45,45,45]:=h;have e:s.marked K3=(({s.AB (-1)with allow:=false,key:=none}).on 3).add (Ax K3 (s.AB (-1)).mark ((s.AB (-1)).on 3).mark):=rfl;rw [e];generalize s.AB (-1)=u at hu ht hmk hky h';obtain⟨bf,p,l,c,ts,tk,sk,al,ky⟩:=u;obtain rfl:ky=none:=hky;exact cert [.call _ _ _ _ _ 3 hu,fw ⟨bf,p,l,c,ts,tk,sk,false,none⟩ lo g [45,45,45] h' rfl (uH rfl),
  Dm ⟨bf,p+3,l,c+3,ts,tk,sk,false,none⟩ lo g (Ax K3 (Ac bf p l c) (Ac bf (p+3) l (c+3))) (by show ts.length<1000000;have:ts.length<=s.toks.length+s.st.length:=ht;exact A7 (uA this (uA h3 h2)))]
theorem oI(hF:s.HO)(hl:low (-1) s.st)(hk:s.key=none)(h:Ab s.buf s.ptr [46,46,46]):
 ∀d,AD PP fu (d+5) Ti [me] [] (s.hp lo g)= .ok .none ((s.marked K4).hp lo g):=by
 obtain⟨h1,h2,h3⟩:=hF;have hu:=HM (lo:=lo) (g:=g) hl (show s.toks.length+s.st.length<=2000 by exact AU (uA h3 h2));have ht:=YL (s:=s) (-1);have hmk:(s.AB (-1)).mark=s.mark:=rfl;have hky:(s.AB (-1)).key=none:=hk;have h':Ab (s.AB (-1)).buf (s.AB (-1)).ptr [46,46,46]:=h;have e:s.marked K4=(({s.AB (-1)with allow:=false,key:=none}).on 3).add (Ax K4 (s.AB (-1)).mark ((s.AB (-1)).on 3).mark):=rfl;rw [e];generalize s.AB (-1)=u at hu ht hmk hky h';obtain⟨bf,p,l,c,ts,tk,sk,al,ky⟩:=u;obtain rfl:ky=none:=hky;exact cert [.call _ _ _ _ _ 3 hu,fw ⟨bf,p,l,c,ts,tk,sk,false,none⟩ lo g [46,46,46] h' rfl (uH rfl),
  Dm ⟨bf,p+3,l,c+3,ts,tk,sk,false,none⟩ lo g (Ax K4 (Ac bf p l c) (Ac bf (p+3) l (c+3))) (by show ts.length<1000000;have:ts.length<=s.toks.length+s.st.length:=ht;exact A7 (uA this (uA h3 h2)))]
theorem N9{c:Nat}{w:List Nat}{x:Nat}{s1:Sc}(hs:∀d,AD PP fu (d+3) JX [me] [] (s.hp lo g)= .ok .none (s1.hp lo g))(he:s1.ptr=s.ptr/\s1.buf=s.buf/\s1.toks.length<=900)
 (h:Ab s.buf s.ptr ((c::w)++[58,x])) (hw:(c::w).all I6=true) (hx:C6 x=true) (hc:(c==35)=false) (hn:w.length<=2000):
 ∃y,∀d,AD PP fu (d+7) Mp [me] [] (s.hp lo g)= .ok .none (((s1.off.on (c::w).length).add (I0 (c::w) true s1.mark (s1.on (c::w).length).mark .none)).hp lo (g++y)):=by
 have hp:=n7 (s:=s1.off) (lo:=lo) (g:=g) (by show Ab s1.buf s1.ptr _;rw [he.1,he.2.1];exact h) hw hx hc hn;refine⟨[L1 [.str (c::w)],L1 [],L1 []],?_⟩;rw [show g++[L1 [.str (c::w)],L1 [],L1 []]=sn (sn (sn g (L1 [.str (c::w)])) (L1 [])) (L1 []) by unfold sn;rw [t8,t8];rfl];exact cert [.call _ _ _ _ _ 3 hs,.call _ _ _ _ _ 6 hp,Dm (s1.off.on (c::w).length) lo (sn (sn (sn g (L1 [.str (c::w)])) (L1 [])) (L1 [])) (I0 (c::w) true s1.mark (s1.on (c::w).length).mark .none) (by show s1.toks.length<1000000;exact A7 he.2.2)]
theorem YM{c x:Nat}{s1:Sc}(hs:∀d,AD PP fu (d+3) JX [me] [] (s.hp lo g)= .ok .none (s1.hp lo g))(he:s1.ptr=s.ptr/\s1.buf=s.buf/\s1.toks.length<=900)
 (h:Ab s.buf s.ptr [39,c,39,x]) (hc:Rd c=false) (hp:EE c=true) (hx:(x==39)=false):
 ∃y,∀d,AD PP fu (d+9) Tj [me] [] (s.hp lo g)= .ok .none (((s1.off.on 3).add (I0 [c] false s1.mark (s1.on 3).mark (.str [39]))).hp lo (g++y)):=by
 have hp:=nj (s:=s1.off) (lo:=lo) (g:=g) (by show Ab s1.buf s1.ptr _;rw [he.1,he.2.1];exact h) hc hp hx;refine⟨[L1 [.str [c]],L1 [.str [c]]],?_⟩;rw [show g++[L1 [.str [c]],L1 [.str [c]]]=sn (sn g (L1 [.str [c]])) (L1 [.str [c]]) by unfold sn;rw [t8];rfl];exact cert [.call _ _ _ _ _ 3 hs,.call _ _ _ _ _ 7 hp,Dm (s1.off.on 3) lo (sn (sn g (L1 [.str [c]])) (L1 [.str [c]])) (I0 [c] false s1.mark (s1.on 3).mark (.str [39])) (by show s1.toks.length<1000000;exact A7 he.2.2)]
def Ld(nm:List Nat)(v a b:AV):AV:=.obj dR [(N.name,.str nm),(N.value,v),(N.Fs,a),(N.H5,b)]
theorem Rg{c:Nat}(h:HK c=true):c=0∨c=13∨c=10∨c=133∨c=8232∨c=8233:=by unfold HK at h;simpa using h
theorem YN{c:Nat}{v:List Nat}{s5:Sc}{a:AV}(h:s.buf[s.ptr]? =some c)(hc:HK c=true)(hb:∀d,AD PP fu (d+4) GL [me] [] (s.hp lo g)= .ok (.str v) (s5.hp lo g)):
 ∀d,AD PP fu (d+5) dJ [me,a] [] (s.hp lo g)= .ok .none (s5.hp lo g):=by
 have zx:(c==32)=false:=by rcases Rg hc with rfl |rfl |rfl |rfl |rfl |rfl<;>rfl
 have h35:(c==35)=false:=by rcases Rg hc with rfl |rfl |rfl |rfl |rfl |rfl<;>rfl
 have hsp:=J5 (s:=s) (lo:=lo) (g:=g) (x:=[(N.Fs,a)]) (n:=0) (c:=c) (fun i x e=> by
  cases i with
  |zero=> cases e;exact h
  |succ i=> cases e) zx (uH rfl)
 exact cert [.Ao H8 _ _ 2 hsp,Bd s lo g h,Lb c 35 h35,Bd s lo g h,N0 c [0,13,10,133,8232,8233] (b:=false) (congrArg not hc),.call _ _ _ _ _ 4 hb]
theorem YO{c:Nat}{v:List Nat}{s5:Sc}(h:Ab s.buf s.ptr [37,100,32,119,c])(hc:HK c=true)(hb:∀d,AD PP fu (d+4) GL [me] [] ((s.on 4).hp lo g)= .ok (.str v) (s5.hp lo g)):
 ∀d,AD PP fu (d+6) Mr [me] [] (s.hp lo g)= .ok (Ld [100] .none s.mark (s.on 2).mark) (s5.hp lo g):=by
 have e2:(s.on 1).on 1=s.on 2:=Sc.H7 s 1 1;have hr:∀d,Az PP fu (AD PP fu (d+2)) Iw (Cn (s.on 2) lo g [(N.Fs,s.mark),(N.name,.str [100]),(N.value,.none),(N.H5,(s.on 2).mark)] 0)= .ok .next (Cn (s.on 2) lo g [(N.Fs,s.mark),(N.name,.str [100]),(N.value,.none),(N.H5,(s.on 2).mark)] 2):=
  RW (w:=[32,119]) h.tail.tail rfl hc (uH rfl)
 have hi:=YN (s:=s.on 4) (a:=s.mark) (c:=c) h.tail.tail.tail.tail.head hc hb;have h1:Ab (s.on 1).buf (s.on 1).ptr [100,32,119,c]:=h.tail;exact cert [FO s lo g h.head rfl,pk (s.on 1) lo g 0 h1.head,pk (s.on 1) lo g 1 h1.tail.head,pf (s.on 1) lo g [100] (h1.left (u:=[100])) nofun,fw (s.on 1) lo g [100] (h1.left (u:=[100])) rfl (uH rfl),
  Bd (s.on 2) lo g h.tail.tail.head,.Ao Iw _ _ 2 hr,.call _ _ _ _ _ 5 hi]
def Ga:List Nat:=[37,89,65,77,76,32,49,46,49]
theorem YP{c:Nat}{v:List Nat}{s5:Sc}(h:Ab s.buf s.ptr (Ga++[c]))(hc:HK c=true)(hb:∀d,AD PP fu (d+4) GL [me] [] ((s.on 9).hp lo g)= .ok (.str v) (s5.hp lo g)):
 ∀d,AD PP fu (d+6) Mr [me] [] (s.hp lo g)= .ok (Ld [89,65,77,76] (.tup [.int 1,.int 1]) s.mark (s.on 9).mark) (s5.hp lo g):=by
 have zO:∀n x,(Ga++[c])[n]? =some x->s.buf[s.ptr+n]? =some x:=fun n x e=> h n x e;have hi:=YN (s:=s.on 9) (a:=s.mark) (c:=c) (zO 9 c rfl) hc hb;have h1:Ab (s.on 1).buf (s.on 1).ptr [89,65,77,76]:=h.tail.left (u:=[89,65,77,76]);have hsp:∀d,Az PP fu (AD PP fu (d+2)) H8 (Cn (s.on 5) lo g [(N.Fs,s.mark)] 0)= .ok .next (Cn (s.on 5) lo g [(N.Fs,s.mark)] 1):=
  J5 (s:=s.on 5) (n:=1) (c:=49) ((h.tail.tail.tail.tail.tail).left (u:=[32,49])) rfl (uH rfl)
 have h6:Ab (s.on 6).buf (s.on 6).ptr [49]:=(h.tail.tail.tail.tail.tail.tail).left (u:=[49]);have h8:Ab (s.on 8).buf (s.on 8).ptr [49]:=(h.tail.tail.tail.tail.tail.tail.tail.tail).left (u:=[49]);rcases Rg hc with rfl |rfl |rfl |rfl |rfl |rfl
 all_goals exact cert [FO s lo g h.head rfl,pk (s.on 1) lo g 0 h1.head,pk (s.on 1) lo g 1 h1.tail.head,pk (s.on 1) lo g 2 h1.tail.tail.head,pk (s.on 1) lo g 3 h1.tail.tail.tail.head,pk (s.on 1) lo g 4 (zO 5 32 rfl),pf (s.on 1) lo g [89,65,77,76] h1 nofun,
  fw (s.on 1) lo g [89,65,77,76] h1 rfl (uH rfl),Bd (s.on 5) lo g (zO 5 32 rfl),.Ao H8 _ _ 2 hsp,
  Bd (s.on 6) lo g (zO 6 49 rfl),pk (s.on 6) lo g 0 (zO 6 49 rfl),pk (s.on 6) lo g 1 (zO 7 46 rfl),pf (s.on 6) lo g [49] h6 nofun,fw (s.on 6) lo g [49] h6 rfl (uH rfl),
  Bd (s.on 7) lo g (zO 7 46 rfl),FO (s.on 7) lo g (zO 7 46 rfl) rfl,
  Bd (s.on 8) lo g (zO 8 49 rfl),pk (s.on 8) lo g 0 (zO 8 49 rfl),pk (s.on 8) lo g 1 (zO 9 _ rfl),pf (s.on 8) lo g [49] h8 nofun,fw (s.on 8) lo g [49] h8 rfl (uH rfl),
  Bd (s.on 9) lo g (zO 9 _ rfl),.call _ _ _ _ _ 5 hi]
def Sc.OA(s:Sc):Sc:={s.AB (-1)with allow:=false,key:=none}
theorem oJ{v:AV}{s5:Sc}(hF:s.HO)(hl:low (-1) s.st)(hk:s.key=none)(hd:∀d,AD PP fu (d+6) Mr [me] [] (s.OA.hp lo g)= .ok v (s5.hp lo g))(h5:s5.toks.length<=2000):
 ∀d,AD PP fu (d+7) Tg [me] [] (s.hp lo g)= .ok .none ((s5.add v).hp lo g):=by
 obtain⟨h1,h2,h3⟩:=hF;have hu:=HM (lo:=lo) (g:=g) hl (show s.toks.length+s.st.length<=2000 by exact AU (uA h3 h2));have hky:(s.AB (-1)).key=none:=hk;unfold Sc.OA at hd;generalize s.AB (-1)=u at hu hd hky;obtain⟨bf,p,l,c,ts,tk,sk,al,ky⟩:=u;obtain rfl:ky=none:=hky;exact cert [.call _ _ _ _ _ 3 hu,.call _ _ _ _ _ 6 hd,Dm s5 lo g v (by show s5.toks.length<1000000;exact BF)]
end
section
variable{s:Sc}{lo g:List AObj}
theorem Rh(h:s.col≠0):∀d,AD PP fu (d+4) G3 [me] [] (s.hp lo g)= .ok .none (s.hp lo g):=
 cert [BW s.col 0 (b:=false) (by rw [beq_eq_false_iff_ne];exact Eg)]
theorem oK(h:s.col=0)(hl:s.ptr<=s.buf.length)(hp:(s.pre 3==[45,45,45])=false):∀d,AD PP fu (d+4) G3 [me] [] (s.hp lo g)= .ok .none (s.hp lo g):=
 cert [BW s.col 0 (b:=true) (by rw [h];rfl),.call IW [me,.int 3] [] (s.hp lo g) (.ok (.str (s.pre 3)) (s.hp lo g)) 2 (Nr (n:=3) hl),nh (s.pre 3) [45,45,45] hp]
theorem Ri{x:Nat}{b:Bool}(h:s.col=0)(hh:Ab s.buf s.ptr [45,45,45,x])(hx:C6 x=b):∀d,AD PP fu (d+4) G3 [me] [] (s.hp lo g)= .ok (if b=true then .bool true else .none) (s.hp lo g):=by
 cases(b)
 all_goals exact cert [BW s.col 0 (b:=true) (by rw [h];rfl),pf s lo g [45,45,45] (hh.left (u:=[45,45,45])) nofun,pk s lo g 3 (hh.tail.tail.tail.head),DS x _ hx]
theorem oM(h:s.col≠0):∀d,AD PP fu (d+4) Kz [me] [] (s.hp lo g)= .ok .none (s.hp lo g):=
 cert [BW s.col 0 (b:=false) (by rw [beq_eq_false_iff_ne];exact Eg)]
theorem YQ{x:Nat}{b:Bool}(h:s.col=0)(hh:Ab s.buf s.ptr [46,46,46,x])(hx:C6 x=b):∀d,AD PP fu (d+4) Kz [me] [] (s.hp lo g)= .ok (if b=true then .bool true else .none) (s.hp lo g):=by
 cases(b)
 all_goals exact cert [BW s.col 0 (b:=true) (by rw [h];rfl),pf s lo g [46,46,46] (hh.left (u:=[46,46,46])) nofun,pk s lo g 3 (hh.tail.tail.tail.head),DS x _ hx]
structure Pre(s s3:Sc):Prop where
 ex:∃s1 s2:Sc,(∀lo g d,AD PP fu (d+5) Mq [me] [] (s.hp lo g)= .ok .none (s1.hp lo g))/\(∀lo g d,AD PP fu (d+2) G2 [me] [] (s1.hp lo g)= .ok .none (s2.hp lo g))/\
  ∀lo g d,AD PP fu (d+3) Ku [me,.int s2.col] [] (s2.hp lo g)= .ok .none (s3.hp lo g)
theorem oN{s3:Sc}{v:AV}{h4:Hp}(hp:Pre s s3)(h:s3.buf[s3.ptr]? =some 0)(hf:∀d,AD PP fu (d+9) Mm [me] [] (s3.hp lo g)= .ok v h4):∀d,AD PP fu (d+12) CJ [me] [] (s.hp lo g)= .ok v h4:=by obtain⟨s1,s2,h1,h2,h3⟩:=hp.ex;exact cert [.call _ _ _ _ _ 5 (h1 lo g),.call _ _ _ _ _ 2 (h2 lo g),.call _ _ _ _ _ 3 (h3 lo g),Bd s3 lo g h,.call _ _ _ _ _ 9 hf]
theorem oO{s3:Sc}{v:AV}{h4:Hp}(hp:Pre s s3)(h:s3.buf[s3.ptr]? =some 0)(hf:∀d,AD PP fu (d+9) Mm [me] [] (s3.hp lo g)= .exc v h4):∀d,AD PP fu (d+12) CJ [me] [] (s.hp lo g)= .exc v h4:=by obtain⟨s1,s2,h1,h2,h3⟩:=hp.ex;exact cert [.call _ _ _ _ _ 5 (h1 lo g),.call _ _ _ _ _ 2 (h2 lo g),.call _ _ _ _ _ 3 (h3 lo g),Bd s3 lo g h,.call _ _ _ _ _ 9 hf]
theorem oP{s3:Sc}{v:AV}{h4:Hp}(hp:Pre s s3)(h:s3.buf[s3.ptr]? =some 37)(hz:s3.col=0)(hf:∀d,AD PP fu (d+9) Tg [me] [] (s3.hp lo g)= .ok v h4):∀d,AD PP fu (d+12) CJ [me] [] (s.hp lo g)= .ok v h4:=by obtain⟨s1,s2,h1,h2,h3⟩:=hp.ex;exact cert [.call _ _ _ _ _ 5 (h1 lo g),.call _ _ _ _ _ 2 (h2 lo g),.call _ _ _ _ _ 3 (h3 lo g),Bd s3 lo g h,.skip,.skip,BW s3.col 0 (b:=true) (by rw [hz];rfl),.call _ _ _ _ _ 9 hf]
theorem oQ{s3:Sc}{v:AV}{h4:Hp}(hp:Pre s s3)(h:s3.buf[s3.ptr]? =some 45)(hc:∀lo g d,AD PP fu (d+4) G3 [me] [] (s3.hp lo g)= .ok (.bool true) (s3.hp lo g))(hf:∀d,AD PP fu (d+9) Th [me] [] (s3.hp lo g)= .ok v h4):∀d,AD PP fu (d+12) CJ [me] [] (s.hp lo g)= .ok v h4:=by obtain⟨s1,s2,h1,h2,h3⟩:=hp.ex;exact cert [.call _ _ _ _ _ 5 (h1 lo g),.call _ _ _ _ _ 2 (h2 lo g),.call _ _ _ _ _ 3 (h3 lo g),Bd s3 lo g h,.call _ _ _ _ _ 4 (hc lo g),.call _ _ _ _ _ 9 hf]
theorem oR{s3:Sc}{v:AV}{h4:Hp}(hp:Pre s s3)(h:s3.buf[s3.ptr]? =some 46)(hc:∀lo g d,AD PP fu (d+4) Kz [me] [] (s3.hp lo g)= .ok (.bool true) (s3.hp lo g))(hf:∀d,AD PP fu (d+9) Ti [me] [] (s3.hp lo g)= .ok v h4):∀d,AD PP fu (d+12) CJ [me] [] (s.hp lo g)= .ok v h4:=by obtain⟨s1,s2,h1,h2,h3⟩:=hp.ex;exact cert [.call _ _ _ _ _ 5 (h1 lo g),.call _ _ _ _ _ 2 (h2 lo g),.call _ _ _ _ _ 3 (h3 lo g),Bd s3 lo g h,.call _ _ _ _ _ 4 (hc lo g),.call _ _ _ _ _ 9 hf]
theorem oS{s3:Sc}{v:AV}{h4:Hp}(hp:Pre s s3)(h:s3.buf[s3.ptr]? =some 45)(hc:∀lo g d,AD PP fu (d+4) G3 [me] [] (s3.hp lo g)= .ok .none (s3.hp lo g)){x:Nat}(h':s3.buf[s3.ptr+1]? =some x)(hx:C6 x=true)(hf:∀d,AD PP fu (d+9) Mn [me] [] (s3.hp lo g)= .ok v h4):∀d,AD PP fu (d+12) CJ [me] [] (s.hp lo g)= .ok v h4:=by obtain⟨s1,s2,h1,h2,h3⟩:=hp.ex;exact cert [.call _ _ _ _ _ 5 (h1 lo g),.call _ _ _ _ _ 2 (h2 lo g),.call _ _ _ _ _ 3 (h3 lo g),Bd s3 lo g h,.call _ _ _ _ _ 4 (hc lo g),pk s3 lo g 1 h',DS x _ hx,.call _ _ _ _ _ 9 hf]
theorem oT{s3:Sc}{v:AV}{h4:Hp}(hp:Pre s s3)(h:s3.buf[s3.ptr]? =some 45)(hc:∀lo g d,AD PP fu (d+4) G3 [me] [] (s3.hp lo g)= .ok .none (s3.hp lo g)){x:Nat}(h':s3.buf[s3.ptr+1]? =some x)(hx:C6 x=true)(hf:∀d,AD PP fu (d+9) Mn [me] [] (s3.hp lo g)= .exc v h4):∀d,AD PP fu (d+12) CJ [me] [] (s.hp lo g)= .exc v h4:=by obtain⟨s1,s2,h1,h2,h3⟩:=hp.ex;exact cert [.call _ _ _ _ _ 5 (h1 lo g),.call _ _ _ _ _ 2 (h2 lo g),.call _ _ _ _ _ 3 (h3 lo g),Bd s3 lo g h,.call _ _ _ _ _ 4 (hc lo g),pk s3 lo g 1 h',DS x _ hx,.call _ _ _ _ _ 9 hf]
theorem oU{s3:Sc}{v:AV}{h4:Hp}(hp:Pre s s3)(h:s3.buf[s3.ptr]? =some 63){x:Nat}(h':s3.buf[s3.ptr+1]? =some x)(hx:C6 x=true)(hf:∀d,AD PP fu (d+9) Mo [me] [] (s3.hp lo g)= .ok v h4):∀d,AD PP fu (d+12) CJ [me] [] (s.hp lo g)= .ok v h4:=by obtain⟨s1,s2,h1,h2,h3⟩:=hp.ex;exact cert [.call _ _ _ _ _ 5 (h1 lo g),.call _ _ _ _ _ 2 (h2 lo g),.call _ _ _ _ _ 3 (h3 lo g),Bd s3 lo g h,pk s3 lo g 1 h',DS x _ hx,.call _ _ _ _ _ 9 hf]
theorem oV{s3:Sc}{v:AV}{h4:Hp}(hp:Pre s s3)(h:s3.buf[s3.ptr]? =some 63){x:Nat}(h':s3.buf[s3.ptr+1]? =some x)(hx:C6 x=true)(hf:∀d,AD PP fu (d+9) Mo [me] [] (s3.hp lo g)= .exc v h4):∀d,AD PP fu (d+12) CJ [me] [] (s.hp lo g)= .exc v h4:=by obtain⟨s1,s2,h1,h2,h3⟩:=hp.ex;exact cert [.call _ _ _ _ _ 5 (h1 lo g),.call _ _ _ _ _ 2 (h2 lo g),.call _ _ _ _ _ 3 (h3 lo g),Bd s3 lo g h,pk s3 lo g 1 h',DS x _ hx,.call _ _ _ _ _ 9 hf]
theorem YR{s3:Sc}{v:AV}{h4:Hp}(hp:Pre s s3)(h:s3.buf[s3.ptr]? =some 58){x:Nat}(h':s3.buf[s3.ptr+1]? =some x)(hx:C6 x=true)(hf:∀d,AD PP fu (d+9) Kx [me] [] (s3.hp lo g)= .ok v h4):∀d,AD PP fu (d+12) CJ [me] [] (s.hp lo g)= .ok v h4:=by obtain⟨s1,s2,h1,h2,h3⟩:=hp.ex;exact cert [.call _ _ _ _ _ 5 (h1 lo g),.call _ _ _ _ _ 2 (h2 lo g),.call _ _ _ _ _ 3 (h3 lo g),Bd s3 lo g h,pk s3 lo g 1 h',DS x _ hx,.call _ _ _ _ _ 9 hf]
theorem YT{s3:Sc}{v:AV}{h4:Hp}(hp:Pre s s3)(h:s3.buf[s3.ptr]? =some 58){x:Nat}(h':s3.buf[s3.ptr+1]? =some x)(hx:C6 x=true)(hf:∀d,AD PP fu (d+9) Kx [me] [] (s3.hp lo g)= .exc v h4):∀d,AD PP fu (d+12) CJ [me] [] (s.hp lo g)= .exc v h4:=by obtain⟨s1,s2,h1,h2,h3⟩:=hp.ex;exact cert [.call _ _ _ _ _ 5 (h1 lo g),.call _ _ _ _ _ 2 (h2 lo g),.call _ _ _ _ _ 3 (h3 lo g),Bd s3 lo g h,pk s3 lo g 1 h',DS x _ hx,.call _ _ _ _ _ 9 hf]
theorem YU{s3:Sc}{v:AV}{h4:Hp}(hp:Pre s s3)(h:s3.buf[s3.ptr]? =some 39)(hf:∀d,AD PP fu (d+9) Tj [me] [] (s3.hp lo g)= .ok v h4):∀d,AD PP fu (d+12) CJ [me] [] (s.hp lo g)= .ok v h4:=by obtain⟨s1,s2,h1,h2,h3⟩:=hp.ex;exact cert [.call _ _ _ _ _ 5 (h1 lo g),.call _ _ _ _ _ 2 (h2 lo g),.call _ _ _ _ _ 3 (h3 lo g),Bd s3 lo g h,.call _ _ _ _ _ 9 hf]
theorem oW{s3:Sc}{v:AV}{h4:Hp}(hp:Pre s s3)(h:s3.buf[s3.ptr]? =some 119)(hf:∀d,AD PP fu (d+9) Mp [me] [] (s3.hp lo g)= .ok v h4):∀d,AD PP fu (d+12) CJ [me] [] (s.hp lo g)= .ok v h4:=by obtain⟨s1,s2,h1,h2,h3⟩:=hp.ex;exact cert [.call _ _ _ _ _ 5 (h1 lo g),.call _ _ _ _ _ 2 (h2 lo g),.call _ _ _ _ _ 3 (h3 lo g),Bd s3 lo g h,Bd s3 lo g h,.call _ _ _ _ _ 9 hf]
theorem YV{s3:Sc}{v:AV}{h4:Hp}(hp:Pre s s3)(h:s3.buf[s3.ptr]? =some 45)(hc:∀lo g d,AD PP fu (d+4) G3 [me] [] (s3.hp lo g)= .ok .none (s3.hp lo g)){x:Nat}(h':s3.buf[s3.ptr+1]? =some x)(hx:C6 x=false)(hf:∀d,AD PP fu (d+9) Mp [me] [] (s3.hp lo g)= .ok v h4):∀d,AD PP fu (d+12) CJ [me] [] (s.hp lo g)= .ok v h4:=by obtain⟨s1,s2,h1,h2,h3⟩:=hp.ex;exact cert [.call _ _ _ _ _ 5 (h1 lo g),.call _ _ _ _ _ 2 (h2 lo g),.call _ _ _ _ _ 3 (h3 lo g),Bd s3 lo g h,.call _ _ _ _ _ 4 (hc lo g),pk s3 lo g 1 h',DS x _ hx,Bd s3 lo g h,.skip,pk s3 lo g 1 h',N0 x _ (b:=true) (congrArg not hx),.call _ _ _ _ _ 9 hf]
theorem oY{s3:Sc}{v:AV}{h4:Hp}(hp:Pre s s3)(h:s3.buf[s3.ptr]? =some 46)(hc:∀lo g d,AD PP fu (d+4) Kz [me] [] (s3.hp lo g)= .ok .none (s3.hp lo g))(hf:∀d,AD PP fu (d+9) Mp [me] [] (s3.hp lo g)= .ok v h4):∀d,AD PP fu (d+12) CJ [me] [] (s.hp lo g)= .ok v h4:=by obtain⟨s1,s2,h1,h2,h3⟩:=hp.ex;exact cert [.call _ _ _ _ _ 5 (h1 lo g),.call _ _ _ _ _ 2 (h2 lo g),.call _ _ _ _ _ 3 (h3 lo g),Bd s3 lo g h,.call _ _ _ _ _ 4 (hc lo g),Bd s3 lo g h,.call _ _ _ _ _ 9 hf]
theorem oZ{s3:Sc}(hp:Pre s s3)(h:s3.buf[s3.ptr]? =some 37)(hz:s3.col≠0){x:Nat}(h':s3.buf[s3.ptr+1]? =some x)(hx:C6 x=false):
 ∀d,AD PP fu (d+12) CJ [me] [] (s.hp lo g)= .exc (Iy (.str [119,104,105,108,101,32,115,99,97,110,110,105,110,103,32,102,111,114,32,116,104,101,32,110,101,120,116,32,116,111,107,101,110]) .none .Gm s3.mark) (s3.hp lo g):=by
 obtain⟨s1,s2,h1,h2,h3⟩:=hp.ex;exact cert [.call _ _ _ _ _ 5 (h1 lo g),.call _ _ _ _ _ 2 (h2 lo g),.call _ _ _ _ _ 3 (h3 lo g),Bd s3 lo g h,.skip,.skip,BW s3.col 0 (b:=false) (by rw [beq_eq_false_iff_ne];exact Eg),Bd s3 lo g h,.skip,pk s3 lo g 1 h',N0 x _ (b:=true) (congrArg not hx)]
theorem og{s1:Sc}{e:AV}(h1:∀d,AD PP fu (d+5) Mq [me] [] (s.hp lo g)= .ok .none (s1.hp lo g))(h2:∀d,AD PP fu (d+2) G2 [me] [] (s1.hp lo g)= .exc e (s1.hp lo g)):
 ∀d,AD PP fu (d+12) CJ [me] [] (s.hp lo g)= .exc e (s1.hp lo g):=
 cert [.call _ _ _ _ _ 5 h1,.call _ _ _ _ _ 2 h2]
end
section
variable{s:Sc}{lo g:List AObj}
def Sc.oj(s:Sc)(kr:Nat)(dn:Bool):List (N×AV):=[(N.name,.str Nl),(N.stream,.none),(N.RI,.int 0),(N.eof,.bool true),(N.buffer,.str s.buf),(N.Nk,.int s.ptr),(N.RJ,.none),(N.RK,.none),
 (N.encoding,.none),(N.index,.int s.ptr),(N.line,.int s.line),(N.column,.int s.col),(N.Xc,.bool dn),(N.Xd,.int 0),(N.tokens,.ref 3),(N.Xe,.int s.taken),(N.indent,.int (s.st.headD 0)),(N.Xf,.ref 5),(N.Xg,.bool s.allow),
 (N.Xh,.ref kr)]
def Sc.Fv(s:Sc)(kr:Nat)(dn:Bool)(lo g:List AObj):Hp:=⟨lo,.ins 1048 (s.oj kr dn)::.lst s.toks::.lst (s.st.tail.reverse.map .int)::.A4 (Xi s.buf s.key)::g⟩
structure Ph where
 s:Sc
 dn:Bool
def run(s:Sc):Ph:=⟨s,false⟩
def fin(s:Sc):Ph:=⟨s,true⟩
def Ba(p:Ph)(lo g:List AObj)(h:Hp):Prop:=∃kr,h=p.s.Fv kr p.dn lo g/\(p.dn=false->kr=7)
theorem Ba.run(s:Sc)(lo g:List AObj):Ba (run s) lo g (s.hp lo g):=⟨7,rfl,fun _=> rfl⟩
theorem Ba.of{s:Sc}{lo g:List AObj}{h:Hp}(e:Ba (L4.run s) lo g h):h=s.hp lo g:=by obtain(⟨kr,e,e2⟩):=e;rw [e2 rfl]at e;exact e
def OB(m:AV):AV:=Ax Tn m m
theorem om{u:Sc}(hu:∀d,AD PP fu (d+3) Ku [me,.int (-1)] [] (s.hp lo g)= .ok .none (u.hp lo g)){u1:Sc}(hr:∀d,AD PP fu (d+2) JY [me] [] (u.hp lo g)= .ok .none (u1.hp lo g))(ht:u1.toks.length<=2000):
 ∀d,AD PP fu (d+4) Mm [me] [] (s.hp lo g)= .ok .none ((u1.off.add (OB u1.mark)).Fv (BC g.length) true lo (sn g (.A4 []))):=by
 have hb:Bv (u1.off.Fv (BC g.length) false lo (sn g (.A4 []))) (.ref 3) N.append [OB u1.mark]=some (.none,(u1.off.add (OB u1.mark)).Fv (BC g.length) false lo (sn g (.A4 []))):=
  Fu (h:=u1.off.Fv (BC g.length) false lo (sn g (.A4 []))) (r:=3) (xs:=u1.toks) rfl (by show u1.toks.length<1000000;exact BF)
 exact cert [.call _ _ _ _ _ 3 hu,.call _ _ _ _ _ 2 hr,.BA _ _ N.append _ _ _ hb]
theorem oo{u:Sc}{e:AV}(hu:∀d,AD PP fu (d+3) Ku [me,.int (-1)] [] (s.hp lo g)= .ok .none (u.hp lo g))(hr:∀d,AD PP fu (d+2) JY [me] [] (u.hp lo g)= .exc e (u.hp lo g)):
 ∀d,AD PP fu (d+4) Mm [me] [] (s.hp lo g)= .exc e (u.hp lo g):=
 cert [.call _ _ _ _ _ 3 hu,.call _ _ _ _ _ 2 hr]
def Ex(p q:Ph):Prop:=∀lo g h,Ba p lo g h->∃h',Ba q lo g h'/\∀d,AD PP fu (d+4) IX [me] [] h= .ok (.bool true) h'
def Not(p q:Ph):Prop:=∀lo g h,Ba p lo g h->∃h' v,Ba q lo g h'/\(v= .none∨v= .bool false)/\∀d,AD PP fu (d+4) IX [me] [] h= .ok v h'
def CY(p q:Ph):Prop:=∀lo g h,Ba p lo g h->∃y h',Ba q lo (g++y) h'/\∀d,AD PP fu (d+12) CJ [me] [] h= .ok .none h'
def Fw(p:Ph)(e:AV):Prop:=∀lo g h,Ba p lo g h->∃q y h',Ba q lo (g++y) h'/\∀d,AD PP fu (d+12) CJ [me] [] h= .exc e h'
inductive Gb:Ph->Nat->Ph->Prop
 |nil (p:Ph):Gb p 0 p
 |cons {p q r z:Ph} {n:Nat} (h1:Ex p q) (h2:CY q r) (h3:Gb r n z):Gb p (n+1) z
def EF:CS:=B9 Tb 0
def DE(h:Hp):St:=⟨[(N.self,me)],h⟩
theorem Rj{p:Ph}{h h':Hp}(e:∃kr dn lo g,h=p.s.Fv kr dn lo g){v:AV}{b:Bool}(hv:truthy h' v=some b)(hv2:v= .none∨∃b,v= .bool b)(hn:∀d,AD PP fu (d+4) IX [me] [] h= .ok v h'):∀d,A8 PP (AD PP fu (d+12)) (CG EF) (DE h)= .ok b (DE h'):=by
 obtain⟨kr,dn,lo,g,rfl⟩:=e;rcases hv2 with rfl |⟨c,rfl⟩
 . cases hv;exact Cx [.call _ _ _ _ _ 4 hn]
 . cases hv;exact Cx [.call _ _ _ _ _ 4 hn]
theorem oq{p:Ph}{h h':Hp}(e:∃kr dn lo g,h=p.s.Fv kr dn lo g)(hn:∀d,AD PP fu (d+12) CJ [me] [] h= .ok .none h'):∀d,AN PP fu (AD PP fu (d+12)) (BM EF) (DE h)= .ok .next (DE h'):=by obtain⟨kr,dn,lo,g,rfl⟩:=e;exact AZ [.call _ _ _ _ _ 12 hn]
theorem ot{p:Ph}{h h':Hp}{x:AV}(e:∃kr dn lo g,h=p.s.Fv kr dn lo g)(hn:∀d,AD PP fu (d+12) CJ [me] [] h= .exc x h'):∀d,AN PP fu (AD PP fu (d+12)) (BM EF) (DE h)= .exc x (DE h'):=by obtain⟨kr,dn,lo,g,rfl⟩:=e;exact AZ [.call _ _ _ _ _ 12 hn]
theorem Ba.ex{p:Ph}{lo g:List AObj}{h:Hp}(e:Ba p lo g h):∃kr dn lo g,h=p.s.Fv kr dn lo g:=by obtain(⟨kr,e,_⟩):=e;exact⟨_,_,_,_,e⟩
theorem YW{r:Ph->Hp->Out Flow}{p z:Ph}{n:Nat}(H:Gb p n z):∀{lo g:List AObj} {h:Hp},Ba p lo g h->∃y h',Ba z lo (g++y) h'/\
 ∀(m d:Nat) (R:Out Flow),B0 (fun s=> A8 PP (AD PP fu (d+12)) (CG EF) s) (fun s=> AN PP fu (AD PP fu (d+12)) (BM EF) s) m (DE h')=R->B0 (fun s=> A8 PP (AD PP fu (d+12)) (CG EF) s) (fun s=> AN PP fu (AD PP fu (d+12)) (BM EF) s) (m+n) (DE h)=R:=by
 induction H with
 |nil p=> intro lo g h e;exact⟨[],h,by rw [uD];exact e,fun m d R x=> x⟩
 |cons h1 h2 h3 ih=> intro lo g h e;refine cps fun yv yt=> ?_;obtain⟨h',e1,n1⟩:=h1 lo g h e;obtain⟨y,h'',e2,n2⟩:=h2 lo g h' e1;obtain⟨y',h3',e3,n3⟩:=ih e2;refine yt ?_;refine⟨y++y',h3',by rw [<-t8];exact e3,fun m d R x=> ?_⟩;rw [<-ui];exact(HJ (Rj e.ex rfl (.inr ⟨_,rfl⟩) n1 d) (oq e1.ex n2 d)).trans (n3 m d R x)
def OC(p:Ph)(v:AV)(q:Ph):Prop:=∀lo g h,Ba p lo g h->∃y h',Ba q lo (g++y) h'/\∀d,AD PP fu (d+13) Ml [me] [] h= .ok v h'
def YX(p:Ph)(e:AV):Prop:=∀lo g h,Ba p lo g h->∃q y h',Ba q lo (g++y) h'/\∀d,AD PP fu (d+13) Ml [me] [] h= .exc e h'
def Ph.Rk(p:Ph)(r:List AV):Ph:=⟨{p.s with toks:=r,taken:=p.s.taken+1},p.dn⟩
theorem ou{p q z:Ph}{n:Nat}{v:AV}{r:List AV}(H:Gb p n q)(hn:n<=100)(hz:Not q z)(ht:z.s.toks=v::r):OC p v (z.Rk r):=fun lo g h e=> by
 refine cps fun yv yt=> ?_;obtain⟨y,h',e1,w⟩:=YW (r:=fun _ _=>.bad) H e;obtain⟨h2,u,e2,hu,w2⟩:=hz lo (g++y) h' e1;have hl:∀d,Az PP fu (AD PP fu (d+12)) EF (DE h)= .ok .next (DE h2):=fun d=> by
  show B0 (fun s=> A8 PP (AD PP fu (d+12)) (CG EF) s) (fun s=> AN PP fu (AD PP fu (d+12)) (BM EF) s) 5000 (DE h)=_;have:=w (5000 - n) d _ (show B0 _ _ (5000 - n) (DE h')= .ok .next (DE h2)from by obtain⟨m,hm⟩:∃m,5000 - n=m+1:=⟨5000 - n - 1,by lia⟩;rw [hm];exact H6 (Rj e1.ex (by rcases hu with rfl |rfl<;>rfl) (hu.imp id fun x=> ⟨_,x⟩) w2 d))
  rw [show 5000 - n+n=5000 by lia]at this;exact this
 obtain⟨kr,rfl,hk⟩:=e2;obtain⟨kr',rfl,_⟩:=e;obtain⟨⟨bf,p1,l,c,ts,tk,sk,al,ky⟩,dn⟩:=z;obtain rfl:ts=v::r:=ht;refine yt ?_;refine⟨y,(Ph.Rk ⟨⟨bf,p1,l,c,v::r,tk,sk,al,ky⟩,dn⟩ r).s.Fv kr dn lo (g++y),⟨kr,rfl,hk⟩,?_⟩;generalize g++y=g' at hl;exact cert [.Ao EF _ _ 12 hl]
theorem get_none{p:Ph}(ht:p.s.toks=[])(hd:p.dn=true):OC p .none p:=fun lo g h e=> by obtain⟨kr,rfl,hk⟩:=e;refine⟨[],_,by rw [uD];exact⟨kr,rfl,hk⟩,?_⟩;obtain⟨⟨bf,p1,l,c,ts,tk,sk,al,ky⟩,dn⟩:=p;obtain rfl:ts=[]:=ht;obtain rfl:dn=true:=hd;exact cert []
theorem oy{p q q':Ph}{n:Nat}{x:AV}(H:Gb p n q)(hn:n<=100)(hz:Ex q q')(hx:Fw q' x):YX p x:=fun lo g h e=> by
 obtain⟨y,h',e1,w⟩:=YW (r:=fun _ _=>.bad) H e;obtain⟨h2,e2,w2⟩:=hz lo (g++y) h' e1;obtain⟨q3,y3,h3,e3,w3⟩:=hx lo (g++y) h2 e2;refine⟨q3,y++y3,h3,by rw [<-t8];exact e3,?_⟩;have hl:∀d,Az PP fu (AD PP fu (d+12)) EF (DE h)= .exc x (DE h3):=fun d=> by
  show B0 (fun s=> A8 PP (AD PP fu (d+12)) (CG EF) s) (fun s=> AN PP fu (AD PP fu (d+12)) (BM EF) s) 5000 (DE h)=_;have:=w (5000 - n) d _ (show B0 _ _ (5000 - n) (DE h')= .exc x (DE h3)from by obtain⟨m,hm⟩:∃m,5000 - n=m+1:=⟨5000 - n - 1,by lia⟩;rw [hm];exact Xj (Rj e1.ex rfl (.inr ⟨_,rfl⟩) w2 d) (ot e2.ex w3 d))
  rw [show 5000 - n+n=5000 by lia]at this;exact this
 obtain⟨kr',rfl,_⟩:=e;exact cert [.Ao EF _ _ 12 hl]
end
end L4
end Internal
section
namespace Internal
abbrev N.Le:N:=126870958469236
abbrev N.rows:N:=1919907699
abbrev N.n:N:=110
abbrev N.row:N:=7499639
abbrev N.AA:N:=6583653
abbrev N.refused:N:=32199638076581220
abbrev N.place:N:=482854658917
abbrev N.bare:N:=1650553445
abbrev N.Rl:N:=32478892437431666
abbrev N.got:N:=6778740
abbrev N.met:N:=7169396
abbrev N.token:N:=500085515630
abbrev N.where_:N:=512852587109
namespace L4
variable{s:Sc}{lo g:List AObj}
structure Mk where
 ptr:Nat
 line:Nat
 col:Nat
def Mk.v(b:List Nat)(m:Mk):AV:=Ac b m.ptr m.line m.col
inductive Kd where |ds |de |se |bs |bm |be |ky |va |en
def Kd.cls:Kd->Nat
 | .ds=> K3
 | .de=> K4
 | .se=> Tn
 | .bs=> JZ
 | .bm=> D5
 | .be=> dT
 | .ky=> EU
 | .va=> IY
 | .en=> Ms
def Kd.id:Kd->List Nat
 | .ds=>[60,100,111,99,117,109,101,110,116,32,115,116,97,114,116,62]
 | .de=>[60,100,111,99,117,109,101,110,116,32,101,110,100,62]
 | .se=>[60,115,116,114,101,97,109,32,101,110,100,62]
 | .bs=>[60,98,108,111,99,107,32,115,101,113,117,101,110,99,101,32,115,116,97,114,116,62]
 | .bm=>[60,98,108,111,99,107,32,109,97,112,112,105,110,103,32,115,116,97,114,116,62]
 | .be=>[60,98,108,111,99,107,32,101,110,100,62]
 | .ky=>[63]
 | .va=>[58]
 | .en=>[45]
inductive Tk where
 |two (k:Kd) (a b:Mk)
 |Lf (w:List Nat) (pl:Bool) (a b:Mk) (J7:AV)
 |dir (nm:List Nat) (v:AV) (a b:Mk)
 |start (a:Mk)
def YY(m:AV):AV:=.obj dS [(N.Fs,m),(N.H5,m),(N.encoding,.none)]
def Tk.v(b:List Nat):Tk->AV
 | .two k x y=> Ax k.cls (x.v b) (y.v b)
 | .Lf w pl x y J7=> I0 w pl (x.v b) (y.v b) J7
 | .dir nm v x y=> Ld nm v (x.v b) (y.v b)
 | .start m=> YY (m.v b)
def OD(i:List Nat)(v:AV)(a b:Mk):AV:=.tup [.str i,v,.int a.line,.int a.col,.int b.line,.int b.col]
def A2:List Nat:=[60,115,99,97,108,97,114,62]
def FP:List Nat:=[60,100,105,114,101,99,116,105,118,101,62]
def DF:List Nat:=[60,115,116,114,101,97,109,32,115,116,97,114,116,62]
def Tk.row:Tk->AV
 | .two k x y=> OD k.id .none x y
 | .Lf w pl x y J7=> OD A2 (.str w) x y
 | .dir nm v x y=> OD FP v x y
 | .start m=> OD DF .none m m
def Tk.val:Tk->AV
 | .two k x y=>.none
 | .Lf w pl x y J7=>.str w
 | .dir nm v x y=> v
 | .start m=>.none
inductive Mid where |m0 |m1(p:AV) |m2(p b:AV)
def Mid.l:Mid->List (N×AV)
 | .m0=>[]
 | .m1 p=>[(N.place,p)]
 | .m2 p b=>[(N.place,p),(N.bare,b)]
structure Bs where
 v0:AV
 v1:AV
 v2:AV
 AA:AV
 ref:AV
 mid:Mid
def Bs.l(b:Bs)(x:List (N×AV)):List (N×AV):=(N.Le,b.v0)::(N.rows,.ref 0)::(N.n,b.v1)::(N.row,b.v2)::(N.AA,b.AA)::(N.refused,b.ref)::(b.mid.l++x)
def oz:CS:=B9 Kt 8
def o4:CS->List CS
 | .F9 b _ _ _=> b
 |_=>[]
def Gd:CS:=B9 (o4 oz) 1
def Ey(b:Bs)(tk:AV)(val:Option AV)(h:Hp):St:=⟨b.l ([(N.Rl,me),(N.got,.ref 9),(N.met,.none),(N.token,tk)]++(match val with |none=>[] |some v=>[(N.value,v)])),h⟩
def I7(s:Sc)(kr:Nat)(dn:Bool)(lo g:List AObj)(got:List AV):Hp:=s.Fv kr dn lo (L1 got::g)
theorem Rm{b:Bs}{bf:List Nat}{t:Tk}{val:Option AV}{h:Hp}:∀d,A8 PP (AD PP fu (d+13)) (CG Gd) (Ey b (t.v bf) val h)= .ok true (Ey b (t.v bf) val h):=by
 obtain⟨x1,x2,x3,x4,x5,m⟩:=b;cases m
 all_goals cases t<;>exact Cx []
theorem o5{b:Bs}{val:Option AV}{h:Hp}:∀d,A8 PP (AD PP fu (d+13)) (CG Gd) (Ey b .none val h)= .ok false (Ey b .none val h):=by
 obtain⟨x1,x2,x3,x4,x5,m⟩:=b;cases m
 all_goals exact Cx []
theorem YZ{kr:Nat}{dn:Bool}{got:List AV}{v:AV}(hl:got.length<lim):Bv (I7 s kr dn lo g got) (.ref 9) N.append [v]=some (.none,I7 s kr dn lo g (got++[v])):=
 Fu (h:=I7 s kr dn lo g got) (r:=9) (xs:=got) rfl hl
theorem Yb{b:Bs}{bf:List Nat}{t:Tk}{val:Option AV}{kr:Nat}{dn:Bool}{got:List AV}{v:AV}{h':Hp}(hl:got.length<lim)(hg:∀d,AD PP fu (d+13) Ml [me] [] (I7 s kr dn lo g (got++[t.row]))= .ok v h'):
 ∀d,AN PP fu (AD PP fu (d+13)) (BM Gd) (Ey b (t.v bf) val (I7 s kr dn lo g got))= .ok .next (Ey b v (some t.val) h'):=by
 have hb:=YZ (s:=s) (lo:=lo) (g:=g) (kr:=kr) (dn:=dn) (v:=t.row) hl;obtain⟨x1,x2,x3,x4,x5,m⟩:=b;cases m
 all_goals
  cases t with
  |two k x y=> cases k<;>cases val<;>exact AZ [.BA _ _ N.append _ _ _ hb,.call _ _ _ _ _ 13 hg]
  |_=> cases val<;>exact AZ [.BA _ _ N.append _ _ _ hb,.call _ _ _ _ _ 13 hg]
theorem o6{b:Bs}{bf:List Nat}{t:Tk}{val:Option AV}{kr:Nat}{dn:Bool}{got:List AV}{e:AV}{h':Hp}(hl:got.length<lim)(hg:∀d,AD PP fu (d+13) Ml [me] [] (I7 s kr dn lo g (got++[t.row]))= .exc e h'):
 ∀d,AN PP fu (AD PP fu (d+13)) (BM Gd) (Ey b (t.v bf) val (I7 s kr dn lo g got))= .exc e (Ey b (t.v bf) (some t.val) h'):=by
 have hb:=YZ (s:=s) (lo:=lo) (g:=g) (kr:=kr) (dn:=dn) (v:=t.row) hl;obtain⟨x1,x2,x3,x4,x5,m⟩:=b;cases m
 all_goals
  cases t with
  |two k x y=> cases k<;>cases val<;>exact AZ [.BA _ _ N.append _ _ _ hb,.call _ _ _ _ _ 13 hg]
  |_=> cases val<;>exact AZ [.BA _ _ N.append _ _ _ hb,.call _ _ _ _ _ 13 hg]
inductive Runs(bf:List Nat):Ph->List Tk->Option AV->Prop
 |fin {p q:Ph} (h:OC p .none q):Runs bf p [] none
 |exc {p:Ph} {e:AV} (h:YX p e):Runs bf p [] (some e)
 |tok {p q:Ph} {t:Tk} {ts:List Tk} {e:Option AV} (h:OC p (t.v bf) q) (r:Runs bf q ts e):Runs bf p (t::ts) e
def o7(e:Option AV)(b:Bs)(h:Hp)(r:Out Flow):Prop:=match e with
 |none=> ∃tk val,r= .ok .next (Ey b tk val h)
 |some x=> ∃tk val,r= .exc x (Ey b tk val h)
theorem o8{bf:List Nat}{p:Ph}{ts:List Tk}{e:Option AV}(H:Runs bf p ts e):∀{b:Bs} {t:Tk} {val:Option AV} {lo g:List AObj} {got:List AV} {h:Hp} (n:Nat),Ba p lo (L1 got::g) h->got.length+ts.length+1<lim->ts.length+2<=n->
 ∃q y h',Ba q lo (L1 (got++(t::ts).map Tk.row)::y) h'/\∃r,o7 e b h' r/\∀d,B0 (fun s=> A8 PP (AD PP fu (d+13)) (CG Gd) s) (fun s=> AN PP fu (AD PP fu (d+13)) (BM Gd) s) n (Ey b (t.v bf) val h)=r:=by
 induction H with
 |@fin p q hg=> intro b t val lo g got h n hP hl hn;refine cps fun yv yt=> ?_;obtain⟨m,rfl⟩:∃m,n=m+2:=⟨n - 2,by exact Sa⟩;obtain⟨kr,rfl,hk⟩:=hP;obtain⟨y,h',e1,w⟩:=hg lo (L1 (got++[t.row])::g) _ ⟨kr,rfl,hk⟩;refine yt ?_;exact⟨q,g++y,h',e1,_,⟨_,_,rfl⟩,fun d=> (HJ (Rm d) (Yb (by exact A7 hl) w d)).trans (H6 (o5 d))⟩
 |@exc p x hg=> intro b t val lo g got h n hP hl hn;refine cps fun zI yy=> ?_;obtain⟨m,rfl⟩:∃m,n=m+1:=⟨n - 1,by exact IE⟩;obtain⟨kr,rfl,hk⟩:=hP;obtain⟨q,y,h',e1,w⟩:=hg lo (L1 (got++[t.row])::g) _ ⟨kr,rfl,hk⟩;refine yy ?_;exact⟨q,g++y,h',e1,_,⟨_,_,rfl⟩,fun d=> Xj (Rm d) (o6 (by exact A7 hl) w d)⟩
 |@tok p q t' ts e hg hr ih=> intro b t val lo g got h n hP hl hn;refine cps fun zu zL=> ?_;have hl:got.length+(ts.length+1)+1<lim:=hl;have hn:ts.length+1+2<=n:=hn;obtain⟨m,rfl⟩:∃m,n=m+1:=⟨n - 1,by exact IE⟩;obtain⟨kr,rfl,hk⟩:=hP;obtain⟨y,h',e1,w⟩:=hg lo (L1 (got++[t.row])::g) _ ⟨kr,rfl,hk⟩;obtain⟨q2,y2,h2,e2,r,hr,w2⟩:=ih (b:=b) (t:=t') (val:=some t.val) m e1 (by rw [t9,uw];exact A7 hl) (by exact AU hn);refine zL ?_;refine⟨q2,y2,h2,?_,r,hr,fun d=> (HJ (Rm d) (Yb (by exact A7 hl) w d)).trans (w2 d)⟩;rw [t8]at e2;exact e2
end L4
end Internal
end
section
namespace Internal
abbrev N.data:N:=1684108385
abbrev N.start:N:=495873782388
abbrev N.character:N:=1833749081912537015666
theorem H9{P:Prog}{fu k:Nat}{g:CT}{v:AV}{s:St}{r:Out Unit}(tr:Tr P fu)(e:Nj (HI k) g v s tr=some ⟨r,[],tr.map dup⟩:=by kernel_rfl!):∀d,DA P (AD P fu (d+k)) g v s=r:=fun d=>
 RF (fun f as ks h t=> H4 d k f as ks h t) g v s tr _ e fun p hp=> by obtain⟨q,_,rfl⟩:=uj.mp hp;rfl
theorem OE{P:Prog}{fu k:Nat}{g:CSrc}{s:St}{r:Out (List AV)}(tr:Tr P fu)(e:RC (HI k) g s tr=some ⟨r,[],tr.map dup⟩:=by kernel_rfl!):∀d,FX P (AD P fu (d+k)) g s=r:=fun d=>
 XW (fun f as ks h t=> H4 d k f as ks h t) g s tr _ e fun p hp=> by obtain⟨q,_,rfl⟩:=uj.mp hp;rfl
namespace L4
variable{s:Sc}{lo g:List AObj}
section
variable{asg:AV->St->Out Unit}{bo:St->Out Flow}{v:AV}{r:List AV}{a b c:St}
theorem Lg(h1:asg v a= .ok () b)(h2:bo b= .ok .next c):B1 asg bo (v::r) a=B1 asg bo r c:=by show(asg v a).bind _=_;rw [h1];show(bo b).bind _=_;rw [h2];rfl
theorem o9(h1:asg v a= .ok () b)(h2:bo b= .ok .cont c):B1 asg bo (v::r) a=B1 asg bo r c:=by show(asg v a).bind _=_;rw [h1];show(bo b).bind _=_;rw [h2];rfl
theorem pB(h1:asg v a= .ok () b)(h2:bo b= .ok .brk c):B1 asg bo (v::r) a= .ok .next c:=by show(asg v a).bind _=_;rw [h1];show(bo b).bind _=_;rw [h2];rfl
theorem Yc{w:AV}(h1:asg v a= .ok () b)(h2:bo b= .ok (.ret w) c):B1 asg bo (v::r) a= .ok (.ret w) c:=by show(asg v a).bind _=_;rw [h1];show(bo b).bind _=_;rw [h2];rfl
end
def EZ:CS->CT
 | .Cc t _ _=> t
 |_=>.name 0
def HP:CS->CSrc
 | .Cc _ s _=> s
 |_=>.E5 []
theorem Lh{c:CS}{cf:Nat->List AV->List (N×AV)->Hp->COut}{a b:St}{xs:List AV}{r:Out Flow}(hc:c= .Cc (EZ c) (HP c) (BM c))(h1:FX PP cf (HP c) a= .ok xs b)
 (h2:B1 (fun v s=> DA PP cf (EZ c) v s) (fun s=> AN PP fu cf (BM c) s) xs b=r):Az PP fu cf c a=r:=by
 rw [hc];show(FX PP cf (HP c) a).bind _=_;rw [h1];exact h2
theorem Yd{x y:Nat}{b:Bool}(h:(!(decide (y<x)||(y==x&&false)))=b)(hp:Hp):BZ hp .le (.str [x]) (.str [y])=some b:=congrArg some h
def Ez(c:Nat):Bool:=[9,10,13,133].contains c||(uJ 32 c&&uJ c 126)
theorem pD{c:Nat}{h:Hp}(hc:Ez c=true):∀d,AD PP fu (d+1) dG [.str [c]] [] h= .ok (.bool true) h:=by
 cases h1:[9,10,13,133].contains c with
 |true=> exact cert [DS c _ h1]
 |false=> unfold Ez at hc;rw [h1,wV]at hc;have hc:=t6.mp hc;have h2:=uH hc.1;have h3:=uH hc.2;exact cert [DS c _ h1,.cmp .le (.str [32]) (.str [c]) true (Yd (by rw [decide_eq_false (by exact KP),wQ];rfl)),.cmp .le (.str [c]) (.str [126]) true (Yd (by rw [decide_eq_false (by exact KP),wQ];rfl))]
def J8:CS:=B9 Ta 0
def J9(t:List Nat)(x:Option (Nat×Nat))(h:Hp):St:=⟨[(N.self,me),(N.data,.str t)]++(match x with |none=>[] |some (i,c)=>[(N.start,.int i),(N.character,.str [c])]),h⟩
theorem Ye{t:List Nat}{lo:List AObj}{F:List (N×AV)}:∀(l:List (Nat×Nat)) (x:Option (Nat×Nat)),(∀p∈l,Ez p.1=true)->∃y,∀d,B1 (fun v s=> DA PP (AD PP fu (d+1)) (EZ J8) v s) (fun s=> AN PP fu (AD PP fu (d+1)) (BM J8) s)
 (l.map fun p=>.tup [.int p.2,.str [p.1]]) (J9 t x ⟨lo,[.ins 1048 F]⟩)= .ok .next (J9 t y ⟨lo,[.ins 1048 F]⟩)
 | []=>@fun x _=> ⟨x,fun d=> rfl⟩
 |(c,i)::l=>@fun x h=> by
  obtain⟨y,hy⟩:=Ye l (some (i,c)) fun p hp=> h p (.tail _ hp);refine⟨y,fun d=> Eq.trans ?_ (hy d)⟩;have h1:∀d,DA PP (AD PP fu (d+1)) (EZ J8) (.tup [.int i,.str [c]]) (J9 t x ⟨lo,[.ins 1048 F]⟩)= .ok () (J9 t (some (i,c)) ⟨lo,[.ins 1048 F]⟩):=by rcases x with _ |⟨j,e⟩<;>exact H9 []
  exact Lg (h1 d) (AZ [.call _ _ _ _ _ 1 (pD (h:=⟨lo,[.ins 1048 F]⟩) (h (c,i) (.head _)))] (by kernel_rfl!) d)
theorem pF{t:List Nat}{lo:List AObj}{F:List (N×AV)}(h:t.all Ez=true):∀d,AD PP fu (d+2) dH [me,.str t] [] ⟨lo,[.ins 1048 F]⟩= .ok .none ⟨lo,[.ins 1048 F]⟩:=by
 obtain⟨y,hy⟩:=Ye (t:=t) (lo:=lo) (F:=F) (t.zipIdx 0) none fun p hp=> by
  obtain⟨c,i⟩:=p;have:=List.mem_zipIdx hp;have hm:c∈t:=by rw [this.2.2];exact wy _
  exact uM.mp h c hm
 have hl:∀d,Az PP fu (AD PP fu (d+1)) J8 (J9 t none ⟨lo,[.ins 1048 F]⟩)= .ok .next (J9 t y ⟨lo,[.ins 1048 F]⟩):=fun d=>
  Lh rfl (OE (k:=1) [] (by kernel_rfl!) d) (hy d)
 rcases y with _ |⟨i,c⟩
 . exact cert [.Ao J8 _ _ 1 hl]
 . exact cert [.Ao J8 _ _ 1 hl]
def Sc.new(t:List Nat):Sc:=⟨t++[0],0,0,0,[YY (Ac (t++[0]) 0 0 0)],0,[-1],true,none⟩
theorem pG{t:List Nat}{lo:List AObj}(h:t.all Ez=true)(hl:t.length<=1000):∀d,AD PP fu (d+4) dI [me,.str t] [] ⟨lo,[.ins 1048 []]⟩= .ok .none ((Sc.new t).hp lo []):=by have hc:=pF (t:=t) (lo:=lo) (F:=[(N.name,.str Nl),(N.stream,.none),(N.RI,.int 0),(N.eof,.bool true),(N.buffer,.str []),(N.Nk,.int 0),(N.RJ,.none),(N.RK,.none),(N.encoding,.none),(N.index,.int 0),(N.line,.int 0),(N.column,.int 0)]) h;exact cert [.call _ _ _ _ _ 2 hc,.bin .add (.str t) (.str [0]) (.str (t++[0])) (fun _=> by show(alt none (alt (ck (t.length+1) (AV.str (t++[0]))) _))=_;unfold ck;rw [if_pos (by show t.length+1<=1000000;exact BF)];rfl)]
end L4
end Internal
end
section
namespace Internal
abbrev N.OF:N:=110386841151603
abbrev N.OG:N:=440005915496
abbrev N.OH:N:=512735409267
abbrev N.Ro:N:=1718773093
abbrev N.at_:N:=24948
abbrev N.Rp:N:=2003792484
abbrev N.OI:N:=109317377451379
abbrev N.Yg:N:=1701733491
abbrev N.Rq:N:=33325589488824174
abbrev N.Rr:N:=7038329
abbrev N.Ru:N:=1819242085
abbrev N.Rw:N:=1953459300
abbrev N.end_:N:=6647396
namespace L4
theorem CN{cf:Nat->List AV->List (N×AV)->Hp->COut}{b:List CS}{r:Out Flow}:∀{a:List CS} {s s1:St},AN PP fu cf a s= .ok .next s1->AN PP fu cf b s1=r->AN PP fu cf (a++b) s=r
 | [],s,s1,h,e=> by cases h;exact e
 |c::a,s,s1,h,e=> by
  have h:(Az PP fu cf c s).bind _=_:=h;show(Az PP fu cf c s).bind _=_;cases hc:Az PP fu cf c s with
  |bad=> rw [hc]at h;cases h
  |exc x y=> rw [hc]at h;cases h
  |ok f s2=>
   rw [hc]at h;cases f with
   |next=> exact CN (a:=a) h e
   |_=> cases h
theorem Yh{cf:Nat->List AV->List (N×AV)->Hp->COut}{b:List CS}{f:Flow}:∀{a:List CS} {s s1:St},AN PP fu cf a s= .ok f s1->f≠ .next->AN PP fu cf (a++b) s= .ok f s1
 | [],s,s1,h,e=> by cases h;exact absurd rfl e
 |c::a,s,s1,h,e=> by
  have h:(Az PP fu cf c s).bind _=_:=h;show(Az PP fu cf c s).bind _=_;cases hc:Az PP fu cf c s with
  |bad=> rw [hc]at h;cases h
  |exc x y=> rw [hc]at h;cases h
  |ok g s2=>
   rw [hc]at h;cases g with
   |next=> exact Yh (a:=a) h e
   |_=> exact h
def AI(yo AA:List AV)(st:List Int)(g:List AObj):Hp:=⟨.lst yo::.lst AA::.lst (st.reverse.map .int)::g,[]⟩
def EG(k:Nat):Nat:=2 * (k+3)
section
variable{yo AA:List AV}{st:List Int}{g:List AObj}
theorem Ry{o:AObj}:(AI yo AA st (sn g o)).f (EG g.length)=o:=by show Cv ((AI yo AA st (sn g o)).row ((2 * (g.length+3)) % 2)) ((2 * (g.length+3)) / 2)=_;rw [show(2 * (g.length+3)) % 2=0 by exact Od _,show(2 * (g.length+3)) / 2=g.length+3 by exact Oe _];exact Gs g [o] 0
theorem pH{o o':AObj}:(AI yo AA st (sn g o)).set (EG g.length) o'=AI yo AA st (sn g o'):=by show(AI yo AA st (sn g o)).JH ((2 * (g.length+3)) / 2) o' ((2 * (g.length+3)) % 2)=_;rw [show(2 * (g.length+3)) % 2=0 by exact Od _,show(2 * (g.length+3)) / 2=g.length+3 by exact Oe _];show Hp.mk (.lst yo::.lst AA::.lst (st.reverse.map .int)::DI (g++[o]) (g.length+0) o') []=_;rw [Nx];rfl
variable(yo AA st g)
def pI(xs:List AV)(m:N)(hm:HX m=true):Ent PP fu:=.met (AI yo AA st (sn g (L1 xs))) (.ref (EG g.length)) m none (Rc (r:=EG g.length) (xs:=xs) (Ry (yo:=yo) (AA:=AA) (st:=st) (g:=g) (o:=L1 xs)) hm)
theorem pJ(xs:List AV)(v:AV)(hl:xs.length<lim):Bv (AI yo AA st (sn g (L1 xs))) (.ref (EG g.length)) N.append [v]=some (.none,AI yo AA st (sn g (L1 (xs++[v])))):=by rw [Fu (h:=AI yo AA st (sn g (L1 xs))) (r:=EG g.length) (xs:=xs) (Ry (yo:=yo) (AA:=AA) (st:=st) (g:=g) (o:=L1 xs)) hl,pH];rfl
def pK(xs:List AV)(v:AV)(hl:xs.length<lim):Ent PP fu:=.BA (AI yo AA st (sn g (L1 xs))) (.ref (EG g.length)) N.append [v] .none (AI yo AA st (sn g (L1 (xs++[v])))) (pJ yo AA st g xs v hl)
theorem pL(xs:List AV)(hl:AA.length+xs.length<=lim):Du (AI yo AA st (sn g (L1 xs))) .add (.ref 2) (.ref (EG g.length))=some (.ref 2,AI yo (AA++xs) st (sn g (L1 xs))):=by show((C9 ((AI yo AA st (sn g (L1 xs))).f (EG g.length))).bind fun ys=> ck (AA.length+ys.length) (AV.ref 2,(AI yo AA st (sn g (L1 xs))).set 2 (.lst (AA++ys))))=_;rw [Ry];show ck (AA.length+xs.length) _=_;unfold ck;rw [if_pos hl];rfl
def Co(xs:List AV)(hl:AA.length+xs.length<=lim):Ent PP fu:=.aug (AI yo AA st (sn g (L1 xs))) .add (.ref 2) (.ref (EG g.length)) (.ref 2) (AI yo (AA++xs) st (sn g (L1 xs))) (pL yo AA st g xs hl)
def Ap(v:AV)(hl:AA.length<lim):Ent PP fu:=.BA (AI yo AA st g) (.ref 2) N.append [v] .none (AI yo (AA++[v]) st g) (Fu (h:=AI yo AA st g) (r:=2) (xs:=AA) rfl hl)
theorem pM(v:Int)(hl:st.length<lim):Bv (AI yo AA st g) (.ref 4) N.append [.int v]=some (.none,AI yo AA (v::st) g):=by rw [Fu (h:=AI yo AA st g) (r:=4) (xs:=st.reverse.map .int) rfl (by rw [uL,wi];exact hl)];unfold AI;rw [vp,uB];rfl
def IA(v:Int)(hl:st.length<lim):Ent PP fu:=.BA (AI yo AA st g) (.ref 4) N.append [.int v] .none (AI yo AA (v::st) g) (pM yo AA st g v hl)
theorem pN(a:Int):Bv (AI yo AA (a::st) g) (.ref 4) N.pop []=some (.int a,AI yo AA st g):=
 RY (h:=AI yo AA (a::st) g) (r:=4) (xs:=st.reverse.map .int) (v:=.int a) (by show AObj.lst ((a::st).reverse.map .int)=_;rw [vp,uB];rfl)
def pO(a:Int):Ent PP fu:=.BA (AI yo AA (a::st) g) (.ref 4) N.pop [] (.int a) (AI yo AA st g) (pN yo AA st g a)
theorem pP(a:Int):CP (AI yo AA (a::st) g) (.ref 4) (.int (-1))=some (.int a):=by show HU ((a::st).reverse.map .int) (.int (-1))=_;rw [vp,uB];show(C2 ((st.reverse.map AV.int)++[AV.int a]).length (-1)).bind (fun j=> ((st.reverse.map AV.int)++[AV.int a])[j]?)=_;unfold C2;rw [t9,if_neg (by decide),if_pos (by simp only [uL,wi,uw];lia)];show((st.reverse.map AV.int)++[AV.int a])[((-1:Int)+(((st.reverse.map AV.int).length+[AV.int a].length:Nat):Int)).toNat]? =_;rw [show((-1:Int)+(((st.reverse.map AV.int).length+[AV.int a].length:Nat):Int)).toNat=(st.reverse.map AV.int).length by simp only [uw];lia];rw [List.getElem?_append_right (uW _),Nat.sub_self];rfl
def Cy(a:Int):Ent PP fu:=.Ct (AI yo AA (a::st) g) (.ref 4) (.int (-1)) (.int a) (pP yo AA st g a)
end
end L4
end Internal
end
namespace Internal
namespace L4
section
variable{yo AA es:List AV}{st:List Int}{g:List AObj}{yr yn yp cl:Bool}{n ym:Nat}{w:List Nat}{r:List (N×AV)}
def pQ:List CS:=BM (B9 Ep 3)
def HQ:CS:=B9 pQ 3
def wA:List CS:=(BM HQ).take 8
def wB:List CS:=(BM HQ).drop 8
def AS(yr yn:Bool)(n:Nat)(yp:Bool)(ym:Nat)(w:List Nat)(x:List (N×AV)):List (N×AV):=
 (N.rows,.ref 0)::(N.AA,.ref 2)::(N.OF,.ref 4)::(N.OG,.bool yr)::(N.OH,.bool yn)::(N.n,.int n)::(N.Ro,.bool yp)::(N.at_,.int ym)::(N.Rp,.str w)::x
def AG(i:List Nat)(v:AV)(a b c d:Nat):AV:=.tup [.str i,v,.int a,.int b,.int c,.int d]
def Ah(n a:Nat):AV:=AG Kd.be.id .none n a n a
def AQ(cl:Bool)(ym:Nat):Int:=match cl with
 |true=> -1
 |false=> ym
def Br:CS:=B9 wA 4
def Ad(cl:Bool)(e:Nat)(r:List (N×AV)):List (N×AV):=(N.OI,.bool cl)::(N.Yg,.ref (EG e))::r
theorem Rz{a:Int}{h:Hp}(e:h=AI yo AA (a::st) g){x:List (N×AV)}{b:Bool}(hb:decide (a>AQ cl ym)=b):∀d,A8 PP (AD PP fu (d+1)) (CG Br) ⟨AS yr yn n yp ym w ((N.OI,.bool cl)::x),h⟩= .ok b ⟨AS yr yn n yp ym w ((N.OI,.bool cl)::x),h⟩:=by
 subst e;cases cl
 . exact Cx [Cy yo AA st g a,.cmp .gt (.int a) (.int ym) b (fun _=> LY _ hb)]
 . exact Cx [Cy yo AA st g a,.cmp .gt (.int a) (.int (-1)) b (fun _=> LY _ hb)]
theorem pR{a:Int}(hl:es.length<lim):∀d,AN PP fu (AD PP fu (d+1)) (BM Br) ⟨AS yr yn n yp ym w (Ad cl g.length r),AI yo AA (a::st) (sn g (L1 es))⟩= .ok .next ⟨AS yr yn n yp ym w (Ad cl g.length r),AI yo AA st (sn g (L1 (es++[Ah n ym])))⟩:=
 AZ [pO yo AA st (sn g (L1 es)) a,pI yo AA st g es N.append rfl,pK yo AA st g es (Ah n ym) hl]
theorem Yi:∀(st:List Int) (es:List AV) (m:Nat),low (AQ cl ym) st->es.length+st.length<lim->st.length+1<=m->∀d,
 B0 (fun s=> A8 PP (AD PP fu (d+1)) (CG Br) s) (fun s=> AN PP fu (AD PP fu (d+1)) (BM Br) s) m ⟨AS yr yn n yp ym w (Ad cl g.length r),AI yo AA st (sn g (L1 es))⟩
  = .ok .next ⟨AS yr yn n yp ym w (Ad cl g.length r),AI yo AA (AB (AQ cl ym) st).2 (sn g (L1 (es++tv (AB (AQ cl ym) st).1 (Ah n ym))))⟩
 | []=>@fun es m hl _ _ d=> by obtain⟨a,h,_⟩:=hl;cases h
 | [a]=>@fun es m hl _ hn d=> by
   obtain⟨m,rfl⟩:∃k,m=k+1:=⟨m - 1,by exact IE⟩;obtain⟨a',h,hle⟩:=hl;obtain rfl:a=a':=uR h;show B0 _ _ (m+1) _= .ok .next ⟨_,AI yo AA [a] (sn g (L1 (es++[])))⟩
   rw [uD];exact H6 (Rz rfl (decide_eq_false (by exact L6)) d)
 |a::b::q=>@fun es m hl ht hn d=> by
  have hn:q.length+1+1+1<=m:=hn;have ht:es.length+(q.length+1+1)<lim:=ht;obtain⟨m,rfl⟩:∃k,m=k+1:=⟨m - 1,by exact IE⟩;by_cases h:a>AQ cl ym
  . have zz:low (AQ cl ym) (b::q):=hl;have hlen:(es++[Ah n ym]).length=es.length+1:=by rw [t9];rfl
    have hy:=Yi (b::q) (es++[Ah n ym]) m zz (by rw [hlen];show es.length+1+(q.length+1)<lim;exact A7 ht) (by show q.length+1+1<=m;exact AU hn) d;rw [show AB (AQ cl ym) (a::b::q)=((AB (AQ cl ym) (b::q)).1+1,(AB (AQ cl ym) (b::q)).2)from if_pos h];rw [t8]at hy;exact(HJ (Rz rfl (decide_eq_true h) d) (pR (by exact A7 ht) d)).trans hy
  . rw [show AB (AQ cl ym) (a::b::q)=(0,a::b::q)from if_neg h];show B0 _ _ (m+1) _= .ok .next ⟨_,AI yo AA (a::b::q) (sn g (L1 (es++[])))⟩
    rw [uD];exact H6 (Rz rfl (decide_eq_false h) d)
theorem Ea(hl:low (AQ cl ym) st)(ht:st.length<=900):∀d,Az PP fu (AD PP fu (d+1)) Br ⟨AS yr yn n yp ym w (Ad cl g.length r),AI yo AA st (sn g (L1 []))⟩
 = .ok .next ⟨AS yr yn n yp ym w (Ad cl g.length r),AI yo AA (AB (AQ cl ym) st).2 (sn g (L1 (tv (AB (AQ cl ym) st).1 (Ah n ym))))⟩:=fun d=> by
 show B0 (fun s=> A8 PP (AD PP fu (d+1)) (CG Br) s) (fun s=> AN PP fu (AD PP fu (d+1)) (BM Br) s) 5000 _=_;exact Yi st [] 5000 hl (by show 0+st.length<1000000;exact A7 ht) (by exact BF) d
inductive Ce where |c0 |c1(a b:AV)(r:List (N×AV))
def Ce.l:Ce->List (N×AV)
 | .c0=>[]
 | .c1 a b r=> (N.OI,a)::(N.Yg,b)::r
def Ce.rs:Ce->List (N×AV)
 | .c0=>[]
 | .c1 a b r=> r
structure ti(AA:List AV)(st:List Int)(B:Int)(n ym:Nat)(ACY:List AV)(yx:List Int):Prop where
 d:ACY=AA++tv (AB B st).1 (Ah n ym)
 s:yx=(AB B st).2
theorem E0{AA:List AV}{st:List Int}{B:Int}{n ym:Nat}(ht:st.length<=900)(hd:AA.length<=2000):AA.length+(tv (AB B st).1 (Ah n ym)).length<=lim:=by rw [ub];exact t5 (uA hd (t5 (Rf B st) ht)) (by decide)
theorem pU{ce:Ce}(ha:ym=0)(hl:low (AQ true ym) st)(ht:st.length<=900)(hd:AA.length<=2000):∀d,AN PP fu (AD PP fu (d+1)) wA ⟨AS yr yn n yp ym [45,45,45] ce.l,AI yo AA st g⟩=
 .ok .next ⟨AS yr false n yp ym [45,45,45] (Ad true g.length ce.rs),AI yo (AA++tv (AB (AQ true ym) st).1 (Ah n ym)) (AB (AQ true ym) st).2 (sn g (L1 (tv (AB (AQ true ym) st).1 (Ah n ym))))⟩:=by
 have hp:=Ea (yo:=yo) (AA:=AA) (g:=g) (yr:=yr) (yn:=yn) (yp:=yp) (n:=n) (w:=[45,45,45]) (r:=ce.rs) hl ht;have hlen:=E0 (B:=AQ true ym) (n:=n) (ym:=ym) ht hd;generalize(AB (AQ true ym) st).2=yx at hp;generalize tv (AB (AQ true ym) st).1 (Ah n ym)=xs at hp hlen;cases ce<;>exact AZ [.skip,.skip,BW ym 0 (b:=true) (by rw [ha];rfl),.Ao Br _ _ 1 hp,Co yo AA yx g xs hlen]
theorem pV{ce:Ce}(ha:ym=0)(hl:low (AQ true ym) st)(ht:st.length<=900)(hd:AA.length<=2000):∀d,AN PP fu (AD PP fu (d+1)) wA ⟨AS yr yn n yp ym [46,46,46] ce.l,AI yo AA st g⟩=
 .ok .next ⟨AS yr false n yp ym [46,46,46] (Ad true g.length ce.rs),AI yo (AA++tv (AB (AQ true ym) st).1 (Ah n ym)) (AB (AQ true ym) st).2 (sn g (L1 (tv (AB (AQ true ym) st).1 (Ah n ym))))⟩:=by
 have hp:=Ea (yo:=yo) (AA:=AA) (g:=g) (yr:=yr) (yn:=yn) (yp:=yp) (n:=n) (w:=[46,46,46]) (r:=ce.rs) hl ht;have hlen:=E0 (B:=AQ true ym) (n:=n) (ym:=ym) ht hd;generalize(AB (AQ true ym) st).2=yx at hp;generalize tv (AB (AQ true ym) st).1 (Ah n ym)=xs at hp hlen;cases ce<;>exact AZ [.skip,.skip,BW ym 0 (b:=true) (by rw [ha];rfl),.Ao Br _ _ 1 hp,Co yo AA yx g xs hlen]
theorem pW{ce:Ce}(ha:ym=0)(hl:low (AQ true ym) st)(ht:st.length<=900)(hd:AA.length<=2000):∀d,AN PP fu (AD PP fu (d+1)) wA ⟨AS yr yn n yp ym [37,100] ce.l,AI yo AA st g⟩=
 .ok .next ⟨AS yr false n yp ym [37,100] (Ad true g.length ce.rs),AI yo (AA++tv (AB (AQ true ym) st).1 (Ah n ym)) (AB (AQ true ym) st).2 (sn g (L1 (tv (AB (AQ true ym) st).1 (Ah n ym))))⟩:=by
 have hp:=Ea (yo:=yo) (AA:=AA) (g:=g) (yr:=yr) (yn:=yn) (yp:=yp) (n:=n) (w:=[37,100]) (r:=ce.rs) hl ht;have hlen:=E0 (B:=AQ true ym) (n:=n) (ym:=ym) ht hd;generalize(AB (AQ true ym) st).2=yx at hp;generalize tv (AB (AQ true ym) st).1 (Ah n ym)=xs at hp hlen;cases ce<;>exact AZ [.skip,.skip,BW ym 0 (b:=true) (by rw [ha];rfl),.Ao Br _ _ 1 hp,Co yo AA yx g xs hlen]
theorem pX{ce:Ce}(ha:ym=0)(hl:low (AQ true ym) st)(ht:st.length<=900)(hd:AA.length<=2000):∀d,AN PP fu (AD PP fu (d+1)) wA ⟨AS yr yn n yp ym [37,89,65,77,76] ce.l,AI yo AA st g⟩=
 .ok .next ⟨AS yr false n yp ym [37,89,65,77,76] (Ad true g.length ce.rs),AI yo (AA++tv (AB (AQ true ym) st).1 (Ah n ym)) (AB (AQ true ym) st).2 (sn g (L1 (tv (AB (AQ true ym) st).1 (Ah n ym))))⟩:=by
 have hp:=Ea (yo:=yo) (AA:=AA) (g:=g) (yr:=yr) (yn:=yn) (yp:=yp) (n:=n) (w:=[37,89,65,77,76]) (r:=ce.rs) hl ht;have hlen:=E0 (B:=AQ true ym) (n:=n) (ym:=ym) ht hd;generalize(AB (AQ true ym) st).2=yx at hp;generalize tv (AB (AQ true ym) st).1 (Ah n ym)=xs at hp hlen;cases ce<;>exact AZ [.skip,.skip,BW ym 0 (b:=true) (by rw [ha];rfl),.Ao Br _ _ 1 hp,Co yo AA yx g xs hlen]
theorem pY{ce:Ce}(hl:low (AQ false ym) st)(ht:st.length<=900)(hd:AA.length<=2000):∀d,AN PP fu (AD PP fu (d+1)) wA ⟨AS yr yn n yp ym [45] ce.l,AI yo AA st g⟩=
 .ok .next ⟨AS yr false n yp ym [45] (Ad false g.length ce.rs),AI yo (AA++tv (AB (AQ false ym) st).1 (Ah n ym)) (AB (AQ false ym) st).2 (sn g (L1 (tv (AB (AQ false ym) st).1 (Ah n ym))))⟩:=by
 have hp:=Ea (yo:=yo) (AA:=AA) (g:=g) (yr:=yr) (yn:=yn) (yp:=yp) (n:=n) (w:=[45]) (r:=ce.rs) hl ht;have hlen:=E0 (B:=AQ false ym) (n:=n) (ym:=ym) ht hd;generalize(AB (AQ false ym) st).2=yx at hp;generalize tv (AB (AQ false ym) st).1 (Ah n ym)=xs at hp hlen;by_cases ha:ym=0
 . cases ce<;>exact AZ [.skip,.skip,BW ym 0 (b:=true) (by rw [ha];rfl),.Ao Br _ _ 1 hp,Co yo AA yx g xs hlen]
 . cases ce<;>exact AZ [.skip,.skip,BW ym 0 (b:=false) (by rw [beq_eq_false_iff_ne];exact Eg),.Ao Br _ _ 1 hp,Co yo AA yx g xs hlen]
theorem pZ{ce:Ce}(hl:low (AQ false ym) st)(ht:st.length<=900)(hd:AA.length<=2000):∀d,AN PP fu (AD PP fu (d+1)) wA ⟨AS yr yn n yp ym [63] ce.l,AI yo AA st g⟩=
 .ok .next ⟨AS yr false n yp ym [63] (Ad false g.length ce.rs),AI yo (AA++tv (AB (AQ false ym) st).1 (Ah n ym)) (AB (AQ false ym) st).2 (sn g (L1 (tv (AB (AQ false ym) st).1 (Ah n ym))))⟩:=by
 have hp:=Ea (yo:=yo) (AA:=AA) (g:=g) (yr:=yr) (yn:=yn) (yp:=yp) (n:=n) (w:=[63]) (r:=ce.rs) hl ht;have hlen:=E0 (B:=AQ false ym) (n:=n) (ym:=ym) ht hd;generalize(AB (AQ false ym) st).2=yx at hp;generalize tv (AB (AQ false ym) st).1 (Ah n ym)=xs at hp hlen;by_cases ha:ym=0
 . cases ce<;>exact AZ [.skip,.skip,BW ym 0 (b:=true) (by rw [ha];rfl),.Ao Br _ _ 1 hp,Co yo AA yx g xs hlen]
 . cases ce<;>exact AZ [.skip,.skip,BW ym 0 (b:=false) (by rw [beq_eq_false_iff_ne];exact Eg),.Ao Br _ _ 1 hp,Co yo AA yx g xs hlen]
theorem pb{ce:Ce}(hl:low (AQ false ym) st)(ht:st.length<=900)(hd:AA.length<=2000):∀d,AN PP fu (AD PP fu (d+1)) wA ⟨AS yr yn n yp ym [58] ce.l,AI yo AA st g⟩=
 .ok .next ⟨AS yr false n yp ym [58] (Ad false g.length ce.rs),AI yo (AA++tv (AB (AQ false ym) st).1 (Ah n ym)) (AB (AQ false ym) st).2 (sn g (L1 (tv (AB (AQ false ym) st).1 (Ah n ym))))⟩:=by
 have hp:=Ea (yo:=yo) (AA:=AA) (g:=g) (yr:=yr) (yn:=yn) (yp:=yp) (n:=n) (w:=[58]) (r:=ce.rs) hl ht;have hlen:=E0 (B:=AQ false ym) (n:=n) (ym:=ym) ht hd;generalize(AB (AQ false ym) st).2=yx at hp;generalize tv (AB (AQ false ym) st).1 (Ah n ym)=xs at hp hlen;by_cases ha:ym=0
 . cases ce<;>exact AZ [.skip,.skip,BW ym 0 (b:=true) (by rw [ha];rfl),.Ao Br _ _ 1 hp,Co yo AA yx g xs hlen]
 . cases ce<;>exact AZ [.skip,.skip,BW ym 0 (b:=false) (by rw [beq_eq_false_iff_ne];exact Eg),.Ao Br _ _ 1 hp,Co yo AA yx g xs hlen]
theorem pe{ce:Ce}(hl:low (AQ false ym) st)(ht:st.length<=900)(hd:AA.length<=2000):∀d,AN PP fu (AD PP fu (d+1)) wA ⟨AS yr yn n yp ym [119,58] ce.l,AI yo AA st g⟩=
 .ok .next ⟨AS yr false n yp ym [119,58] (Ad false g.length ce.rs),AI yo (AA++tv (AB (AQ false ym) st).1 (Ah n ym)) (AB (AQ false ym) st).2 (sn g (L1 (tv (AB (AQ false ym) st).1 (Ah n ym))))⟩:=by
 have hp:=Ea (yo:=yo) (AA:=AA) (g:=g) (yr:=yr) (yn:=yn) (yp:=yp) (n:=n) (w:=[119,58]) (r:=ce.rs) hl ht;have hlen:=E0 (B:=AQ false ym) (n:=n) (ym:=ym) ht hd;generalize(AB (AQ false ym) st).2=yx at hp;generalize tv (AB (AQ false ym) st).1 (Ah n ym)=xs at hp hlen;by_cases ha:ym=0
 . cases ce<;>exact AZ [.skip,.skip,BW ym 0 (b:=true) (by rw [ha];rfl),.Ao Br _ _ 1 hp,Co yo AA yx g xs hlen]
 . cases ce<;>exact AZ [.skip,.skip,BW ym 0 (b:=false) (by rw [beq_eq_false_iff_ne];exact Eg),.Ao Br _ _ 1 hp,Co yo AA yx g xs hlen]
theorem pg{ce:Ce}(hl:low (AQ false ym) st)(ht:st.length<=900)(hd:AA.length<=2000):∀d,AN PP fu (AD PP fu (d+1)) wA ⟨AS yr yn n yp ym [39,113,39,58] ce.l,AI yo AA st g⟩=
 .ok .next ⟨AS yr false n yp ym [39,113,39,58] (Ad false g.length ce.rs),AI yo (AA++tv (AB (AQ false ym) st).1 (Ah n ym)) (AB (AQ false ym) st).2 (sn g (L1 (tv (AB (AQ false ym) st).1 (Ah n ym))))⟩:=by
 have hp:=Ea (yo:=yo) (AA:=AA) (g:=g) (yr:=yr) (yn:=yn) (yp:=yp) (n:=n) (w:=[39,113,39,58]) (r:=ce.rs) hl ht;have hlen:=E0 (B:=AQ false ym) (n:=n) (ym:=ym) ht hd;generalize(AB (AQ false ym) st).2=yx at hp;generalize tv (AB (AQ false ym) st).1 (Ah n ym)=xs at hp hlen;by_cases ha:ym=0
 . cases ce<;>exact AZ [.skip,.skip,BW ym 0 (b:=true) (by rw [ha];rfl),.Ao Br _ _ 1 hp,Co yo AA yx g xs hlen]
 . cases ce<;>exact AZ [.skip,.skip,BW ym 0 (b:=false) (by rw [beq_eq_false_iff_ne];exact Eg),.Ao Br _ _ 1 hp,Co yo AA yx g xs hlen]
theorem pn{ce:Ce}(hl:low (AQ false ym) st)(ht:st.length<=900)(hd:AA.length<=2000):∀d,AN PP fu (AD PP fu (d+1)) wA ⟨AS yr yn n yp ym [45,45,45,58] ce.l,AI yo AA st g⟩=
 .ok .next ⟨AS yr false n yp ym [45,45,45,58] (Ad false g.length ce.rs),AI yo (AA++tv (AB (AQ false ym) st).1 (Ah n ym)) (AB (AQ false ym) st).2 (sn g (L1 (tv (AB (AQ false ym) st).1 (Ah n ym))))⟩:=by
 have hp:=Ea (yo:=yo) (AA:=AA) (g:=g) (yr:=yr) (yn:=yn) (yp:=yp) (n:=n) (w:=[45,45,45,58]) (r:=ce.rs) hl ht;have hlen:=E0 (B:=AQ false ym) (n:=n) (ym:=ym) ht hd;generalize(AB (AQ false ym) st).2=yx at hp;generalize tv (AB (AQ false ym) st).1 (Ah n ym)=xs at hp hlen;by_cases ha:ym=0
 . cases ce<;>exact AZ [.skip,.skip,BW ym 0 (b:=true) (by rw [ha];rfl),.Ao Br _ _ 1 hp,Co yo AA yx g xs hlen]
 . cases ce<;>exact AZ [.skip,.skip,BW ym 0 (b:=false) (by rw [beq_eq_false_iff_ne];exact Eg),.Ao Br _ _ 1 hp,Co yo AA yx g xs hlen]
theorem pq{ce:Ce}(hl:low (AQ false ym) st)(ht:st.length<=900)(hd:AA.length<=2000):∀d,AN PP fu (AD PP fu (d+1)) wA ⟨AS yr yn n yp ym [45,45,45,119,58] ce.l,AI yo AA st g⟩=
 .ok .next ⟨AS yr false n yp ym [45,45,45,119,58] (Ad false g.length ce.rs),AI yo (AA++tv (AB (AQ false ym) st).1 (Ah n ym)) (AB (AQ false ym) st).2 (sn g (L1 (tv (AB (AQ false ym) st).1 (Ah n ym))))⟩:=by
 have hp:=Ea (yo:=yo) (AA:=AA) (g:=g) (yr:=yr) (yn:=yn) (yp:=yp) (n:=n) (w:=[45,45,45,119,58]) (r:=ce.rs) hl ht;have hlen:=E0 (B:=AQ false ym) (n:=n) (ym:=ym) ht hd;generalize(AB (AQ false ym) st).2=yx at hp;generalize tv (AB (AQ false ym) st).1 (Ah n ym)=xs at hp hlen;by_cases ha:ym=0
 . cases ce<;>exact AZ [.skip,.skip,BW ym 0 (b:=true) (by rw [ha];rfl),.Ao Br _ _ 1 hp,Co yo AA yx g xs hlen]
 . cases ce<;>exact AZ [.skip,.skip,BW ym 0 (b:=false) (by rw [beq_eq_false_iff_ne];exact Eg),.Ao Br _ _ 1 hp,Co yo AA yx g xs hlen]
theorem pv{ce:Ce}(hl:low (AQ false ym) st)(ht:st.length<=900)(hd:AA.length<=2000):∀d,AN PP fu (AD PP fu (d+1)) wA ⟨AS yr yn n yp ym [46,46,46,119,58] ce.l,AI yo AA st g⟩=
 .ok .next ⟨AS yr false n yp ym [46,46,46,119,58] (Ad false g.length ce.rs),AI yo (AA++tv (AB (AQ false ym) st).1 (Ah n ym)) (AB (AQ false ym) st).2 (sn g (L1 (tv (AB (AQ false ym) st).1 (Ah n ym))))⟩:=by
 have hp:=Ea (yo:=yo) (AA:=AA) (g:=g) (yr:=yr) (yn:=yn) (yp:=yp) (n:=n) (w:=[46,46,46,119,58]) (r:=ce.rs) hl ht;have hlen:=E0 (B:=AQ false ym) (n:=n) (ym:=ym) ht hd;generalize(AB (AQ false ym) st).2=yx at hp;generalize tv (AB (AQ false ym) st).1 (Ah n ym)=xs at hp hlen;by_cases ha:ym=0
 . cases ce<;>exact AZ [.skip,.skip,BW ym 0 (b:=true) (by rw [ha];rfl),.Ao Br _ _ 1 hp,Co yo AA yx g xs hlen]
 . cases ce<;>exact AZ [.skip,.skip,BW ym 0 (b:=false) (by rw [beq_eq_false_iff_ne];exact Eg),.Ao Br _ _ 1 hp,Co yo AA yx g xs hlen]
theorem px{ce:Ce}(hl:low (AQ false ym) st)(ht:st.length<=900)(hd:AA.length<=2000):∀d,AN PP fu (AD PP fu (d+1)) wA ⟨AS yr yn n yp ym [39,113,39] ce.l,AI yo AA st g⟩=
 .ok .next ⟨AS yr false n yp ym [39,113,39] (Ad false g.length ce.rs),AI yo (AA++tv (AB (AQ false ym) st).1 (Ah n ym)) (AB (AQ false ym) st).2 (sn g (L1 (tv (AB (AQ false ym) st).1 (Ah n ym))))⟩:=by
 have hp:=Ea (yo:=yo) (AA:=AA) (g:=g) (yr:=yr) (yn:=yn) (yp:=yp) (n:=n) (w:=[39,113,39]) (r:=ce.rs) hl ht;have hlen:=E0 (B:=AQ false ym) (n:=n) (ym:=ym) ht hd;generalize(AB (AQ false ym) st).2=yx at hp;generalize tv (AB (AQ false ym) st).1 (Ah n ym)=xs at hp hlen;by_cases ha:ym=0
 . cases ce<;>exact AZ [.skip,.skip,BW ym 0 (b:=true) (by rw [ha];rfl),.Ao Br _ _ 1 hp,Co yo AA yx g xs hlen]
 . cases ce<;>exact AZ [.skip,.skip,BW ym 0 (b:=false) (by rw [beq_eq_false_iff_ne];exact Eg),.Ao Br _ _ 1 hp,Co yo AA yx g xs hlen]
theorem pz{ce:Ce}(ha:ym≠0)(hl:low (AQ false ym) st)(ht:st.length<=900):∀d,AN PP fu (AD PP fu (d+1)) wA ⟨AS yr yn n yp ym [37,100] ce.l,AI yo AA st g⟩=
 .ok (.ret (.tup [if yn=true then .Ae (CB AA none (some (-1)))else .ref 2,.tup [.tup [.int n,.int ym],.none]])) ⟨AS yr yn n yp ym [37,100] (Ad false g.length ce.rs),AI yo AA (AB (AQ false ym) st).2 (sn g (L1 (tv (AB (AQ false ym) st).1 (Ah n ym))))⟩:=by
 have hp:=Ea (yo:=yo) (AA:=AA) (g:=g) (yr:=yr) (yn:=yn) (yp:=yp) (n:=n) (w:=[37,100]) (r:=ce.rs) hl ht;generalize(AB (AQ false ym) st).2=yx at hp;generalize tv (AB (AQ false ym) st).1 (Ah n ym)=xs at hp;cases yn<;>cases ce<;>exact AZ [.skip,.skip,BW ym 0 (b:=false) (by rw [beq_eq_false_iff_ne];exact Eg),.Ao Br _ _ 1 hp]
end
section
inductive Rs where |z |v(x:AV) |k(a b c:AV) |vk(x a b c:AV) |kv(a b c x:AV)
def Rs.l:Rs->List (N×AV)
 | .z=>[]
 | .v x=>[(N.Rq,x)]
 | .k a b c=>[(N.Rr,a),(N.Ru,b),(N.Rw,c)]
 | .vk x a b c=>[(N.Rq,x),(N.Rr,a),(N.Ru,b),(N.Rw,c)]
 | .kv a b c x=>[(N.Rr,a),(N.Ru,b),(N.Rw,c),(N.Rq,x)]
def Rs.K:Rs->AV->AV->AV->Rs
 | .z,a,b,c=>.k a b c
 | .v x,a,b,c=>.vk x a b c
 | .k _ _ _,a,b,c=>.k a b c
 | .vk x _ _ _,a,b,c=>.vk x a b c
 | .kv _ _ _ x,a,b,c=>.kv a b c x
def Rs.V:Rs->AV->Rs
 | .z,x=>.v x
 | .v _,x=>.v x
 | .k a b c,x=>.kv a b c x
 | .vk _ a b c,x=>.vk x a b c
 | .kv a b c _,x=>.kv a b c x
variable{yo AA:List AV}{q:List Int}{a:Int}{g:List AObj}{yr yp cl:Bool}{n ym e:Nat}{rs:Rs}
def tupI(a b:Nat):AV:=.tup [.int a,.int b]
theorem FQ{k:Nat}(h:k<=2900):k<lim:=by show k<1000000;exact BF
theorem KA{xs:List AV}{v:AV}{k:Nat}(h:xs.length<=k):(xs++[v]).length<=k+1:=by rw [t9];exact u6 h
theorem g0{AA:List AV}(hd:AA.length<=2900 - 10):AA.length<lim:=FQ (t5 hd (by decide))
theorem g1{AA:List AV}(hd:AA.length<=2900 - 10)(v:AV):(AA++[v]).length<lim:=FQ (t5 (KA hd) (by decide))
theorem g2{AA:List AV}(hd:AA.length<=2900 - 10)(v v':AV):(AA++[v]++[v']).length<lim:=FQ (t5 (KA (KA hd)) (by decide))
theorem g3{AA:List AV}(hd:AA.length<=2900 - 10)(v v' v'':AV):(AA++[v]++[v']++[v'']).length<lim:=FQ (t5 (KA (KA (KA hd))) (by decide))
theorem p8(hd:AA.length<=2900 - 10)(hs:q.length<=900):∀d,AN PP fu (AD PP fu (d+1)) wB ⟨AS yr false n true ym [45,45,45] (Ad true e rs.l),AI yo AA q g⟩= .ok (.next) ⟨AS yr false n false (ym+4) [45,45,45] (Ad true e (rs.K (.bool false) (.bool false) (.str [45,45,45])).l),AI yo (AA++[AG Kd.ds.id .none n 0 n 3]) q g⟩:=by cases rs<;>exact AZ [Ap yo AA q g (AG Kd.ds.id .none n 0 n 3) (g0 hd)]
theorem p9(hd:AA.length<=2900 - 10)(hs:q.length<=900):∀d,AN PP fu (AD PP fu (d+1)) wB ⟨AS yr false n false ym [45,45,45] (Ad true e rs.l),AI yo AA q g⟩= .ok (.next) ⟨AS yr false n false (ym+4) [45,45,45] (Ad true e (rs.K (.bool false) (.bool false) (.str [45,45,45])).l),AI yo (AA++[AG Kd.ds.id .none n 0 n 3]) q g⟩:=by cases rs<;>exact AZ [Ap yo AA q g (AG Kd.ds.id .none n 0 n 3) (g0 hd)]
theorem qA(hd:AA.length<=2900 - 10)(hs:q.length<=900):∀d,AN PP fu (AD PP fu (d+1)) wB ⟨AS yr false n true ym [46,46,46] (Ad true e rs.l),AI yo AA q g⟩= .ok (.next) ⟨AS yr false n false (ym+4) [46,46,46] (Ad true e (rs.K (.bool false) (.bool false) (.str [46,46,46])).l),AI yo (AA++[AG Kd.de.id .none n 0 n 3]) q g⟩:=by cases rs<;>exact AZ [Ap yo AA q g (AG Kd.de.id .none n 0 n 3) (g0 hd)]
theorem qB(hd:AA.length<=2900 - 10)(hs:q.length<=900):∀d,AN PP fu (AD PP fu (d+1)) wB ⟨AS yr false n false ym [46,46,46] (Ad true e rs.l),AI yo AA q g⟩= .ok (.next) ⟨AS yr false n false (ym+4) [46,46,46] (Ad true e (rs.K (.bool false) (.bool false) (.str [46,46,46])).l),AI yo (AA++[AG Kd.de.id .none n 0 n 3]) q g⟩:=by cases rs<;>exact AZ [Ap yo AA q g (AG Kd.de.id .none n 0 n 3) (g0 hd)]
theorem qC(hd:AA.length<=2900 - 10)(hs:q.length<=900):∀d,AN PP fu (AD PP fu (d+1)) wB ⟨AS yr false n yp ym [37,100] (Ad true e rs.l),AI yo AA q g⟩= .ok (.brk) ⟨AS false false n yp (ym) [37,100] (Ad true e (rs.V .none).l),AI yo (AA++[AG FP .none n 0 n 2]) q g⟩:=by cases rs<;>exact AZ [Ap yo AA q g (AG FP .none n 0 n 2) (g0 hd)]
theorem KC{u:List Nat}(h:yo[n]? =some (.str u)):CP (AI yo AA q g) (.ref 0) (.int n)=some (.str u):=by
 have hl:n<yo.length:=by
  rcases vI n yo.length with z |z
  . exact z
  . rw [vU z]at h;cases h
 show(C2 yo.length (n:Int)).bind (fun j=> yo[j]?)=_;rw [RN hl];exact h
theorem qD{u:List Nat}(hu:yo[n]? =some (.str u))(hd:AA.length<=2900 - 10)(hs:q.length<=900):∀d,AN PP fu (AD PP fu (d+1)) wB ⟨AS yr false n yp ym [37,89,65,77,76] (Ad true e rs.l),AI yo AA q g⟩= .ok (.brk) ⟨AS false false n yp (ym) [37,89,65,77,76] (Ad true e (rs.V (.tup [.int 1,.int 1])).l),AI yo (AA++[AG FP (.tup [.int 1,.int 1]) n 0 n u.length]) q g⟩:=by cases rs<;>exact AZ [.Ct (AI yo AA q g) (.ref 0) (.int n) (.str u) (KC hu),Ap yo AA q g (AG FP (.tup [.int 1,.int 1]) n 0 n u.length) (g0 hd)]
theorem qE(h:a<(ym:Int))(hd:AA.length<=2900 - 10)(hs:q.length<=900):∀d,AN PP fu (AD PP fu (d+1)) wB ⟨AS yr false n true ym [45] (Ad false e rs.l),AI yo AA (a::q) g⟩= .ok (.next) ⟨AS yr false n true (ym+2) [45] (Ad false e (rs.K (.bool false) (.bool true) (.str [45])).l),AI yo ((AA++[AG Kd.bs.id .none n ym n ym])++[AG Kd.en.id .none n ym n (ym+1)]) ((ym:Int)::a::q) g⟩:=by cases rs<;>exact AZ [Cy yo AA q g a,DD a ym (decide_eq_true h),IA yo AA (a::q) g ym (FQ (by show q.length+1<=2900;exact BF)),Ap yo AA ((ym:Int)::a::q) g (AG Kd.bs.id .none n ym n ym) (g0 hd),Ap yo (AA++[AG Kd.bs.id .none n ym n ym]) ((ym:Int)::a::q) g (AG Kd.en.id .none n ym n (ym+1)) (g1 hd _)]
theorem qF(h:¬a<(ym:Int))(hd:AA.length<=2900 - 10)(hs:q.length<=900):∀d,AN PP fu (AD PP fu (d+1)) wB ⟨AS yr false n true ym [45] (Ad false e rs.l),AI yo AA (a::q) g⟩= .ok (.next) ⟨AS yr false n true (ym+2) [45] (Ad false e (rs.K (.bool false) (.bool true) (.str [45])).l),AI yo (AA++[AG Kd.en.id .none n ym n (ym+1)]) (a::q) g⟩:=by cases rs<;>exact AZ [Cy yo AA q g a,DD a ym (decide_eq_false h),Ap yo AA (a::q) g (AG Kd.en.id .none n ym n (ym+1)) (g0 hd)]
theorem qG(hd:AA.length<=2900 - 10)(hs:q.length<=900):∀d,AN PP fu (AD PP fu (d+1)) wB ⟨AS yr false n false ym [45] (Ad false e rs.l),AI yo AA q g⟩= .ok (.ret (.tup [.ref 2,.tup [tupI n ym,.none]])) ⟨AS yr false n false (ym) [45] (Ad false e (rs.K (.bool false) (.bool true) (.str [45])).l),AI yo AA q g⟩:=by cases rs<;>exact AZ []
theorem qH(h:a<(ym:Int))(hd:AA.length<=2900 - 10)(hs:q.length<=900):∀d,AN PP fu (AD PP fu (d+1)) wB ⟨AS yr false n true ym [63] (Ad false e rs.l),AI yo AA (a::q) g⟩= .ok (.next) ⟨AS yr false n true (ym+2) [63] (Ad false e (rs.K (.bool false) (.bool true) (.str [63])).l),AI yo ((AA++[AG Kd.bm.id .none n ym n ym])++[AG Kd.ky.id .none n ym n (ym+1)]) ((ym:Int)::a::q) g⟩:=by cases rs<;>exact AZ [Cy yo AA q g a,DD a ym (decide_eq_true h),IA yo AA (a::q) g ym (FQ (by show q.length+1<=2900;exact BF)),Ap yo AA ((ym:Int)::a::q) g (AG Kd.bm.id .none n ym n ym) (g0 hd),Ap yo (AA++[AG Kd.bm.id .none n ym n ym]) ((ym:Int)::a::q) g (AG Kd.ky.id .none n ym n (ym+1)) (g1 hd _)]
theorem qI(h:¬a<(ym:Int))(hd:AA.length<=2900 - 10)(hs:q.length<=900):∀d,AN PP fu (AD PP fu (d+1)) wB ⟨AS yr false n true ym [63] (Ad false e rs.l),AI yo AA (a::q) g⟩= .ok (.next) ⟨AS yr false n true (ym+2) [63] (Ad false e (rs.K (.bool false) (.bool true) (.str [63])).l),AI yo (AA++[AG Kd.ky.id .none n ym n (ym+1)]) (a::q) g⟩:=by cases rs<;>exact AZ [Cy yo AA q g a,DD a ym (decide_eq_false h),Ap yo AA (a::q) g (AG Kd.ky.id .none n ym n (ym+1)) (g0 hd)]
theorem qJ(hd:AA.length<=2900 - 10)(hs:q.length<=900):∀d,AN PP fu (AD PP fu (d+1)) wB ⟨AS yr false n false ym [63] (Ad false e rs.l),AI yo AA q g⟩= .ok (.ret (.tup [.ref 2,.tup [tupI n ym,.none]])) ⟨AS yr false n false (ym) [63] (Ad false e (rs.K (.bool false) (.bool true) (.str [63])).l),AI yo AA q g⟩:=by cases rs<;>exact AZ []
theorem qK(h:a<(ym:Int))(hd:AA.length<=2900 - 10)(hs:q.length<=900):∀d,AN PP fu (AD PP fu (d+1)) wB ⟨AS yr false n true ym [58] (Ad false e rs.l),AI yo AA (a::q) g⟩= .ok (.next) ⟨AS yr false n true (ym+2) [58] (Ad false e (rs.K (.bool false) (.bool true) (.str [58])).l),AI yo ((AA++[AG Kd.bm.id .none n ym n ym])++[AG Kd.va.id .none n ym n (ym+1)]) ((ym:Int)::a::q) g⟩:=by cases rs<;>exact AZ [Cy yo AA q g a,DD a ym (decide_eq_true h),IA yo AA (a::q) g ym (FQ (by show q.length+1<=2900;exact BF)),Ap yo AA ((ym:Int)::a::q) g (AG Kd.bm.id .none n ym n ym) (g0 hd),Ap yo (AA++[AG Kd.bm.id .none n ym n ym]) ((ym:Int)::a::q) g (AG Kd.va.id .none n ym n (ym+1)) (g1 hd _)]
theorem qL(h:¬a<(ym:Int))(hd:AA.length<=2900 - 10)(hs:q.length<=900):∀d,AN PP fu (AD PP fu (d+1)) wB ⟨AS yr false n true ym [58] (Ad false e rs.l),AI yo AA (a::q) g⟩= .ok (.next) ⟨AS yr false n true (ym+2) [58] (Ad false e (rs.K (.bool false) (.bool true) (.str [58])).l),AI yo (AA++[AG Kd.va.id .none n ym n (ym+1)]) (a::q) g⟩:=by cases rs<;>exact AZ [Cy yo AA q g a,DD a ym (decide_eq_false h),Ap yo AA (a::q) g (AG Kd.va.id .none n ym n (ym+1)) (g0 hd)]
theorem qM(hd:AA.length<=2900 - 10)(hs:q.length<=900):∀d,AN PP fu (AD PP fu (d+1)) wB ⟨AS yr false n false ym [58] (Ad false e rs.l),AI yo AA q g⟩= .ok (.ret (.tup [.ref 2,.tup [tupI n ym,.none]])) ⟨AS yr false n false (ym) [58] (Ad false e (rs.K (.bool false) (.bool true) (.str [58])).l),AI yo AA q g⟩:=by cases rs<;>exact AZ []
theorem qN(h:a<(ym:Int))(hd:AA.length<=2900 - 10)(hs:q.length<=900):∀d,AN PP fu (AD PP fu (d+1)) wB ⟨AS yr false n true ym [119,58] (Ad false e rs.l),AI yo AA (a::q) g⟩= .ok (.next) ⟨AS yr false n false (ym+3) [119,58] (Ad false e (rs.K (.bool true) (.bool false) (.str [119])).l),AI yo ((((AA++[AG Kd.bm.id .none n ym n ym])++[AG Kd.ky.id .none n ym n ym])++[AG A2 (.str [119]) n ym n (ym+1)])++[AG Kd.va.id .none n (ym+1) n (ym+2)]) ((ym:Int)::a::q) g⟩:=by cases rs<;>exact AZ [Cy yo AA q g a,DD a ym (decide_eq_true h),IA yo AA (a::q) g ym (FQ (by show q.length+1<=2900;exact BF)),Ap yo AA ((ym:Int)::a::q) g (AG Kd.bm.id .none n ym n ym) (g0 hd),Ap yo (AA++[AG Kd.bm.id .none n ym n ym]) ((ym:Int)::a::q) g (AG Kd.ky.id .none n ym n ym) (g1 hd _),Ap yo ((AA++[AG Kd.bm.id .none n ym n ym])++[AG Kd.ky.id .none n ym n ym]) ((ym:Int)::a::q) g (AG A2 (.str [119]) n ym n (ym+1)) (g2 hd _ _),Ap yo (((AA++[AG Kd.bm.id .none n ym n ym])++[AG Kd.ky.id .none n ym n ym])++[AG A2 (.str [119]) n ym n (ym+1)]) ((ym:Int)::a::q) g (AG Kd.va.id .none n (ym+1) n (ym+2)) (g3 hd _ _ _)]
theorem qO(h:¬a<(ym:Int))(hd:AA.length<=2900 - 10)(hs:q.length<=900):∀d,AN PP fu (AD PP fu (d+1)) wB ⟨AS yr false n true ym [119,58] (Ad false e rs.l),AI yo AA (a::q) g⟩= .ok (.next) ⟨AS yr false n false (ym+3) [119,58] (Ad false e (rs.K (.bool true) (.bool false) (.str [119])).l),AI yo (((AA++[AG Kd.ky.id .none n ym n ym])++[AG A2 (.str [119]) n ym n (ym+1)])++[AG Kd.va.id .none n (ym+1) n (ym+2)]) (a::q) g⟩:=by cases rs<;>exact AZ [Cy yo AA q g a,DD a ym (decide_eq_false h),Ap yo AA (a::q) g (AG Kd.ky.id .none n ym n ym) (g0 hd),Ap yo (AA++[AG Kd.ky.id .none n ym n ym]) (a::q) g (AG A2 (.str [119]) n ym n (ym+1)) (g1 hd _),Ap yo ((AA++[AG Kd.ky.id .none n ym n ym])++[AG A2 (.str [119]) n ym n (ym+1)]) (a::q) g (AG Kd.va.id .none n (ym+1) n (ym+2)) (g2 hd _ _)]
theorem qP(hd:AA.length<=2900 - 10)(hs:q.length<=900):∀d,AN PP fu (AD PP fu (d+1)) wB ⟨AS yr false n false ym [119,58] (Ad false e rs.l),AI yo AA q g⟩= .ok (.ret (.tup [.ref 2,.tup [tupI n (ym+1),.none]])) ⟨AS yr false n false (ym) [119,58] (Ad false e (rs.K (.bool true) (.bool false) (.str [119])).l),AI yo (AA++[AG A2 (.str [119]) n ym n (ym+1)]) q g⟩:=by cases rs<;>exact AZ [Ap yo AA q g (AG A2 (.str [119]) n ym n (ym+1)) (g0 hd)]
theorem qQ(h:a<(ym:Int))(hd:AA.length<=2900 - 10)(hs:q.length<=900):∀d,AN PP fu (AD PP fu (d+1)) wB ⟨AS yr false n true ym [39,113,39,58] (Ad false e rs.l),AI yo AA (a::q) g⟩= .ok (.next) ⟨AS yr false n false (ym+5) [39,113,39,58] (Ad false e (rs.K (.bool true) (.bool false) (.str [39,113,39])).l),AI yo ((((AA++[AG Kd.bm.id .none n ym n ym])++[AG Kd.ky.id .none n ym n ym])++[AG A2 (.str [113]) n ym n (ym+3)])++[AG Kd.va.id .none n (ym+3) n (ym+4)]) ((ym:Int)::a::q) g⟩:=by cases rs<;>exact AZ [Cy yo AA q g a,DD a ym (decide_eq_true h),IA yo AA (a::q) g ym (FQ (by show q.length+1<=2900;exact BF)),Ap yo AA ((ym:Int)::a::q) g (AG Kd.bm.id .none n ym n ym) (g0 hd),Ap yo (AA++[AG Kd.bm.id .none n ym n ym]) ((ym:Int)::a::q) g (AG Kd.ky.id .none n ym n ym) (g1 hd _),Ap yo ((AA++[AG Kd.bm.id .none n ym n ym])++[AG Kd.ky.id .none n ym n ym]) ((ym:Int)::a::q) g (AG A2 (.str [113]) n ym n (ym+3)) (g2 hd _ _),Ap yo (((AA++[AG Kd.bm.id .none n ym n ym])++[AG Kd.ky.id .none n ym n ym])++[AG A2 (.str [113]) n ym n (ym+3)]) ((ym:Int)::a::q) g (AG Kd.va.id .none n (ym+3) n (ym+4)) (g3 hd _ _ _)]
theorem qR(h:¬a<(ym:Int))(hd:AA.length<=2900 - 10)(hs:q.length<=900):∀d,AN PP fu (AD PP fu (d+1)) wB ⟨AS yr false n true ym [39,113,39,58] (Ad false e rs.l),AI yo AA (a::q) g⟩= .ok (.next) ⟨AS yr false n false (ym+5) [39,113,39,58] (Ad false e (rs.K (.bool true) (.bool false) (.str [39,113,39])).l),AI yo (((AA++[AG Kd.ky.id .none n ym n ym])++[AG A2 (.str [113]) n ym n (ym+3)])++[AG Kd.va.id .none n (ym+3) n (ym+4)]) (a::q) g⟩:=by cases rs<;>exact AZ [Cy yo AA q g a,DD a ym (decide_eq_false h),Ap yo AA (a::q) g (AG Kd.ky.id .none n ym n ym) (g0 hd),Ap yo (AA++[AG Kd.ky.id .none n ym n ym]) (a::q) g (AG A2 (.str [113]) n ym n (ym+3)) (g1 hd _),Ap yo ((AA++[AG Kd.ky.id .none n ym n ym])++[AG A2 (.str [113]) n ym n (ym+3)]) (a::q) g (AG Kd.va.id .none n (ym+3) n (ym+4)) (g2 hd _ _)]
theorem qS(hd:AA.length<=2900 - 10)(hs:q.length<=900):∀d,AN PP fu (AD PP fu (d+1)) wB ⟨AS yr false n false ym [39,113,39,58] (Ad false e rs.l),AI yo AA q g⟩= .ok (.ret (.tup [.ref 2,.tup [tupI n (ym+3),.none]])) ⟨AS yr false n false (ym) [39,113,39,58] (Ad false e (rs.K (.bool true) (.bool false) (.str [39,113,39])).l),AI yo (AA++[AG A2 (.str [113]) n ym n (ym+3)]) q g⟩:=by cases rs<;>exact AZ [Ap yo AA q g (AG A2 (.str [113]) n ym n (ym+3)) (g0 hd)]
theorem qT(h:a<(ym:Int))(hd:AA.length<=2900 - 10)(hs:q.length<=900):∀d,AN PP fu (AD PP fu (d+1)) wB ⟨AS yr false n true ym [45,45,45,58] (Ad false e rs.l),AI yo AA (a::q) g⟩= .ok (.next) ⟨AS yr false n false (ym+5) [45,45,45,58] (Ad false e (rs.K (.bool true) (.bool false) (.str [45,45,45])).l),AI yo ((((AA++[AG Kd.bm.id .none n ym n ym])++[AG Kd.ky.id .none n ym n ym])++[AG A2 (.str [45,45,45]) n ym n (ym+3)])++[AG Kd.va.id .none n (ym+3) n (ym+4)]) ((ym:Int)::a::q) g⟩:=by cases rs<;>exact AZ [Cy yo AA q g a,DD a ym (decide_eq_true h),IA yo AA (a::q) g ym (FQ (by show q.length+1<=2900;exact BF)),Ap yo AA ((ym:Int)::a::q) g (AG Kd.bm.id .none n ym n ym) (g0 hd),Ap yo (AA++[AG Kd.bm.id .none n ym n ym]) ((ym:Int)::a::q) g (AG Kd.ky.id .none n ym n ym) (g1 hd _),Ap yo ((AA++[AG Kd.bm.id .none n ym n ym])++[AG Kd.ky.id .none n ym n ym]) ((ym:Int)::a::q) g (AG A2 (.str [45,45,45]) n ym n (ym+3)) (g2 hd _ _),Ap yo (((AA++[AG Kd.bm.id .none n ym n ym])++[AG Kd.ky.id .none n ym n ym])++[AG A2 (.str [45,45,45]) n ym n (ym+3)]) ((ym:Int)::a::q) g (AG Kd.va.id .none n (ym+3) n (ym+4)) (g3 hd _ _ _)]
theorem qU(h:¬a<(ym:Int))(hd:AA.length<=2900 - 10)(hs:q.length<=900):∀d,AN PP fu (AD PP fu (d+1)) wB ⟨AS yr false n true ym [45,45,45,58] (Ad false e rs.l),AI yo AA (a::q) g⟩= .ok (.next) ⟨AS yr false n false (ym+5) [45,45,45,58] (Ad false e (rs.K (.bool true) (.bool false) (.str [45,45,45])).l),AI yo (((AA++[AG Kd.ky.id .none n ym n ym])++[AG A2 (.str [45,45,45]) n ym n (ym+3)])++[AG Kd.va.id .none n (ym+3) n (ym+4)]) (a::q) g⟩:=by cases rs<;>exact AZ [Cy yo AA q g a,DD a ym (decide_eq_false h),Ap yo AA (a::q) g (AG Kd.ky.id .none n ym n ym) (g0 hd),Ap yo (AA++[AG Kd.ky.id .none n ym n ym]) (a::q) g (AG A2 (.str [45,45,45]) n ym n (ym+3)) (g1 hd _),Ap yo ((AA++[AG Kd.ky.id .none n ym n ym])++[AG A2 (.str [45,45,45]) n ym n (ym+3)]) (a::q) g (AG Kd.va.id .none n (ym+3) n (ym+4)) (g2 hd _ _)]
theorem qV(hd:AA.length<=2900 - 10)(hs:q.length<=900):∀d,AN PP fu (AD PP fu (d+1)) wB ⟨AS yr false n false ym [45,45,45,58] (Ad false e rs.l),AI yo AA q g⟩= .ok (.ret (.tup [.ref 2,.tup [tupI n (ym+3),.none]])) ⟨AS yr false n false (ym) [45,45,45,58] (Ad false e (rs.K (.bool true) (.bool false) (.str [45,45,45])).l),AI yo (AA++[AG A2 (.str [45,45,45]) n ym n (ym+3)]) q g⟩:=by cases rs<;>exact AZ [Ap yo AA q g (AG A2 (.str [45,45,45]) n ym n (ym+3)) (g0 hd)]
theorem qW(h:a<(ym:Int))(hd:AA.length<=2900 - 10)(hs:q.length<=900):∀d,AN PP fu (AD PP fu (d+1)) wB ⟨AS yr false n true ym [45,45,45,119,58] (Ad false e rs.l),AI yo AA (a::q) g⟩= .ok (.next) ⟨AS yr false n false (ym+6) [45,45,45,119,58] (Ad false e (rs.K (.bool true) (.bool false) (.str [45,45,45,119])).l),AI yo ((((AA++[AG Kd.bm.id .none n ym n ym])++[AG Kd.ky.id .none n ym n ym])++[AG A2 (.str [45,45,45,119]) n ym n (ym+4)])++[AG Kd.va.id .none n (ym+4) n (ym+5)]) ((ym:Int)::a::q) g⟩:=by cases rs<;>exact AZ [Cy yo AA q g a,DD a ym (decide_eq_true h),IA yo AA (a::q) g ym (FQ (by show q.length+1<=2900;exact BF)),Ap yo AA ((ym:Int)::a::q) g (AG Kd.bm.id .none n ym n ym) (g0 hd),Ap yo (AA++[AG Kd.bm.id .none n ym n ym]) ((ym:Int)::a::q) g (AG Kd.ky.id .none n ym n ym) (g1 hd _),Ap yo ((AA++[AG Kd.bm.id .none n ym n ym])++[AG Kd.ky.id .none n ym n ym]) ((ym:Int)::a::q) g (AG A2 (.str [45,45,45,119]) n ym n (ym+4)) (g2 hd _ _),Ap yo (((AA++[AG Kd.bm.id .none n ym n ym])++[AG Kd.ky.id .none n ym n ym])++[AG A2 (.str [45,45,45,119]) n ym n (ym+4)]) ((ym:Int)::a::q) g (AG Kd.va.id .none n (ym+4) n (ym+5)) (g3 hd _ _ _)]
theorem qX(h:¬a<(ym:Int))(hd:AA.length<=2900 - 10)(hs:q.length<=900):∀d,AN PP fu (AD PP fu (d+1)) wB ⟨AS yr false n true ym [45,45,45,119,58] (Ad false e rs.l),AI yo AA (a::q) g⟩= .ok (.next) ⟨AS yr false n false (ym+6) [45,45,45,119,58] (Ad false e (rs.K (.bool true) (.bool false) (.str [45,45,45,119])).l),AI yo (((AA++[AG Kd.ky.id .none n ym n ym])++[AG A2 (.str [45,45,45,119]) n ym n (ym+4)])++[AG Kd.va.id .none n (ym+4) n (ym+5)]) (a::q) g⟩:=by cases rs<;>exact AZ [Cy yo AA q g a,DD a ym (decide_eq_false h),Ap yo AA (a::q) g (AG Kd.ky.id .none n ym n ym) (g0 hd),Ap yo (AA++[AG Kd.ky.id .none n ym n ym]) (a::q) g (AG A2 (.str [45,45,45,119]) n ym n (ym+4)) (g1 hd _),Ap yo ((AA++[AG Kd.ky.id .none n ym n ym])++[AG A2 (.str [45,45,45,119]) n ym n (ym+4)]) (a::q) g (AG Kd.va.id .none n (ym+4) n (ym+5)) (g2 hd _ _)]
theorem qY(hd:AA.length<=2900 - 10)(hs:q.length<=900):∀d,AN PP fu (AD PP fu (d+1)) wB ⟨AS yr false n false ym [45,45,45,119,58] (Ad false e rs.l),AI yo AA q g⟩= .ok (.ret (.tup [.ref 2,.tup [tupI n (ym+4),.none]])) ⟨AS yr false n false (ym) [45,45,45,119,58] (Ad false e (rs.K (.bool true) (.bool false) (.str [45,45,45,119])).l),AI yo (AA++[AG A2 (.str [45,45,45,119]) n ym n (ym+4)]) q g⟩:=by cases rs<;>exact AZ [Ap yo AA q g (AG A2 (.str [45,45,45,119]) n ym n (ym+4)) (g0 hd)]
theorem qZ(h:a<(ym:Int))(hd:AA.length<=2900 - 10)(hs:q.length<=900):∀d,AN PP fu (AD PP fu (d+1)) wB ⟨AS yr false n true ym [46,46,46,119,58] (Ad false e rs.l),AI yo AA (a::q) g⟩= .ok (.next) ⟨AS yr false n false (ym+6) [46,46,46,119,58] (Ad false e (rs.K (.bool true) (.bool false) (.str [46,46,46,119])).l),AI yo ((((AA++[AG Kd.bm.id .none n ym n ym])++[AG Kd.ky.id .none n ym n ym])++[AG A2 (.str [46,46,46,119]) n ym n (ym+4)])++[AG Kd.va.id .none n (ym+4) n (ym+5)]) ((ym:Int)::a::q) g⟩:=by cases rs<;>exact AZ [Cy yo AA q g a,DD a ym (decide_eq_true h),IA yo AA (a::q) g ym (FQ (by show q.length+1<=2900;exact BF)),Ap yo AA ((ym:Int)::a::q) g (AG Kd.bm.id .none n ym n ym) (g0 hd),Ap yo (AA++[AG Kd.bm.id .none n ym n ym]) ((ym:Int)::a::q) g (AG Kd.ky.id .none n ym n ym) (g1 hd _),Ap yo ((AA++[AG Kd.bm.id .none n ym n ym])++[AG Kd.ky.id .none n ym n ym]) ((ym:Int)::a::q) g (AG A2 (.str [46,46,46,119]) n ym n (ym+4)) (g2 hd _ _),Ap yo (((AA++[AG Kd.bm.id .none n ym n ym])++[AG Kd.ky.id .none n ym n ym])++[AG A2 (.str [46,46,46,119]) n ym n (ym+4)]) ((ym:Int)::a::q) g (AG Kd.va.id .none n (ym+4) n (ym+5)) (g3 hd _ _ _)]
theorem qd(h:¬a<(ym:Int))(hd:AA.length<=2900 - 10)(hs:q.length<=900):∀d,AN PP fu (AD PP fu (d+1)) wB ⟨AS yr false n true ym [46,46,46,119,58] (Ad false e rs.l),AI yo AA (a::q) g⟩= .ok (.next) ⟨AS yr false n false (ym+6) [46,46,46,119,58] (Ad false e (rs.K (.bool true) (.bool false) (.str [46,46,46,119])).l),AI yo (((AA++[AG Kd.ky.id .none n ym n ym])++[AG A2 (.str [46,46,46,119]) n ym n (ym+4)])++[AG Kd.va.id .none n (ym+4) n (ym+5)]) (a::q) g⟩:=by cases rs<;>exact AZ [Cy yo AA q g a,DD a ym (decide_eq_false h),Ap yo AA (a::q) g (AG Kd.ky.id .none n ym n ym) (g0 hd),Ap yo (AA++[AG Kd.ky.id .none n ym n ym]) (a::q) g (AG A2 (.str [46,46,46,119]) n ym n (ym+4)) (g1 hd _),Ap yo ((AA++[AG Kd.ky.id .none n ym n ym])++[AG A2 (.str [46,46,46,119]) n ym n (ym+4)]) (a::q) g (AG Kd.va.id .none n (ym+4) n (ym+5)) (g2 hd _ _)]
theorem qe(hd:AA.length<=2900 - 10)(hs:q.length<=900):∀d,AN PP fu (AD PP fu (d+1)) wB ⟨AS yr false n false ym [46,46,46,119,58] (Ad false e rs.l),AI yo AA q g⟩= .ok (.ret (.tup [.ref 2,.tup [tupI n (ym+4),.none]])) ⟨AS yr false n false (ym) [46,46,46,119,58] (Ad false e (rs.K (.bool true) (.bool false) (.str [46,46,46,119])).l),AI yo (AA++[AG A2 (.str [46,46,46,119]) n ym n (ym+4)]) q g⟩:=by cases rs<;>exact AZ [Ap yo AA q g (AG A2 (.str [46,46,46,119]) n ym n (ym+4)) (g0 hd)]
theorem qf(h:a=(ym:Int))(hd:AA.length<=2900 - 10)(hs:q.length<=900):∀d,AN PP fu (AD PP fu (d+1)) wB ⟨AS yr false n true ym [39,113,39] (Ad false e rs.l),AI yo AA (a::q) g⟩= .ok (.ret (.tup [.ref 2,.tup [.none,tupI n ym]])) ⟨AS yr false n true (ym) [39,113,39] (Ad false e (rs.K (.bool false) (.bool false) (.str [39,113,39])).l),AI yo AA (a::q) g⟩:=by cases rs<;>exact AZ [Cy yo AA q g a,BW a ym (b:=true) (by rw [h];exact beq_self_eq_true _)]
theorem qg(h:a≠(ym:Int))(hd:AA.length<=2900 - 10)(hs:q.length<=900):∀d,AN PP fu (AD PP fu (d+1)) wB ⟨AS yr false n true ym [39,113,39] (Ad false e rs.l),AI yo AA (a::q) g⟩= .ok (.next) ⟨AS yr true n false (ym+4) [39,113,39] (Ad false e (rs.K (.bool false) (.bool false) (.str [39,113,39])).l),AI yo (AA++[AG A2 (.str [113]) n ym n (ym+3)]) (a::q) g⟩:=by cases rs<;>exact AZ [Cy yo AA q g a,BW a ym (b:=false) (by rw [beq_eq_false_iff_ne];exact h),Ap yo AA (a::q) g (AG A2 (.str [113]) n ym n (ym+3)) (g0 hd)]
theorem qh(hd:AA.length<=2900 - 10)(hs:q.length<=900):∀d,AN PP fu (AD PP fu (d+1)) wB ⟨AS yr false n false ym [39,113,39] (Ad false e rs.l),AI yo AA q g⟩= .ok (.next) ⟨AS yr false n false (ym+4) [39,113,39] (Ad false e (rs.K (.bool false) (.bool false) (.str [39,113,39])).l),AI yo (AA++[AG A2 (.str [113]) n ym n (ym+3)]) q g⟩:=by cases rs<;>exact AZ [Ap yo AA q g (AG A2 (.str [113]) n ym n (ym+3)) (g0 hd)]
end
inductive Kw where |w |q |d3 |KG |KH
inductive Ln where |ent |key |val
inductive Wd where |blank |rem |start |stop |dd |dy |ln(l:Ln) |kw(k:Kw) |BU |Cz(w:List Nat)
def Kw.txt:Kw->List Nat
 | .w=>[119,58]
 | .q=>[39,113,39,58]
 | .d3=>[45,45,45,58]
 | .KG=>[45,45,45,119,58]
 | .KH=>[46,46,46,119,58]
def Kw.told:Kw->List Nat
 | .w=>[119]
 | .q=>[113]
 | .d3=>[45,45,45]
 | .KG=>[45,45,45,119]
 | .KH=>[46,46,46,119]
def Kw.raw:Kw->List Nat
 | .w=>[119]
 | .q=>[39,113,39]
 | .d3=>[45,45,45]
 | .KG=>[45,45,45,119]
 | .KH=>[46,46,46,119]
def Kw.len:Kw->Nat
 | .w=> 1
 | .q=> 3
 | .d3=> 3
 | .KG=> 4
 | .KH=> 4
def Ln.txt:Ln->List Nat
 | .ent=>[45]
 | .key=>[63]
 | .val=>[58]
def Ln.k:Ln->Kd
 | .ent=>.en
 | .key=>.ky
 | .val=>.va
def Ln.o:Ln->Kd
 | .ent=>.bs
 | .key=>.bm
 | .val=>.bm
def Wd.txt:Wd->List Nat
 | .blank=>[]
 | .rem=>[35,119]
 | .start=>[45,45,45]
 | .stop=>[46,46,46]
 | .dd=>[37,100]
 | .dy=>[37,89,65,77,76]
 | .ln l=> l.txt
 | .kw k=> k.txt
 | .BU=>[39,113,39]
 | .Cz w=> w
inductive Ref where |bad(a b:Nat) |req(a b:Nat)
def Ref.v:Ref->AV
 | .bad a b=>.tup [tupI a b,.none]
 | .req a b=>.tup [.none,tupI a b]
inductive WR where
 |next (AA:List AV) (st:List Int) (yp yn:Bool) (ym:Nat)
 |brk (AA:List AV) (st:List Int) (yn yr:Bool)
 |ret (AA:List AV) (r:Ref)
def As(n ym:Nat)(B:Int)(AA:List AV)(st:List Int):List AV:=AA++tv (AB B st).1 (Ah n ym)
def EH(n ym:Nat)(yp:Bool)(l:Ln)(AA:List AV)(st:List Int):WR:=match yp with
 |true=> if st.headD 0<(ym:Int)then .next ((AA++[AG l.o.id .none n ym n ym])++[AG l.k.id .none n ym n (ym+1)]) ((ym:Int)::st) true false (ym+2)
   else .next (AA++[AG l.k.id .none n ym n (ym+1)]) st true false (ym+2)
 |false=>.ret AA (.bad n ym)
def IB(n ym:Nat)(k:Kw):AV:=AG A2 (.str k.told) n ym n (ym+k.len)
def EI(n ym:Nat)(yp:Bool)(k:Kw)(AA:List AV)(st:List Int):WR:=match yp with
 |true=> if st.headD 0<(ym:Int)then .next ((((AA++[AG Kd.bm.id .none n ym n ym])++[AG Kd.ky.id .none n ym n ym])++[IB n ym k])++[AG Kd.va.id .none n (ym+k.len) n (ym+k.len+1)]) ((ym:Int)::st) false false (ym+k.len+2)
   else .next (((AA++[AG Kd.ky.id .none n ym n ym])++[IB n ym k])++[AG Kd.va.id .none n (ym+k.len) n (ym+k.len+1)]) st false false (ym+k.len+2)
 |false=>.ret (AA++[IB n ym k]) (.bad n (ym+k.len))
def Li(n ym:Nat):AV:=AG A2 (.str [113]) n ym n (ym+3)
def Eb(n ym:Nat)(yp:Bool)(AA:List AV)(st:List Int):WR:=match yp with
 |true=> if st.headD 0=(ym:Int)then .ret AA (.req n ym)else .next (AA++[Li n ym]) st false true (ym+4)
 |false=>.next (AA++[Li n ym]) st false false (ym+4)
def Av(n rl:Nat)(AA:List AV)(st:List Int)(yp yn:Bool)(ym:Nat):Wd->WR
 | .blank=>.next AA st yp yn (ym+1)
 | .rem=>.brk AA st yn true
 | .start=>.next (As n ym (-1) AA st++[AG Kd.ds.id .none n 0 n 3]) (AB (-1) st).2 false false (ym+4)
 | .stop=>.next (As n ym (-1) AA st++[AG Kd.de.id .none n 0 n 3]) (AB (-1) st).2 false false (ym+4)
 | .dd=> if ym=0 then .brk (As n ym (-1) AA st++[AG FP .none n 0 n 2]) (AB (-1) st).2 false false else .ret (if yn=true then CB AA none (some (-1))else AA) (.bad n ym)
 | .dy=>.brk (As n ym (-1) AA st++[AG FP (.tup [.int 1,.int 1]) n 0 n rl]) (AB (-1) st).2 false false
 | .ln l=> EH n ym yp l (As n ym ym AA st) (AB ym st).2
 | .kw k=> EI n ym yp k (As n ym ym AA st) (AB ym st).2
 | .BU=> Eb n ym yp (As n ym ym AA st) (AB ym st).2
 | .Cz _=>.brk AA st yn true
def CZ(n rl:Nat):List Wd->List AV->List Int->Bool->Bool->Nat->WR
 | [],AA,st,yp,yn,ym=>.brk AA st yn true
 |w::ws,AA,st,yp,yn,ym=> match Av n rl AA st yp yn ym w with
  | .next AA st yp yn ym=> CZ n rl ws AA st yp yn ym
  | .brk AA st yn yr=>.brk AA st yn yr
  | .ret AA r=>.ret AA r
theorem IC{n rl:Nat}{w:Wd}{ws:List Wd}{AA:List AV}{st:List Int}{yp yn:Bool}{ym:Nat}:CZ n rl (w::ws) AA st yp yn ym=match Av n rl AA st yp yn ym w with
 | .next AA st yp yn ym=> CZ n rl ws AA st yp yn ym
 | .brk AA st yn yr=>.brk AA st yn yr
 | .ret AA r=>.ret AA r:=rfl
def Wd.ok(ym:Nat):Wd->Bool
 | .start=> ym==0
 | .stop=> ym==0
 | .dy=> ym==0
 | .Cz _=> false
 |_=> true
def Wd.OJ(ym:Nat):Wd->Bool
 | .rem=> true
 | .dd=> true
 | .dy=> true
 |_=> false
def OL:Nat->List Wd->Bool
 |_,[]=> true
 |ym,w::ws=> w.ok ym&&(w.OJ ym||OL (ym+w.txt.length+1) ws)
def By(st:List Int):Prop:=st.getLast? =some (-1)
theorem By.ne{st:List Int}(h:By st):∃a q,st=a::q:=by
 cases st with
 |nil=> cases h
 |cons a q=> exact⟨a,q,rfl⟩
theorem By.low{st:List Int}(h:By st){B:Int}(hB: -1<=B):low B st:=⟨-1,h,hB⟩
theorem By.push{st:List Int}(h:By st)(a:Int):By (a::st):=by obtain⟨b,q,rfl⟩:=h.ne;exact h
theorem By.AB{B:Int}:∀{st:List Int},By st->By (AB B st).2
 | []=>@fun h=> by cases h
 | [a]=>@fun h=> h
 |a::b::r=>@fun h=> by
  by_cases q:a>B
  . rw [show L4.AB B (a::b::r)=((L4.AB B (b::r)).1+1,(L4.AB B (b::r)).2)from if_pos q];exact By.AB (st:=b::r) h
  . rw [show L4.AB B (a::b::r)=(0,a::b::r)from if_neg q];exact h
theorem DT(B:Int):∀st:List Int,(AB B st).1+(AB B st).2.length=st.length
 | []=> rfl
 | [a]=> rfl
 |a::b::r=> by
  by_cases q:a>B
  . rw [show AB B (a::b::r)=((AB B (b::r)).1+1,(AB B (b::r)).2)from if_pos q];have:=DT B (b::r);show(AB B (b::r)).1+1+(AB B (b::r)).2.length=(b::r).length+1;exact uc (AU (t7 this)) (AU (t7 this.symm))
  . rw [show AB B (a::b::r)=(0,a::b::r)from if_neg q];exact uv _
theorem Ec(cl:Bool)(ym:Nat): -1<=AQ cl ym:=by
 cases cl
 . show(-1:Int)<=ym;exact Gk
 . show(-1:Int)<= -1;exact xB _
def DU:Option (AV×AV×Rs)->Ce
 |none=>.c0
 |some (a,b,rs)=>.c1 a b rs.l
def DV:Option (AV×AV×Rs)->Rs
 |none=>.z
 |some (_,_,rs)=> rs
theorem qi(o:Option (AV×AV×Rs)):(DU o).rs=(DV o).l:=by rcases o with _ |⟨a,b,rs⟩<;>rfl
def qj(yo:List AV)(n:Nat)(yr:Bool)(wr:WR)(r:Out Flow):Prop:=match wr with
 | .next d s f wt a=> ∃w o g,r= .ok .next ⟨AS yr wt n f a w (DU o).l,AI yo d s g⟩∨r= .ok .cont ⟨AS yr wt n f a w (DU o).l,AI yo d s g⟩
 | .brk d s wt fr=> ∃w o g f a,r= .ok .brk ⟨AS fr wt n f a w (DU o).l,AI yo d s g⟩
 | .ret d ref=> ∃dv l x y g,r= .ok (.ret (.tup [dv,ref.v])) ⟨l,AI yo x y g⟩/\(dv= .Ae d∨(dv= .ref 2/\x=d))
def Fits(AA:List AV)(st:List Int)(k:Nat):Prop:=AA.length+st.length+5 * k<=800
inductive Yj{α:Type}(Q:α->Prop)(f:Nat->α):Prop
 |mk (r:α) (h1:Q r) (h2:∀d,f d=r)
theorem qk{yo AA:List AV}{st:List Int}{g:List AObj}{yp yn:Bool}{n ym:Nat}{o:Option (AV×AV×Rs)}{u:List Nat}{w:Wd}(hu:yo[n]? =some (.str u))(hS:By st)(hf:Fits AA st 1)(hw:w.ok ym=true):
 Yj (qj yo n true (Av n u.length AA st yp yn ym w)) fun d=> AN PP fu (AD PP fu (d+1)) (wA++wB) ⟨AS true yn n yp ym w.txt (DU o).l,AI yo AA st g⟩:=by
 have hf:AA.length+st.length+5 * 1<=800:=hf;have ht:st.length<=900:=by exact AU hf
 have hd:AA.length<=2000:=by exact AU hf
 have zD:=fun B=> DT B st;have zp:∀B,(As n ym B AA st).length<=2900 - 10:=fun B=> by unfold As;rw [t9,ub];have:=zD B;lia
 have zl:∀B,(AB B st).2.length<=900:=fun B=> by have:=zD B;exact AU (uA (t7 this) ht)
 have hk:∀B,∃a q,(AB B st).2=a::q/\q.length<=900:=fun B=> by obtain⟨a,q,e⟩:=(hS.AB (B:=B)).ne;have:=zl B;rw [e]at this;exact⟨a,q,e,t5 (vf _) this⟩
 have hbe:∀B,AA++tv (AB B st).1 (Ah n ym)=As n ym B AA st:=fun B=> rfl;have eR:=qi o;cases w with
 |blank=> exact⟨_,⟨[],o,g,.inr rfl⟩,AZ (k:=1) []⟩
 |rem=> exact⟨_,⟨[35,119],o,g,yp,ym,rfl⟩,AZ (k:=1) []⟩
 |Cz w=> cases hw
 |start=>
  obtain rfl:ym=0:=eq_of_beq hw;have hA:=pU (yo:=yo) (g:=g) (yr:=true) (yn:=yn) (yp:=yp) (n:=n) (ce:=DU o) rfl (hS.low (Ec true 0)) ht hd;rw [eR]at hA;have hx:=zl (-1);have hy:=zp (-1);cases yp
  . exact⟨_,⟨_,some (_,_,(DV o).K _ _ _),_,.inl rfl⟩,fun d=> CN (hA d) (p9 hy hx d)⟩
  . exact⟨_,⟨_,some (_,_,(DV o).K _ _ _),_,.inl rfl⟩,fun d=> CN (hA d) (p8 hy hx d)⟩
 |stop=>
  obtain rfl:ym=0:=eq_of_beq hw;have hA:=pV (yo:=yo) (g:=g) (yr:=true) (yn:=yn) (yp:=yp) (n:=n) (ce:=DU o) rfl (hS.low (Ec true 0)) ht hd;rw [eR]at hA;have hx:=zl (-1);have hy:=zp (-1);cases yp
  . exact⟨_,⟨_,some (_,_,(DV o).K _ _ _),_,.inl rfl⟩,fun d=> CN (hA d) (qB hy hx d)⟩
  . exact⟨_,⟨_,some (_,_,(DV o).K _ _ _),_,.inl rfl⟩,fun d=> CN (hA d) (qA hy hx d)⟩
 |dy=> obtain rfl:ym=0:=eq_of_beq hw;have hA:=pX (yo:=yo) (g:=g) (yr:=true) (yn:=yn) (yp:=yp) (n:=n) (ce:=DU o) rfl (hS.low (Ec true 0)) ht hd;rw [eR]at hA;exact⟨_,⟨_,some (_,_,(DV o).V _),_,_,_,rfl⟩,fun d=> CN (hA d) (qD hu (zp (-1)) (zl (-1)) d)⟩
 |dd=>
  by_cases ha:ym=0
  . subst ha;have hA:=pW (yo:=yo) (g:=g) (yr:=true) (yn:=yn) (yp:=yp) (n:=n) (ce:=DU o) rfl (hS.low (Ec true 0)) ht hd;rw [eR]at hA;exact⟨_,⟨_,some (_,_,(DV o).V _),_,_,_,rfl⟩,fun d=> CN (hA d) (qC (zp (-1)) (zl (-1)) d)⟩
  . have hA:=pz (yo:=yo) (AA:=AA) (g:=g) (yr:=true) (yn:=yn) (yp:=yp) (n:=n) (ce:=DU o) ha (hS.low (Ec false ym)) ht;rw [show Av n u.length AA st yp yn ym .dd= .ret (if yn=true then CB AA none (some (-1))else AA) (.bad n ym)from if_neg ha];refine⟨_,⟨_,_,_,_,_,rfl,?_⟩,fun d=> Yh (hA d) nofun⟩;cases yn
    . exact .inr ⟨rfl,rfl⟩
    . exact .inl rfl
 |ln l=>
  obtain⟨a,q,e,hq⟩:=hk ym;have hy:=zp ym;have hA:∀d,AN PP fu (AD PP fu (d+1)) wA ⟨AS true yn n yp ym (Wd.ln l).txt (DU o).l,AI yo AA st g⟩= .ok .next ⟨AS true false n yp ym (Wd.ln l).txt (Ad false g.length (DV o).l),AI yo (As n ym ym AA st) (AB ym st).2 (sn g (L1 (tv (AB ym st).1 (Ah n ym))))⟩:=by
   rw [<-eR];cases l
   . exact pY (hS.low (Ec false ym)) ht hd
   . exact pZ (hS.low (Ec false ym)) ht hd
   . exact pb (hS.low (Ec false ym)) ht hd
  rw [show Av n u.length AA st yp yn ym (.ln l)=EH n ym yp l (As n ym ym AA st) (AB ym st).2 from rfl];rw [e]at hA⊢;generalize As n ym ym AA st=D at hA hy;cases yp
  . refine⟨_,⟨.ref 2,AS true false n false ym (Wd.ln l).txt (Ad false g.length ((DV o).K (.bool false) (.bool true) (.str l.txt)).l),_,a::q,sn g (L1 (tv (AB ym st).1 (Ah n ym))),rfl,.inr ⟨rfl,rfl⟩⟩,fun d=> CN (hA d) ?_⟩
    . cases l
      . exact qG hy (by show q.length+1<=900;have:=zl ym;rw [e]at this;exact this) d
      . exact qJ hy (by show q.length+1<=900;have:=zl ym;rw [e]at this;exact this) d
      . exact qM hy (by show q.length+1<=900;have:=zl ym;rw [e]at this;exact this) d
  . by_cases h:a<(ym:Int)
    . rw [show EH n ym true l D (a::q)= .next ((D++[AG l.o.id .none n ym n ym])++[AG l.k.id .none n ym n (ym+1)]) ((ym:Int)::a::q) true false (ym+2)from if_pos h];refine⟨_,⟨(Wd.ln l).txt,some (.bool false,.ref (EG g.length),(DV o).K (.bool false) (.bool true) (.str l.txt)),sn g (L1 (tv (AB ym st).1 (Ah n ym))),.inl rfl⟩,fun d=> CN (hA d) ?_⟩;cases l
      . exact qE h hy hq d
      . exact qH h hy hq d
      . exact qK h hy hq d
    . rw [show EH n ym true l D (a::q)= .next (D++[AG l.k.id .none n ym n (ym+1)]) (a::q) true false (ym+2)from if_neg h];refine⟨_,⟨(Wd.ln l).txt,some (.bool false,.ref (EG g.length),(DV o).K (.bool false) (.bool true) (.str l.txt)),sn g (L1 (tv (AB ym st).1 (Ah n ym))),.inl rfl⟩,fun d=> CN (hA d) ?_⟩;cases l
      . exact qF h hy hq d
      . exact qI h hy hq d
      . exact qL h hy hq d
 |kw l=>
  obtain⟨a,q,e,hq⟩:=hk ym;have hy:=zp ym;have hA:∀d,AN PP fu (AD PP fu (d+1)) wA ⟨AS true yn n yp ym (Wd.kw l).txt (DU o).l,AI yo AA st g⟩= .ok .next ⟨AS true false n yp ym (Wd.kw l).txt (Ad false g.length (DV o).l),AI yo (As n ym ym AA st) (AB ym st).2 (sn g (L1 (tv (AB ym st).1 (Ah n ym))))⟩:=by
   rw [<-eR];cases l
   . exact pe (hS.low (Ec false ym)) ht hd
   . exact pg (hS.low (Ec false ym)) ht hd
   . exact pn (hS.low (Ec false ym)) ht hd
   . exact pq (hS.low (Ec false ym)) ht hd
   . exact pv (hS.low (Ec false ym)) ht hd
  rw [show Av n u.length AA st yp yn ym (.kw l)=EI n ym yp l (As n ym ym AA st) (AB ym st).2 from rfl];rw [e]at hA⊢;generalize As n ym ym AA st=D at hA hy;have zW:(a::q).length<=900:=by have:=zl ym;rw [e]at this;exact this
  cases yp
  . refine⟨_,⟨.ref 2,AS true false n false ym (Wd.kw l).txt (Ad false g.length ((DV o).K (.bool true) (.bool false) (.str l.raw)).l),_,a::q,sn g (L1 (tv (AB ym st).1 (Ah n ym))),rfl,.inr ⟨rfl,rfl⟩⟩,fun d=> CN (hA d) ?_⟩
    . cases l
      . exact qP hy zW d
      . exact qS hy zW d
      . exact qV hy zW d
      . exact qY hy zW d
      . exact qe hy zW d
  . by_cases h:a<(ym:Int)
    . rw [show EI n ym true l D (a::q)= .next ((((D++[AG Kd.bm.id .none n ym n ym])++[AG Kd.ky.id .none n ym n ym])++[IB n ym l])++[AG Kd.va.id .none n (ym+l.len) n (ym+l.len+1)]) ((ym:Int)::a::q) false false (ym+l.len+2)from if_pos h];refine⟨_,⟨(Wd.kw l).txt,some (.bool false,.ref (EG g.length),(DV o).K (.bool true) (.bool false) (.str l.raw)),sn g (L1 (tv (AB ym st).1 (Ah n ym))),.inl rfl⟩,fun d=> CN (hA d) ?_⟩;cases l
      . exact qN h hy hq d
      . exact qQ h hy hq d
      . exact qT h hy hq d
      . exact qW h hy hq d
      . exact qZ h hy hq d
    . rw [show EI n ym true l D (a::q)= .next (((D++[AG Kd.ky.id .none n ym n ym])++[IB n ym l])++[AG Kd.va.id .none n (ym+l.len) n (ym+l.len+1)]) (a::q) false false (ym+l.len+2)from if_neg h];refine⟨_,⟨(Wd.kw l).txt,some (.bool false,.ref (EG g.length),(DV o).K (.bool true) (.bool false) (.str l.raw)),sn g (L1 (tv (AB ym st).1 (Ah n ym))),.inl rfl⟩,fun d=> CN (hA d) ?_⟩;cases l
      . exact qO h hy hq d
      . exact qR h hy hq d
      . exact qU h hy hq d
      . exact qX h hy hq d
      . exact qd h hy hq d
 |BU=>
  obtain⟨a,q,e,hq⟩:=hk ym;have hy:=zp ym;have hA:=px (yo:=yo) (g:=g) (yr:=true) (yn:=yn) (yp:=yp) (n:=n) (ce:=DU o) (hS.low (Ec false ym)) ht hd;rw [eR,show AQ false ym=(ym:Int)from rfl,hbe]at hA;rw [show Av n u.length AA st yp yn ym .BU=Eb n ym yp (As n ym ym AA st) (AB ym st).2 from rfl];have zW:(AB ym st).2.length<=900:=zl ym;rw [e]at hA zW⊢;generalize As n ym ym AA st=D at hA hy;cases yp
  . exact⟨_,⟨_,some (_,_,(DV o).K _ _ _),_,.inl rfl⟩,fun d=> CN (hA d) (qh hy zW d)⟩
  . by_cases h:a=(ym:Int)
    . rw [show Eb n ym true D (a::q)= .ret D (.req n ym)from if_pos h];exact⟨_,⟨.ref 2,_,_,_,_,rfl,.inr ⟨rfl,rfl⟩⟩,fun d=> CN (hA d) (qf h hy hq d)⟩
    . rw [show Eb n ym true D (a::q)= .next (D++[Li n ym]) (a::q) false true (ym+4)from if_neg h];exact⟨_,⟨_,some (_,_,(DV o).K _ _ _),_,.inl rfl⟩,fun d=> CN (hA d) (qg h hy hq d)⟩
def Yk(AA:List AV)(st:List Int)(d:List AV)(s:List Int):Prop:=By s/\d.length+s.length<=AA.length+st.length+5
def WR.fit(AA:List AV)(st:List Int):WR->Prop
 | .next d s _ _ _=> Yk AA st d s
 | .brk d s _ _=> Yk AA st d s
 | .ret _ _=> True
theorem Yl(n ym:Nat)(B:Int)(AA:List AV)(st:List Int):(As n ym B AA st).length+(AB B st).2.length=AA.length+st.length:=by unfold As;rw [t9,ub];have:=DT B st;exact uc (AU (t7 this)) (AU (t7 this.symm))
theorem R4{n rl:Nat}{AA:List AV}{st:List Int}{yp yn:Bool}{ym:Nat}{w:Wd}(hS:By st):(Av n rl AA st yp yn ym w).fit AA st:=by
 have hb:=fun B=> Yl n ym B AA st;have hu:=fun B=> hS.AB (B:=B);have one:∀(D:List AV) (s:List Int) (x:AV) (k:Nat),D.length+s.length<=k->(D++[x]).length+s.length<=k+1:=fun D s x k h=> by rw [t9,uw];exact AU h
 have J6:∀(D:List AV) (s:List Int) (a:Int) (k:Nat),D.length+s.length<=k->D.length+(a::s).length<=k+1:=fun D s a k h=> by rw [uh];exact AU h
 cases w with
 |blank=> exact⟨hS,by exact JD⟩
 |rem=> exact⟨hS,by exact JD⟩
 |Cz w=> exact⟨hS,by exact JD⟩
 |start=> exact⟨hu _,t5 (one _ _ _ _ (t7 (hb (-1)))) (by exact Gi)⟩
 |stop=> exact⟨hu _,t5 (one _ _ _ _ (t7 (hb (-1)))) (by exact Gi)⟩
 |dy=> exact⟨hu _,t5 (one _ _ _ _ (t7 (hb (-1)))) (by exact Gi)⟩
 |dd=>
  by_cases h:ym=0
  . rw [show Av n rl AA st yp yn ym .dd=_ from if_pos h];exact⟨hu _,t5 (one _ _ _ _ (t7 (hb (-1)))) (by exact Gi)⟩
  . rw [show Av n rl AA st yp yn ym .dd=_ from if_neg h];trivial
 |ln l=>
  rw [show Av n rl AA st yp yn ym (.ln l)=EH n ym yp l (As n ym ym AA st) (AB ym st).2 from rfl];cases yp
  . trivial
  . by_cases h:(AB (ym:Int) st).2.headD 0<(ym:Int)
    . rw [show EH n ym true l (As n ym ym AA st) (AB ym st).2=_ from if_pos h];exact⟨(hu _).push _,t5 (one _ _ _ _ (one _ _ _ _ (J6 _ _ _ _ (t7 (hb ym))))) (by exact Bt)⟩
    . rw [show EH n ym true l (As n ym ym AA st) (AB ym st).2=_ from if_neg h];exact⟨hu _,t5 (one _ _ _ _ (t7 (hb ym))) (by exact Gi)⟩
 |kw l=>
  rw [show Av n rl AA st yp yn ym (.kw l)=EI n ym yp l (As n ym ym AA st) (AB ym st).2 from rfl];cases yp
  . trivial
  . by_cases h:(AB (ym:Int) st).2.headD 0<(ym:Int)
    . rw [show EI n ym true l (As n ym ym AA st) (AB ym st).2=_ from if_pos h];exact⟨(hu _).push _,t5 (one _ _ _ _ (one _ _ _ _ (one _ _ _ _ (one _ _ _ _ (J6 _ _ _ _ (t7 (hb ym))))))) (by exact Bt)⟩
    . rw [show EI n ym true l (As n ym ym AA st) (AB ym st).2=_ from if_neg h];exact⟨hu _,t5 (one _ _ _ _ (one _ _ _ _ (one _ _ _ _ (t7 (hb ym))))) (by exact Bt)⟩
 |BU=>
  rw [show Av n rl AA st yp yn ym .BU=Eb n ym yp (As n ym ym AA st) (AB ym st).2 from rfl];cases yp
  . exact⟨hu _,t5 (one _ _ _ _ (t7 (hb ym))) (by exact Gi)⟩
  . by_cases h:(AB (ym:Int) st).2.headD 0=(ym:Int)
    . rw [show Eb n ym true (As n ym ym AA st) (AB ym st).2=_ from if_pos h];trivial
    . rw [show Eb n ym true (As n ym ym AA st) (AB ym st).2=_ from if_neg h];exact⟨hu _,t5 (one _ _ _ _ (t7 (hb ym))) (by exact Gi)⟩
abbrev Tl:=Option (List Nat×Option (AV×AV×Rs))
def OM:Tl->List (N×AV)
 |none=>[]
 |some (w,o)=> (N.Rp,.str w)::(DU o).l
def Ym:Tl->Option (AV×AV×Rs)
 |none=> none
 |some (_,o)=> o
def KI(yr yn:Bool)(n:Nat)(yp:Bool)(ym:Nat)(x:List (N×AV)):List (N×AV):=
 (N.rows,.ref 0)::(N.AA,.ref 2)::(N.OF,.ref 4)::(N.OG,.bool yr)::(N.OH,.bool yn)::(N.n,.int n)::(N.Ro,.bool yp)::(N.at_,.int ym)::x
theorem ON{t:Tl}{h:Hp}{yr yn yp:Bool}{n ym:Nat}{w:List Nat}:∀d,DA PP (AD PP fu (d+1)) (EZ HQ) (.str w) ⟨KI yr yn n yp ym (OM t),h⟩= .ok () ⟨AS yr yn n yp ym w (DU (Ym t)).l,h⟩:=by
 rcases t with _ |⟨w0,o⟩
 . exact H9 []
 . exact H9 []
def Yn(yo:List AV)(n:Nat)(wr:WR)(r:Out Flow):Prop:=match wr with
 | .next _ _ _ _ _=> False
 | .brk d s wt fr=> ∃w o g f a,r= .ok .next ⟨AS fr wt n f a w (DU o).l,AI yo d s g⟩
 | .ret d ref=> ∃dv l x y g,r= .ok (.ret (.tup [dv,ref.v])) ⟨l,AI yo x y g⟩/\(dv= .Ae d∨(dv= .ref 2/\x=d))
def WR.at_:WR->Option Nat
 | .next _ _ _ _ a=> some a
 |_=> none
theorem ql{n ym:Nat}{yp:Bool}{l:Ln}{AA:List AV}{st:List Int}{a:Nat}(e:(EH n ym yp l AA st).at_=some a):a=ym+(Wd.ln l).txt.length+1:=by cases l<;>(cases yp;exact cNS e;(unfold EH at e;dsimp only at e;split at e<;>exact(uR e).symm))
theorem qm{n ym:Nat}{yp:Bool}{l:Kw}{AA:List AV}{st:List Int}{a:Nat}(e:(EI n ym yp l AA st).at_=some a):a=ym+(Wd.kw l).txt.length+1:=by cases l<;>(cases yp;exact cNS e;(unfold EI at e;dsimp only at e;split at e<;>exact(uR e).symm))
theorem qn{n ym:Nat}{yp:Bool}{AA:List AV}{st:List Int}{a:Nat}(e:(Eb n ym yp AA st).at_=some a):a=ym+Wd.BU.txt.length+1:=by
 cases yp
 . exact(uR e).symm
 . unfold Eb at e;dsimp only at e;split at e
   . exact cNS e
   . exact(uR e).symm
theorem qo{n rl:Nat}{AA:List AV}{st:List Int}{yp yn:Bool}{ym:Nat}{w:Wd}{a:Nat}(e:(Av n rl AA st yp yn ym w).at_=some a):a=ym+w.txt.length+1/\w.OJ ym=false:=by
 cases w with
 |blank=> exact⟨(uR e).symm,rfl⟩
 |rem=> exact cNS e
 |Cz _=> exact cNS e
 |start=> exact⟨(uR e).symm,rfl⟩
 |stop=> exact⟨(uR e).symm,rfl⟩
 |dy=> exact cNS e
 |dd=>
  by_cases h:ym=0
  . rw [show Av n rl AA st yp yn ym .dd=_ from if_pos h]at e;exact cNS e
  . rw [show Av n rl AA st yp yn ym .dd=_ from if_neg h]at e;exact cNS e
 |ln l=> exact⟨ql e,rfl⟩
 |kw l=> exact⟨qm e,rfl⟩
 |BU=> exact⟨qn e,rfl⟩
theorem qp{n rl:Nat}{AA:List AV}{st:List Int}{yp yn:Bool}{ym:Nat}{w:Wd}{d:List AV}{s:List Int}{f wt:Bool}{a:Nat}(e:Av n rl AA st yp yn ym w= .next d s f wt a):a=ym+w.txt.length+1/\w.OJ ym=false:=qo (congrArg WR.at_ e)
theorem Yo{yo:List AV}{n:Nat}{u:List Nat}(hu:yo[n]? =some (.str u)):∀(ws:List Wd) (t:Tl) (AA:List AV) (st:List Int) (g:List AObj) (yp yn:Bool) (ym:Nat),OL ym ws=true->By st->Fits AA st ws.length->(ws=[]->t≠none)->
 Yj (Yn yo n (CZ n u.length ws AA st yp yn ym)) fun d=> B1 (fun v s=> DA PP (AD PP fu (d+1)) (EZ HQ) v s) (fun s=> AN PP fu (AD PP fu (d+1)) (BM HQ) s) (ws.map fun w=>.str w.txt) ⟨KI true yn n yp ym (OM t),AI yo AA st g⟩
 | []=>@fun t AA st g yp yn ym zP hS hf ht=> by
   rcases t with _ |⟨w,o⟩
   . exact absurd rfl (ht rfl)
   . exact⟨_,⟨w,o,g,yp,ym,rfl⟩,fun d=> rfl⟩
 |w::ws=>@fun t AA st g yp yn ym zP hS hf ht=> by
  have zP:=t6.mp (show(w.ok ym&&(w.OJ ym||OL (ym+w.txt.length+1) ws))=true from zP);have hf:AA.length+st.length+5 * (ws.length+1)<=800:=hf;obtain⟨r,hr,he⟩:=qk (g:=g) (yp:=yp) (yn:=yn) (ym:=ym) (o:=Ym t) hu hS (show AA.length+st.length+5 * 1<=800 by exact AU hf) zP.1;have zY:=R4 (n:=n) (rl:=u.length) (AA:=AA) (yp:=yp) (yn:=yn) (ym:=ym) (w:=w) hS;have hns:=fun d s f wt a=> qp (n:=n) (rl:=u.length) (AA:=AA) (st:=st) (yp:=yp) (yn:=yn) (ym:=ym) (w:=w) (d:=d) (s:=s) (f:=f) (wt:=wt) (a:=a);rw [IC];cases hw:Av n u.length AA st yp yn ym w with
  |ret d ref=> rw [hw]at hr;obtain⟨dv,l,x,y,g',e1,e2⟩:=hr;subst e1;exact⟨_,⟨dv,l,x,y,g',rfl,e2⟩,fun d=> Yc (ON d) (he d)⟩
  |brk d s wt fr=> rw [hw]at hr;obtain⟨w',o,g',f,a,e1⟩:=hr;subst e1;exact⟨_,⟨w',o,g',f,a,rfl⟩,fun d=> pB (ON d) (he d)⟩
  |next d s f wt a=>
   rw [hw]at hr zY;obtain⟨hS',hl⟩:=zY;obtain⟨ha,hst⟩:=hns _ _ _ _ _ hw;rw [hst,wV]at zP;obtain⟨w',o,g',e1⟩:=hr;obtain⟨r2,zh,zo⟩:=Yo hu ws (some (w',o)) d s g' f wt a (by rw [ha];exact zP.2) hS' (show d.length+s.length+5 * ws.length<=800 by exact AU (uA hl hf)) (fun _=> nofun);refine⟨r2,zh,fun d'=> ?_⟩;rcases e1 with e1 |e1
   . exact(Lg (ON d') ((he d').trans e1)).trans (zo d')
   . exact(o9 (ON d') ((he d').trans e1)).trans (zo d')
def AM(ws:List Wd):List Nat:=BJ [32] (ws.map Wd.txt)
def B3:Nat->List (List Wd)->List AV->List Int->Bool->Bool->WR
 |_,[],d,s,fr,wt=>.brk d s wt fr
 |n,ws::r,d,s,fr,wt=> match CZ n (AM ws).length ws d s fr wt 0 with
  | .brk d s wt fr=> B3 (n+1) r d s fr wt
  | .next d s f wt a=>.next d s f wt a
  | .ret d r=>.ret d r
theorem Lj{n:Nat}{ws:List Wd}{r:List (List Wd)}{d:List AV}{s:List Int}{fr wt:Bool}:B3 n (ws::r) d s fr wt=match CZ n (AM ws).length ws d s fr wt 0 with
 | .brk d s wt fr=> B3 (n+1) r d s fr wt
 | .next d s f wt a=>.next d s f wt a
 | .ret d r=>.ret d r:=rfl
theorem Yp{c:Nat}:∀{l:List Nat},(∀x∈l,x≠c)->BV c l=[l]
 | []=>@fun _=> rfl
 |a::r=>@fun h=> by show(if a=c then []::BV c r else KR a (BV c r))=_;rw [if_neg (h a (.head _)),Yp fun x hx=> h x (.tail _ hx)];rfl
theorem Yq{c:Nat}{t:List Nat}:∀{l:List Nat},(∀x∈l,x≠c)->BV c (l++c::t)=l::BV c t
 | []=>@fun _=> by show(if c=c then []::BV c t else _)=_;rw [if_pos rfl]
 |a::r=>@fun h=> by show(if a=c then []::BV c (r++c::t)else KR a (BV c (r++c::t)))=_;rw [if_neg (h a (.head _)),Yq fun x hx=> h x (.tail _ hx)];rfl
theorem Io{c:Nat}:∀{l:List (List Nat)},l≠[]->(∀w∈l,∀x∈w,x≠c)->BV c (BJ [c] l)=l
 | []=>@fun h _=> absurd rfl h
 | [w]=>@fun _ h=> Yp (h w (.head _))
 |w::w'::r=>@fun _ h=> by show BV c (w++[c]++BJ [c] (w'::r))=_;rw [t8];show BV c (w++c::BJ [c] (w'::r))=_;rw [Yq (h w (.head _)),Io (by simp) fun w hw=> h w (.tail _ hw)]
def Wd.sol(w:Wd):Bool:=w.txt.all fun c=> c !=32
theorem qq{ws:List Wd}(h:ws≠[])(hs:ws.all Wd.sol=true):(BV 32 (AM ws)).map AV.str=ws.map fun w=> AV.str w.txt:=by
 unfold AM;refine rwR (Io (by simpa using h) fun w hw x hx=> ?_) ?_
 . obtain⟨v,hv,rfl⟩:=uj.mp hw;have:=uM.mp (uM.mp hs v hv) x hx;simpa using this
 . rw [vO];rfl
abbrev Rt:=Option (Nat×Bool×Nat×List Nat×Option (AV×AV×Rs))
def qr:Rt->List (N×AV)
 |none=>[]
 |some (n,f,a,w,o)=> (N.n,.int n)::(N.Ro,.bool f)::(N.at_,.int a)::(N.Rp,.str w)::(DU o).l
def R6:Rt->Tl
 |none=> none
 |some (_,_,_,w,o)=> some (w,o)
def Fy(yr yn:Bool)(rt:Rt):List (N×AV):=(N.rows,.ref 0)::(N.AA,.ref 2)::(N.OF,.ref 4)::(N.OG,.bool yr)::(N.OH,.bool yn)::qr rt
def FR:CS:=B9 Ep 3
def Yr:List CS:=(BM FR).take 3
theorem row_pre{yr yn:Bool}{rt:Rt}{h:Hp}{n:Nat}:∃s1,(∀d,DA PP (AD PP fu (d+1)) (EZ FR) (.int n) ⟨Fy yr yn rt,h⟩= .ok () s1)/\∀d,AN PP fu (AD PP fu (d+1)) Yr s1= .ok .next ⟨KI true yn n yr 0 (OM (R6 rt)),h⟩:=by
 rcases rt with _ |⟨n0,f,a,w,o⟩
 . exact⟨⟨(N.rows,.ref 0)::(N.AA,.ref 2)::(N.OF,.ref 4)::(N.OG,.bool yr)::(N.OH,.bool yn)::[(N.n,.int n)],h⟩,H9 [],AZ []⟩
 . exact⟨⟨Fy yr yn (some (n,f,a,w,o)),h⟩,H9 [],AZ []⟩
theorem qt{yo AA:List AV}{st:List Int}{g:List AObj}{n:Nat}{u:List Nat}{l:List (N×AV)}{yr yn yp:Bool}{ym:Nat}(hu:yo[n]? =some (.str u))(hl:u.length<=1000){ws:List AV}(hs:(BV 32 u).map AV.str=ws):
 ∀d,FX PP (AD PP fu (d+1)) (HP HQ) ⟨KI yr yn n yp ym l,AI yo AA st g⟩= .ok ws ⟨KI yr yn n yp ym l,AI yo AA st g⟩:=by
 subst hs;have hb:Bv (AI yo AA st g) (.str u) N.split [.str [32]]=some (.Ae ((BV 32 u).map .str),AI yo AA st g):=by show((ck (u.length+1) (AV.Ae ((BV 32 u).map .str))).map fun v=> (v,AI yo AA st g))=_;unfold ck;rw [if_pos (show u.length+1<=lim by show u.length+1<=1000000;exact BF)];rfl
 exact OE [.Ct (AI yo AA st g) (.ref 0) (.int n) (.str u) (KC hu),.BA _ _ N.split _ _ _ hb]
def Fz(ws:List Wd):Bool:=OL 0 ws&&ws.all Wd.sol&& !ws.isEmpty&&uJ (AM ws).length 1000
theorem qu{yo AA:List AV}{st:List Int}{g:List AObj}{yr yn:Bool}{rt:Rt}{n:Nat}{ws:List Wd}(hu:yo[n]? =some (.str (AM ws)))(zP:Fz ws=true)(hS:By st)(hf:Fits AA st ws.length):
 ∃s1,(∀d,DA PP (AD PP fu (d+1)) (EZ FR) (.int n) ⟨Fy yr yn rt,AI yo AA st g⟩= .ok () s1)/\∃r,Yn yo n (CZ n (AM ws).length ws AA st yr yn 0) r/\∀d,AN PP fu (AD PP fu (d+1)) (BM FR) s1=r:=by
 refine cps fun yv yt=> ?_;have zP:=t6.mp zP;have h1:=t6.mp zP.1;have h2:=t6.mp h1.1;have y0:ws≠[]:=by have:=h1.2;simpa using this
 obtain⟨s1,a1,a2⟩:=row_pre (yr:=yr) (yn:=yn) (rt:=rt) (h:=AI yo AA st g) (n:=n);obtain⟨r,hr,he⟩:=Yo hu ws (R6 rt) AA st g yr yn 0 h2.1 hS hf (fun e=> absurd e y0);refine yt ?_;refine⟨s1,a1,r,hr,fun d=> ?_⟩;have hw:Az PP fu (AD PP fu (d+1)) HQ ⟨KI true yn n yr 0 (OM (R6 rt)),AI yo AA st g⟩=r:=
  Lh rfl (qt hu (uH zP.2) (qq y0 h2.2) d) (he d)
 refine CN (a:=Yr) (b:=[HQ]) (a2 d) ?_;show(Az PP fu (AD PP fu (d+1)) HQ _).bind _=r;rw [hw];cases hc:CZ n (AM ws).length ws AA st yr yn 0 with
 |next _ _ _ _ _=> rw [hc]at hr;exact hr.elim
 |brk _ _ _ _=> rw [hc]at hr;obtain⟨_,_,_,_,_,e⟩:=hr;subst e;rfl
 |ret _ _=> rw [hc]at hr;obtain⟨_,_,_,_,_,e,_⟩:=hr;subst e;rfl
theorem OO{n rl:Nat}:∀{ws:List Wd} {AA:List AV} {st:List Int} {yp yn:Bool} {ym:Nat} {d:List AV} {s:List Int} {wt fr:Bool},By st->CZ n rl ws AA st yp yn ym= .brk d s wt fr->By s/\d.length+s.length<=AA.length+st.length+5 * ws.length
 | [],AA,st,yp,yn,ym,d,s,wt,fr,hS,e=> by cases(e);exact⟨hS,by exact JD⟩
 |w::ws,AA,st,yp,yn,ym,d,s,wt,fr,hS,e=> by
  have zY:=R4 (n:=n) (rl:=rl) (AA:=AA) (yp:=yp) (yn:=yn) (ym:=ym) (w:=w) hS;rw [IC]at e;rw [uh];cases hw:Av n rl AA st yp yn ym w with
  |ret _ _=> rw [hw]at e;cases(e)
  |brk _ _ _ _=> rw [hw]at e zY;cases(e);exact⟨zY.1,by have:=zY.2;exact AU this⟩
  |next _ _ _ _ _=> rw [hw]at e zY;have:=OO zY.1 e;exact⟨this.1,by have:=this.2;have:=zY.2;lia⟩
def BD(R:List (List Wd)):Nat:=(R.map uY).sum
def qv(yo:List AV)(rt:Rt)(k:Nat)(wr:WR)(r:Out Flow):Prop:=match wr with
 | .next _ _ _ _ _=> False
 | .brk d s wt fr=> ∃rt' g,r= .ok .next ⟨Fy fr wt rt',AI yo d s g⟩
 | .ret d ref=> ∃dv l x y g,r= .ok (.ret (.tup [dv,ref.v])) ⟨l,AI yo x y g⟩/\(dv= .Ae d∨(dv= .ref 2/\x=d))
theorem Ys{yo:List AV}:∀(R:List (List Wd)) (n:Nat) (AA:List AV) (st:List Int) (g:List AObj) (yr yn:Bool) (rt:Rt),(∀i ws,R[i]? =some ws->yo[n+i]? =some (.str (AM ws)))->R.all Fz=true->By st->Fits AA st (BD R)->
 ∃r,qv yo rt 0 (B3 n R AA st yr yn) r/\∀d,B1 (fun v s=> DA PP (AD PP fu (d+1)) (EZ FR) v s) (fun s=> AN PP fu (AD PP fu (d+1)) (BM FR) s) ((List.range' n R.length).map fun k=>.int (k:Nat)) ⟨Fy yr yn rt,AI yo AA st g⟩=r
 | []=>@fun n AA st g yr yn rt hu zP hS hf=> ⟨_,⟨rt,g,rfl⟩,fun d=> rfl⟩
 |ws::R=>@fun n AA st g yr yn rt hu zP hS hf=> by
  refine cps fun yv yt=> ?_;have zP:=t6.mp (show(Fz ws&&R.all Fz)=true from zP);have hf:AA.length+st.length+5 * (ws.length+BD R)<=800:=hf;obtain⟨s1,a1,r,hr,he⟩:=qu (g:=g) (yr:=yr) (yn:=yn) (rt:=rt) (hu 0 ws rfl) zP.1 hS (show AA.length+st.length+5 * ws.length<=800 by exact AU hf);refine yt ?_;rw [uh,List.range'_succ,ud];rw [Lj];rw [Nat.add_zero]at hr a1;cases hc:CZ n (AM ws).length ws AA st yr yn 0 with
  |next _ _ _ _ _=> rw [hc]at hr;exact hr.elim
  |ret d ref=> refine cps fun zI yy=> ?_;rw [hc]at hr;obtain⟨dv,l,x,y,g',e1,e2⟩:=hr;subst e1;refine yy ?_;exact⟨_,⟨dv,l,x,y,g',rfl,e2⟩,fun d=> Yc (a1 d) (he d)⟩
  |brk d s wt fr=>
   refine cps fun zu zL=> ?_;rw [hc]at hr;obtain⟨w,o,g',f,a,e⟩:=hr;subst e;have zY:=OO hS hc;obtain⟨r2,zh,zo⟩:=Ys R (n+1) d s g' fr wt (some (n,f,a,w,o)) (fun i zQ hi=> by have:=hu (i+1) zQ hi;rw [show n+(i+1)=n+1+i by exact uc (Bt) (Bt)]at this;exact this) zP.2 zY.1 (show d.length+s.length+5 * BD R<=800 by have:=zY.2;exact AU (uA this hf))
   refine zL ?_;refine⟨r2,?_,fun d=> (Lg (a1 d) (he d)).trans (zo d)⟩;dsimp only;cases hz:B3 (n+1) R d s fr wt with
   |next _ _ _ _ _=> rw [hz]at zh;exact zh
   |brk _ _ _ _=> rw [hz]at zh;exact zh
   |ret _ _=> rw [hz]at zh;exact zh
theorem m1(n:Nat):(-1:Int)+((n+1:Nat):Int)=n:=by show(-1:Int)+((n:Int)+1)=n;rw [Int.add_comm,yh]
theorem Yt{xs:List AV}{v:AV}(h:xs.getLast? =some v):HU xs (.int (-1))=some v:=by
 cases xs with
 |nil=> cases h
 |cons a r=> show(C2 (r.length+1) (-1)).bind (fun j=> (a::r)[j]?)=_;unfold C2;rw [if_neg (by decide),m1,if_pos (u4 _)];show(a::r)[((r.length:Nat):Int).toNat]? =_;rw [vq,<-h,yc];rfl
theorem NF{x:AV}:∀k,C8 [x] k=tv k x
 |0=> rfl
 |k+1=> by show [x]++C8 [x] k=_;rw [NF k];rfl
theorem qw{N:Nat}(h:N<=1000):HV [.int N]=some ((List.range' 0 N).map fun k=> AV.int (k:Nat)):=by
 show(if B6 (N:Int)=true then some ((Ek 0 (N:Int) 1).map AV.int)else none)=_;rw [if_pos (show B6 (N:Int)=true from decide_eq_true (by show(N:Int).natAbs<=1000000;exact Ay))];unfold Ek;rw [show Ej 0 (N:Int) 1=N from by
  unfold Ej;rw [if_pos (by decide)];by_cases q:(0:Int)<N
  . rw [if_pos q,Int.ediv_one];lia
  . rw [if_neg q];lia]
 rw [vO,List.range_eq_range'];congr 1;refine vW fun k _=> ?_;show AV.int ((0:Int)+(k:Int) * 1)=_;rw [Int.zero_add,Int.mul_one]
def I8(d:List AV)(k m c:Nat):List AV:=(d++tv k (AG Kd.be.id .none m c m c))++[AG Kd.se.id .none m c m c]
def DW(R:List (List Wd)):List AV×Option Ref:=match B3 0 R [AG DF .none 0 0 0 0] [-1] true false with
 | .brk d s _ _=> (I8 d (s.length - 1) (R.length - 1) (AM (R.getLast?.getD [])).length,none)
 | .next d _ _ _ _=> (d,none)
 | .ret d r=> (d,some r)
def DJ:Option Ref->AV
 |none=>.none
 |some r=> r.v
def Ak(R:List (List Wd)):List AV:=R.map fun ws=>.str (AM ws)
def DY(yo:List AV):Hp:=⟨[.lst yo],[]⟩
theorem qx{yo AA:List AV}{a:Int}{q:List Int}{g:List AObj}{fr wt:Bool}{rt:Rt}{m:Nat}{u:List Nat}(hm:yo.length=m+1)(hl:yo.getLast? =some (.str u))(hd:AA.length<=900)(hq:q.length<=250):
 ∃l,∀d,AN PP fu (AD PP fu (d+1)) [B9 Ep 4,B9 Ep 5] ⟨Fy fr wt rt,AI yo AA (a::q) g⟩= .ok (.ret (.tup [.Ae (I8 AA q.length m u.length),.none])) ⟨l,AI yo AA (a::q) g⟩:=by
 have e1:∀h,binOp h .sub (.int (yo.length:Nat)) (.int 1)=some (.int (m:Nat)):=fun h=> congrArg (fun x=> some (AV.int x)) (show(yo.length:Int) - 1=(m:Nat) by rw [hm];show(m:Int)+1 - 1=m;exact xP ..);have e2:CP (AI yo AA (a::q) g) (.ref 0) (.int (-1))=some (.str u):=Yt hl;have e3:∀h,binOp h .sub (.int (((a::q).reverse.map AV.int).length:Nat)) (.int 1)=some (.int (q.length:Nat)):=fun h=> congrArg (fun x=> some (AV.int x)) (show((((a::q).reverse.map AV.int).length:Nat):Int) - 1=(q.length:Nat) by rw [uL,wi,uh];exact xP (q.length:Int) 1);have e4:∀h,binOp h .mul (.Ae [AG Kd.be.id .none m u.length m u.length]) (.int (q.length:Nat))=some (.Ae (tv q.length (AG Kd.be.id .none m u.length m u.length))):=fun h=> by show KW h (.Ae [AG Kd.be.id .none m u.length m u.length]) (q.length:Nat)=_;unfold KW;rw [if_pos (show((q.length:Nat):Int).natAbs<=lim by show((q.length:Nat):Int).natAbs<=1000000;exact Ay)];show(if [AG Kd.be.id .none m u.length m u.length].length * ((q.length:Nat):Int).toNat<=256 then some (AV.Ae (C8 [AG Kd.be.id .none m u.length m u.length] ((q.length:Nat):Int).toNat))else none)=_;rw [if_pos (by rw [uw];lia),NF];rfl
 have e5:binOp (AI yo AA (a::q) g) .add (.ref 2) (.Ae (tv q.length (AG Kd.be.id .none m u.length m u.length)))=some (.Ae (AA++tv q.length (AG Kd.be.id .none m u.length m u.length))):=by show ck (AA.length+(tv q.length (AG Kd.be.id .none m u.length m u.length)).length) _=_;unfold ck;rw [if_pos (by rw [ub];show _<=1000000;exact AU (uA hq hd))]
 have e6:∀h,binOp h .add (.Ae (AA++tv q.length (AG Kd.be.id .none m u.length m u.length))) (.Ae [AG Kd.se.id .none m u.length m u.length])=some (.Ae (I8 AA q.length m u.length)):=fun h=> by show ck ((AA++tv q.length (AG Kd.be.id .none m u.length m u.length)).length+1) _=_;unfold ck;rw [if_pos (by rw [t9,ub];show _<=1000000;exact AU (uA hq hd))];rfl
 refine⟨put N.end_ (.tup [.int m,.int u.length]) (Fy fr wt rt),?_⟩;rcases rt with _ |⟨n0,f,a0,w,_ |⟨c1,c2,rs⟩⟩
 . exact AZ [.bin .sub _ _ _ e1,.Ct _ _ _ _ e2,.bin .sub _ _ _ e3,.bin .mul _ _ _ e4,.EV _ .add _ _ _ e5,.bin .add _ _ _ e6]
 . exact AZ [.bin .sub _ _ _ e1,.Ct _ _ _ _ e2,.bin .sub _ _ _ e3,.bin .mul _ _ _ e4,.EV _ .add _ _ _ e5,.bin .add _ _ _ e6]
 . cases rs<;>exact AZ [.bin .sub _ _ _ e1,.Ct _ _ _ _ e2,.bin .sub _ _ _ e3,.bin .mul _ _ _ e4,.EV _ .add _ _ _ e5,.bin .add _ _ _ e6]
theorem R7:∀{R:List (List Wd)} {n:Nat} {AA:List AV} {st:List Int} {yr yn:Bool} {d:List AV} {s:List Int} {wt fr:Bool},By st->B3 n R AA st yr yn= .brk d s wt fr->By s/\d.length+s.length<=AA.length+st.length+5 * BD R
 | [],n,AA,st,yr,yn,d,s,wt,fr,hS,e=> by cases(e);exact⟨hS,by exact JD⟩
 |ws::R,n,AA,st,yr,yn,d,s,wt,fr,hS,e=> by
  rw [Lj]at e;have hc:BD (ws::R)=ws.length+BD R:=rfl;cases hw:CZ n (AM ws).length ws AA st yr yn 0 with
  |next _ _ _ _ _=> rw [hw]at e;cases(e)
  |ret _ _=> rw [hw]at e;cases(e)
  |brk _ _ _ _=> rw [hw]at e;have h1:=OO hS hw;have h2:=R7 h1.1 e;exact⟨h2.1,by have:=h2.2;have:=h1.2;lia⟩
theorem qz{R:List (List Wd)}(zP:R.all Fz=true)(y0:R≠[])(hR:R.length<=100)(hc:BD R<=40):
 ∃dv x y g,(dv= .Ae (DW R).1∨(dv= .ref 2/\x=(DW R).1))/\∀d,AD PP fu (d+2) dQ [.ref 0] [] (DY (Ak R))= .ok (.tup [dv,DJ (DW R).2]) (AI (Ak R) x y g):=by
 refine cps fun yv yt=> ?_;have hS:By [-1]:=rfl;obtain⟨r,hr,he⟩:=Ys (yo:=Ak R) R 0 [AG DF .none 0 0 0 0] [-1] [] true false none (fun i ws hi=> by unfold Ak;rw [uv,wL,hi];rfl) zP hS (show 1+1+5 * BD R<=800 by lia)
 refine yt ?_;have ABn:∀d,FX PP (AD PP fu (d+1)) (HP FR) ⟨Fy true false none,AI (Ak R) [AG DF .none 0 0 0 0] [-1] []⟩= .ok ((List.range' 0 R.length).map fun k=> AV.int (k:Nat)) ⟨Fy true false none,AI (Ak R) [AG DF .none 0 0 0 0] [-1] []⟩:=fun d=> by show(AR (HV [.int ((Ak R).length:Nat)]) fun xs=> Out.ok xs _)=_;rw [show(Ak R).length=R.length from uL ..,qw (by exact Ay)];rfl
 have AAW:∀d,Az PP fu (AD PP fu (d+1)) FR ⟨Fy true false none,AI (Ak R) [AG DF .none 0 0 0 0] [-1] []⟩=r:=fun d=> Lh rfl (ABn d) (he d);unfold DW;cases hz:B3 0 R [AG DF .none 0 0 0 0] [-1] true false with
 |next _ _ _ _ _=> rw [hz]at hr;exact hr.elim
 |ret dd ref=> refine cps fun zI yy=> ?_;rw [hz]at hr;obtain⟨dv,l,x,y,g,e1,e2⟩:=hr;subst e1;refine yy ?_;exact⟨dv,x,y,g,e2,cert [.Ao FR _ _ 1 AAW]⟩
 |brk dd s wt fr=>
  refine cps fun zu zL=> ?_;rw [hz]at hr;obtain⟨rt,g,e⟩:=hr;subst e;have zY:=R7 hS hz;obtain⟨a,q,rfl⟩:=zY.1.ne;have hlen:dd.length+(q.length+1)<=1+1+5 * BD R:=zY.2;have hlen2:dd.length+q.length<=250:=by lia
  obtain⟨m,hm⟩:∃m,R.length=m+1:=⟨R.length - 1,by have:=wJ.mpr y0;exact OZ⟩;obtain⟨wl,hwl⟩:∃wl,R.getLast? =some wl:=by
   cases h:R.getLast? with
   |none=> exact absurd (yd.mp h) y0
   |some v=> exact⟨v,rfl⟩
  obtain⟨l,hend⟩:=qx (yo:=Ak R) (AA:=dd) (a:=a) (q:=q) (g:=g) (fr:=fr) (wt:=wt) (rt:=rt) (m:=m) (u:=AM wl) (by unfold Ak;rw [uL,hm]) (by unfold Ak;rw [List.getLast?_map,hwl];rfl) (by exact JE) (by exact Lz);refine zL ?_;refine⟨.Ae (I8 dd q.length m (AM wl).length),dd,a::q,g,.inl (by rw [hwl,hm];rfl),fun d=> ?_⟩;have h1:AN PP fu (AD PP fu (d+1)) [B9 Ep 0,B9 Ep 1,B9 Ep 2,FR] ⟨[(N.rows,.ref 0)],DY (Ak R)⟩= .ok .next ⟨Fy fr wt rt,AI (Ak R) dd (a::q) g⟩:=AZ [.Ao FR _ _ 1 AAW] (by kernel_rfl!) d
  show Gr (AN PP fu (AD PP fu (d+1)) ([B9 Ep 0,B9 Ep 1,B9 Ep 2,FR]++[B9 Ep 4,B9 Ep 5]) ⟨[(N.rows,.ref 0)],DY (Ak R)⟩)=_;rw [CN h1 (hend d)];show COut.ok (AV.tup [.Ae (I8 dd q.length m (AM wl).length),.none]) _=_;rfl
def E1:List (List Wd):=[
 [.start],
 [.stop],
 [.dd,.Cz [119]],
 [.kw .w],
 [.ln .ent,.BU],
 [.blank,.blank,.kw .w,.BU],
 [.blank,.blank,.ln .ent,.BU],
 [.blank],
 [.rem],
 [.ln .key,.BU],
 [.ln .val,.BU],
 [.start,.BU],
 [.start,.rem],
 [.blank,.kw .d3],
 [.kw .KG,.BU],
 [.stop,.BU],
 [.kw .KH],
 [.ln .ent],
 [.blank,.blank,.ln .key,.kw .w],
 [.start,.kw .w,.BU],
 [.start,.ln .ent,.BU],
 [.blank,.dd],
 [.ln .ent,.ln .ent,.kw .w],
 [.dy,.Cz [49,46,49]],
 [.BU],
 [.blank,.blank,.kw .q,.BU]]
def jl(R:List (List Wd)):Nat:=(BJ [10] (R.map AM)).length
def Cp(n:Int):List Wd:=E1.getD (n.fmod 26).toNat []
def pick:List Int->List (List Wd)->List (List Wd)
 | [],R=> R
 |n::r,R=> pick r (if jl (R++[Cp n])<=36 then R++[Cp n]else R)
theorem Jt(c:Nat):∀{l:List (List Nat)},l≠[]->(BJ [c] l).length+1=(l.map uY).sum+l.length
 | []=>@fun h=> absurd rfl h
 | [w]=>@fun _=> rfl
 |w::w'::r=>@fun _=> by have ih:=Jt c (l:=w'::r) (by simp);show(w++[c]++BJ [c] (w'::r)).length+1=(w.length+((w'::r).map uY).sum)+((w'::r).length+1);rw [t9,t9,uw];exact uc (AU (t7 ih)) (AU (t7 ih.symm))
theorem Yu:∀R:List (List Wd),strs? (Ak R)=some (R.map AM)
 | []=> rfl
 |ws::R=> by show(strs? (Ak R)).map (AM ws::·)=_;rw [Yu R];rfl
theorem Yv:E1.all (fun ws=> uJ (AM ws).length 11&&Fz ws)=true:=by decide+kernel
theorem R8(n:Int):Cp n∈E1:=by
 unfold Cp;have h1:0<=n.fmod 26:=xG n (by decide);have h2:n.fmod 26<26:=xQ n (by decide);have hl:(n.fmod 26).toNat<E1.length:=by show _<26;lia
 rw [vT,u0 hl];exact wy hl
theorem Yw(n:Int):(AM (Cp n)).length<=11:=uH (t6.mp (uM.mp Yv _ (R8 n))).1
theorem rA(n:Int):Fz (Cp n)=true:=(t6.mp (uM.mp Yv _ (R8 n))).2
theorem rB(n:Int)(h:Hp):CP h (.Ae (E1.map fun ws=> AV.str (AM ws))) (.int (n.fmod 26))=some (.str (AM (Cp n))):=by
 refine cps fun yv yt=> ?_;have h1:0<=n.fmod 26:=xG n (by decide);have h2:n.fmod 26<26:=xQ n (by decide);have hl:(n.fmod 26).toNat<E1.length:=by show _<26;lia
 obtain⟨k,hk⟩:∃k:Nat,n.fmod 26=(k:Int):=⟨(n.fmod 26).toNat,by lia⟩;refine yt ?_;unfold Cp;rw [hk]at hl⊢;rw [vq]at hl⊢;show(C2 (E1.map fun ws=> AV.str (AM ws)).length (k:Int)).bind (fun j=> (E1.map fun ws=> AV.str (AM ws))[j]?)=_;rw [RN (by rw [uL];exact hl)];show(E1.map fun ws=> AV.str (AM ws))[k]? =_;rw [wL,u0 hl,vT,u0 hl];rfl
def Lk:CS:=B9 Kt 1
def Ed(v:AV)(x:Option (AV×AV))(R:List (List Wd)):St:=⟨(N.Le,v)::(N.rows,.ref 0)::(match x with |none=>[] |some (n,r)=>[(N.n,n),(N.row,r)]),DY (Ak R)⟩
theorem rC(R:List (List Wd))(ws:List Wd)(hl:R.length<=100):binOp (DY (Ak R)) .add (.ref 0) (.Ae [.str (AM ws)])=some (.Ae (Ak (R++[ws]))):=by show ck ((Ak R).length+1) (AV.Ae (Ak R++[.str (AM ws)]))=_;unfold ck Ak;rw [if_pos (by rw [uL];show _<=1000000;exact BF),uB];rfl
theorem join_rows{h:Hp}{c:List Nat}{R:List (List Wd)}{x:AV}(hx:items h x=some (Ak R))(hc:c.length<=2)(hs:((R.map AM).map uY).sum+(R.map AM).length<=60000):Bv h (.str c) N.join [x]=some (.str (BJ c (R.map AM)),h):=by show(((items h x).bind strs?).bind fun l=> if c.length<=16/\(l.map uY).sum+l.length<=60000 then some (AV.str (BJ c l))else none).map (fun v=> (v,h))=_;rw [hx];show((strs? (Ak R)).bind fun l=> if c.length<=16/\(l.map uY).sum+l.length<=60000 then some (AV.str (BJ c l))else none).map (fun v=> (v,h))=_;rw [Yu];show(if c.length<=16/\((R.map AM).map uY).sum+(R.map AM).length<=60000 then some (AV.str (BJ c (R.map AM)))else none).map (fun v=> (v,h))=_;rw [if_pos ⟨by exact Ay,hs⟩];rfl
theorem Yx{x y:Int}{b:Bool}(h:decide (x<=y)=b)(hp:Hp):BZ hp .le (.int x) (.int y)=some b:=congrArg some h
structure F0(R:List (List Wd)):Prop where
 len:R≠[]->jl R<=36
 ok:∀ws∈R,Fz ws=true
theorem F0.sum{R:List (List Wd)}(h:F0 R):((R.map AM).map uY).sum+R.length<=37:=by
 by_cases e:R=[]
 . subst e;decide
 . have h1:=h.len e;have h2:=Jt 10 (l:=R.map AM) (by simpa using e);unfold jl at h1;rw [uL]at h2;exact AU (uA (t7 h2.symm) h1)
theorem rD{v v':AV}{x:Option (AV×AV)}{R:List (List Wd)}{n:Int}:∃s1,(∀d,DA PP (AD PP fu (d+3)) (EZ Lk) (.int n) (Ed v x R)= .ok () s1)/\s1=⟨(N.Le,v)::(N.rows,.ref 0)::(N.n,.int n)::(match x with |none=>[] |some (_,r)=>[(N.row,r)]),DY (Ak R)⟩:=by
 rcases x with _ |⟨a,b⟩
 . exact⟨_,H9 [],rfl⟩
 . exact⟨_,H9 [],rfl⟩
theorem rE{v:AV}{x:Option (AV×AV)}{R:List (List Wd)}{n:Int}(hR:F0 R):∃s1,(∀d,DA PP (AD PP fu (d+3)) (EZ Lk) (.int n) (Ed v x R)= .ok () s1)/\
 ∀d,AN PP fu (AD PP fu (d+3)) (BM Lk) s1= .ok .next (Ed v (some (.int n,.str (AM (Cp n)))) (if jl (R++[Cp n])<=36 then R++[Cp n]else R)):=by
 obtain⟨s1,a1,rfl⟩:=rD (v:=v) (v':=v) (x:=x) (R:=R) (n:=n);refine⟨_,a1,?_⟩;have zD:=hR.sum;have zm:=Yw n;have hT:∀d,AD PP fu (d+1) dP [] [] (DY (Ak R))= .ok (.Ae (E1.map fun ws=> AV.str (AM ws))) (DY (Ak R)):=cert [];have hg:=rB n;generalize Cp n=ws at zm hg;have ha:=rC R ws (by exact Lz);have hs:(((R++[ws]).map AM).map uY).sum+((R++[ws]).map AM).length<=60000:=by rw [uB,uB,List.sum_append,t9,uL];show _+((AM ws).length+0)+(R.length+1)<=60000;exact AU (uA zm zD)
 have hj:Bv (DY (Ak R)) (.str [10]) N.join [.Ae (Ak (R++[ws]))]=some (.str (BJ [10] ((R++[ws]).map AM)),DY (Ak R)):=join_rows (h:=DY (Ak R)) (x:=.Ae (Ak (R++[ws]))) rfl (by decide) hs;by_cases q:jl (R++[ws])<=36
 . rw [if_pos q];have hap:Bv (DY (Ak R)) (.ref 0) N.append [.str (AM ws)]=some (.none,DY (Ak (R++[ws]))):=by
    rw [Fu (h:=DY (Ak R)) (r:=0) (xs:=Ak R) rfl (by unfold Ak;rw [uL];show _<1000000;exact A7 zD)];unfold Ak;rw [uB];rfl
   rcases x with _ |⟨a,b⟩<;>exact AZ [.call _ _ _ _ _ 1 hT,.get _ _ _ hg,.EV _ .add _ _ _ ha,.BA _ _ N.join _ _ _ hj,.cmp .le _ _ true (Yx (x:=((BJ [10] ((R++[ws]).map AM)).length:Nat)) (y:=36) (decide_eq_true (by unfold jl at q;lia))),.BA _ _ N.append _ _ _ hap]
 . rw [if_neg q];rcases x with _ |⟨a,b⟩<;>exact AZ [.call _ _ _ _ _ 1 hT,.get _ _ _ hg,.EV _ .add _ _ _ ha,.BA _ _ N.join _ _ _ hj,.cmp .le _ _ false (Yx (x:=((BJ [10] ((R++[ws]).map AM)).length:Nat)) (y:=36) (decide_eq_false (by unfold jl at q;lia)))]
theorem F0.more{R:List (List Wd)}(h:F0 R)(n:Int):F0 (if jl (R++[Cp n])<=36 then R++[Cp n]else R):=by
 by_cases q:jl (R++[Cp n])<=36
 . rw [if_pos q];refine⟨fun _=> q,fun ws hw=> ?_⟩;rcases uN.mp hw with hw |hw
   . exact h.ok ws hw
   . rw [u5.mp hw];exact rA n
 . rw [if_neg q];exact h
theorem Yy{v:AV}:∀(ns:List Int) (x:Option (AV×AV)) (R:List (List Wd)),F0 R->(ns=[]->x≠none)->F0 (pick ns R)/\∃y,∀d,B1 (fun v s=> DA PP (AD PP fu (d+3)) (EZ Lk) v s) (fun s=> AN PP fu (AD PP fu (d+3)) (BM Lk) s) (ns.map .int) (Ed v x R)= .ok .next (Ed v (some y) (pick ns R))
 | []=>@fun x R hR hx=> by
   rcases x with _ |y
   . exact absurd rfl (hx rfl)
   . exact⟨hR,y,fun d=> rfl⟩
 |n::r=>@fun x R hR hx=> by refine cps fun yv yt=> ?_;obtain⟨s1,a1,b1⟩:=rE (v:=v) (x:=x) (n:=n) hR;obtain⟨h1,y,hy⟩:=Yy (v:=v) r (some (.int n,.str (AM (Cp n)))) _ (hR.more n) (fun _=> nofun);refine yt ?_;exact⟨h1,y,fun d=> (Lg (a1 d) (b1 d)).trans (hy d)⟩
theorem R9{n:Int}{r:List Int}{R:List (List Wd)}:pick (n::r) R=pick r (if jl (R++[Cp n])<=36 then R++[Cp n]else R):=rfl
theorem SA:∀(ns:List Int) (R:List (List Wd)),R≠[]->pick ns R≠[]
 | []=>@fun R h=> h
 |n::r=>@fun R h=> by
  rw [R9];by_cases q:jl (R++[Cp n])<=36
  . rw [if_pos q];exact SA r _ (by simp)
  . rw [if_neg q];exact SA r _ h
theorem Yz(n:Int)(r:List Int):pick (n::r) []≠[]:=by
 rw [R9];rw [if_pos (show jl ([]++[Cp n])<=36 from by have:=Yw n;show(AM (Cp n)).length<=36;exact Ay)]
 exact SA r _ (by simp)
def dl(ns:List Int):List Int:=match ns with
 | []=>[3]
 |n::r=> n::r.take 19
def drawn(ns:List Int):List (List Wd):=if((ns.length:Int).fmod 2==1)=true then pick (dl ns) []++[[.blank]]else pick (dl ns) []
def Lw(i:Nat):CS:=B9 Kt i
def CH(ns:List Int):AV:=.Ae (ns.map .int)
theorem rF{α:Type}{xs:List α}:CB xs none (some 20)=xs.take 20:=by
 show(xs.drop 0).take (Dr xs.length (20:Nat) - 0)=_;rw [w6,Nat.sub_zero,RU];rcases xi 20 xs.length with h |h
 . rw [wz h]
 . rw [yN h,wF (uW _),wF h]
def Y0:Hp:=⟨[],[]⟩
theorem SD(ns:List Int):∃y,F0 (pick (dl ns) [])/\∀d,AN PP fu (AD PP fu (d+3)) [Lw 0,Lw 1] ⟨[(N.Le,CH ns)],Y0⟩= .ok .next (Ed (CH ns) (some y) (pick (dl ns) [])):=by
 obtain⟨h1,y,hy⟩:=Yy (v:=CH ns) (dl ns) none [] ⟨fun h=> absurd rfl h,fun _ h=> by cases h⟩ (fun h=> by cases ns<;>cases h)
 refine⟨y,h1,fun d=> ?_⟩;have hs:∀d,FX PP (AD PP fu (d+3)) (HP (Lw 1)) (Ed (CH ns) none [])= .ok ((dl ns).map .int) (Ed (CH ns) none []):=by
  cases ns with
  |nil=> exact OE []
  |cons n r=>
   have zl:∀h,GA h (CH (n::r)) .none (.int 20)=some (.Ae (AV.int n::(r.take 19).map .int)):=fun h=> by show some (AV.Ae (CB ((n::r).map AV.int) none (some 20)))=_;rw [rF];show some (AV.Ae (AV.int n::(r.map AV.int).take 19))=_;rw [List.map_take]
   exact OE [.Bu _ _ _ _ zl]
 have hf:∀d,Az PP fu (AD PP fu (d+3)) (Lw 1) (Ed (CH ns) none [])= .ok .next (Ed (CH ns) (some y) (pick (dl ns) [])):=fun d=> Lh rfl (hs d) (hy d)
 refine CN (a:=[Lw 0]) (b:=[Lw 1]) (s1:=Ed (CH ns) none []) (AZ (k:=3) [] (by kernel_rfl!) d) ?_;show(Az PP fu (AD PP fu (d+3)) (Lw 1) _).bind _=_;rw [hf];rfl
structure Good(R:List (List Wd)):Prop where
 ok:R.all Fz=true
 ne:R≠[]
 len:R.length<=100
 cnt:BD R<=40
 sum:((R.map AM).map uY).sum+R.length<=50
theorem rG(ws:List Wd)(h:ws≠[]):ws.length<=(AM ws).length+1:=by unfold AM;rw [Jt 32 (by simpa using h),uL];exact Zp
theorem rH{ws:List Wd}(h:Fz ws=true):ws≠[]:=by intro e;subst e;cases h
theorem SE:∀{R:List (List Wd)},(∀ws∈R,Fz ws=true)->BD R<=((R.map AM).map uY).sum+R.length
 | []=>@fun _=> uW _
 |ws::R=>@fun h=> by have h1:=rG ws (rH (h ws (.head _)));have h2:=SE (R:=R) fun w hw=> h w (.tail _ hw);show ws.length+BD R<=((AM ws).length+((R.map AM).map uY).sum)+(R.length+1);exact AU (uA h2 h1)
theorem F0.good{R:List (List Wd)}(h:F0 R)(y0:R≠[]):Good R:=by have h1:=h.sum;have h2:=SE h.ok;exact⟨uM.mpr h.ok,y0,by exact Lz,by exact AU (uA h2 h1),by exact Ay⟩
theorem Y1(ns:List Int):Good (drawn ns):=by
 obtain⟨_,h,_⟩:=SD ns;have y0:pick (dl ns) []≠[]:=by
  cases ns with
  |nil=> exact Yz 3 []
  |cons n r=> exact Yz n (r.take 19)
 have h1:=h.sum;have h2:=SE h.ok;unfold drawn;by_cases q:(((ns.length:Int).fmod 2==1)=true)
 . rw [if_pos q];refine⟨uM.mpr fun ws hw=> ?_,by simp,?_,?_,?_⟩
   . rcases uN.mp hw with hw |hw
     . exact h.ok ws hw
     . rw [u5.mp hw];decide
   . rw [t9,uw];exact AU h1
   . unfold BD;unfold BD at h2;rw [uB,List.sum_append];show _+1<=40;exact AU (uA h2 h1)
   . rw [uB,uB,List.sum_append,t9];show _+0+(_+1)<=50;exact BF
 . rw [if_neg q];exact h.good y0
theorem rI(ns:List Int){y:AV×AV}:∀d,AN PP fu (AD PP fu (d+3)) [Lw 2] (Ed (CH ns) (some y) (pick (dl ns) []))= .ok .next (Ed (CH ns) (some y) (drawn ns)):=by
 obtain⟨_,h,_⟩:=SD ns;have h1:=h.sum;obtain⟨y1,y2⟩:=y;unfold drawn;have hf:((ns.map AV.int).length:Int)=(ns.length:Int):=by rw [uL]
 have hb:∀h,binOp h .mod (.int ((ns.map AV.int).length:Nat)) (.int 2)=some (.int ((ns.length:Int).fmod 2)):=fun h=> by rw [<-hf];rfl
 cases q:((ns.length:Int).fmod 2==1)with
 |true=>
  rw [if_pos rfl];have hap:Bv (DY (Ak (pick (dl ns) []))) (.ref 0) N.append [.str []]=some (.none,DY (Ak (pick (dl ns) []++[[.blank]]))):=by rw [Fu (h:=DY (Ak (pick (dl ns) []))) (r:=0) (xs:=Ak (pick (dl ns) [])) rfl (by unfold Ak;rw [uL];show _<1000000;exact A7 h1)];unfold Ak;rw [uB];rfl
  exact AZ [.bin .mod _ _ _ hb,BW ((ns.length:Int).fmod 2) 1 q,.BA _ _ N.append _ _ _ hap]
 |false=> rw [if_neg nofun];exact AZ [.bin .mod _ _ _ hb,BW ((ns.length:Int).fmod 2) 1 q]
def OP(ns:List Int)(y:AV×AV)(AA ref:AV)(m:Mid):Bs:=⟨CH ns,y.1,y.2,AA,ref,m⟩
theorem rJ(ns:List Int){y:AV×AV}:∃dv x z g,(dv= .Ae (DW (drawn ns)).1∨(dv= .ref 2/\x=(DW (drawn ns)).1))/\
 ∀d,AN PP fu (AD PP fu (d+3)) [Lw 3] (Ed (CH ns) (some y) (drawn ns))= .ok .next ⟨(OP ns y dv (DJ (DW (drawn ns)).2) .m0).l [],AI (Ak (drawn ns)) x z g⟩:=by
 have hg:=Y1 ns;obtain⟨dv,x,z,g,h1,h2⟩:=qz hg.ok hg.ne hg.len hg.cnt;obtain⟨y1,y2⟩:=y;refine⟨dv,x,z,g,h1,?_⟩;generalize DJ (DW (drawn ns)).2=rv at h2;exact AZ [.call _ _ _ _ _ 2 h2]
end L4
end Internal
section
namespace Internal
theorem rK{P:Prog}{fu k:Nat}{g:List CE}{s:St}{r:Out (List AV)}(tr:Tr P fu)(e:ED (HI k) g s tr=some ⟨r,[],tr.map dup⟩:=by kernel_rfl!):∀d,Cg P (AD P fu (d+k)) g s=r:=fun d=>
 EW (fun f as ks h t=> H4 d k f as ks h t) g s tr _ e fun p hp=> by obtain⟨q,_,rfl⟩:=uj.mp hp;rfl
namespace L4
def I9(u:List Nat)(n:Nat)(p:Nat×Nat):Nat×Nat:=match Cd [32] u with
 | []=> p
 |c::r=> if(c !=35)=true then(n,u.length - (r.length+1))else p
def HG(R:List (List Wd)):List Nat->Nat×Nat->Nat×Nat
 | [],p=> p
 |n::l,p=> HG R l (I9 (AM (R.getD n [])) n p)
def E3(m a:Nat):List Nat:=(List.range (m - a)).map fun k=> m - k
theorem rL{m a:Nat}(hm:m<=1000)(ha:a<=1000):HV [.int m,.int a,.int (-1)]=some ((E3 m a).map fun k=> AV.int (k:Nat)):=by
 show(if(B6 (m:Int)&&B6 (a:Int)&&B6 (-1)&&(-1:Int) !=0)=true then some ((Ek m a (-1)).map AV.int)else none)=_;have i1:B6 (m:Int)=true:=decide_eq_true (by show(m:Int).natAbs<=1000000;exact Ay);have i2:B6 (a:Int)=true:=decide_eq_true (by show(a:Int).natAbs<=1000000;exact Ay);rw [if_pos (by rw [i1,i2];rfl)];unfold Ek E3;rw [show Ej (m:Int) (a:Int) (-1)=m - a from by
  unfold Ej;rw [if_neg (by decide)];by_cases q:(m:Int)>a
  . rw [if_pos q,show -(-1:Int)=1 from rfl,Int.ediv_one,Int.sub_add_cancel,<-Int.ofNat_sub (vA.mp (Int.le_of_lt q)),vq]
  . rw [if_neg q,Nat.sub_eq_zero_of_le (vA.mp (vv.mp q))];rfl]
 rw [vO,vO];congr 1;refine vW fun k hk=> ?_;have hk:=List.mem_range.mp hk;show AV.int ((m:Int)+(k:Int) * (-1))=AV.int ((m - k:Nat):Int);congr 1;lia
def DG(R:List (List Wd)):Nat×Nat:=(R.length - 1,(AM (R.getLast?.getD [])).length)
def E4(R:List (List Wd))(a:Nat):Nat×Nat:=HG R (E3 (R.length - 1) a) (DG R)
def OQ(R:List (List Wd)):Option Ref->AV
 |none=>.none
 |some (.bad a b)=>.tup [tupI a b,.none]
 |some (.req a b)=>.tup [tupI (E4 R a).1 (E4 R a).2,tupI a b]
def Ge:CS:=match Lw 4 with
 | .ifs _ (_::l::_) _=> l
 |c=> c
def Y2:List CE:=match HP Ge with
 | .E5 as=> as
 |_=>[]
theorem rM:HP Ge= .E5 Y2:=by kernel_rfl!
theorem rN{cf:Nat->List AV->List (N×AV)->Hp->COut}{as:List CE}{s s1:St}{vs xs:List AV}(h:Cg PP cf as s= .ok vs s1)(h2:HV vs=some xs):FX PP cf (.E5 as) s= .ok xs s1:=by unfold FX;dsimp only;rw [h];unfold Out.bind;dsimp only;rw [h2];rfl
def FT(p:Nat×Nat):Option AV->Mid
 |none=>.m1 (tupI p.1 p.2)
 |some b=>.m2 (tupI p.1 p.2) b
theorem rO{v0 v1 v2 AA ref:AV}{yo x:List AV}{z:List Int}{g:List AObj}{p:Nat×Nat}{o:Option AV}{n:Nat}{u:List Nat}(hu:yo[n]? =some (.str u))(hl:u.length<=1000):
 ∃s1,(∀d,DA PP (AD PP fu (d+3)) (EZ Ge) (.int n) ⟨Bs.l ⟨v0,v1,v2,AA,ref,FT p o⟩ [],AI yo x z g⟩= .ok () s1)/\∃o',∀d,AN PP fu (AD PP fu (d+3)) (BM Ge) s1= .ok .next ⟨Bs.l ⟨v0,.int n,v2,AA,ref,FT (I9 u n p) (some o')⟩ [],AI yo x z g⟩:=by
 refine⟨⟨Bs.l ⟨v0,.int n,v2,AA,ref,FT p o⟩ [],AI yo x z g⟩,?_,.str (Cd [32] u),?_⟩
 . cases o<;>exact H9 []
 have hb:Bv (AI yo x z g) (.str u) N.lstrip [.str [32]]=some (.str (Cd [32] u),AI yo x z g):=rfl;unfold I9;cases hd:Cd [32] u with
 |nil=> rw [hd]at hb;cases o<;>exact AZ [.Ct (AI yo x z g) (.ref 0) (.int n) (.str u) (KC hu),.BA _ _ N.lstrip _ _ _ hb]
 |cons c r=>
  rw [hd]at hb;have hg:∀h,CP h (.str (c::r)) (.int 0)=some (.str [c]):=D9 (p:=0) 0 rfl rfl;have hle:r.length+1<=u.length:=by
   have:∀l:List Nat,(Cd [32] l).length<=l.length:=fun l=> by
    induction l with
    |nil=> exact uW _
    |cons a t ih=>
     rw [Se];by_cases q:[32].contains a=true
     . rw [if_pos q];exact yI ih
     . rw [if_neg q];exact uW _
   have:=this u;rw [hd]at this;exact this
  have hs:∀h,binOp h .sub (.int (u.length:Nat)) (.int ((c::r).length:Nat))=some (.int ((u.length - (r.length+1):Nat):Int)):=fun h=> congrArg (fun i=> some (AV.int i)) (show(u.length:Int) - ((r.length+1:Nat):Int)=((u.length - (r.length+1):Nat):Int)from(Int.ofNat_sub hle).symm);cases q:(c !=35)with
  |false=> dsimp only;rw [if_neg (by rw [q];exact nofun)];cases o<;>exact AZ [.Ct (AI yo x z g) (.ref 0) (.int n) (.str u) (KC hu),.BA _ _ N.lstrip _ _ _ hb,.get _ _ _ hg,.cmp .ne (.str [c]) (.str [35]) false (fun _=> Nm _ q)]
  |true=> dsimp only;rw [if_pos q];cases o<;>exact AZ [.Ct (AI yo x z g) (.ref 0) (.int n) (.str u) (KC hu),.BA _ _ N.lstrip _ _ _ hb,.get _ _ _ hg,.cmp .ne (.str [c]) (.str [35]) true (fun _=> Nm _ q),.Ct (AI yo x z g) (.ref 0) (.int n) (.str u) (KC hu),.bin .sub _ _ _ hs]
theorem Y3{v0 v2 AA ref:AV}{x:List AV}{z:List Int}{g:List AObj}{R:List (List Wd)}(hl:∀ws∈R,(AM ws).length<=1000):∀(l:List Nat) (v1:AV) (p:Nat×Nat) (o:Option AV),(∀n∈l,n<R.length)->
 ∃v1' o',∀d,B1 (fun v s=> DA PP (AD PP fu (d+3)) (EZ Ge) v s) (fun s=> AN PP fu (AD PP fu (d+3)) (BM Ge) s) (l.map fun k=> AV.int (k:Nat)) ⟨Bs.l ⟨v0,v1,v2,AA,ref,FT p o⟩ [],AI (Ak R) x z g⟩= .ok .next ⟨Bs.l ⟨v0,v1',v2,AA,ref,FT (HG R l p) o'⟩ [],AI (Ak R) x z g⟩
 | []=>@fun v1 p o _=> ⟨v1,o,fun d=> rfl⟩
 |n::l=>@fun v1 p o hn=> by
  refine cps fun yv yt=> ?_;have h1:=hn n (.head _);have hu:(Ak R)[n]? =some (.str (AM (R.getD n []))):=by unfold Ak;rw [wL,u0 h1,vT,u0 h1];rfl
  have hm:R.getD n []∈R:=by rw [vT,u0 h1];exact wy h1
  obtain⟨s1,a1,o',b1⟩:=rO (v0:=v0) (v1:=v1) (v2:=v2) (AA:=AA) (ref:=ref) (x:=x) (z:=z) (g:=g) (p:=p) (o:=o) hu (hl _ hm);obtain⟨v1',o2,h2⟩:=Y3 hl l (.int n) (I9 (AM (R.getD n [])) n p) (some o') fun k hk=> hn k (.tail _ hk);refine yt ?_;exact⟨v1',o2,fun d=> (Lg (a1 d) (b1 d)).trans (h2 d)⟩
theorem rP{ns:List Int}{y:AV×AV}{dv:AV}{x:List AV}{z:List Int}{g:List AObj}{R:List (List Wd)}(hG:Good R)(r:Option Ref)(hr:∀a b,r=some (.req a b)->a<=1000):
 ∃b:Bs,b.AA=dv/\b.ref=OQ R r/\b.v0=CH ns/\∀d,AN PP fu (AD PP fu (d+3)) [Lw 4] ⟨(OP ns y dv (DJ r) .m0).l [],AI (Ak R) x z g⟩= .ok .next ⟨b.l [],AI (Ak R) x z g⟩:=by
 obtain⟨y1,y2⟩:=y;cases r with
 |none=> exact⟨OP ns (y1,y2) dv .none .m0,rfl,rfl,rfl,AZ []⟩
 |some r=> cases r with
  |bad a b=> exact⟨OP ns (y1,y2) dv (DJ (some (.bad a b))) .m0,rfl,rfl,rfl,AZ []⟩
  |req a b=>
   refine cps fun yv yt=> ?_;have ha:=hr a b rfl;obtain⟨m,hm⟩:∃m,R.length=m+1:=⟨R.length - 1,by have:=wJ.mpr hG.ne;exact OZ⟩;obtain⟨wl,hwl⟩:∃wl,R.getLast? =some wl:=by
    cases h:R.getLast? with
    |none=> exact absurd (yd.mp h) hG.ne
    |some v=> exact⟨v,rfl⟩
   have hlen:=hG.len;have hml:∀ws∈R,(AM ws).length<=1000:=fun ws hw=> by have:=uM.mp hG.ok ws hw;exact uH (t6.mp this).2
   have hend:DG R=(m,(AM wl).length):=by unfold DG;rw [hm,hwl];rfl
   have e1:∀h,binOp h .sub (.int ((Ak R).length:Nat)) (.int 1)=some (.int (m:Nat)):=fun h=> congrArg (fun i=> some (AV.int i)) (show((Ak R).length:Int) - 1=(m:Nat) by unfold Ak;rw [uL,hm];show(m:Int)+1 - 1=m;exact xP ..);have e2:CP (AI (Ak R) x z g) (.ref 0) (.int (-1))=some (.str (AM wl)):=Yt (by unfold Ak;rw [List.getLast?_map,hwl];rfl);obtain⟨v1',o',hw⟩:=Y3 (v0:=CH ns) (v2:=y2) (AA:=dv) (ref:=DJ (some (.req a b))) (x:=x) (z:=z) (g:=g) hml (E3 m a) y1 (m,(AM wl).length) none (fun n hn=> by unfold E3 at hn;obtain⟨k,hk,rfl⟩:=uj.mp hn;have:=List.mem_range.mp hk;lia)
   refine yt ?_;have ABn:∀d,FX PP (AD PP fu (d+3)) (HP Ge) ⟨Bs.l ⟨CH ns,y1,y2,dv,DJ (some (.req a b)),FT (m,(AM wl).length) none⟩ [],AI (Ak R) x z g⟩= .ok ((E3 m a).map fun k=> AV.int (k:Nat)) ⟨Bs.l ⟨CH ns,y1,y2,dv,DJ (some (.req a b)),FT (m,(AM wl).length) none⟩ [],AI (Ak R) x z g⟩:=fun d=> by have:=rK (k:=3) (fu:=fu) (P:=PP) (g:=Y2) (s:=⟨Bs.l ⟨CH ns,y1,y2,dv,DJ (some (.req a b)),FT (m,(AM wl).length) none⟩ [],AI (Ak R) x z g⟩) (r:=.ok [.int m,.int a,.int (-1)] ⟨Bs.l ⟨CH ns,y1,y2,dv,DJ (some (.req a b)),FT (m,(AM wl).length) none⟩ [],AI (Ak R) x z g⟩) [.bin .sub _ _ _ e1] (by kernel_rfl!) d;rw [rM];exact rN this (rL (by lia) ha)
   have AAW:∀d,Az PP fu (AD PP fu (d+3)) Ge ⟨Bs.l ⟨CH ns,y1,y2,dv,DJ (some (.req a b)),FT (m,(AM wl).length) none⟩ [],AI (Ak R) x z g⟩= .ok .next _:=fun d=> Lh rfl (ABn d) (hw d)
   have hP:E4 R a=HG R (E3 m a) (m,(AM wl).length):=by unfold E4;rw [hend,hm];rfl
   refine⟨⟨CH ns,v1',y2,dv,OQ R (some (.req a b)),FT (E4 R a) o'⟩,rfl,rfl,rfl,?_⟩;show∀d,_=Out.ok Flow.next ⟨Bs.l ⟨CH ns,v1',y2,dv,.tup [tupI (E4 R a).1 (E4 R a).2,tupI a b],FT (E4 R a) o'⟩ [],_⟩
   rw [hP];generalize HG R (E3 m a) (m,(AM wl).length)=PL at AAW;cases o' with
   |none=> exact AZ [.bin .sub _ _ _ e1,.Ct _ _ _ _ e2,.Ao Ge _ _ 3 AAW]
   |some o'=> exact AZ [.bin .sub _ _ _ e1,.Ct _ _ _ _ e2,.Ao Ge _ _ 3 AAW]
end L4
end Internal
end
namespace Internal
namespace L4
def SG:List (List Nat):=[[10],[13,10],[133]]
def C0(k:Nat):List Nat:=SG.getD ((k:Int).fmod 3).toNat []
theorem Y4(k:Nat):C0 k=[10]∨C0 k=[13,10]∨C0 k=[133]:=by
 unfold C0;have h1:0<=(k:Int).fmod 3:=xG _ (by decide);have h2:(k:Int).fmod 3<3:=xQ _ (by decide);have h3:((k:Int).fmod 3).toNat=0∨((k:Int).fmod 3).toNat=1∨((k:Int).fmod 3).toNat=2:=by lia
 rcases h3 with h |h |h<;>rw [h]<;>simp [SG]
def Ca(le:List Nat)(R:List (List Wd)):List Nat:=BJ le (R.map AM)
theorem rQ(k:Nat)(h:Hp):CP h (.Ae (SG.map AV.str)) (.int ((k:Int).fmod 3))=some (.str (C0 k)):=by
 have h1:0<=(k:Int).fmod 3:=xG _ (by decide);have h2:(k:Int).fmod 3<3:=xQ _ (by decide);have h3:(k:Int).fmod 3=0∨(k:Int).fmod 3=1∨(k:Int).fmod 3=2:=by lia
 unfold C0;rcases h3 with h |h |h<;>rw [h]<;>rfl
def Ll(b:Bs)(t:List Nat)(lo:List AObj):St:=⟨b.l [(N.Rl,me),(N.got,.ref 9),(N.met,.none)],(Sc.new t).hp lo [L1 []]⟩
theorem rR{b:Bs}{ns:List Int}{R:List (List Wd)}{x:List AV}{z:List Int}{g:List AObj}(hG:Good R)(hb:b.v0=CH ns)(hp:(Ca (C0 ns.length) R).all Ez=true)(hl:(Ca (C0 ns.length) R).length<=1000):
 ∀d,AN PP fu (AD PP fu (d+5)) [Lw 5,Lw 6,Lw 7] ⟨b.l [],AI (Ak R) x z g⟩= .ok .next (Ll b (Ca (C0 ns.length) R) (.lst (Ak R)::.lst x::.lst (z.reverse.map .int)::g)):=by
 have hf:((ns.map AV.int).length:Int)=(ns.length:Int):=by rw [uL]
 have hm:∀h,binOp h .mod (.int ((ns.map AV.int).length:Nat)) (.int 3)=some (.int ((ns.length:Int).fmod 3)):=fun h=> by rw [<-hf];rfl
 have zD:=hG.sum;have hle:=Y4 ns.length;have hj:=join_rows (h:=AI (Ak R) x z g) (c:=C0 ns.length) (R:=R) (x:=.ref 0) rfl (by rcases hle with h |h |h<;>rw [h]<;>decide) (by rw [uL];exact Ay);have hi:=pG (t:=Ca (C0 ns.length) R) (lo:=.lst (Ak R)::.lst x::.lst (z.reverse.map .int)::g) hp hl;have hgt:=rQ ns.length;unfold Ca at hi⊢;generalize BJ (C0 ns.length) (R.map AM)=t at hj hi;generalize C0 ns.length=le at hj hgt;obtain⟨v0,v1,v2,v3,v4,m⟩:=b;obtain rfl:v0=CH ns:=hb;cases m<;>exact AZ [.bin .mod _ _ _ hm,.get _ _ _ hgt,.BA _ _ N.join _ _ _ hj,.call _ _ _ _ _ 4 hi]
inductive PV:AV->Prop
 |none:PV .none
 |str (s:List Nat):PV (.str s)
 |rS:PV (.tup [.int 1,.int 1])
def PR(v:AV):Prop:=∃i w a b c d,v=AG i w a b c d/\PV w
theorem Lm{u:AV}{r:List AV}(h:Ds u u=some true):EN (u::r) (u::r)=EN r r:=by show(Ds u u).bind _=_;rw [h];rfl
theorem Y5{v:AV}(h:PR v):Bz 7 v=true/\Ds v v=some true:=by
 obtain⟨i,w,a,b,c,d,rfl,hw⟩:=h;have ei:∀n:Nat,Ds (.int n) (.int n)=some true:=fun n=> congrArg some (beq_self_eq_true _);have es:∀s:List Nat,Ds (.str s) (.str s)=some true:=fun s=> congrArg some (beq_self_eq_true _);have ew:Ds w w=some true/\Bz 6 w=true:=by
  cases hw
  . exact⟨rfl,rfl⟩
  . exact⟨es _,rfl⟩
  . exact⟨rfl,rfl⟩
 have step:∀(u:AV) (r:List AV),Ds u u=some true->EN (u::r) (u::r)=EN r r:=fun u r h=> by show(Ds u u).bind _=_;rw [h];rfl
 refine⟨?_,?_⟩
 . show([AV.str i,w,.int a,.int b,.int c,.int d].all (Bz 6))=true;simp only [vH,List.all_nil,ew.2,xe];rfl
 . show EN [AV.str i,w,.int a,.int b,.int c,.int d] [AV.str i,w,.int a,.int b,.int c,.int d]=some true;rw [step _ _ (es i),step _ _ ew.1,step _ _ (ei a),step _ _ (ei b),step _ _ (ei c),step _ _ (ei d)];rfl
theorem Y6:∀{D:List AV},(∀v∈D,PR v)->EN D D=some true
 | [],_=> rfl
 |v::D,h=> by show(Ds v v).bind _=_;rw [(Y5 (h v (.head _))).2];exact Y6 fun w hw=> h w (.tail _ hw)
theorem rT{D:List AV}(h:∀v∈D,PR v):Bz 8 (.Ae D)=true:=by show(false||D.all (Bz 7))=true;rw [wV];exact uM.mpr fun v hv=> (Y5 (h v hv)).1
theorem rU{h:Hp}{dv:AV}{D:List AV}(hD:∀v∈D,PR v)(h1:h.f 9= .lst D)(h2:dv= .Ae D∨(dv= .ref 2/\h.f 2= .lst D)):BZ h .eq (.ref 9) dv=some true:=by
 have d1:JK h (.ref 9)=some (.Ae D):=by show(C9 (h.f 9)).map AV.Ae=_;rw [h1];rfl
 have d2:JK h dv=some (.Ae D):=by
  rcases h2 with rfl |⟨rfl,h2⟩
  . rfl
  . show(C9 (h.f 2)).map AV.Ae=_;rw [h2];rfl
 show MB h (.ref 9) dv=_;unfold MB;rw [d1,d2];show(if(Bz 8 (.Ae D)&&Bz 8 (.Ae D))=true then EN D D else none)=_;rw [rT hD,if_pos (show(true&&true)=true from rfl),Y6 hD]
def DZ(m:Mk)(c:Option Mk):AV:=.tup [tupI m.line m.col,match c with
 |none=>.none
 |some k=> tupI k.line k.col]
def SH(bf:List Nat)(e:AV)(m:Mk)(c:Option Mk):Prop:=∃ctx ABD,e=Iy ctx (match c with |none=>.none |some k=> k.v bf) ABD (m.v bf)
theorem rV(m:Mk)(c:Option Mk)(h:Hp):BZ h .eq (DZ m c) (DZ m c)=some true:=by
 have et:∀a b:Nat,Ds (tupI a b) (tupI a b)=some true:=fun a b=> by show EN [.int a,.int b] [.int a,.int b]=_;rw [Lm (show Ds (.int a) (.int a)=some true from congrArg some (beq_self_eq_true _)),Lm (show Ds (.int b) (.int b)=some true from congrArg some (beq_self_eq_true _))];rfl
 cases c with
 |none=> show(if(Bz 8 (DZ m none)&&Bz 8 (DZ m none))=true then EN [tupI m.line m.col,.none] [tupI m.line m.col,.none]else none)=_;rw [show Bz 8 (DZ m none)=true from rfl,if_pos (show(true&&true)=true from rfl),Lm (et _ _)];rfl
 |some k=> show(if(Bz 8 (DZ m (some k))&&Bz 8 (DZ m (some k)))=true then EN [tupI m.line m.col,tupI k.line k.col] [tupI m.line m.col,tupI k.line k.col]else none)=_;rw [show Bz 8 (DZ m (some k))=true from rfl,if_pos (show(true&&true)=true from rfl),Lm (et _ _),Lm (et _ _)];rfl
theorem rW{q:Ph}{lo y:List AObj}{D:List AV}{h:Hp}(e:Ba q lo (L1 D::y) h):h.f 9= .lst D:=by obtain⟨kr,rfl,_⟩:=e;rfl
theorem rY{q:Ph}{a b:AObj}{lo y:List AObj}{h:Hp}(e:Ba q (a::b::lo) y h):h.f 2=b:=by obtain⟨kr,rfl,_⟩:=e;rfl
def Y7(b:Bs)(met tk:AV)(val:Option AV)(wh cx:AV)(h:Hp):St:=⟨b.l ([(N.Rl,me),(N.got,.ref 9),(N.met,met),(N.token,tk)]++((match val with |none=>[] |some v=>[(N.value,v)])++[(N.where_,wh),(N.context,cx)])),h⟩
def SI(bf:List Nat)(v:AV)(e:Option AV):Prop:=match e with
 |none=> v= .none
 |some x=> ∃m c,SH bf x m c/\v=DZ m c
theorem rZ{b:Bs}{t:List Nat}{lo:List AObj}{ts:List Tk}{e:Option AV}(H:Runs (t++[0]) (run (Sc.new t)) ts e)(y0:ts≠[])(hl:ts.length<=2000)(hD:∀v∈ts.map Tk.row,PR v)
 (ACZ:b.AA= .Ae (ts.map Tk.row)∨(b.AA= .ref 2/\∃a lo',lo=a::.lst (ts.map Tk.row)::lo'))
 (he:SI (t++[0]) b.ref e):
 ∃h',∀d,Gr (AN PP fu (AD PP fu (d+13)) [Lw 8,Lw 9] (Ll b t lo))= .ok (.bool true) h':=by
 cases H with
 |fin h=> exact absurd rfl y0
 |exc h=> exact absurd rfl y0
 |@tok _ q t0 ts' _ hg hr=>
  obtain⟨y,h1,e1,w1⟩:=hg lo [L1 []] _ (Ba.run _ _ _);obtain⟨q2,y2,h2,e2,r,zh,w2⟩:=o8 hr (b:=b) (t:=t0) (val:=none) (lo:=lo) (g:=y) (got:=[]) 5000 e1 (by have:ts'.length+1<=2000:=hl;show 0+ts'.length+1<1000000;exact A7 this) (by have:ts'.length+1<=2000:=hl;exact BF);have ABq:∀d,Az PP fu (AD PP fu (d+13)) Gd (Ey b (t0.v (t++[0])) none h1)=r:=fun d=> w2 d;have hc:BZ h2 .eq (.ref 9) b.AA=some true:=rU hD (rW e2) (ACZ.imp id fun⟨x,a,lo',hlo⟩=> ⟨x,by subst hlo;exact rY e2⟩);obtain⟨v0,v1,v2,v3,v4,m⟩:=b;cases e with
  |none=>
   obtain⟨tk,val,rfl⟩:=zh;obtain rfl:v4= .none:=he;refine⟨h2,fun d=> ?_⟩;have:AN PP fu (AD PP fu (d+13)) [Lw 8,Lw 9] (Ll ⟨v0,v1,v2,v3,.none,m⟩ t lo)= .ok (.ret (.bool true)) (Ey ⟨v0,v1,v2,v3,.none,m⟩ tk val h2):=by cases m<;>cases val<;>exact AZ [.call _ _ _ _ _ 13 w1,.Ao Gd _ _ 13 ABq,.Et _ .eq _ _ true hc] (by kernel_rfl!) d
   rw [this];rfl
  |some x=>
   obtain⟨tk,val,rfl⟩:=zh;obtain⟨mm,c,⟨ctx,ABD,rfl⟩,hv4⟩:=he;obtain rfl:v4=DZ mm c:=hv4;have hee:=rV mm c;refine⟨h2,fun d=> ?_⟩;cases c with
   |none=>
    have:AN PP fu (AD PP fu (d+13)) [Lw 8,Lw 9] (Ll ⟨v0,v1,v2,v3,DZ mm (none),m⟩ t lo)= .ok (.ret (.bool true)) (Y7 ⟨v0,v1,v2,v3,DZ mm (none),m⟩ (DZ mm (none)) tk val (mm.v (t++[0])) .none h2):=by cases m<;>cases val<;>exact AZ [.call _ _ _ _ _ 13 w1,.Ao Gd _ _ 13 ABq,.Et _ .eq _ _ true hc,.cmp .eq _ _ true hee] (by kernel_rfl!) d
    rw [this];rfl
   |some k=>
    have:AN PP fu (AD PP fu (d+13)) [Lw 8,Lw 9] (Ll ⟨v0,v1,v2,v3,DZ mm (some k),m⟩ t lo)= .ok (.ret (.bool true)) (Y7 ⟨v0,v1,v2,v3,DZ mm (some k),m⟩ (DZ mm (some k)) tk val (mm.v (t++[0])) (k.v (t++[0])) h2):=by cases m<;>cases val<;>exact AZ [.call _ _ _ _ _ 13 w1,.Ao Gd _ _ 13 ABq,.Et _ .eq _ _ true hc,.cmp .eq _ _ true hee] (by kernel_rfl!) d
    rw [this];rfl
section
theorem Gb.snoc{p q r z:Ph}{n:Nat}(H:Gb p n q)(h1:Ex q r)(h2:CY r z):Gb p (n+1) z:=by
 induction H with
 |nil p=> exact .cons h1 h2 (.nil _)
 |cons a b c ih=> exact .cons a b (ih h1)
inductive Rx(bf:List Nat):Ph->Nat->List Tk->Option AV->Prop
 |EJ {p q:Ph} {j:Nat} {ts:List Tk} {e:Option AV} (hn:Ex p p) (hf:CY p q) (hj:j<=50) (r:Rx bf q (j+1) ts e):Rx bf p j ts e
 |fail {p:Ph} {j:Nat} {e:AV} (hn:Ex p p) (hf:Fw p e) (hj:j<=50):Rx bf p j [] (some e)
 |take {p:Ph} {j:Nat} {t:Tk} {l:List AV} {ts:List Tk} {e:Option AV} (hn:Not p p) (ht:p.s.toks=t.v bf::l) (hj:j<=60) (r:Rx bf (p.Rk l) 0 ts e):Rx bf p j (t::ts) e
 |done {p:Ph} (ht:p.s.toks=[]) (hd:p.dn=true):Rx bf p 0 [] none
theorem Rx.runs{bf:List Nat}{p:Ph}{j:Nat}{ts:List Tk}{e:Option AV}(H:Rx bf p j ts e):∀p0,Gb p0 j p->Runs bf p0 ts e:=by
 induction H with
 |EJ hn hf hj r ih=> exact fun p0 h0=> ih p0 (h0.snoc hn hf)
 |fail hn hf hj=> exact fun p0 h0=>.exc (oy h0 (by exact Ay) hn hf)
 |take hn ht hj r ih=> exact fun p0 h0=>.tok (ou h0 (by exact Ay) hn ht) (ih _ (.nil _))
 |done ht hd=> intro p0 h0;cases h0;exact .fin (get_none ht hd)
theorem Rx.down{bf:List Nat}{p:Ph}{j:Nat}{ts:List Tk}{e:Option AV}(H:Rx bf p j ts e):∀i,i<=j->Rx bf p i ts e:=by
 induction H with
 |EJ hn hf hj r ih=> exact fun i hi=>.EJ hn hf (by exact Oa) (ih (i+1) (by exact AU hi))
 |fail hn hf hj=> exact fun i hi=>.fail hn hf (by exact Oa)
 |take hn ht hj r ih=> exact fun i hi=>.take hn ht (by exact Oa) r
 |done ht hd=>
  intro i hi;obtain rfl:i=0:=by exact uc (AU hi) (Bt)
  exact .done ht hd
variable{s:Sc}
theorem Ex.empty(h:s.toks=[]):Ex (run s) (run s):=fun lo g k e=> by obtain rfl:=Ba.of e;exact⟨_,e,fun d=> nS h (d+3)⟩
theorem Ex.key{t:AV}{r:List AV}{k:Ky}(h:s.toks=t::r)(hk:s.key=some k)(h1:k.line=s.line)(h2:s.ptr<=k.ptr+1024)(h3:k.tn=s.taken):Ex (run s) (run s):=fun lo g x e=> by obtain rfl:=Ba.of e;exact⟨_,e,fun d=> nU h hk h1 h2 h3 (d+1)⟩
theorem Not.none{t:AV}{r:List AV}(h:s.toks=t::r)(hk:s.key=none):Not (run s) (run s):=fun lo g x e=> by obtain rfl:=Ba.of e;exact⟨_,.none,e,.inl rfl,fun d=> nT h hk (d+1)⟩
theorem Not.later{t:AV}{r:List AV}{k:Ky}(h:s.toks=t::r)(hk:s.key=some k)(h1:k.line=s.line)(h2:s.ptr<=k.ptr+1024)(h3:k.tn≠s.taken):Not (run s) (run s):=fun lo g x e=> by obtain rfl:=Ba.of e;exact⟨_,.none,e,.inl rfl,fun d=> nV h hk h1 h2 h3 (d+1)⟩
theorem Not.fin:Not (fin s) (fin s):=fun lo g h e=> by obtain⟨kr,rfl,hk⟩:=e;refine⟨_,.bool false,⟨kr,rfl,hk⟩,.inr rfl,?_⟩;exact cert (k:=3) []
def Sc.dr(s:Sc)(U:List AV)(n:Nat):Sc:={s with toks:=U,taken:=s.taken+n}
theorem drain{bf:List Nat}{U:List AV}{ts:List Tk}{e:Option AV}:∀(T:List Tk) (s:Sc) (j:Nat),T≠[]->s.toks=T.map (Tk.v bf)++U->(s.key=none∨∃k,s.key=some k/\k.line=s.line/\s.ptr<=k.ptr+1024/\k.tn=s.taken+T.length)->j<=60->
 Rx bf (run (s.dr U T.length)) 0 ts e->Rx bf (run s) j (T++ts) e
 | []=>@fun s j y0 _ _ _ _=> absurd rfl y0
 |t::T=>@fun s j _ ht hk hj H=> by
  have ht:s.toks=t.v bf::(T.map (Tk.v bf)++U):=ht;have hn:Not (run s) (run s):=by
   rcases hk with hk |⟨k,hk,h1,h2,h3⟩
   . exact .none ht hk
   . exact .later ht hk h1 h2 (by rw [h3,uh];lia)
  refine .take hn ht hj ?_;show Rx bf (run {s with toks:=T.map (Tk.v bf)++U,taken:=s.taken+1}) 0 (T++ts) e;cases T with
  |nil=> exact H
  |cons t' T=>
   refine drain (t'::T) {s with toks:=(t'::T).map (Tk.v bf)++U,taken:=s.taken+1} 0 nofun rfl ?_ (by exact Gj) ?_
   . rcases hk with hk |⟨k,hk,h1,h2,h3⟩
     . exact .inl hk
     . exact .inr ⟨k,hk,h1,h2,by rw [h3];simp only [uh];exact uc (Bt) (Bt)⟩
   . have:Sc.dr {s with toks:=(t'::T).map (Tk.v bf)++U,taken:=s.taken+1} U (t'::T).length=s.dr U (t::t'::T).length:=by
      unfold Sc.dr;show{s with toks:=U,taken:=s.taken+1+(t'::T).length}={s with toks:=U,taken:=s.taken+(t::t'::T).length};rw [show s.taken+1+(t'::T).length=s.taken+(t::t'::T).length by simp only [uh];exact uc (Bt) (Bt)]
     rw [this];exact H
theorem Y8{bf:List Nat}:∀(T:List Tk) (s:Sc) (j:Nat),(T=[]->j=0)->s.toks=T.map (Tk.v bf)->j<=60->Rx bf (fin s) j T none
 | []=>@fun s j h0 ht hj=> by rw [h0 rfl];exact .done ht rfl
 |t::T=>@fun s j _ ht hj=>.take Not.fin ht hj (Y8 T {s with toks:=T.map (Tk.v bf),taken:=s.taken+1} 0 (fun _=> rfl) rfl (by exact Gj))
end
theorem SJ:∀(l:List Gp) (s:Sc),(A3 l s).buf=s.buf/\(A3 l s).ptr=s.ptr+(BS l).length/\(A3 l s).line=s.line+l.length/\(A3 l s).col=(if l=[]then s.col else 0)/\(A3 l s).allow=(if l=[]then s.allow else true)/\
 (A3 l s).toks=s.toks/\(A3 l s).taken=s.taken/\(A3 l s).st=s.st/\(A3 l s).key=s.key
 | []=>@fun s=> ⟨rfl,rfl,rfl,rfl,rfl,rfl,rfl,rfl,rfl⟩
 |p::l=>@fun s=> by
  obtain⟨h1,h2,h3,h4,h5,h6,h7,h8,h9⟩:=SJ l (p.go s);refine⟨h1,?_,?_,?_,?_,h6,h7,h8,h9⟩
  . show(A3 l (p.go s)).ptr=s.ptr+(p.txt++BS l).length;rw [h2,Gp.Xy,t9]at⊢;exact uc (Bt) (Bt)
  . show(A3 l (p.go s)).line=s.line+(l.length+1);rw [h3]at⊢;show s.line+1+l.length=_;exact uc (Bt) (Bt)
  . show(A3 l (p.go s)).col=0;rw [h4]at⊢;by_cases q:l=[]
    . rw [if_pos q]at⊢;rfl
    . rw [if_neg q]at⊢
  . show(A3 l (p.go s)).allow=true;rw [h5]at⊢;by_cases q:l=[]
    . rw [if_pos q]at⊢;rfl
    . rw [if_neg q]at⊢
theorem Sc.ext'{a b:Sc}(h1:a.buf=b.buf)(h2:a.ptr=b.ptr)(h3:a.line=b.line)(h4:a.col=b.col)(h5:a.toks=b.toks)(h6:a.taken=b.taken)(h7:a.st=b.st)(h8:a.allow=b.allow)(h9:a.key=b.key):a=b:=by cases a;cases b;cases h1;cases h2;cases h3;cases h4;cases h5;cases h6;cases h7;cases h8;cases h9;rfl
def Gf(st:List Int):Prop:=∃l:List Nat,st=l.map (fun(n:Nat)=> (n:Int))++[-1]
theorem Gf.C1{st:List Int}(h:Gf st):By st:=by obtain⟨l,rfl⟩:=h;exact List.getLast?_concat ..
theorem Gf.push{st:List Int}(h:Gf st)(a:Nat):Gf ((a:Int)::st):=by obtain⟨l,rfl⟩:=h;exact⟨a::l,rfl⟩
theorem Gf.AB{B:Int}:∀{st:List Int},Gf st->Gf (AB B st).2
 | [],⟨l,h⟩=> by cases(l)<;>cases(h)
 | [a],h=> h
 |a::b::r,⟨l,h⟩=> by
  by_cases q:a>B
  . rw [show L4.AB B (a::b::r)=((L4.AB B (b::r)).1+1,(L4.AB B (b::r)).2)from if_pos q];refine Gf.AB (st:=b::r) ?_;cases(l)with
    |nil=> cases(h)
    |cons x l=> exact⟨l,(xf h).2⟩
  . rw [show L4.AB B (a::b::r)=(0,a::b::r)from if_neg q];exact⟨l,h⟩
theorem Y9:∀(l:List Nat),AB (-1) (l.map (fun(n:Nat)=> (n:Int))++[-1])=(l.length,[-1])
 | []=> rfl
 | [a]=> by show(if((a:Nat):Int)> -1 then((AB (-1) [-1]).1+1,(AB (-1) [-1]).2)else _)=_;rw [if_pos (by lia)];rfl
 |a::b::l=> by show(if((a:Nat):Int)> -1 then((AB (-1) ((b::l).map (fun(n:Nat)=> (n:Int))++[-1])).1+1,(AB (-1) ((b::l).map (fun(n:Nat)=> (n:Int))++[-1])).2)else _)=_;rw [if_pos (by lia),Y9 (b::l)];rfl
theorem Lp{B C:Int}(h:C<=B):∀st:List Int,(AB B st).1+(AB C (AB B st).2).1=(AB C st).1/\(AB C (AB B st).2).2=(AB C st).2
 | []=> ⟨rfl,rfl⟩
 | [a]=> ⟨rfl,rfl⟩
 |a::b::r=> by
  by_cases q:a>B
  . have ih:=Lp h (b::r);rw [show AB B (a::b::r)=((AB B (b::r)).1+1,(AB B (b::r)).2)from if_pos q,show AB C (a::b::r)=((AB C (b::r)).1+1,(AB C (b::r)).2)from if_pos (by lia)];exact⟨by show(AB B (b::r)).1+1+(AB C (AB B (b::r)).2).1=(AB C (b::r)).1+1;have:=ih.1;exact uc (AU (t7 this)) (AU (t7 this.symm)),ih.2⟩
  . rw [show AB B (a::b::r)=(0,a::b::r)from if_neg q];exact⟨uv _,rfl⟩
theorem Lq{B:Int}:∀st:List Int,By st-> -1<=B->(AB B st).2.headD 0<=B
 | []=>@fun h _=> by cases h
 | [a]=>@fun h hB=> by cases h;exact hB
 |a::b::r=>@fun h hB=> by
  by_cases q:a>B
  . rw [show AB B (a::b::r)=((AB B (b::r)).1+1,(AB B (b::r)).2)from if_pos q];exact Lq (b::r) h hB
  . rw [show AB B (a::b::r)=(0,a::b::r)from if_neg q];show a<=B;exact SX
structure J(m:Nat)(bf:List Nat)(n ym:Nat)(X:List Nat)(st:List Int)(yp yn:Bool)(yq:List Gp)(k:Nat)(s:Sc)(q:List Tk):Prop where
 buf:s.buf=bf
 has:Ab bf s.ptr (BS yq++(tv k 32++X))
 line:s.line+yq.length=n
 col:(if yq=[]then s.col else 0)+k=ym
 allow:(if yq=[]then s.allow else true)=yp
 Dc:s.st=st
 CI:Gf st
 Gg:yq.all Gp.ok=true
 len:yq.length+k+2 * m<=900
 toks:s.toks=q.map (Tk.v bf)
 key:if yn=true then∃kk t,s.key=some kk/\kk.req=false/\kk.tn=s.taken/\kk.line=s.line/\s.ptr<=kk.ptr+24/\q=[t]else s.key=none/\q=[]
 chr:bf.all (fun c=> c !=65279)=true
 tk:s.toks.length+s.st.length+2 * m<=800
inductive F5(m:Nat)(bf:List Nat)(n ym:Nat)(X:List Nat)(st:List Int)(yp yn:Bool)(j:Nat)(s:Sc)(yo:List AV):Prop
 |mk (s5:Sc) (T:List Tk) (h1:J m bf n ym X st yp yn [] 0 s5 []) (h2:T.map Tk.row=yo) (h3:∀ts e,Rx bf (run s5) 0 ts e->Rx bf (run s) j (T++ts) e)
def Mk.be(m:Mk)(k:Nat):List Tk:=tv k (Tk.two .be m m)
def BX(bf:List Nat)(p n ym:Nat)(q:List Tk)(taken:Nat)(st:List Int)(yp:Bool):Sc:=⟨bf,p,n,ym,(q++Mk.be ⟨p,n,ym⟩ (AB ym st).1).map (Tk.v bf),taken,(AB ym st).2,yp,none⟩
theorem J.l0{m:Nat}{bf:List Nat}{n ym:Nat}{X:List Nat}{st:List Int}{yp yn:Bool}{yq:List Gp}{k:Nat}{s:Sc}{q:List Tk}(h:J (m+1) bf n ym X st yp yn yq k s q):0+0+2 * m<=900:=by rw [uv];exact t5 (t5 (ur _ 2) (vb ..)) h.len
theorem J.pre{m:Nat}{bf:List Nat}{n ym c:Nat}{X:List Nat}{st:List Int}{yp yn:Bool}{yq:List Gp}{k:Nat}{s:Sc}{q:List Tk}(h:J m bf n ym (c::X) st yp yn yq k s q)(hc:[13,10,133,8232,8233].contains c=false)(zx:(c==32)=false)(h35:(c==35)=false)(hw:yn=true->yq≠[]):
 Pre s (BX bf (s.ptr+(BS yq).length+k) n ym q s.taken st yp):=by
 obtain⟨g1,g2,g3,g4,g5,g6,g7,g8,g9⟩:=SJ yq s;have hlen:=h.len;have DR:Gl.ok ⟨k,[]⟩ c=true:=by unfold Gl.ok;simp only [hc,wU,xe];rw [show Ew []=true from rfl,show uJ (k+([]:List Nat).length) 2000=true from wg (by show k<=2000;exact AU hlen)];simp only [Bool.true_and,bne,zx,h35,wU]
 have ACa:Ab s.buf s.ptr (BS yq++(Gl.txt ⟨k,[]⟩++[c])):=by rw [h.buf];have:=h.has;show Ab bf s.ptr (BS yq++((tv k 32++[])++[c]));rw [uD];rw [<-t8]at this⊢;exact this.snoc rfl
 have hu:∀c,s.buf[s.ptr]? =some c->(c==65279)=false:=fun c e=> by rw [h.buf]at e;have:=uM.mp h.chr c (vV e);simpa using this
 have AAB:=fun lo g=> RX (s:=s) (lo:=lo) (g:=g) h.Gg DR (by exact AU hlen) ACa hu;refine⟨Gl.go ⟨k,[]⟩ (A3 yq s),{Gl.go ⟨k,[]⟩ (A3 yq s)with key:=none},AAB,fun lo g=> ?_,fun lo g=> ?_⟩
 . have hk:=h.key;cases hwt:yn with
   |false=> rw [hwt,if_neg nofun]at hk;have hkn:(Gl.go ⟨k,[]⟩ (A3 yq s)).key=none:=g9.trans hk.1;have:=Ra (lo:=lo) (g:=g) hkn;rw [show({Gl.go ⟨k,[]⟩ (A3 yq s)with key:=none}:Sc)=Gl.go ⟨k,[]⟩ (A3 yq s)from Sc.ext' rfl rfl rfl rfl rfl rfl rfl rfl hkn.symm];exact this
   |true=> rw [hwt,if_pos rfl]at hk;obtain⟨kk,t,k1,k2,k3,k4,k5,k6⟩:=hk;have hl:0<yq.length:=wJ.mpr (hw hwt);exact X2 (lo:=lo) (g:=g) (s:=Gl.go ⟨k,[]⟩ (A3 yq s)) (g9.trans k1) (by show kk.line≠(A3 yq s).line;rw [g3,k4];lia) k2
 . have e:BX bf (s.ptr+(BS yq).length+k) n ym q s.taken st yp=Sc.AB {Gl.go ⟨k,[]⟩ (A3 yq s)with key:=none} ym:=by
    have ep:s.ptr+(BS yq).length+k=(A3 yq s).ptr+(k+0):=by rw [g2];exact uc (Bt) (Bt)
    have en:n=(A3 yq s).line:=by rw [g3];exact h.line.symm
    have ea:ym=(A3 yq s).col+(k+0):=by rw [g4];exact h.col.symm
    have es:(A3 yq s).st=st:=g8.trans h.Dc;refine Sc.ext' (h.buf.symm.trans g1.symm) ep en ea ?_ g7.symm ?_ ?_ rfl
    . show(q++Mk.be ⟨_,n,ym⟩ (AB ym st).1).map (Tk.v bf)=(A3 yq s).toks++tv (AB ym (A3 yq s).st).1 (BE (Ac (A3 yq s).buf ((A3 yq s).ptr+(k+0)) (A3 yq s).line ((A3 yq s).col+(k+0))));rw [g6,h.toks,es,uB,Mk.be,vo,<-ep,<-en,<-ea,g1,h.buf];rfl
    . show(AB ym st).2=(AB ym (A3 yq s).st).2;rw [es]
    . show yp=(A3 yq s).allow;rw [g5];exact h.allow.symm
   rw [e];have ea:(({Gl.go ⟨k,[]⟩ (A3 yq s)with key:=none}:Sc).col)=ym:=by show(A3 yq s).col+(k+0)=ym;rw [g4];exact h.col
   rw [ea];have es:(A3 yq s).st=st:=g8.trans h.Dc;exact HM (by show low (ym:Int) (A3 yq s).st;rw [es];exact h.CI.C1.low (B:=(ym:Int)) (by exact Gk)) (by show(A3 yq s).toks.length+(A3 yq s).st.length<=2000;rw [g6,g8];have:=h.tk;exact JE)
section
variable{m n ym k j:Nat}{bf X:List Nat}{st:List Int}{yp yn:Bool}{yq:List Gp}{s:Sc}{q:List Tk}
theorem CY.of{a b:Sc}(h:∀lo g,∃y,∀d,AD PP fu (d+12) CJ [me] [] (a.hp lo g)= .ok .none (b.hp lo (g++y))):CY (run a) (run b):=fun lo g x e=> by obtain rfl:=Ba.of e;obtain⟨y,hy⟩:=h lo g;exact⟨y,_,Ba.run _ _ _,hy⟩
theorem CY.of0{a b:Sc}(h:∀lo g d,AD PP fu (d+12) CJ [me] [] (a.hp lo g)= .ok .none (b.hp lo g)):CY (run a) (run b):=CY.of fun lo g=> ⟨[],by rw [uD];exact h lo g⟩
theorem Fw.of{a b:Sc}{x:AV}(h:∀lo g d,AD PP fu (d+12) CJ [me] [] (a.hp lo g)= .exc x (b.hp lo g)):Fw (run a) x:=fun lo g y e=> by obtain rfl:=Ba.of e;exact⟨run b,[],_,by rw [uD];exact Ba.run _ _ _,h lo g⟩
theorem J.need(h:J m bf n ym X st yp yn yq k s q):Ex (run s) (run s):=by
 have hk:=h.key;cases hw:yn with
 |false=> rw [hw,if_neg nofun]at hk;exact .empty (by rw [h.toks,hk.2];rfl)
 |true=> rw [hw,if_pos rfl]at hk;obtain⟨kk,t,k1,k2,k3,k4,k5,k6⟩:=hk;exact .key (r:=[]) (by rw [h.toks,k6];rfl) k1 k4 (by exact AU k5) k3
theorem J.q1(h:J m bf n ym X st yp yn yq k s q):q.length<=1:=by
 have hk:=h.key;cases hw:yn with
 |false=> rw [hw,if_neg nofun]at hk;rw [hk.2];exact uO _
 |true=> rw [hw,if_pos rfl]at hk;obtain⟨kk,t,_,_,_,_,_,k6⟩:=hk;rw [k6];exact uW _
theorem J.fit(h:J m bf n ym X st yp yn yq k s q)(p:Nat)(tk:Nat)(fr:Bool):(BX bf p n ym q tk st fr).HO:=by
 have h1:=h.tk;rw [h.Dc]at h1;have h2:=DT ym st;have h3:=h.q1;obtain⟨a,r,e⟩:=(h.CI.C1.AB (B:=ym)).ne;refine⟨?_,?_,?_⟩
 . show(AB ym st).2≠[];rw [e];exact nofun
 . show(AB ym st).2.length<=900;exact AU (uA (t7 h2) h1)
 . show((q++Mk.be ⟨p,n,ym⟩ (AB ym st).1).map (Tk.v bf)).length<=900;rw [uL,t9,Mk.be,ub];exact AU (uA h3 (uA (t7 h2) h1))
def J.p(s:Sc)(yq:List Gp)(k:Nat):Nat:=s.ptr+(BS yq).length+k
theorem J.here(h:J m bf n ym X st yp yn yq k s q):Ab bf (J.p s yq k) X:=by have:=h.has;rw [<-t8]at this;have:=this.drop;rw [t9,ub,<-ui]at this;exact this
def Kd.of:Kd->Mk->Tk:=fun k x=>.two k x x
def Ln.ch:Ln->Nat
 | .ent=> 45
 | .key=> 63
 | .val=> 58
theorem Ef(p:Nat)(i:Nat):(Mk.be ⟨p,n,ym⟩ i).map Tk.row=tv i (Ah n ym):=by unfold Mk.be;rw [vo];rfl
def Bh(X:List Nat):Prop:=∃x X',X=x::X'/\C6 x=true
theorem ZA{p:Nat}{x:Nat}{X':List Nat}{ts:List AV}{tk:Nat}{fr:Bool}(h:Ab bf p (45::x::X'))(hx:C6 x=true):∀lo g d,AD PP fu (d+4) G3 [me] [] (Sc.hp ⟨bf,p,n,ym,ts,tk,st,fr,none⟩ lo g)= .ok .none (Sc.hp ⟨bf,p,n,ym,ts,tk,st,fr,none⟩ lo g):=fun lo g=> by
 by_cases hz:ym=0
 . refine oK (s:=⟨bf,p,n,ym,ts,tk,st,fr,none⟩) hz (Nat.le_of_lt ?_) ?_
   . rcases vI p bf.length with z |z
     . exact z
     . have:=h.head;rw [vU z]at this;cases this
   . have e1:(Sc.pre ⟨bf,p,n,ym,ts,tk,st,fr,none⟩ 3)[1]? =some x:=by
      unfold Sc.pre;rw [List.getElem?_take,if_pos (by decide),List.getElem?_drop];exact h.tail.head
     rw [beq_eq_false_iff_ne];intro e;rw [e]at e1;cases e1;cases hx
 . exact Rh hz
theorem ra{l:Ln}(hJ:J (m+1) bf n ym (l.ch::X) st true yn yq k s q)(hw:yn=true->yq≠[])(hX:Bh X)(hj:j<=8):
 F5 m bf n (ym+1) X (if(AB ym st).2.headD 0<(ym:Int)then(ym:Int)::(AB ym st).2 else(AB ym st).2) true false j s (q.map Tk.row++tv (AB ym st).1 (Ah n ym)++(if(AB ym st).2.headD 0<(ym:Int)then [AG l.o.id .none n ym n ym]else [])++[AG l.k.id .none n ym n (ym+1)]):=by
 obtain⟨x,X',rfl,hx⟩:=hX;have zi:[13,10,133,8232,8233].contains l.ch=false/\(l.ch==32)=false/\(l.ch==35)=false:=by cases l<;>exact⟨rfl,rfl,rfl⟩
 have hP:=hJ.pre zi.1 zi.2.1 zi.2.2 hw;have hH:=hJ.here;have hF:=hJ.fit (J.p s yq k) s.taken true;have hN:=hJ.need;have hp:s.ptr+(BS yq).length+k=J.p s yq k:=rfl;rw [hp]at hP;have hx1:bf[J.p s yq k+1]? =some x:=hH.tail.head;have zK:CY (run s) (run ((((BX bf (J.p s yq k) n ym q s.taken st true).HN l.o.cls ym).on 1).add (Ax l.k.cls (Ac bf (J.p s yq k) n ym) (Ac bf (J.p s yq k+1) n (ym+1))))):=CY.of0 fun lo g=> by
  cases l with
  |ent=> exact oS hP hH.head (fun lo g=> ZA hH hx lo g) hx1 hx (fun d=> oB hF rfl rfl hH.head (d+6))
  |key=> exact oU hP hH.head hx1 hx (fun d=> oD hF rfl rfl hH.head (d+6))
  |val=> exact YR hP hH.head hx1 hx (fun d=> oF hF rfl rfl hH.head (d+6))
 have zA:=hJ.tk;rw [hJ.Dc]at zA;have zD:=DT ym st;have e0:s.toks.length=q.length:=by rw [hJ.toks,uL]
 by_cases y9:(AB ym st).2.headD 0<(ym:Int)
 . rw [if_pos y9,if_pos y9];have eo:(BX bf (J.p s yq k) n ym q s.taken st true).HN l.o.cls ym=((BX bf (J.p s yq k) n ym q s.taken st true).J6 ym).add (Ax l.o.cls (Ac bf (J.p s yq k) n ym) (Ac bf (J.p s yq k) n ym)):=if_pos y9;rw [eo]at zK;refine⟨⟨bf,J.p s yq k+1,n,ym+1,[],s.taken+(((q++Mk.be ⟨J.p s yq k,n,ym⟩ (AB ym st).1)++[Tk.two l.o ⟨J.p s yq k,n,ym⟩ ⟨J.p s yq k,n,ym⟩])++[Tk.two l.k ⟨J.p s yq k,n,ym⟩ ⟨J.p s yq k+1,n,ym+1⟩]).length,(ym:Int)::(AB ym st).2,true,none⟩,
    ((q++Mk.be ⟨J.p s yq k,n,ym⟩ (AB ym st).1)++[Tk.two l.o ⟨J.p s yq k,n,ym⟩ ⟨J.p s yq k,n,ym⟩])++[Tk.two l.k ⟨J.p s yq k,n,ym⟩ ⟨J.p s yq k+1,n,ym+1⟩],?_,?_,fun ts e hr=>.EJ hN zK (by exact Ay) (drain _ _ (j+1) (by simp) ?_ (.inl rfl) (by exact BF) hr)⟩
   . exact⟨rfl,hH.tail,rfl,rfl,rfl,rfl,(hJ.CI.AB).push ym,rfl,hJ.l0,rfl,⟨rfl,rfl⟩,hJ.chr,by show 0+((AB ym st).2.length+1)+2 * m<=800;exact AU (uA (t7 zD) zA)⟩
   . rw [uB,uB,uB,Ef];rfl
   . rw [uB,uB,uD];rfl
 . rw [if_neg y9,if_neg y9];have eo:(BX bf (J.p s yq k) n ym q s.taken st true).HN l.o.cls ym=BX bf (J.p s yq k) n ym q s.taken st true:=if_neg y9;rw [eo]at zK;refine⟨⟨bf,J.p s yq k+1,n,ym+1,[],s.taken+((q++Mk.be ⟨J.p s yq k,n,ym⟩ (AB ym st).1)++[Tk.two l.k ⟨J.p s yq k,n,ym⟩ ⟨J.p s yq k+1,n,ym+1⟩]).length,(AB ym st).2,true,none⟩,
    (q++Mk.be ⟨J.p s yq k,n,ym⟩ (AB ym st).1)++[Tk.two l.k ⟨J.p s yq k,n,ym⟩ ⟨J.p s yq k+1,n,ym+1⟩],?_,?_,fun ts e hr=>.EJ hN zK (by exact Ay) (drain _ _ (j+1) (by simp) ?_ (.inl rfl) (by exact BF) hr)⟩
   . exact⟨rfl,hH.tail,rfl,rfl,rfl,rfl,hJ.CI.AB,rfl,hJ.l0,rfl,⟨rfl,rfl⟩,hJ.chr,by show 0+(AB ym st).2.length+2 * m<=800;exact AU (uA (t7 zD) zA)⟩
   . rw [uB,uB,Ef,uD];rfl
   . rw [uB,uD];rfl
end
section
variable{m n ym k j:Nat}{bf X:List Nat}{st:List Int}{yp yn:Bool}{yq:List Gp}{s:Sc}{q:List Tk}
theorem SK{B:Int}:∀{st:List Int},st≠[]->st.headD 0<=B->AB B st=(0,st)
 | []=>@fun h _=> absurd rfl h
 | [a]=>@fun _ _=> rfl
 |a::b::r=>@fun _ h=> if_neg (by have h:a<=B:=h;exact L6)
theorem ZC{c:Nat}(hc:[13,10,133,8232,8233].contains c=false)(zx:(c==32)=false)(h35:(c==35)=false)(hb:s.buf[s.ptr]? =some c)(zi:s.buf.all (fun c=> c !=65279)=true)(hst:s.st≠[])(ACb:low (s.col:Int) s.st)(hd:s.st.headD 0<=(s.col:Int))(hl:s.toks.length+s.st.length<=2000)
 (hk:s.key=none∨∃kk,s.key=some kk/\kk.line=s.line/\s.ptr<=kk.ptr+1024):Pre s s:=by
 have DR:Gl.ok ⟨0,[]⟩ c=true:=by unfold Gl.ok;simp only [hc,wU,xe];rw [show Ew []=true from rfl,show uJ (0+([]:List Nat).length) 2000=true from rfl];simp only [Bool.true_and,bne,zx,h35,wU]
 have hu:∀c,s.buf[s.ptr]? =some c->(c==65279)=false:=fun c e=> by have:=uM.mp zi c (vV e);simpa using this
 have ACc:Ab s.buf s.ptr (BS []++(Gl.txt ⟨0,[]⟩++[c])):=fun i x e=> by
  cases i with
  |zero=> cases e;exact hb
  |succ i=> cases e
 have AAB:=fun lo g=> RX (s:=s) (lo:=lo) (g:=g) (l:=[]) (p:=⟨0,[]⟩) rfl DR (uO _) ACc hu;refine⟨s,s,fun lo g=> AAB lo g,fun lo g=> ?_,fun lo g=> ?_⟩
 . rcases hk with hk |⟨kk,hk,h1,h2⟩
   . exact Ra hk
   . exact LZ hk h1 h2
 . have e:s.AB s.col=s:=by
    unfold Sc.AB;rw [SK hst hd];show{s with st:=s.st,toks:=s.toks++[]}=s;rw [uD]
   have:=HM (s:=s) (lo:=lo) (g:=g) ACb hl;rw [e]at this;exact this
def Kw.plain:Kw->Bool
 | .q=> false
 |_=> true
def Kw.J7:Kw->AV
 | .q=>.str [39]
 |_=>.none
def Kw.tk(w:Kw)(a b:Mk):Tk:=.Lf w.told w.plain a b w.J7
theorem Kw.ZD(w:Kw):w.raw.length=w.len:=by cases w<;>rfl
theorem ZE{w:Kw}{p x:Nat}{X':List Nat}{tkn:Nat}{s1:Sc}(hP:Pre s (BX bf p n ym q tkn st yp))(hH:Ab bf p (w.raw++58::x::X'))(hx:C6 x=true)
 (hs:∀lo g d,AD PP fu (d+3) JX [me] [] ((BX bf p n ym q tkn st yp).hp lo g)= .ok .none (s1.hp lo g)) (he:s1.ptr=p/\s1.buf=bf/\s1.toks.length<=900) (hl:s1.line=n) (hc:s1.col=ym):
 CY (run s) (run ((s1.off.on w.len).add ((w.tk ⟨p,n,ym⟩ ⟨p+w.len,n,ym+w.len⟩).v bf))):=CY.of fun lo g=> by
 obtain⟨b1,b2,b3,b4,b5,b6,b7,b8,b9⟩:=s1;obtain⟨rfl,rfl,he⟩:=he;obtain rfl:b3=n:=hl;obtain rfl:b4=ym:=hc;have h2:Ab b1 b2 (w.raw++[58,x]):=by
  have:Ab b1 b2 ((w.raw++[58,x])++X'):=by rw [t8];exact hH
  exact this.left
 cases w with
 |w=> obtain⟨y,hy⟩:=N9 (c:=119) (w:=[]) (x:=x) (hs lo g) ⟨rfl,rfl,he⟩ h2 rfl hx rfl (uO _);exact⟨y,oW hP h2.head (fun d=> hy (d+2))⟩
 |q=> obtain⟨y,hy⟩:=YM (c:=113) (x:=58) (hs lo g) ⟨rfl,rfl,he⟩ (h2.left (u:=[39,113,39,58])) rfl rfl rfl;exact⟨y,YU hP h2.head (fun d=> hy d)⟩
 |d3=>
  obtain⟨y,hy⟩:=N9 (c:=45) (w:=[45,45]) (x:=x) (hs lo g) ⟨rfl,rfl,he⟩ h2 rfl hx rfl (by decide);refine⟨y,YV hP h2.head (fun lo g=> ?_) (x:=45) h2.tail.head rfl (fun d=> hy (d+2))⟩;by_cases hz:b4=0
  . exact Ri (x:=58) (b:=false) hz (h2.left (u:=[45,45,45,58])) rfl
  . exact Rh hz
 |KG=>
  obtain⟨y,hy⟩:=N9 (c:=45) (w:=[45,45,119]) (x:=x) (hs lo g) ⟨rfl,rfl,he⟩ h2 rfl hx rfl (by decide);refine⟨y,YV hP h2.head (fun lo g=> ?_) (x:=45) h2.tail.head rfl (fun d=> hy (d+2))⟩;by_cases hz:b4=0
  . exact Ri (x:=119) (b:=false) hz (h2.left (u:=[45,45,45,119])) rfl
  . exact Rh hz
 |KH=>
  obtain⟨y,hy⟩:=N9 (c:=46) (w:=[46,46,119]) (x:=x) (hs lo g) ⟨rfl,rfl,he⟩ h2 rfl hx rfl (by decide);refine⟨y,oY hP h2.head (fun lo g=> ?_) (fun d=> hy (d+2))⟩;by_cases hz:b4=0
  . exact YQ (x:=119) (b:=false) hz (h2.left (u:=[46,46,46,119])) rfl
  . exact oM hz
theorem Kw.hd(w:Kw):∃c r,w.raw=c::r/\[13,10,133,8232,8233].contains c=false/\(c==32)=false/\(c==35)=false:=by cases w<;>exact⟨_,_,rfl,rfl,rfl,rfl⟩
theorem rb{w:Kw}(hJ:J (m+1) bf n ym (w.raw++58::X) st true yn yq k s q)(hw:yn=true->yq≠[])(hX:Bh X)(hj:j<=8):
 F5 m bf n (ym+w.len+1) X (if(AB ym st).2.headD 0<(ym:Int)then(ym:Int)::(AB ym st).2 else(AB ym st).2) false false j s (q.map Tk.row++tv (AB ym st).1 (Ah n ym)++(if(AB ym st).2.headD 0<(ym:Int)then [AG Kd.bm.id .none n ym n ym]else [])++[AG Kd.ky.id .none n ym n ym,IB n ym w,AG Kd.va.id .none n (ym+w.len) n (ym+w.len+1)]):=by
 obtain⟨x,X',rfl,hx⟩:=hX;obtain⟨c,r,er,hc1,hc2,hc3⟩:=w.hd;have hP:Pre s (BX bf (J.p s yq k) n ym q s.taken st true):=by have hJ':=hJ;rw [er]at hJ';exact hJ'.pre hc1 hc2 hc3 hw
 have hH:=hJ.here;have hF:=hJ.fit (J.p s yq k) s.taken true;have hN:=hJ.need;generalize J.p s yq k=p at hP hH hF;have zA:=hJ.tk;rw [hJ.Dc]at zA;have zD:=DT ym st;have zW:=hJ.q1;have hhd:=Lq (B:=(ym:Int)) st hJ.CI.C1 (by exact Gk);have AAS:=hJ.CI.AB (B:=(ym:Int));have y0:(AB ym st).2≠[]:=by obtain⟨a,r,e⟩:=AAS.C1.ne;rw [e];exact nofun
 have hwl:w.len<=4:=by cases w<;>decide
 have zK:=ZE (s1:={BX bf p n ym q s.taken st true with key:=some (BX bf p n ym q s.taken st true).La}) hP hH hx (fun lo g=> X5 rfl rfl) ⟨rfl,rfl,hF.tl⟩ rfl rfl;have hlen:((q++Mk.be ⟨p,n,ym⟩ (AB ym st).1).map (Tk.v bf)).length=(q++Mk.be ⟨p,n,ym⟩ (AB ym st).1).length:=uL ..;generalize hT0:q++Mk.be ⟨p,n,ym⟩ (AB ym st).1=T0 at hlen;have hT0l:T0.length<=1+(AB ym st).1:=by rw [<-hT0,t9,Mk.be,ub];exact AU zW
 generalize hky:(BX bf p n ym q s.taken st true).La=ky at zK;have ky1:ky.tn=s.taken+T0.length:=by rw [<-hky];show s.taken+(uV _ _).length=_;rw [hT0,hlen]
 have ky2:ky.ptr=p/\ky.line=n/\ky.col=ym:=by rw [<-hky];exact⟨rfl,rfl,rfl⟩
 let s5:Sc:=⟨bf,p+w.len,n,ym+w.len,[(w.tk ⟨p,n,ym⟩ ⟨p+w.len,n,ym+w.len⟩).v bf],s.taken+T0.length,(AB ym st).2,false,some ky⟩;have hH5:Ab bf (p+w.len) (58::x::X'):=by have:=hH.drop;rw [w.ZD]at this;exact this
 have hP5:Pre s5 s5:=ZC (c:=58) rfl rfl rfl hH5.head hJ.chr y0 (AAS.C1.low (B:=((ym+w.len:Nat):Int)) (by exact Gk)) (by show(AB ym st).2.headD 0<=((ym+w.len:Nat):Int);exact SY) (by show 1+(AB ym st).2.length<=2000;exact AU (uA (t7 zD) zA)) (.inr ⟨ky,rfl,ky2.2.1,by show p+w.len<=ky.ptr+1024;rw [ky2.1];exact AU hwl⟩);have hF5:s5.HO:=⟨y0,by show(AB ym st).2.length<=900;exact AU (uA (t7 zD) zA),by show 1<=900;decide⟩;have ABE:CY (run s5) (run (s5.keyed ky ((w.tk ⟨p,n,ym⟩ ⟨p+w.len,n,ym+w.len⟩).v bf))):=CY.of0 fun lo g=> YR hP5 hH5.head hH5.tail.head hx (fun d=> oG hF5 rfl rfl ky1 hH5.head (d+6));have hN5:Ex (run s5) (run s5):=.key (r:=[]) rfl rfl ky2.2.1 (by show p+w.len<=ky.ptr+1024;rw [ky2.1];exact AU hwl) ky1;have h45:∀ts e,(∀j,j<=10->Rx bf (run s5) j ts e)->Rx bf (run s) j (T0++ts) e:=fun ts e hr=> by
  refine .EJ hN zK (by exact Ay) ?_;by_cases h0:T0=[]
  . have e5:s5=Sc.add (Sc.on (Sc.off {BX bf p n ym q s.taken st true with key:=some ky}) w.len) ((w.tk ⟨p,n,ym⟩ ⟨p+w.len,n,ym+w.len⟩).v bf):=by
     refine Sc.ext' rfl rfl rfl rfl ?_ ?_ rfl rfl rfl
     . show [_]=(uV (Tk.v bf) (q++Mk.be ⟨p,n,ym⟩ (AB ym st).1))++[_];rw [hT0,h0];rfl
     . show s.taken+T0.length=s.taken;rw [h0];rfl
    rw [h0,<-e5];exact hr (j+1) (by exact BF)
  . refine drain T0 _ (j+1) h0 (U:=[(w.tk ⟨p,n,ym⟩ ⟨p+w.len,n,ym+w.len⟩).v bf]) ?_ (.inr ⟨ky,rfl,ky2.2.1,by show p+w.len<=ky.ptr+1024;rw [ky2.1];exact AU hwl,ky1⟩) (by exact BF) (hr 0 (by exact Gj));show(uV (Tk.v bf) (q++Mk.be ⟨p,n,ym⟩ (AB ym st).1))++[_]=_;rw [hT0]
 have AB8:T0.map Tk.row=q.map Tk.row++tv (AB ym st).1 (Ah n ym):=by rw [<-hT0,uB,Ef]
 have hX5:Ab bf (p+w.len+1) (x::X'):=hH5.tail;by_cases y9:(AB ym st).2.headD 0<(ym:Int)
 . rw [if_pos y9,if_pos y9];have hkc:(AB ym st).2.headD 0<(ky.col:Int):=by rw [ky2.2.2];exact y9
   have ek:s5.keyed ky ((w.tk ⟨p,n,ym⟩ ⟨p+w.len,n,ym+w.len⟩).v bf)=⟨bf,p+w.len+1,n,ym+w.len+1,[Tk.two .bm ⟨p,n,ym⟩ ⟨p,n,ym⟩,Tk.two .ky ⟨p,n,ym⟩ ⟨p,n,ym⟩,w.tk ⟨p,n,ym⟩ ⟨p+w.len,n,ym+w.len⟩,Tk.two .va ⟨p+w.len,n,ym+w.len⟩ ⟨p+w.len+1,n,ym+w.len+1⟩].map (Tk.v bf),s.taken+T0.length,(ym:Int)::(AB ym st).2,false,none⟩:=by unfold Sc.keyed;dsimp only;rw [if_pos hkc,ky2.1,ky2.2.1,ky2.2.2];rfl
   rw [ek]at ABE;refine⟨⟨bf,p+w.len+1,n,ym+w.len+1,[],s.taken+T0.length+4,(ym:Int)::(AB ym st).2,false,none⟩,T0++[Tk.two .bm ⟨p,n,ym⟩ ⟨p,n,ym⟩,Tk.two .ky ⟨p,n,ym⟩ ⟨p,n,ym⟩,w.tk ⟨p,n,ym⟩ ⟨p+w.len,n,ym+w.len⟩,Tk.two .va ⟨p+w.len,n,ym+w.len⟩ ⟨p+w.len+1,n,ym+w.len+1⟩],?_,?_,fun ts e hr=> ?_⟩
   . exact⟨rfl,hX5,rfl,rfl,rfl,rfl,AAS.push ym,rfl,hJ.l0,rfl,⟨rfl,rfl⟩,hJ.chr,by show 0+((AB ym st).2.length+1)+2 * m<=800;exact AU (uA (t7 zD) zA)⟩
   . rw [uB,AB8,t8 (_++_)];rfl
   . rw [t8];exact h45 _ _ fun j' hj'=>.EJ hN5 ABE (by exact Ay) (drain _ _ (j'+1) nofun (by rw [uD]) (.inl rfl) (by exact BF) hr)
 . rw [if_neg y9,if_neg y9];have hkc:¬(AB ym st).2.headD 0<(ky.col:Int):=by rw [ky2.2.2];exact y9
   have ek:s5.keyed ky ((w.tk ⟨p,n,ym⟩ ⟨p+w.len,n,ym+w.len⟩).v bf)=⟨bf,p+w.len+1,n,ym+w.len+1,[Tk.two .ky ⟨p,n,ym⟩ ⟨p,n,ym⟩,w.tk ⟨p,n,ym⟩ ⟨p+w.len,n,ym+w.len⟩,Tk.two .va ⟨p+w.len,n,ym+w.len⟩ ⟨p+w.len+1,n,ym+w.len+1⟩].map (Tk.v bf),s.taken+T0.length,(AB ym st).2,false,none⟩:=by unfold Sc.keyed;dsimp only;rw [if_neg hkc,ky2.1,ky2.2.1,ky2.2.2];rfl
   rw [ek]at ABE;refine⟨⟨bf,p+w.len+1,n,ym+w.len+1,[],s.taken+T0.length+3,(AB ym st).2,false,none⟩,T0++[Tk.two .ky ⟨p,n,ym⟩ ⟨p,n,ym⟩,w.tk ⟨p,n,ym⟩ ⟨p+w.len,n,ym+w.len⟩,Tk.two .va ⟨p+w.len,n,ym+w.len⟩ ⟨p+w.len+1,n,ym+w.len+1⟩],?_,?_,fun ts e hr=> ?_⟩
   . exact⟨rfl,hX5,rfl,rfl,rfl,rfl,AAS,rfl,hJ.l0,rfl,⟨rfl,rfl⟩,hJ.chr,by show 0+(AB ym st).2.length+2 * m<=800;exact AU (uA (t7 zD) zA)⟩
   . rw [uB,AB8,uD];rfl
   . rw [t8];exact h45 _ _ fun j' hj'=>.EJ hN5 ABE (by exact Ay) (drain _ _ (j'+1) nofun (by rw [uD]) (.inl rfl) (by exact BF) hr)
end
section
variable{m n ym k j:Nat}{bf X:List Nat}{st:List Int}{yp yn:Bool}{yq:List Gp}{s:Sc}{q:List Tk}
def JA(bf:List Nat)(s:Sc)(j:Nat)(T:List Tk)(mk:Mk)(c:Option Mk):Prop:=∃x,SH bf x mk c/\Rx bf (run s) j T (some x)
theorem rd{w:Kw}(hJ:J (m+1) bf n ym (w.raw++58::X) st false yn yq k s q)(hw:yn=true->yq≠[])(hX:Bh X)(hj:j<=8):
 ∃T p,T.map Tk.row=q.map Tk.row++tv (AB ym st).1 (Ah n ym)++[IB n ym w]/\JA bf s j T ⟨p,n,ym+w.len⟩ none:=by
 refine cps fun yv yt=> ?_;obtain⟨x,X',rfl,hx⟩:=hX;obtain⟨c,r,er,hc1,hc2,hc3⟩:=w.hd;refine yt ?_;have hP:Pre s (BX bf (J.p s yq k) n ym q s.taken st false):=by have hJ':=hJ;rw [er]at hJ';exact hJ'.pre hc1 hc2 hc3 hw
 have hH:=hJ.here;have hF:=hJ.fit (J.p s yq k) s.taken false;have hN:=hJ.need;generalize J.p s yq k=p at hP hH hF;have zA:=hJ.tk;rw [hJ.Dc]at zA;have zD:=DT ym st;have zW:=hJ.q1;have hhd:=Lq (B:=(ym:Int)) st hJ.CI.C1 (by exact Gk);have AAS:=hJ.CI.AB (B:=(ym:Int));have y0:(AB ym st).2≠[]:=by obtain⟨a,r,e⟩:=AAS.C1.ne;rw [e];exact nofun
 have zK:=ZE (s1:=BX bf p n ym q s.taken st false) hP hH hx (fun lo g=> X4 rfl) ⟨rfl,rfl,hF.tl⟩ rfl rfl;let T:=(q++Mk.be ⟨p,n,ym⟩ (AB ym st).1)++[w.tk ⟨p,n,ym⟩ ⟨p+w.len,n,ym+w.len⟩];let s5:Sc:=⟨bf,p+w.len,n,ym+w.len,[],s.taken+T.length,(AB ym st).2,false,none⟩;have hH5:Ab bf (p+w.len) (58::x::X'):=by have:=hH.drop;rw [w.ZD]at this;exact this
 have hP5:Pre s5 s5:=ZC (c:=58) rfl rfl rfl hH5.head hJ.chr y0 (AAS.C1.low (B:=((ym+w.len:Nat):Int)) (by exact Gk)) (by show(AB ym st).2.headD 0<=((ym+w.len:Nat):Int);exact SY) (by show 0+(AB ym st).2.length<=2000;exact AU (uA (t7 zD) zA)) (.inl rfl);have hfx:=Fw.of (a:=s5) (b:=s5) fun lo g=> YT hP5 hH5.head hH5.tail.head hx (fun d=> YK rfl rfl (d+6));have hfl:=Rx.fail (bf:=bf) (j:=0) (Ex.empty rfl) hfx (by exact Gj);have hd:=drain (bf:=bf) (U:=[]) T (Sc.add (Sc.on (Sc.off (BX bf p n ym q s.taken st false)) w.len) ((w.tk ⟨p,n,ym⟩ ⟨p+w.len,n,ym+w.len⟩).v bf)) (j+1) (by show _++[_]≠[];simp) (by show uV (Tk.v bf) (q++Mk.be ⟨p,n,ym⟩ (AB ym st).1)++[_]=uV (Tk.v bf) ((q++Mk.be ⟨p,n,ym⟩ (AB ym st).1)++[_])++[];rw [uD,uB (l₁:=q++Mk.be ⟨p,n,ym⟩ (AB ym st).1)];rfl) (.inl rfl) (by exact BF) hfl
 rw [uD]at hd;refine⟨T,p+w.len,?_,_,⟨.none,_,rfl⟩,.EJ hN zK (by exact Ay) hd⟩;show uV Tk.row (_++[_])=_;rw [uB,uB,Ef];rfl
theorem rf{l:Ln}(hJ:J (m+1) bf n ym (l.ch::X) st false yn yq k s q)(hw:yn=true->yq≠[])(hX:Bh X)(hj:j<=8):∃p,JA bf s j [] ⟨p,n,ym⟩ none:=by
 obtain⟨x,X',rfl,hx⟩:=hX;have zi:[13,10,133,8232,8233].contains l.ch=false/\(l.ch==32)=false/\(l.ch==35)=false:=by cases l<;>exact⟨rfl,rfl,rfl⟩
 have hP:=hJ.pre zi.1 zi.2.1 zi.2.2 hw;have hH:=hJ.here;have hN:=hJ.need;have hp:s.ptr+(BS yq).length+k=J.p s yq k:=rfl;rw [hp]at hP;have hx1:bf[J.p s yq k+1]? =some x:=hH.tail.head;generalize J.p s yq k=p at hP hH hx1;refine⟨p,?_⟩;cases l with
 |ent=> exact⟨_,⟨.none,_,rfl⟩,.fail hN (Fw.of fun lo g=> oT hP hH.head (fun lo g=> ZA hH hx lo g) hx1 hx (fun d=> oC rfl rfl (d+6))) (by exact Ay)⟩
 |key=> exact⟨_,⟨.none,_,rfl⟩,.fail hN (Fw.of fun lo g=> oV hP hH.head hx1 hx (fun d=> oE rfl rfl (d+6))) (by exact Ay)⟩
 |val=> exact⟨_,⟨.none,_,rfl⟩,.fail hN (Fw.of fun lo g=> YT hP hH.head hx1 hx (fun d=> YK rfl rfl (d+6))) (by exact Ay)⟩
theorem rg(hJ:J (m+1) bf n ym (37::100::X) st yp yn yq k s q)(hw:yn=true->yq≠[])(ha:ym≠0)(hj:j<=8):∃p,JA bf s j [] ⟨p,n,ym⟩ none:=by have hP:=hJ.pre rfl rfl rfl hw;have hH:=hJ.here;have hN:=hJ.need;have hp:s.ptr+(BS yq).length+k=J.p s yq k:=rfl;rw [hp]at hP;generalize J.p s yq k=p at hP hH;exact⟨p,_,⟨_,_,rfl⟩,.fail hN (Fw.of fun lo g=> oZ hP hH.head ha hH.tail.head rfl) (by exact Ay)⟩
def JB(a b:Mk):Tk:=.Lf [113] false a b (.str [39])
theorem ZF{p x:Nat}{X':List Nat}{tkn:Nat}{s1:Sc}(hP:Pre s (BX bf p n ym q tkn st yp))(hH:Ab bf p (39::113::39::x::X'))(hx:C6 x=true)
 (hs:∀lo g d,AD PP fu (d+3) JX [me] [] ((BX bf p n ym q tkn st yp).hp lo g)= .ok .none (s1.hp lo g)) (he:s1.ptr=p/\s1.buf=bf/\s1.toks.length<=900) (hl:s1.line=n) (hc:s1.col=ym):
 CY (run s) (run ((s1.off.on 3).add ((JB ⟨p,n,ym⟩ ⟨p+3,n,ym+3⟩).v bf))):=CY.of fun lo g=> by
 obtain⟨b1,b2,b3,b4,b5,b6,b7,b8,b9⟩:=s1;obtain⟨rfl,rfl,he⟩:=he;obtain rfl:b3=n:=hl;obtain rfl:b4=ym:=hc;have ACd:(x==39)=false:=by rw [beq_eq_false_iff_ne];rintro rfl;cases hx
 obtain⟨y,hy⟩:=YM (c:=113) (x:=x) (hs lo g) ⟨rfl,rfl,he⟩ (Ab.left (u:=[39,113,39,x]) (w:=X') hH) rfl rfl ACd;exact⟨y,YU hP hH.head (fun d=> hy d)⟩
theorem rh(hJ:J (m+1) bf n ym (39::113::39::X) st false yn yq k s q)(hw:yn=true->yq≠[])(hX:Bh X)(hj:j<=8):
 F5 m bf n (ym+3) X (AB ym st).2 false false j s (q.map Tk.row++tv (AB ym st).1 (Ah n ym)++[Li n ym]):=by
 obtain⟨x,X',rfl,hx⟩:=hX;have hP:=hJ.pre rfl rfl rfl hw;have hH:=hJ.here;have hF:=hJ.fit (J.p s yq k) s.taken false;have hN:=hJ.need;have hp:s.ptr+(BS yq).length+k=J.p s yq k:=rfl;rw [hp]at hP;generalize J.p s yq k=p at hP hH hF;have zA:=hJ.tk;rw [hJ.Dc]at zA;have zD:=DT ym st;have zK:=ZF (s1:=BX bf p n ym q s.taken st false) hP hH hx (fun lo g=> X4 rfl) ⟨rfl,rfl,hF.tl⟩ rfl rfl;refine⟨⟨bf,p+3,n,ym+3,[],s.taken+((q++Mk.be ⟨p,n,ym⟩ (AB ym st).1)++[JB ⟨p,n,ym⟩ ⟨p+3,n,ym+3⟩]).length,(AB ym st).2,false,none⟩,(q++Mk.be ⟨p,n,ym⟩ (AB ym st).1)++[JB ⟨p,n,ym⟩ ⟨p+3,n,ym+3⟩],?_,?_,fun ts e hr=>.EJ hN zK (by exact Ay) (drain _ _ (j+1) (by simp) ?_ (.inl rfl) (by exact BF) hr)⟩
 . exact⟨rfl,hH.tail.tail.tail,rfl,rfl,rfl,rfl,hJ.CI.AB,rfl,hJ.l0,rfl,⟨rfl,rfl⟩,hJ.chr,by show 0+(AB ym st).2.length+2 * m<=800;exact AU (uA (t7 zD) zA)⟩
 . rw [uB,uB,Ef];rfl
 . rw [uB,uD];rfl
def OR(bf:List Nat)(p n ym tkn:Nat)(st:List Int)(ky:Ky):Sc:=⟨bf,p+3,n,ym+3,[(JB ⟨p,n,ym⟩ ⟨p+3,n,ym+3⟩).v bf],tkn,st,false,some ky⟩
theorem ZG(hJ:J (m+1) bf n ym (39::113::39::X) st true yn yq k s q)(hw:yn=true->yq≠[])(hX:Bh X)(hj:j<=8):
 ∃p T ky,Ab bf (p+3) X/\T.map Tk.row=q.map Tk.row++tv (AB ym st).1 (Ah n ym)/\ky=⟨s.taken+T.length,(AB ym st).2.headD 0==(ym:Int),p,n,ym⟩/\
  ∀ts e,Rx bf (run (OR bf p n ym (s.taken+T.length) (AB ym st).2 ky)) (if q=[]then j+1 else 0) ts e->Rx bf (run s) j (T++ts) e:=by
 obtain⟨x,X',rfl,hx⟩:=hX;have hP:=hJ.pre rfl rfl rfl hw;have hH:=hJ.here;have hF:=hJ.fit (J.p s yq k) s.taken true;have hN:=hJ.need;have hp:s.ptr+(BS yq).length+k=J.p s yq k:=rfl;rw [hp]at hP;generalize J.p s yq k=p at hP hH hF;have zK:=ZF (s1:={BX bf p n ym q s.taken st true with key:=some (BX bf p n ym q s.taken st true).La}) hP hH hx (fun lo g=> X5 rfl rfl) ⟨rfl,rfl,hF.tl⟩ rfl rfl;have hky:(BX bf p n ym q s.taken st true).La=⟨s.taken+(q++Mk.be ⟨p,n,ym⟩ (AB ym st).1).length,(AB ym st).2.headD 0==(ym:Int),p,n,ym⟩:=by show Ky.mk (s.taken+(uV _ _).length) _ _ _ _=_;rw [uL];rfl
 rw [hky]at zK;refine⟨p,q++Mk.be ⟨p,n,ym⟩ (AB ym st).1,_,hH.tail.tail.tail,by rw [uB,Ef],rfl,fun ts e hr=>.EJ hN zK (by exact Ay) ?_⟩;generalize hT0:q++Mk.be ⟨p,n,ym⟩ (AB ym st).1=T0 at hr;generalize hkk:Ky.mk (s.taken+T0.length) ((AB ym st).2.headD 0==(ym:Int)) p n ym=ky at hr;by_cases h0:T0=[]
 . have e5:OR bf p n ym (s.taken+T0.length) (AB ym st).2 ky=Sc.add (Sc.on (Sc.off {BX bf p n ym q s.taken st true with key:=some ky}) 3) ((JB ⟨p,n,ym⟩ ⟨p+3,n,ym+3⟩).v bf):=by
    refine Sc.ext' rfl rfl rfl rfl ?_ ?_ rfl rfl rfl
    . show [_]=(uV (Tk.v bf) (q++Mk.be ⟨p,n,ym⟩ (AB ym st).1))++[_];rw [hT0,h0];rfl
    . show s.taken+T0.length=s.taken;rw [h0];rfl
   rw [if_pos (show q=[] by rw [h0]at hT0;exact(List.append_eq_nil_iff.mp hT0).1)]at hr;rw [h0,<-e5];exact hr
 . refine drain T0 _ (j+1) h0 (U:=[(JB ⟨p,n,ym⟩ ⟨p+3,n,ym+3⟩).v bf]) ?_ (.inr ⟨ky,rfl,by rw [<-hkk];rfl,by rw [<-hkk];show p+3<=p+1024;exact Gi,by rw [<-hkk];rfl⟩) (by exact BF) (hr.down 0 (uO _));show(uV (Tk.v bf) (q++Mk.be ⟨p,n,ym⟩ (AB ym st).1))++[_]=_;rw [hT0]
end
section
variable{m n ym k j:Nat}{bf X:List Nat}{st:List Int}{yp yn:Bool}{yq:List Gp}{s:Sc}{q:List Tk}
theorem OS{α:Type}(x:α)(a b:Nat):tv a x++tv b x=tv (a+b) x:=(List.replicate_append_replicate ..)
theorem ri(hJ:J (m+1) bf n 0 (45::45::45::X) st yp yn yq k s q)(hw:yn=true->yq≠[])(hX:Bh X)(hj:j<=8):
 F5 m bf n 3 X (AB (-1) st).2 false false j s (q.map Tk.row++tv (AB (-1) st).1 (Ah n 0)++[AG Kd.ds.id .none n 0 n 3]):=by
 obtain⟨x,X',rfl,hx⟩:=hX;have hP:=hJ.pre rfl rfl rfl hw;have hH:=hJ.here;have hF:=hJ.fit (J.p s yq k) s.taken yp;have hN:=hJ.need;have hp:s.ptr+(BS yq).length+k=J.p s yq k:=rfl;rw [hp]at hP;generalize J.p s yq k=p at hP hH hF;have zA:=hJ.tk;rw [hJ.Dc]at zA;have hu:=Lp (B:=((0:Nat):Int)) (C:= -1) (by decide) st;have zD:=DT (-1) st;have h4:Ab bf p [45,45,45,x]:=Ab.left (u:=[45,45,45,x]) (w:=X') hH;have hc:∀lo g d,AD PP fu (d+4) G3 [me] [] ((BX bf p n 0 q s.taken st yp).hp lo g)= .ok (.bool true) ((BX bf p n 0 q s.taken st yp).hp lo g):=fun lo g=> Ri (s:=BX bf p n 0 q s.taken st yp) (x:=x) (b:=true) rfl h4 hx;have zK:CY (run s) (run ((BX bf p n 0 q s.taken st yp).marked Kd.ds.cls)):=CY.of0 fun lo g=> oQ hP hH.head hc (fun d=> oH hF (hJ.CI.C1.AB.low (by decide)) rfl (Ab.left (u:=[45,45,45]) (w:=x::X') hH) (d+4));let T:=(((q++Mk.be ⟨p,n,0⟩ (AB ((0:Nat):Int) st).1)++Mk.be ⟨p,n,0⟩ (AB (-1) (AB ((0:Nat):Int) st).2).1)++[Tk.two .ds ⟨p,n,0⟩ ⟨p+3,n,3⟩]);refine⟨⟨bf,p+3,n,3,[],s.taken+T.length,(AB (-1) (AB ((0:Nat):Int) st).2).2,false,none⟩,T,?_,?_,fun ts e hr=>.EJ hN zK (by exact Ay) (drain T _ (j+1) (by show _++[_]≠[];simp) ?_ (.inl rfl) (by exact BF) hr)⟩
 . exact⟨rfl,hH.tail.tail.tail,rfl,rfl,rfl,hu.2,hJ.CI.AB,rfl,hJ.l0,rfl,⟨rfl,rfl⟩,hJ.chr,by show 0+(AB (-1) (AB ((0:Nat):Int) st).2).2.length+2 * m<=800;rw [hu.2];exact AU (uA (t7 zD) zA)⟩
 . show uV Tk.row (((q++Mk.be ⟨p,n,0⟩ (AB ((0:Nat):Int) st).1)++Mk.be ⟨p,n,0⟩ (AB (-1) (AB ((0:Nat):Int) st).2).1)++[Tk.two .ds ⟨p,n,0⟩ ⟨p+3,n,3⟩])=_;rw [uB,uB,uB,Ef,Ef,t8 (uV Tk.row q),OS,hu.1];rfl
 . show(uV (Tk.v bf) (q++Mk.be ⟨p,n,0⟩ (AB ((0:Nat):Int) st).1)++tv (AB (-1) (AB ((0:Nat):Int) st).2).1 (BE (Ac bf p n 0)))++[_]=uV (Tk.v bf) (((q++Mk.be ⟨p,n,0⟩ (AB ((0:Nat):Int) st).1)++Mk.be ⟨p,n,0⟩ (AB (-1) (AB ((0:Nat):Int) st).2).1)++[Tk.two .ds ⟨p,n,0⟩ ⟨p+3,n,3⟩])++[];rw [uD,uB (l₁:=(q++Mk.be ⟨p,n,0⟩ (AB ((0:Nat):Int) st).1)++Mk.be ⟨p,n,0⟩ (AB (-1) (AB ((0:Nat):Int) st).2).1),uB (l₁:=q++Mk.be ⟨p,n,0⟩ (AB ((0:Nat):Int) st).1),Mk.be,Mk.be,vo];rfl
theorem rj(hJ:J (m+1) bf n 0 (46::46::46::X) st yp yn yq k s q)(hw:yn=true->yq≠[])(hX:Bh X)(hj:j<=8):
 F5 m bf n 3 X (AB (-1) st).2 false false j s (q.map Tk.row++tv (AB (-1) st).1 (Ah n 0)++[AG Kd.de.id .none n 0 n 3]):=by
 obtain⟨x,X',rfl,hx⟩:=hX;have hP:=hJ.pre rfl rfl rfl hw;have hH:=hJ.here;have hF:=hJ.fit (J.p s yq k) s.taken yp;have hN:=hJ.need;have hp:s.ptr+(BS yq).length+k=J.p s yq k:=rfl;rw [hp]at hP;generalize J.p s yq k=p at hP hH hF;have zA:=hJ.tk;rw [hJ.Dc]at zA;have hu:=Lp (B:=((0:Nat):Int)) (C:= -1) (by decide) st;have zD:=DT (-1) st;have h4:Ab bf p [46,46,46,x]:=Ab.left (u:=[46,46,46,x]) (w:=X') hH;have hc:∀lo g d,AD PP fu (d+4) Kz [me] [] ((BX bf p n 0 q s.taken st yp).hp lo g)= .ok (.bool true) ((BX bf p n 0 q s.taken st yp).hp lo g):=fun lo g=> YQ (s:=BX bf p n 0 q s.taken st yp) (x:=x) (b:=true) rfl h4 hx;have zK:CY (run s) (run ((BX bf p n 0 q s.taken st yp).marked Kd.de.cls)):=CY.of0 fun lo g=> oR hP hH.head hc (fun d=> oI hF (hJ.CI.C1.AB.low (by decide)) rfl (Ab.left (u:=[46,46,46]) (w:=x::X') hH) (d+4));let T:=(((q++Mk.be ⟨p,n,0⟩ (AB ((0:Nat):Int) st).1)++Mk.be ⟨p,n,0⟩ (AB (-1) (AB ((0:Nat):Int) st).2).1)++[Tk.two .de ⟨p,n,0⟩ ⟨p+3,n,3⟩]);refine⟨⟨bf,p+3,n,3,[],s.taken+T.length,(AB (-1) (AB ((0:Nat):Int) st).2).2,false,none⟩,T,?_,?_,fun ts e hr=>.EJ hN zK (by exact Ay) (drain T _ (j+1) (by show _++[_]≠[];simp) ?_ (.inl rfl) (by exact BF) hr)⟩
 . exact⟨rfl,hH.tail.tail.tail,rfl,rfl,rfl,hu.2,hJ.CI.AB,rfl,hJ.l0,rfl,⟨rfl,rfl⟩,hJ.chr,by show 0+(AB (-1) (AB ((0:Nat):Int) st).2).2.length+2 * m<=800;rw [hu.2];exact AU (uA (t7 zD) zA)⟩
 . show uV Tk.row (((q++Mk.be ⟨p,n,0⟩ (AB ((0:Nat):Int) st).1)++Mk.be ⟨p,n,0⟩ (AB (-1) (AB ((0:Nat):Int) st).2).1)++[Tk.two .de ⟨p,n,0⟩ ⟨p+3,n,3⟩])=_;rw [uB,uB,uB,Ef,Ef,t8 (uV Tk.row q),OS,hu.1];rfl
 . show(uV (Tk.v bf) (q++Mk.be ⟨p,n,0⟩ (AB ((0:Nat):Int) st).1)++tv (AB (-1) (AB ((0:Nat):Int) st).2).1 (BE (Ac bf p n 0)))++[_]=uV (Tk.v bf) (((q++Mk.be ⟨p,n,0⟩ (AB ((0:Nat):Int) st).1)++Mk.be ⟨p,n,0⟩ (AB (-1) (AB ((0:Nat):Int) st).2).1)++[Tk.two .de ⟨p,n,0⟩ ⟨p+3,n,3⟩])++[];rw [uD,uB (l₁:=(q++Mk.be ⟨p,n,0⟩ (AB ((0:Nat):Int) st).1)++Mk.be ⟨p,n,0⟩ (AB (-1) (AB ((0:Nat):Int) st).2).1),uB (l₁:=q++Mk.be ⟨p,n,0⟩ (AB ((0:Nat):Int) st).1),Mk.be,Mk.be,vo];rfl
theorem OT{c:Nat}{X':List Nat}{nmv:List Nat}{val:AV}{P L C ep ec:Nat}(hJ:J (m+1) bf n 0 (37::c::X) st yp yn yq k s q)(hw:yn=true->yq≠[])(hj:j<=8)
 (hd:∀(u:Sc) lo g,u.buf=bf->u.ptr=J.p s yq k->u.line=n->u.col=0->∀d,AD PP fu (d+6) Mr [me] [] (u.hp lo g)= .ok (Ld nmv val u.mark (Ac bf (J.p s yq k+ep) n ec)) ({u with ptr:=P,line:=L,col:=C}.hp lo g)) (hXP:Ab bf P X'):
 F5 m bf L C X' (AB (-1) st).2 false false j s (q.map Tk.row++tv (AB (-1) st).1 (Ah n 0)++[AG FP val n 0 n ec]):=by
 have hP:=hJ.pre rfl rfl rfl hw;have hH:=hJ.here;have hF:=hJ.fit (J.p s yq k) s.taken yp;have hN:=hJ.need;have hp:s.ptr+(BS yq).length+k=J.p s yq k:=rfl;rw [hp]at hP;generalize J.p s yq k=p at hP hH hF hd;have zA:=hJ.tk;rw [hJ.Dc]at zA;have hu:=Lp (B:=((0:Nat):Int)) (C:= -1) (by decide) st;have zD:=DT (-1) st;have ACe:=DT ((0:Nat):Int) st;have ACf:=DT (-1) (AB ((0:Nat):Int) st).2;have zW:=hJ.q1;have zK:CY (run s) (run (Sc.add {(BX bf p n 0 q s.taken st yp).OA with ptr:=P,line:=L,col:=C} (Ld nmv val (Ac bf p n 0) (Ac bf (p+ep) n ec)))):=CY.of0 fun lo g=>
  oP hP hH.head rfl (fun d=> oJ hF (hJ.CI.C1.AB.low (by decide)) rfl (fun d=> hd (BX bf p n 0 q s.taken st yp).OA lo g rfl rfl rfl rfl d) (by show(uV (Tk.v bf) (q++Mk.be ⟨p,n,0⟩ (AB ((0:Nat):Int) st).1)++tv (AB (-1) (AB ((0:Nat):Int) st).2).1 _).length<=2000;rw [t9,ub,uL,t9,Mk.be,ub];exact AU (uA zW (uA (t7 ACf) (uA (t7 ACe) zA)))) (d+2))
 let T:=(((q++Mk.be ⟨p,n,0⟩ (AB ((0:Nat):Int) st).1)++Mk.be ⟨p,n,0⟩ (AB (-1) (AB ((0:Nat):Int) st).2).1)++[Tk.dir nmv val ⟨p,n,0⟩ ⟨p+ep,n,ec⟩]);refine⟨⟨bf,P,L,C,[],s.taken+T.length,(AB (-1) (AB ((0:Nat):Int) st).2).2,false,none⟩,T,?_,?_,fun ts e hr=>.EJ hN zK (by exact Ay) (drain T _ (j+1) (by show _++[_]≠[];simp) ?_ (.inl rfl) (by exact BF) hr)⟩
 . exact⟨rfl,hXP,rfl,rfl,rfl,hu.2,hJ.CI.AB,rfl,hJ.l0,rfl,⟨rfl,rfl⟩,hJ.chr,by show 0+(AB (-1) (AB ((0:Nat):Int) st).2).2.length+2 * m<=800;rw [hu.2];exact AU (uA (t7 zD) zA)⟩
 . show uV Tk.row (((q++Mk.be ⟨p,n,0⟩ (AB ((0:Nat):Int) st).1)++Mk.be ⟨p,n,0⟩ (AB (-1) (AB ((0:Nat):Int) st).2).1)++[Tk.dir nmv val ⟨p,n,0⟩ ⟨p+ep,n,ec⟩])=_;rw [uB,uB,uB,Ef,Ef,t8 (uV Tk.row q),OS,hu.1];rfl
 . show(uV (Tk.v bf) (q++Mk.be ⟨p,n,0⟩ (AB ((0:Nat):Int) st).1)++tv (AB (-1) (AB ((0:Nat):Int) st).2).1 (BE (Ac bf p n 0)))++[_]=uV (Tk.v bf) (((q++Mk.be ⟨p,n,0⟩ (AB ((0:Nat):Int) st).1)++Mk.be ⟨p,n,0⟩ (AB (-1) (AB ((0:Nat):Int) st).2).1)++[Tk.dir nmv val ⟨p,n,0⟩ ⟨p+ep,n,ec⟩])++[];rw [uD,uB (l₁:=(q++Mk.be ⟨p,n,0⟩ (AB ((0:Nat):Int) st).1)++Mk.be ⟨p,n,0⟩ (AB (-1) (AB ((0:Nat):Int) st).2).1),uB (l₁:=q++Mk.be ⟨p,n,0⟩ (AB ((0:Nat):Int) st).1),Mk.be,Mk.be,vo];rfl
theorem ZH{l:List Nat}(h:isLE l=true):∃c u,l=c::u/\HK c=true:=by obtain⟨c,u,e,_,_,_,h⟩:=Xw h;exact⟨c,u,e,h⟩
theorem rk{l Y:List Nat}(hJ:J (m+1) bf n 0 (37::100::32::119::(l++Y)) st yp yn yq k s q)(hw:yn=true->yq≠[])(hl:isLE l=true)(hj:j<=8):
 F5 m bf (n+1) 0 Y (AB (-1) st).2 false false j s (q.map Tk.row++tv (AB (-1) st).1 (Ah n 0)++[AG FP .none n 0 n 2]):=by
 have hH:=hJ.here;obtain⟨c,u,rfl,hc⟩:=ZH hl;refine OT (nmv:=[100]) (val:=.none) (P:=J.p s yq k+4+(c::u).length) (L:=n+1) (C:=0) (ep:=2) (ec:=2) hJ hw hj (fun v lo g h1 h2 h3 h4=> ?_) ?_
 . obtain⟨b1,b2,b3,b4,b5,b6,b7,b8,b9⟩:=v;obtain rfl:b1=bf:=h1;obtain rfl:b2=J.p s yq k:=h2;obtain rfl:b3=n:=h3;obtain rfl:b4=0:=h4;exact YO (c:=c) (Ab.left (u:=[37,100,32,119,c]) (w:=u++Y) hH) hc (Nu hl (hH.tail.tail.tail.tail.left))
 . exact hH.tail.tail.tail.tail.drop
theorem rm(hJ:J (m+1) bf n 0 (37::100::32::119::[0]) st yp yn yq k s q)(hw:yn=true->yq≠[])(hj:j<=8):
 F5 m bf n 4 [0] (AB (-1) st).2 false false j s (q.map Tk.row++tv (AB (-1) st).1 (Ah n 0)++[AG FP .none n 0 n 2]):=by
 have hH:=hJ.here;refine OT (nmv:=[100]) (val:=.none) (P:=J.p s yq k+4) (L:=n) (C:=4) (ep:=2) (ec:=2) hJ hw hj (fun v lo g h1 h2 h3 h4=> ?_) ?_
 . obtain⟨b1,b2,b3,b4,b5,b6,b7,b8,b9⟩:=v;obtain rfl:b1=bf:=h1;obtain rfl:b2=J.p s yq k:=h2;obtain rfl:b3=n:=h3;obtain rfl:b4=0:=h4;exact YO (c:=0) hH rfl (Nt hH.tail.tail.tail.tail.head rfl)
 . exact hH.tail.tail.tail.tail
theorem rn{l Y:List Nat}(hJ:J (m+1) bf n 0 (Ga++(l++Y)) st yp yn yq k s q)(hw:yn=true->yq≠[])(hl:isLE l=true)(hj:j<=8):
 F5 m bf (n+1) 0 Y (AB (-1) st).2 false false j s (q.map Tk.row++tv (AB (-1) st).1 (Ah n 0)++[AG FP (.tup [.int 1,.int 1]) n 0 n 9]):=by
 have hH:=hJ.here;obtain⟨c,u,rfl,hc⟩:=ZH hl;refine OT (c:=89) (nmv:=[89,65,77,76]) (val:=.tup [.int 1,.int 1]) (P:=J.p s yq k+9+(c::u).length) (L:=n+1) (C:=0) (ep:=9) (ec:=9) hJ hw hj (fun v lo g h1 h2 h3 h4=> ?_) ?_
 . obtain⟨b1,b2,b3,b4,b5,b6,b7,b8,b9⟩:=v;obtain rfl:b1=bf:=h1;obtain rfl:b2=J.p s yq k:=h2;obtain rfl:b3=n:=h3;obtain rfl:b4=0:=h4;exact YP (c:=c) (hH.snoc (u:=Ga) (t:=u++Y) rfl) hc (Nu hl ((hH.drop (u:=Ga)).left))
 . exact(hH.drop (u:=Ga)).drop
theorem ro(hJ:J (m+1) bf n 0 (Ga++[0]) st yp yn yq k s q)(hw:yn=true->yq≠[])(hj:j<=8):
 F5 m bf n 9 [0] (AB (-1) st).2 false false j s (q.map Tk.row++tv (AB (-1) st).1 (Ah n 0)++[AG FP (.tup [.int 1,.int 1]) n 0 n 9]):=by
 have hH:=hJ.here;refine OT (c:=89) (nmv:=[89,65,77,76]) (val:=.tup [.int 1,.int 1]) (P:=J.p s yq k+9) (L:=n) (C:=9) (ep:=9) (ec:=9) hJ hw hj (fun v lo g h1 h2 h3 h4=> ?_) ?_
 . obtain⟨b1,b2,b3,b4,b5,b6,b7,b8,b9⟩:=v;obtain rfl:b1=bf:=h1;obtain rfl:b2=J.p s yq k:=h2;obtain rfl:b3=n:=h3;obtain rfl:b4=0:=h4;exact YP (c:=0) hH rfl (Nt (hH.drop (u:=Ga)).head rfl)
 . exact hH.drop (u:=Ga)
end
section
variable{m n ym k j:Nat}{bf X:List Nat}{st:List Int}{yp yn:Bool}{yq:List Gp}{s:Sc}{q:List Tk}
theorem SN{k:Nat}{w:List Nat}(hw:Ew w=true)(hk:k+w.length<=2000):Gl.ok ⟨k,w⟩ 0=true:=by unfold Gl.ok;rw [hw,show uJ (k+w.length) 2000=true from wg hk];cases w<;>rfl
def gone(yq:List Gp)(k:Nat)(w:List Nat)(s:Sc):Sc:=Gl.go ⟨k,w⟩ (A3 yq s)
theorem SP(yq:List Gp)(k:Nat)(w:List Nat)(s:Sc):(gone yq k w s).buf=s.buf/\(gone yq k w s).ptr=s.ptr+(BS yq).length+(k+w.length)/\(gone yq k w s).line=s.line+yq.length/\(gone yq k w s).col=(if yq=[]then s.col else 0)+(k+w.length)/\
 (gone yq k w s).toks=s.toks/\(gone yq k w s).taken=s.taken/\(gone yq k w s).st=s.st/\(gone yq k w s).key=s.key:=by
 obtain⟨g1,g2,g3,g4,g5,g6,g7,g8,g9⟩:=SJ yq s;exact⟨g1,by show(A3 yq s).ptr+_=_;rw [g2],g3,by show(A3 yq s).col+_=_;rw [g4],g6,g7,g8,g9⟩
theorem SQ{w:List Nat}{c:Nat}(hb:s.buf=bf)(hg:yq.all Gp.ok=true)(hp:Gl.ok ⟨k,w⟩ c=true)(hl:yq.length<=2000)(hh:Ab bf s.ptr (BS yq++((tv k 32++w)++[c])))(hc:bf.all (fun c=> c !=65279)=true):
 ∀lo g d,AD PP fu (d+5) Mq [me] [] (s.hp lo g)= .ok .none ((gone yq k w s).hp lo g):=fun lo g=>
 RX (s:=s) (lo:=lo) (g:=g) hg hp hl (by rw [hb];exact hh) (fun c e=> by rw [hb]at e;have:=uM.mp hc c (vV e);simpa using this)
def SR(a:Mk):Tk:=.two .se a a
theorem rp{w:List Nat}(hJ:J m bf n ym (w++[0]) st yp yn yq k s q)(hrm:Ew w=true)(hkl:k+w.length<=1000)(hj:j<=8):
 ∃T,T.map Tk.row=q.map Tk.row++tv (st.length - 1) (AG Kd.be.id .none n (ym+w.length) n (ym+w.length))++[AG Kd.se.id .none n (ym+w.length) n (ym+w.length)]/\Rx bf (run s) j T none:=by
 obtain⟨g1,g2,g3,g4,g5,g6,g7,g8⟩:=SP yq k w s;have hlen:=hJ.len;have AAB:=SQ (s:=s) (yq:=yq) (k:=k) (w:=w) hJ.buf hJ.Gg (SN hrm (by exact Ay)) (by exact AU hlen) (by have:=hJ.has;rw [<-t8 (tv k 32)]at this;exact this) hJ.chr;have hz:bf[(gone yq k w s).ptr]? =some 0:=by have:=hJ.here.drop (u:=w);rw [g2,<-ui];exact this.head
 have AAx:(gone yq k w s).line=n:=by rw [g3];exact hJ.line
 have AAY:(gone yq k w s).col=ym+w.length:=by rw [g4,<-ui];rw [hJ.col]
 have hst:(gone yq k w s).st=st:=g7.trans hJ.Dc;have zA:=hJ.tk;rw [hJ.Dc]at zA;have zW:=hJ.q1;have hN:=hJ.need;have hbf:=g1.trans hJ.buf;have ACg:=g5.trans hJ.toks;obtain⟨s2,h2,e2,k2⟩:∃s2:Sc,(∀lo g d,AD PP fu (d+2) G2 [me] [] ((gone yq k w s).hp lo g)= .ok .none (s2.hp lo g))/\(∃ky,s2={gone yq k w s with key:=ky})/\(s2.key=none∨∃kk,s2.key=some kk/\kk.req=false):=by
  have hk:=hJ.key;cases hwt:yn with
  |false=> rw [hwt,if_neg nofun]at hk;exact⟨gone yq k w s,fun lo g=> Ra (g8.trans hk.1),⟨(gone yq k w s).key,rfl⟩,.inl (g8.trans hk.1)⟩
  |true=>
   rw [hwt,if_pos rfl]at hk;obtain⟨kk,t,k1,k2,k3,k4,k5,k6⟩:=hk;by_cases hg:yq=[]
   . refine⟨gone yq k w s,fun lo g=> LZ (g8.trans k1) ?_ ?_,⟨(gone yq k w s).key,rfl⟩,.inr ⟨kk,g8.trans k1,k2⟩⟩
     . rw [g3,hg,k4];rfl
     . rw [g2,hg];show s.ptr+0+(k+w.length)<=kk.ptr+1024;exact AU (uA k5 hkl)
   . refine⟨{gone yq k w s with key:=none},fun lo g=> X2 (g8.trans k1) ?_ k2,⟨none,rfl⟩,.inl rfl⟩;have:=wJ.mpr hg;rw [g3,k4];exact Sb this
 obtain⟨ky,rfl⟩:=e2;generalize hG:gone yq k w s=G at *;obtain⟨b1,b2,b3,b4,b5,b6,b7,b8,b9⟩:=G;obtain rfl:b1=bf:=hbf;obtain rfl:b3=n:=AAx;obtain rfl:b4=ym+w.length:=AAY;obtain rfl:b5=q.map (Tk.v b1):=ACg;obtain rfl:b7=st:=hst;have hlq:(q.map (Tk.v b1)).length=q.length:=uL ..;have e0:s.toks.length=q.length:=by rw [hJ.toks,hlq]
 have hu:=Lp (B:=((ym+w.length:Nat):Int)) (C:= -1) (by exact Gk) b7;have zD:=DT ((ym+w.length:Nat):Int) b7;have hsum2:=DT (-1) (AB ((ym+w.length:Nat):Int) b7).2;have AB9:=hJ.CI.C1;let s2:Sc:=⟨b1,b2,b3,ym+w.length,q.map (Tk.v b1),b6,b7,b8,ky⟩;have hP:Pre s (s2.AB ((ym+w.length:Nat):Int)):=⟨_,s2,AAB,h2,fun lo g=> HM (AB9.low (B:=((ym+w.length:Nat):Int)) (by exact Gk)) (by show(q.map (Tk.v b1)).length+b7.length<=2000;exact AU (uA (t7 hlq) (uA zA zW)))⟩;have hun:∀lo g d,AD PP fu (d+3) Ku [me,.int (-1)] [] ((s2.AB ((ym+w.length:Nat):Int)).hp lo g)= .ok .none (((s2.AB ((ym+w.length:Nat):Int)).AB (-1)).hp lo g):=fun lo g=>
  HM (AB9.AB.low (by decide)) (by show(q.map (Tk.v b1)++tv (AB ((ym+w.length:Nat):Int) b7).1 _).length+(AB ((ym+w.length:Nat):Int) b7).2.length<=2000;rw [t9,ub];exact AU (uA (t7 zD) (uA (t7 hlq) (uA zA zW))))
 have ACh:∀lo g d,AD PP fu (d+2) JY [me] [] (((s2.AB ((ym+w.length:Nat):Int)).AB (-1)).hp lo g)= .ok .none ({(s2.AB ((ym+w.length:Nat):Int)).AB (-1)with key:=none}.hp lo g):=fun lo g=> by
  rcases k2 with k2 |⟨kk,k2,k3⟩
  . obtain rfl:ky=none:=k2;exact nM rfl
  . exact nN (s:=(s2.AB ((ym+w.length:Nat):Int)).AB (-1)) k2 k3
 let T:=((q++Mk.be ⟨b2,b3,ym+w.length⟩ (AB ((ym+w.length:Nat):Int) b7).1)++Mk.be ⟨b2,b3,ym+w.length⟩ (AB (-1) (AB ((ym+w.length:Nat):Int) b7).2).1)++[SR ⟨b2,b3,ym+w.length⟩];let s9:Sc:=Sc.add (Sc.off {(s2.AB ((ym+w.length:Nat):Int)).AB (-1)with key:=none}) (OB (Ac b1 b2 b3 (ym+w.length)));have zK:CY (run s) (fin s9):=fun lo g x e=> by obtain rfl:=Ba.of e;refine⟨[.A4 []],_,⟨BC g.length,rfl,nofun⟩,?_⟩;exact oN hP hz (fun d=> om (hun lo g) (ACh lo g) (by show((q.map (Tk.v b1)++tv (AB ((ym+w.length:Nat):Int) b7).1 _)++tv (AB (-1) (AB ((ym+w.length:Nat):Int) b7).2).1 _).length<=2000;rw [t9,t9,ub,ub];lia) (d+5))
 have ht9:s9.toks=T.map (Tk.v b1):=by show((q.map (Tk.v b1)++tv (AB ((ym+w.length:Nat):Int) b7).1 (BE (Ac b1 b2 b3 (ym+w.length))))++tv (AB (-1) (AB ((ym+w.length:Nat):Int) b7).2).1 (BE (Ac b1 b2 b3 (ym+w.length))))++[_]=uV (Tk.v b1) (((q++Mk.be ⟨b2,b3,ym+w.length⟩ (AB ((ym+w.length:Nat):Int) b7).1)++Mk.be ⟨b2,b3,ym+w.length⟩ (AB (-1) (AB ((ym+w.length:Nat):Int) b7).2).1)++[SR ⟨b2,b3,ym+w.length⟩]);rw [uB,uB,uB,Mk.be,Mk.be,vo,vo];rfl
 refine⟨T,?_,.EJ hN zK (by exact Ay) (Y8 T s9 (j+1) (fun h=> absurd h (by show _++[_]≠[];simp)) ht9 (by exact BF))⟩;have hn1:(AB (-1) b7).1=b7.length - 1:=by obtain⟨l,rfl⟩:=hJ.CI;rw [Y9,t9,uL];rfl
 show uV Tk.row (((q++Mk.be ⟨b2,b3,ym+w.length⟩ (AB ((ym+w.length:Nat):Int) b7).1)++Mk.be ⟨b2,b3,ym+w.length⟩ (AB (-1) (AB ((ym+w.length:Nat):Int) b7).2).1)++[SR ⟨b2,b3,ym+w.length⟩])=_;rw [uB,uB,uB,Ef,Ef,t8 (uV Tk.row q),OS,hu.1,hn1];rfl
structure Jr(bf:List Nat)(n ym:Nat)(X:List Nat)(yq:List Gp)(k:Nat)(s:Sc)(kk:Ky):Prop where
 buf:s.buf=bf
 has:Ab bf s.ptr (BS yq++(tv k 32++X))
 line:s.line+yq.length=n
 col:(if yq=[]then s.col else 0)+k=ym
 Gg:yq.all Gp.ok=true
 len:yq.length+k<=1000
 key:s.key=some kk/\kk.req=true/\kk.tn=s.taken/\kk.line=s.line/\s.ptr<=kk.ptr+24
 toks:∃t,s.toks=[t]
 chr:bf.all (fun c=> c !=65279)=true
 C1:By s.st/\s.st.length<=800/\s.st.headD 0<=(s.col:Int)
theorem Jr.need{kk:Ky}(h:Jr bf n ym X yq k s kk):Ex (run s) (run s):=by obtain⟨t,ht⟩:=h.toks;obtain⟨k1,k2,k3,k4,k5⟩:=h.key;exact .key ht k1 k4 (by exact AU k5) k3
theorem Jr.here{kk:Ky}(h:Jr bf n ym X yq k s kk):Ab bf (s.ptr+(BS yq).length+k) X:=by have:=h.has;rw [<-t8]at this;have:=this.drop;rw [t9,ub,<-ui]at this;exact this
theorem ZI{c:Nat}{w:List Nat}{kk:Ky}(hJ:Jr bf n ym (w++c::X) yq k s kk)(hp:Gl.ok ⟨k,w⟩ c=true)(hg:yq≠[])(hj:j<=20):∃P,JA bf s j [] ⟨P,n,ym+w.length⟩ (some ⟨kk.ptr,kk.line,kk.col⟩):=by
 obtain⟨g1,g2,g3,g4,g5,g6,g7,g8⟩:=SP yq k w s;have hlen:=hJ.len;obtain⟨k1,k2,k3,k4,k5⟩:=hJ.key;have AAB:=SQ (s:=s) (yq:=yq) (k:=k) (w:=w) (c:=c) hJ.buf hJ.Gg hp (by exact JE) (by have:=hJ.has;rw [<-t8 (tv k 32),<-t8]at this;rw [<-t8];exact this.snoc rfl) hJ.chr
 have AAx:(gone yq k w s).line=n:=by rw [g3];exact hJ.line
 have AAY:(gone yq k w s).col=ym+w.length:=by rw [g4,<-ui];rw [hJ.col]
 have ABe:=wJ.mpr hg;refine⟨(gone yq k w s).ptr,_,?_,.fail hJ.need (Fw.of fun lo g=> og (AAB lo g) (nL (g8.trans k1) (by rw [g3,k4];exact Sb ABe) k2)) (by exact Ay)⟩;refine⟨Nv,Nw,?_⟩;unfold Sc.RZ Sc.mark;rw [g1,hJ.buf,AAx,AAY];rfl
theorem rq{w:List Nat}{kk:Ky}(hJ:Jr bf n ym (w++[0]) [] k s kk)(hrm:Ew w=true)(hkl:k+w.length<=1000)(hj:j<=20):∃P,JA bf s j [] ⟨P,n,ym+w.length⟩ (some ⟨kk.ptr,kk.line,kk.col⟩):=by
 refine cps fun yv yt=> ?_;obtain⟨g1,g2,g3,g4,g5,g6,g7,g8⟩:=SP [] k w s;obtain⟨k1,k2,k3,k4,k5⟩:=hJ.key;obtain⟨hs1,hs2,hs3⟩:=hJ.C1;obtain⟨t,ht⟩:=hJ.toks;refine yt ?_;have AAB:=SQ (s:=s) (yq:=[]) (k:=k) (w:=w) hJ.buf hJ.Gg (SN hrm (by exact Ay)) (uO _) (by have:=hJ.has;rw [<-t8 (tv k 32)]at this;exact this) hJ.chr;have hz:bf[(gone [] k w s).ptr]? =some 0:=by have:=hJ.here.drop (u:=w);rw [g2,<-ui];exact this.head
 have AAx:(gone [] k w s).line=n:=by rw [g3];exact hJ.line
 have AAY:(gone [] k w s).col=ym+w.length:=by rw [g4,<-ui];rw [hJ.col]
 have hsc:s.col+k=ym:=by have:=hJ.col;rw [if_pos rfl]at this;exact this
 generalize hG:gone [] k w s=G at *;have y0:G.st≠[]:=by obtain⟨a,r,e⟩:=hs1.ne;rw [g7,e];exact nofun
 have hun0:G.AB G.col=G:=by unfold Sc.AB;rw [SK y0 (by rw [g7,AAY];lia)];show{G with st:=G.st,toks:=G.toks++[]}=G;rw [uD]
 have hP:Pre s G:=⟨G,G,AAB,fun lo g=> LZ (g8.trans k1) (by rw [g3,k4];rfl) (by rw [g2];show s.ptr+0+(k+w.length)<=kk.ptr+1024;exact AU (uA k5 hkl)),fun lo g=> by have:=HM (s:=G) (lo:=lo) (g:=g) (col:=(G.col:Int)) (by rw [g7];exact hs1.low (by exact Gk)) (by rw [g5,ht,g7];show 1+s.st.length<=2000;exact AU hs2);rw [hun0]at this;exact this⟩
 have zS:G.buf[G.ptr]? =some 0:=by rw [g1,hJ.buf];exact hz
 refine⟨G.ptr,_,?_,.fail hJ.need (Fw.of (b:=G.AB (-1)) fun lo g=> oO hP zS (fun d=> oo (HM (by rw [g7];exact hs1.low (by decide)) (by rw [g5,ht,g7];show 1+s.st.length<=2000;exact AU hs2)) (nO (s:=G.AB (-1)) (g8.trans k1) k2) (d+5))) (by exact Ay)⟩;refine⟨Nv,Nw,?_⟩;show Iy Nv (Ac G.buf kk.ptr kk.line kk.col) Nw (Ac G.buf G.ptr G.line G.col)=_;rw [g1,hJ.buf,AAx,AAY];rfl
end
def Bj(le:List Nat):List (List Wd)->List Nat
 | []=>[0]
 |ws::r=> le++(AM ws++Bj le r)
def C7(r:List Wd)(Y:List Nat):List Nat:=match r with
 | []=> Y
 |_::_=> 32::(AM r++Y)
theorem F6(w:Wd)(r:List Wd)(Y:List Nat):AM (w::r)++Y=w.txt++C7 r Y:=by
 cases r with
 |nil=> rfl
 |cons w' r=> show(w.txt++[32]++AM (w'::r))++Y=w.txt++(32::(AM (w'::r)++Y));rw [t8,t8];rfl
theorem ru(w w':Wd)(r:List Wd):(AM (w::w'::r)).length=w.txt.length+1+(AM (w'::r)).length:=by show(w.txt++[32]++AM (w'::r)).length=_;rw [t9,t9];rfl
theorem ZJ{le:List Nat}(hle:isLE le=true)(R:List (List Wd)):Bh (Bj le R):=by
 cases R with
 |nil=> exact⟨0,[],rfl,rfl⟩
 |cons ws r=> rcases RV hle with rfl |rfl |rfl |rfl<;>exact⟨_,_,rfl,rfl⟩
theorem ID{le:List Nat}(hle:isLE le=true)(R:List (List Wd))(r:List Wd):Bh (C7 r (Bj le R)):=by
 cases r with
 |nil=> exact ZJ hle R
 |cons w r=> exact⟨32,_,rfl,rfl⟩
def ZK(u:List Nat):Wd->Bool
 | .Cz v=> v==u
 |_=> false
theorem rx{u:List Nat}{w:Wd}(h:ZK u w=true):w= .Cz u:=by
 cases w with
 |Cz v=> rw [eq_of_beq h]
 |_=> exact cFT h
def Ls(u:List Nat):List Wd->Bool
 | [w]=> ZK u w
 |_=> false
theorem ZL{u:List Nat}:∀{r:List Wd},Ls u r=true->r=[.Cz u]
 | [_]=>@fun h=> by rw [rx h]
 | []=>@fun h=> cFT h
 |_::_::_=>@fun h=> cFT h
def tw:Nat->List Wd->Bool
 |_,[]=> true
 |ym,.blank::r=> tw (ym+1) r
 |_,.rem::r=> r.isEmpty
 |ym,.start::r=> ym==0&&tw 4 r
 |ym,.stop::r=> ym==0&&tw 4 r
 |ym,.dy::r=> ym==0&&Ls [49,46,49] r
 |ym,.dd::r=> ym !=0||Ls [119] r
 |ym,.ln _::r=> tw (ym+2) r
 |ym,.kw k::r=> tw (ym+k.len+2) r
 |_,.BU::r=> r.isEmpty
 |_,.Cz _::_=> false
def HR:Nat->List Wd->Option Nat
 |_,[]=> none
 |ym,.blank::r=> HR (ym+1) r
 |_,.rem::_=> none
 |ym,.start::_=> some ym
 |ym,.stop::_=> some ym
 |ym,.dd::_=> some ym
 |ym,.dy::_=> some ym
 |ym,.ln _::_=> some ym
 |ym,.kw _::_=> some ym
 |ym,.BU::_=> some ym
 |ym,.Cz _::_=> some ym
def KJ:Nat->List (List Wd)->Nat×Nat->Nat×Nat
 |_,[],e=> e
 |n,ws::r,e=> match HR 0 ws with
  |some c=> (n,c)
  |none=> KJ (n+1) r e
def Lu(ws:List Wd):Bool:=match Cd [32] (AM ws)with
 | []=> (HR 0 ws).isNone
 |c::r=> match c !=35 with
  |true=> HR 0 ws==some ((AM ws).length - (r.length+1))
  |false=> (HR 0 ws).isNone
def Dn:List (List Wd):=E1++[[.blank]]
theorem OU:Dn.all (fun ws=> tw 0 ws&&(Lu ws&&((AM ws).all Ez&& !ws.isEmpty)))=true:=by decide+kernel
theorem OV{ws:List Wd}(h:ws∈Dn):tw 0 ws=true:=(t6.mp (uM.mp OU ws h)).1
theorem ry{ws:List Wd}(h:ws∈Dn):Lu ws=true:=(t6.mp (t6.mp (uM.mp OU ws h)).2).1
theorem ZM{ws:List Wd}(h:ws∈Dn):(AM ws).all Ez=true:=(t6.mp (t6.mp (t6.mp (uM.mp OU ws h)).2).2).1
theorem OW{ws:List Wd}(h:ws∈Dn):ws≠[]:=by have:=(t6.mp (t6.mp (t6.mp (uM.mp OU ws h)).2).2).2;simpa using this
theorem ZN(R:List (List Wd))(x:Nat):∀(l:List Nat) (p:Nat×Nat),HG R (l++[x]) p=I9 (AM (R.getD x [])) x (HG R l p)
 | []=>@fun p=> rfl
 |n::l=>@fun p=> ZN R x l _
theorem rz{m a:Nat}(h:a<m):E3 m a=E3 m (a+1)++[a+1]:=by unfold E3;rw [show m - a=(m - (a+1))+1 from(yi (Nat.sub_pos_of_lt h)).symm,List.range_succ,uB];show _++[m - (m - (a+1))]=_;rw [Nat.sub_sub_self h]
theorem r0{ws:List Wd}(h:Lu ws=true)(n:Nat)(p:Nat×Nat):I9 (AM ws) n p=match HR 0 ws with |some c=> (n,c) |none=> p:=by
 unfold Lu at h;unfold I9;cases hd:Cd [32] (AM ws)with
 |nil=> rw [hd]at h;dsimp only at h⊢;rw [ye]at h;rw [h]
 |cons c r=>
  rw [hd]at h;dsimp only at h⊢;cases q:(c !=35)with
  |true=> rw [q]at h;dsimp only at h;rw [if_pos rfl,eq_of_beq h]
  |false=> rw [q]at h;dsimp only at h;rw [ye]at h;rw [if_neg nofun,h]
theorem ZO{R:List (List Wd)}(hT:∀ws∈R,Lu ws=true):∀(i a:Nat),a+1+i=R.length->E4 R a=KJ (a+1) (R.drop (a+1)) (DG R)
 |0=>@fun a h=> by unfold E4;have h:R.length=a+1:=h.symm;rw [show E3 (R.length - 1) a=[] by unfold E3;rw [h,Nat.add_sub_cancel,Nat.sub_self];rfl,wD (t7 h)];rfl
 |i+1=>@fun a h=> by
  have ih:=ZO hT i (a+1) (by rw [<-h,ui (a+1) 1 i,xm 1 i]);have hl:a+1<R.length:=h▸yj (Nat.succ_pos i);unfold E4 at ih⊢;rw [rz (Nat.lt_sub_of_add_lt hl),ZN,ih];have hm:R.getD (a+1) []=R[a+1]:=by rw [vT,u0 hl];rfl
  rw [hm,r0 (hT _ (wy hl)),v9 hl];rfl
def cont(n rl:Nat)(ws:List Wd)(Rs:List (List Wd))(AA:List AV)(st:List Int)(yp yn:Bool)(ym:Nat):WR:=match CZ n rl ws AA st yp yn ym with
 | .brk d s wt fr=> B3 (n+1) Rs d s fr wt
 | .next d s f wt a=>.next d s f wt a
 | .ret d r=>.ret d r
def KL(bf:List Nat)(R:List (List Wd))(D0:List AV)(wr:WR)(ts:List Tk)(e:Option AV):Prop:=match wr with
 | .brk d s _ _=> e=none/\D0++ts.map Tk.row=I8 d (s.length - 1) (DG R).1 (DG R).2
 | .ret d r=> D0++ts.map Tk.row=d/\∃x mk c,e=some x/\SH bf x mk c/\OQ R (some r)=DZ mk c
 | .next _ _ _ _ _=> False
theorem KL.more{bf:List Nat}{R:List (List Wd)}{D0:List AV}{wr:WR}{ts T:List Tk}{e:Option AV}(h:KL bf R (D0++T.map Tk.row) wr ts e):KL bf R D0 wr (T++ts) e:=by
 cases wr with
 |next _ _ _ _ _=> exact h
 |brk d s wt fr=> exact⟨h.1,by rw [uB,<-t8];exact h.2⟩
 |ret d r=> exact⟨by rw [uB,<-t8];exact h.1,h.2⟩
def lv(yn:Bool):Nat:=match yn with
 |true=> 6
 |false=> 5
theorem Dp(w:Bool):lv w<=8:=by cases w<;>decide
theorem ZP:∀(l:List Gp) (p:Gp),BS (l++[p])=BS l++p.txt
 | []=>@fun p=> by show p.txt++[]=_;rw [uD]at⊢;rfl
 |q::l=>@fun p=> by show q.txt++BS (l++[p])=q.txt++BS l++p.txt;rw [ZP l p,t8]at⊢
theorem ZQ{bf X le:List Nat}{p:Nat}{yq:List Gp}{k:Nat}{w:List Nat}(h:Ab bf p (BS yq++(tv k 32++(w++(le++X))))):Ab bf p (BS (yq++[⟨k,w,le⟩])++(tv 0 32++X)):=by rw [ZP];show Ab bf p ((BS yq++(tv k 32++(w++le)))++([]++X));rw [wN,t8,t8,t8];exact h
theorem J.row{m n ym k:Nat}{bf X le:List Nat}{st:List Int}{yp yn:Bool}{yq:List Gp}{s:Sc}{q:List Tk}{w:List Nat}(hJ:J m bf n ym (w++(le++X)) st yp yn yq k s q)(hrm:Ew w=true)(hle:isLE le=true)(hk:k+w.length<=1000)(hm:yq.length+k+2 * m+1<=900):
 J m bf (n+1) 0 X st true yn (yq++[⟨k,w,le⟩]) 0 s q:=by
 have y0:yq++[(⟨k,w,le⟩:Gp)]≠[]:=by simp
 refine⟨hJ.buf,ZQ hJ.has,?_,by rw [if_neg y0],by rw [if_neg y0],hJ.Dc,hJ.CI,?_,?_,hJ.toks,hJ.key,hJ.chr,hJ.tk⟩
 . rw [t9,uw];have:=hJ.line;exact uc (AU (t7 this)) (AU (t7 this.symm))
 . rw [w5,hJ.Gg];show(true&&(Gp.ok ⟨k,w,le⟩&&true))=true;unfold Gp.ok;rw [hrm,hle,show uJ (k+w.length) 2000=true from wg (by exact Ay)];rfl
 . rw [t9,uw];exact AU hm
theorem Jr.row{n ym k:Nat}{bf X le:List Nat}{yq:List Gp}{s:Sc}{kk:Ky}{w:List Nat}(hJ:Jr bf n ym (w++(le++X)) yq k s kk)(hrm:Ew w=true)(hle:isLE le=true)(hk:k+w.length<=1000)(hm:yq.length+1<=1000):
 Jr bf (n+1) 0 X (yq++[⟨k,w,le⟩]) 0 s kk:=by
 have y0:yq++[(⟨k,w,le⟩:Gp)]≠[]:=by simp
 refine⟨hJ.buf,ZQ hJ.has,?_,by rw [if_neg y0],?_,?_,hJ.key,hJ.toks,hJ.chr,hJ.C1⟩
 . rw [t9,uw];have:=hJ.line;exact uc (AU (t7 this)) (AU (t7 this.symm))
 . rw [w5,hJ.Gg];show(true&&(Gp.ok ⟨k,w,le⟩&&true))=true;unfold Gp.ok;rw [hrm,hle,show uJ (k+w.length) 2000=true from wg (by exact Ay)];rfl
 . rw [t9,uw];assumption
theorem ZR{bf X:List Nat}{p k:Nat}{yq:List Gp}(h:Ab bf p (BS yq++(tv k 32++32::X))):Ab bf p (BS yq++(tv (k+1) 32++X)):=by rw [List.replicate_succ',t8];exact h
theorem J.blank{m n ym k:Nat}{bf X:List Nat}{st:List Int}{yp yn:Bool}{yq:List Gp}{s:Sc}{q:List Tk}(hJ:J m bf n ym (32::X) st yp yn yq k s q)(hm:yq.length+k+2 * m+1<=900):J m bf n (ym+1) X st yp yn yq (k+1) s q:=
 ⟨hJ.buf,ZR hJ.has,hJ.line,by have:=hJ.col;exact uc (AU (t7 this)) (AU (t7 this.symm)),hJ.allow,hJ.Dc,hJ.CI,hJ.Gg,by exact AU hm,hJ.toks,hJ.key,hJ.chr,hJ.tk⟩
theorem Jr.blank{n ym k:Nat}{bf X:List Nat}{yq:List Gp}{s:Sc}{kk:Ky}(hJ:Jr bf n ym (32::X) yq k s kk)(hm:yq.length+k+1<=1000):Jr bf n (ym+1) X yq (k+1) s kk:=
 ⟨hJ.buf,ZR hJ.has,hJ.line,by have:=hJ.col;exact uc (AU (t7 this)) (AU (t7 this.symm)),hJ.Gg,by assumption,hJ.key,hJ.toks,hJ.chr,hJ.C1⟩
section
def Cu:Nat×Nat->Nat->List (List Wd)->Nat×Nat
 |p,_,[]=> p
 |_,n,ws::r=> Cu (n,(AM ws).length) (n+1) r
theorem r7{k c:Nat}(hc:[13,10,133,8232,8233].contains c=false)(zx:(c==32)=false)(h35:(c==35)=false)(hk:k<=2000):Gl.ok ⟨k,[]⟩ c=true:=by unfold Gl.ok;simp only [hc,wU,xe];rw [show Ew []=true from rfl,show uJ (k+([]:List Nat).length) 2000=true from wg hk];simp only [Bool.true_and,bne,zx,h35,wU]
def Wd.real:Wd->Bool
 | .blank=> false
 | .rem=> false
 | .Cz _=> false
 |_=> true
theorem Wd.hd{w:Wd}(h:w.real=true):∃c u,w.txt=c::u/\[13,10,133,8232,8233].contains c=false/\(c==32)=false/\(c==35)=false:=by
 cases w with
 |blank=> cases h
 |rem=> cases h
 |Cz _=> cases h
 |start=> exact⟨_,_,rfl,rfl,rfl,rfl⟩
 |stop=> exact⟨_,_,rfl,rfl,rfl,rfl⟩
 |dd=> exact⟨_,_,rfl,rfl,rfl,rfl⟩
 |dy=> exact⟨_,_,rfl,rfl,rfl,rfl⟩
 |ln l=> cases l<;>exact⟨_,_,rfl,rfl,rfl,rfl⟩
 |kw l=> cases l<;>exact⟨_,_,rfl,rfl,rfl,rfl⟩
 |BU=> exact⟨_,_,rfl,rfl,rfl,rfl⟩
theorem r8{w:Wd}(h:w.real=true)(ym:Nat)(r:List Wd):HR ym (w::r)=some ym:=by cases w<;>first |rfl |cases h
theorem ZS:Ew Wd.rem.txt=true:=by decide
variable{bf le:List Nat}{s:Sc}{kk:Ky}{j:Nat}{E:Nat×Nat}
def ZT(bf le:List Nat)(s:Sc)(kk:Ky)(j:Nat)(E:Nat×Nat)(Rs:List (List Wd)):Prop:=
 ∀n ym k w yq,Jr bf n ym (w++Bj le Rs) yq k s kk->Ew w=true->w.length<=50->yq.length+k+2 * BD Rs+2<=900->Cu (n,ym+w.length) (n+1) Rs=E->(∀ws∈Rs,ws∈Dn)->
  ∃P,JA bf s j [] ⟨P,(KJ (n+1) Rs E).1,(KJ (n+1) Rs E).2⟩ (some ⟨kk.ptr,kk.line,kk.col⟩)
theorem ZU{Rs:List (List Wd)}(H:ZT bf le s kk j E Rs)(hT:∀ws∈Rs,ws∈Dn)(hj:j<=20):∀(ws:List Wd) (n ym k:Nat) (yq:List Gp),Jr bf n ym (AM ws++Bj le Rs) yq k s kk->yq≠[]->ws≠[]->tw ym ws=true->yq.length+k+2 * (ws.length+BD Rs)<=900->Cu (n,ym+(AM ws).length) (n+1) Rs=E->
 ∃P,JA bf s j [] ⟨P,(match HR ym ws with |some c=> (n,c) |none=> KJ (n+1) Rs E).1,(match HR ym ws with |some c=> (n,c) |none=> KJ (n+1) Rs E).2⟩ (some ⟨kk.ptr,kk.line,kk.col⟩)
 | []=>@fun _ _ _ _ _ _ h _ _ _=> absurd rfl h
 |w::r=>@fun n ym k yq hJ hg y0 zM hb hE=> by
  have hb:yq.length+k+2 * (r.length+1+BD Rs)<=900:=hb;cases hr:w.real with
  |true=> rw [r8 hr];obtain⟨c,u,e,h1,h2,h3⟩:=Wd.hd hr;rw [F6,e]at hJ;exact ZI (w:=[]) hJ (r7 h1 h2 h3 (by have:=hJ.len;exact Lz)) hg hj
  |false=>
   cases w with
   |blank=>
    cases r with
    |nil=> have hx:=H n ym k [] yq hJ rfl (uO _) (by have:([]:List Wd).length=0:=rfl;lia) hE hT;exact hx
    |cons w' r=> rw [F6]at hJ;have hl:(w'::r).length=r.length+1:=rfl;have zz:(AM (.blank::w'::r)).length=0+1+(AM (w'::r)).length:=ru _ _ _;exact ZU H hT hj (w'::r) n (ym+1) (k+1) yq (hJ.blank (by exact AU hb)) hg nofun zM (by lia) (by rw [<-hE,zz,show ym+1+(AM (w'::r)).length=ym+(0+1+(AM (w'::r)).length) by exact uc (Bt) (Bt)])
   |rem=>
    obtain rfl:r=[]:=by have:r.isEmpty=true:=zM;simpa using this
    have hx:=H n ym k Wd.rem.txt yq hJ ZS (by decide) (by have:([]:List Wd).length=0:=rfl;lia) hE hT;exact hx
   |Cz _=> cases zM
   |start=> cases hr
   |stop=> cases hr
   |dd=> cases hr
   |dy=> cases hr
   |ln _=> cases hr
   |kw _=> cases hr
   |BU=> cases hr
theorem ZV(hle:isLE le=true)(hj:j<=20):∀Rs,ZT bf le s kk j E Rs
 | []=>@fun n ym k w yq hJ hrm hw hb hE hT=> by
   have hE:(n,ym+w.length)=E:=hE;rw [<-hE];by_cases hg:yq=[]
   . subst hg;exact rq hJ hrm (by exact AU (uA hb hw)) hj
   . exact ZI (w:=w) (c:=0) (X:=[]) hJ (SN hrm (by exact AU (uA hb hw))) hg hj
 |ws::Rs=>@fun n ym k w yq hJ hrm hw hb hE hT=> by have hb:yq.length+k+2 * (ws.length+BD Rs)+2<=900:=hb;have hm:=hT ws (.head _);have hJ':Jr bf (n+1) 0 (AM ws++Bj le Rs) (yq++[⟨k,w,le⟩]) 0 s kk:=hJ.row hrm hle (by exact AU (uA hb hw)) (by exact AU hb);exact ZU (ZV hle hj Rs) (fun v hv=> hT v (.tail _ hv)) hj ws (n+1) 0 0 _ hJ' (by simp) (OW hm) (OV hm) (by rw [t9,uw];exact AU hb) (by rw [uv];exact hE)
end
section
theorem J.dn{m n ym k:Nat}{bf X:List Nat}{st:List Int}{yp yn:Bool}{yq:List Gp}{s:Sc}{q:List Tk}(hJ:J (m+1) bf n ym X st yp yn yq k s q):J m bf n ym X st yp yn yq k s q:=
 ⟨hJ.buf,hJ.has,hJ.line,hJ.col,hJ.allow,hJ.Dc,hJ.CI,hJ.Gg,by have:=hJ.len;exact AU this,hJ.toks,hJ.key,hJ.chr,by have:=hJ.tk;exact AU this⟩
theorem HS{n rl:Nat}{w:Wd}{r:List Wd}{Rs:List (List Wd)}{AA d:List AV}{st s:List Int}{yp yn f wt:Bool}{ym a:Nat}(h:Av n rl AA st yp yn ym w= .next d s f wt a):cont n rl (w::r) Rs AA st yp yn ym=cont n rl r Rs d s f wt a:=by unfold cont;rw [show CZ n rl (w::r) AA st yp yn ym=CZ n rl r d s f wt a by rw [IC,h]]
theorem SS{n rl:Nat}{w:Wd}{r:List Wd}{Rs:List (List Wd)}{AA d:List AV}{st s:List Int}{yp yn wt fr:Bool}{ym:Nat}(h:Av n rl AA st yp yn ym w= .brk d s wt fr):cont n rl (w::r) Rs AA st yp yn ym=B3 (n+1) Rs d s fr wt:=by unfold cont;rw [show CZ n rl (w::r) AA st yp yn ym= .brk d s wt fr by rw [IC,h]]
theorem OX{n rl:Nat}{w:Wd}{r:List Wd}{Rs:List (List Wd)}{AA d:List AV}{st:List Int}{yp yn:Bool}{ym:Nat}{x:Ref}(h:Av n rl AA st yp yn ym w= .ret d x):cont n rl (w::r) Rs AA st yp yn ym= .ret d x:=by unfold cont;rw [show CZ n rl (w::r) AA st yp yn ym= .ret d x by rw [IC,h]]
theorem r9{α:Type}(l:List α)(x:α):CB (l++[x]) none (some (-1))=l:=by
 show((l++[x]).drop 0).take (Dr (l++[x]).length (-1) - 0)=l;rw [w6,Nat.sub_zero,show Dr (l++[x]).length (-1)=l.length by rw [t9,uw];show(max 0 (min (-1+((l.length:Nat)+1:Int)) ((l.length:Nat)+1:Int))).toNat=l.length;rw [Int.add_comm,yh,Int.min_eq_left (Int.le_of_lt (Int.lt_succ _)),xU (u4 _),vq]]
 exact List.take_left' rfl
variable{R:List (List Wd)}{le bf:List Nat}
inductive Fin(bf:List Nat)(R:List (List Wd))(s:Sc)(j:Nat)(D0:List AV)(r:WR):Prop
 |mk (ts:List Tk) (e:Option AV) (h1:Rx bf (run s) j ts e) (h2:KL bf R D0 r ts e)
def EK(R:List (List Wd))(le bf:List Nat)(Rs:List (List Wd)):Prop:=∀m n ym k w yq s q st yp yn D0,J m bf n ym (w++Bj le Rs) st yp yn yq k s q->Ew w=true->w.length<=50->yq.length+k+2 * m+1<=900->BD Rs<=m->R.drop (n+1)=Rs->n<R.length->Cu (n,ym+w.length) (n+1) Rs=DG R->
 Fin bf R s (lv yn) D0 (B3 (n+1) Rs (D0++q.map Tk.row) st true yn)
def JC(R:List (List Wd))(le bf:List Nat)(Rs:List (List Wd)):Prop:=∀m n s st D0,J m bf (n+1) 0 (match Rs with | []=>[] |ws::r=> AM ws++Bj le r) st false false [] 0 s []->Rs≠[]->st.headD 0<=0->BD Rs<=m->R.drop (n+1)=Rs->n<R.length->Cu (n,0) (n+1) Rs=DG R->
 Fin bf R s (lv false) D0 (B3 (n+1) Rs D0 st false false)
theorem Fin.step{C:List AV->WR}{yo X:List AV}{Y:List Nat}{st:List Int}{m n ym i j:Nat}{fr wt:Bool}{s:Sc}{D0:List AV}(S:F5 m bf n ym Y st fr wt j s yo)(k:∀s5 D,J m bf n ym Y st fr wt [] 0 s5 []->Fin bf R s5 i D (C (D++[].map Tk.row)))(e:X=D0++yo):Fin bf R s j D0 (C X):=by obtain⟨s5,T,h1,h2,h3⟩:=S;subst h2;subst e;have h:=k s5 (D0++T.map Tk.row) h1;rw [xA,uD]at h;obtain⟨ts,e,hr,hf⟩:=h;exact⟨T++ts,e,h3 ts e (hr.down 0 (uO _)),hf.more⟩
theorem Gh{α:Type}(D A B L:List α):D++A++B++L=D++(A++B++L):=by rw [t8 D A B,t8 D (A++B) L]
theorem ZW{α:Type}(D A B E L:List α):D++A++B++E++L=D++(A++B++E++L):=by rw [t8 D A B,t8 D (A++B) E,t8 D (A++B++E) L]
theorem ZX{α:Type}(D:List α)(a b c:α):D++[a]++[b]++[c]=D++[a,b,c]:=by rw [t8,t8];rfl
theorem OY{m:Nat}(h:2 * m+1<=900):0+0+2 * m+1<=900:=by exact AU h
def Dd(R:List (List Wd))(le bf:List Nat)(Rs:List (List Wd))(n rl:Nat)(ws:List Wd):Prop:=∀(m ym k:Nat) (yq:List Gp) (s:Sc) (q:List Tk) (st:List Int) (yp yn:Bool) (D0:List AV),J (m+1) bf n ym (AM ws++Bj le Rs) st yp yn yq k s q->tw ym ws=true->(yn=true->yq≠[])->(yp=false->yn=false/\st.headD 0<=(ym:Int))->ws.length+BD Rs<=m+1->Cu (n,ym+(AM ws).length) (n+1) Rs=DG R->(ym=0->rl=(AM ws).length)->
     Fin bf R s (lv yn) D0 (cont n rl ws Rs (D0++q.map Tk.row) st yp yn ym)
section
variable{Rs:List (List Wd)}{n rl m ym k:Nat}{yq:List Gp}{s:Sc}{q:List Tk}{st:List Int}{yp yn:Bool}{D0:List AV}{r:List Wd}
theorem sA(w:Wd)(r:List Wd):(AM (w::r)).length=w.txt.length+(C7 r []).length:=by have:=congrArg uY (F6 w r []);rw [uD,t9]at this;exact this
theorem KN(A:EK R le bf Rs)(hdr:R.drop (n+1)=Rs)(hn:n<R.length)(ih:r≠[]->Dd R le bf Rs n rl r)(hm:r.length+BD Rs<=m)(hk:2 * m+1<=900)(hE:Cu (n,ym+(C7 r []).length) (n+1) Rs=DG R)(h1:r≠[]->yn=false/\tw (ym+1) r=true)(h2:yp=false->st.headD 0<=(ym:Int))(hJ:J m bf n ym (C7 r (Bj le Rs)) st yp yn [] 0 s q):
 Fin bf R s (lv yn) D0 (cont n rl r Rs (D0++q.map Tk.row) st yp yn (ym+1)):=by
 cases r with
 |nil=> exact A m n ym 0 [] [] s q st yp yn D0 hJ rfl (uO _) (OY hk) (t5 (vb ..) hm) hdr hn hE
 |cons w r=>
  obtain⟨h3,h4⟩:=h1 nofun;subst h3;cases(m)with
  |zero=> exact absurd (t5 (ur ..) hm) (x9 _)
  |succ m=>
  refine ih nofun m (ym+1) 1 [] s q st yp false D0 (hJ.blank (OY hk)) h4 nofun (fun h=> ⟨rfl,ue (h2 h) (vA.mpr (vf _))⟩) hm ?_ (fun h=> absurd h (Nat.succ_ne_zero _));rw [<-hE];show Cu (n,ym+1+(AM (w::r)).length) _ _=Cu (n,ym+(32::(AM (w::r)++[])).length) _ _;rw [uD,uh,ui,xm 1]
theorem sC(hle:isLE le=true)(hJ:J (m+1) bf n 0 (45::45::45::C7 r (Bj le Rs)) st yp yn yq k s q)(hw:yn=true->yq≠[])(K:∀s5 D,J m bf n 3 (C7 r (Bj le Rs)) (AB (-1) st).2 false false [] 0 s5 []->Fin bf R s5 5 D (cont n rl r Rs (D++[].map Tk.row) (AB (-1) st).2 false false (3+1))):
 Fin bf R s (lv yn) D0 (cont n rl (.start::r) Rs (D0++q.map Tk.row) st yp yn 0):=by
 rw [HS (show Av n rl (D0++q.map Tk.row) st yp yn 0 .start= .next _ _ _ _ _ from rfl)];exact Fin.step (C:=fun D=> cont n rl r Rs D _ _ _ _) (ri hJ hw (ID hle Rs r) (Dp _)) K (Gh ..)
theorem sD(hle:isLE le=true)(hJ:J (m+1) bf n 0 (46::46::46::C7 r (Bj le Rs)) st yp yn yq k s q)(hw:yn=true->yq≠[])(K:∀s5 D,J m bf n 3 (C7 r (Bj le Rs)) (AB (-1) st).2 false false [] 0 s5 []->Fin bf R s5 5 D (cont n rl r Rs (D++[].map Tk.row) (AB (-1) st).2 false false (3+1))):
 Fin bf R s (lv yn) D0 (cont n rl (.stop::r) Rs (D0++q.map Tk.row) st yp yn 0):=by
 rw [HS (show Av n rl (D0++q.map Tk.row) st yp yn 0 .stop= .next _ _ _ _ _ from rfl)];exact Fin.step (C:=fun D=> cont n rl r Rs D _ _ _ _) (rj hJ hw (ID hle Rs r) (Dp _)) K (Gh ..)
theorem Fin.ZY{d:List AV}{j:Nat}(h:Fin bf R s j D0 (B3 (n+1) [] d st true yn)):Fin bf R s j D0 (B3 (n+1) [] d st false yn):=match h with
 |⟨ts,e,h1,h2⟩=> ⟨ts,e,h1,h2⟩
theorem sF(hle:isLE le=true)(A:EK R le bf Rs)(B:JC R le bf Rs)(hdr:R.drop (n+1)=Rs)(hn:n<R.length)(hJ:J (m+1) bf n 0 (Ga++Bj le Rs) st yp yn yq k s q)(hw:yn=true->yq≠[])(hh:(AB (-1) st).2.headD 0<=0)(hm:BD Rs<=m)(hk:2 * m+1<=900)(hE:Cu (n,9) (n+1) Rs=DG R):
 Fin bf R s (lv yn) D0 (cont n 9 (.dy::r) Rs (D0++q.map Tk.row) st yp yn 0):=by
 rw [SS (show Av n 9 (D0++q.map Tk.row) st yp yn 0 .dy= .brk _ _ _ _ from rfl)];cases Rs with
 |nil=> exact Fin.step (C:=fun D=> B3 (n+1) [] D (AB (-1) st).2 false false) (ro hJ hw (Dp _)) (fun s5 D h=> (A m n 9 0 [] [] s5 [] _ false false D h rfl (uO _) (OY hk) hm hdr hn hE).ZY) (Gh ..)
 |cons ws Rs'=> exact Fin.step (C:=fun D=> B3 (n+1) (ws::Rs') D _ _ _) (rn hJ hw hle (Dp _)) (fun s5 D h=> by rw [xA,uD];exact B m n s5 _ D h nofun hh hm hdr hn hE) (Gh ..)
theorem sG(hle:isLE le=true)(A:EK R le bf Rs)(B:JC R le bf Rs)(hdr:R.drop (n+1)=Rs)(hn:n<R.length)(hJ:J (m+1) bf n 0 (37::100::32::119::Bj le Rs) st yp yn yq k s q)(hw:yn=true->yq≠[])(hh:(AB (-1) st).2.headD 0<=0)(hm:BD Rs<=m)(hk:2 * m+1<=900)(hE:Cu (n,4) (n+1) Rs=DG R):
 Fin bf R s (lv yn) D0 (cont n rl (.dd::r) Rs (D0++q.map Tk.row) st yp yn 0):=by
 rw [SS (show Av n rl (D0++q.map Tk.row) st yp yn 0 .dd= .brk _ _ _ _ from rfl)];cases Rs with
 |nil=> exact Fin.step (C:=fun D=> B3 (n+1) [] D (AB (-1) st).2 false false) (rm hJ hw (Dp _)) (fun s5 D h=> (A m n 4 0 [] [] s5 [] _ false false D h rfl (uO _) (OY hk) hm hdr hn hE).ZY) (Gh ..)
 |cons ws Rs'=> exact Fin.step (C:=fun D=> B3 (n+1) (ws::Rs') D _ _ _) (rk hJ hw hle (Dp _)) (fun s5 D h=> by rw [xA,uD];exact B m n s5 _ D h nofun hh hm hdr hn hE) (Gh ..)
theorem J.SU{X:List Nat}(hJ:J m bf n ym X st yp false yq k s q):q=[]:=by have h:=hJ.key;rw [if_neg nofun]at h;exact h.2
theorem J.ZZ{X:List Nat}(hJ:J m bf n ym X st yp true yq k s q):∃t,q=[t]:=by have h:=hJ.key;rw [if_pos rfl]at h;obtain(⟨_,t,_,_,_,_,_,h⟩):=h;exact⟨t,h⟩
theorem sH{Y:List Nat}(hJ:J (m+1) bf n ym (37::100::Y) st yp yn yq k s q)(hw:yn=true->yq≠[])(ha:ym≠0):
 Fin bf R s (lv yn) D0 (cont n rl (.dd::r) Rs (D0++q.map Tk.row) st yp yn ym):=by
 obtain⟨p,x,hx,hr⟩:=rg hJ hw ha (Dp yn);rw [OX (show Av n rl (D0++q.map Tk.row) st yp yn ym .dd= .ret (if yn=true then CB (D0++q.map Tk.row) none (some (-1))else D0++q.map Tk.row) (.bad n ym)from if_neg ha)];refine⟨[],some x,hr,?_,x,_,none,rfl,hx,rfl⟩;cases yn with
 |false=> rw [if_neg nofun,hJ.SU]
 |true=> obtain⟨t,rfl⟩:=hJ.ZZ;rw [if_pos rfl];show D0++[]=CB (D0++[t.row]) none (some (-1));rw [r9,uD]
theorem sI{l:Ln}{Y:List Nat}(hJ:J (m+1) bf n ym (l.ch::Y) st false false yq k s q)(hX:Bh Y)(hs:By st)(h0:st.headD 0<=(ym:Int)):
 Fin bf R s (lv false) D0 (cont n rl (.ln l::r) Rs (D0++q.map Tk.row) st false false ym):=by
 obtain⟨p,x,hx,hr⟩:=rf hJ nofun hX (Dp false);rw [OX (show Av n rl (D0++q.map Tk.row) st false false ym (.ln l)= .ret (As n ym ym (D0++q.map Tk.row) st) (.bad n ym)from rfl)];refine⟨[],some x,hr,?_,x,_,none,rfl,hx,rfl⟩;obtain⟨a,b,e⟩:=hs.ne;unfold As;rw [SK (by rw [e];exact nofun) h0,hJ.SU];show D0++[]=(D0++[])++[];rw [uD,uD]
theorem sJ{l:Ln}(hle:isLE le=true)(hJ:J (m+1) bf n ym (l.ch::C7 r (Bj le Rs)) st true yn yq k s q)(hw:yn=true->yq≠[])(K:∀s5 yx D,J m bf n (ym+1) (C7 r (Bj le Rs)) yx true false [] 0 s5 []->Fin bf R s5 5 D (cont n rl r Rs (D++[].map Tk.row) yx true false (ym+1+1))):
 Fin bf R s (lv yn) D0 (cont n rl (.ln l::r) Rs (D0++q.map Tk.row) st true yn ym):=by
 have h:=ra hJ hw (ID hle Rs r) (Dp yn);have es:Av n rl (D0++q.map Tk.row) st true yn ym (.ln l)=EH n ym true l (As n ym ym (D0++q.map Tk.row) st) (AB ym st).2:=rfl;by_cases y9:(AB ym st).2.headD 0<(ym:Int)
 . rw [HS (es.trans (if_pos y9))];rw [if_pos y9,if_pos y9]at h;exact Fin.step (C:=fun D=> cont n rl r Rs D _ _ _ _) h (K · _) (ZW ..)
 . rw [HS (es.trans (if_neg y9))];rw [if_neg y9,if_neg y9,uD]at h;exact Fin.step (C:=fun D=> cont n rl r Rs D _ _ _ _) h (K · _) (Gh ..)
theorem sL{l:Kw}{Y:List Nat}(hJ:J (m+1) bf n ym (l.raw++58::Y) st false yn yq k s q)(hw:yn=true->yq≠[])(hX:Bh Y):
 Fin bf R s (lv yn) D0 (cont n rl (.kw l::r) Rs (D0++q.map Tk.row) st false yn ym):=by
 obtain⟨T,p,h2,x,hx,hr⟩:=rd hJ hw hX (Dp yn);rw [OX (show Av n rl (D0++q.map Tk.row) st false yn ym (.kw l)= .ret (As n ym ym (D0++q.map Tk.row) st++[IB n ym l]) (.bad n (ym+l.len))from rfl)];exact⟨T,some x,hr,by rw [h2];exact(Gh ..).symm,x,_,none,rfl,hx,rfl⟩
theorem sM{l:Kw}(hle:isLE le=true)(hJ:J (m+1) bf n ym (l.raw++58::C7 r (Bj le Rs)) st true yn yq k s q)(hw:yn=true->yq≠[])(hh:(AB ym st).2.headD 0<=(ym:Int))(K:∀s5 yx D,yx.headD 0<=(ym:Int)->J m bf n (ym+l.len+1) (C7 r (Bj le Rs)) yx false false [] 0 s5 []->Fin bf R s5 5 D (cont n rl r Rs (D++[].map Tk.row) yx false false (ym+l.len+1+1))):
 Fin bf R s (lv yn) D0 (cont n rl (.kw l::r) Rs (D0++q.map Tk.row) st true yn ym):=by
 have h:=rb hJ hw (ID hle Rs r) (Dp yn);have es:Av n rl (D0++q.map Tk.row) st true yn ym (.kw l)=EI n ym true l (As n ym ym (D0++q.map Tk.row) st) (AB ym st).2:=rfl;by_cases y9:(AB ym st).2.headD 0<(ym:Int)
 . rw [HS (es.trans (if_pos y9))];rw [if_pos y9,if_pos y9]at h;exact Fin.step (C:=fun D=> cont n rl r Rs D _ _ _ _) h (fun s5 D=> K s5 _ D (xB _)) ((ZX ..).trans (ZW ..))
 . rw [HS (es.trans (if_neg y9))];rw [if_neg y9,if_neg y9,uD]at h;exact Fin.step (C:=fun D=> cont n rl r Rs D _ _ _ _) h (fun s5 D=> K s5 _ D hh) ((ZX ..).trans (Gh ..))
theorem sN(hle:isLE le=true)(hJ:J (m+1) bf n ym (39::113::39::C7 r (Bj le Rs)) st false yn yq k s q)(hw:yn=true->yq≠[])(K:∀s5 D,J m bf n (ym+3) (C7 r (Bj le Rs)) (AB ym st).2 false false [] 0 s5 []->Fin bf R s5 5 D (cont n rl r Rs (D++[].map Tk.row) (AB ym st).2 false false (ym+3+1))):
 Fin bf R s (lv yn) D0 (cont n rl (.BU::r) Rs (D0++q.map Tk.row) st false yn ym):=by
 rw [HS (show Av n rl (D0++q.map Tk.row) st false yn ym .BU= .next _ _ _ _ _ from rfl)];exact Fin.step (C:=fun D=> cont n rl r Rs D _ _ _ _) (rh hJ hw (ID hle Rs r) (Dp _)) K (Gh ..)
theorem Za(p:Nat):p+3<=p+24:=yA (by decide) _
theorem sP(hle:isLE le=true)(hT:∀ws∈R,ws∈Dn)(hdr:R.drop (n+1)=Rs)(hn:n<R.length)(hJ:J (m+1) bf n ym (39::113::39::Bj le Rs) st true yn yq k s q)(hw:yn=true->yq≠[])(hm:BD Rs<=m)(hE:Cu (n,ym+3) (n+1) Rs=DG R)(hd:(AB ym st).2.headD 0=(ym:Int)):
 Fin bf R s (lv yn) D0 (cont n rl (.BU::r) Rs (D0++q.map Tk.row) st true yn ym):=by
 have hm2:2 * BD Rs<=2 * m:=wj 2 hm;have hl:=hJ.len;have hst:=hJ.CI.C1;obtain⟨p,T,ky,h1,h2,hky,h3⟩:=ZG hJ hw (ZJ hle Rs) (Dp yn);have zD:=DT ym st;have zA:=hJ.tk;rw [hJ.Dc]at zA;rw [OX (show Av n rl (D0++q.map Tk.row) st true yn ym .BU= .ret (As n ym ym (D0++q.map Tk.row) st) (.req n ym)from if_pos hd)];have hJr:Jr bf n (ym+3) ([]++Bj le Rs) [] 0 (OR bf p n ym (s.taken+T.length) (AB ym st).2 ky) ky:=by rw [hky];exact⟨rfl,h1,rfl,rfl,rfl,uO _,⟨rfl,by show((AB ym st).2.headD 0==(ym:Int))=true;rw [hd];exact beq_self_eq_true _,rfl,rfl,Za p⟩,⟨_,rfl⟩,hJ.chr,hst.AB,by show(AB ym st).2.length<=800;lia,ue (Int.le_of_eq hd) (vA.mpr (ur ..))⟩
 have hjj:(if q=[]then lv yn+1 else 0)<=20:=by
  by_cases h:q=[]
  . rw [if_pos h];exact t5 (u6 (Dp yn)) (by decide)
  . rw [if_neg h];decide
 obtain⟨P,x,hx,hr⟩:=ZV (E:=DG R) hle hjj Rs n (ym+3) 0 [] [] hJr rfl (uO _) (by show 0+0+2 * BD Rs+2<=900;lia) hE (fun ws zq=> hT ws (by rw [<-hdr]at zq;exact wG zq));have hrx:=h3 [] (some x) hr;rw [uD]at hrx;refine⟨T,some x,hrx,by rw [h2];exact(t8 ..).symm,x,_,some ⟨ky.ptr,ky.line,ky.col⟩,rfl,hx,?_⟩;have hp:=ZO (fun ws h=> ry (hT ws h)) (R.length - (n+1)) n (by lia);rw [hdr]at hp;show AV.tup [tupI (E4 R n).1 (E4 R n).2,tupI n ym]=AV.tup [tupI _ _,tupI ky.line ky.col];rw [hp,hky]
theorem sQ(hle:isLE le=true)(hJ:J (m+1) bf n ym (39::113::39::C7 r (Bj le Rs)) st true yn yq k s q)(hw:yn=true->yq≠[])(hd:(AB ym st).2.headD 0≠(ym:Int))(K:∀s5 q' D,J m bf n (ym+3) (C7 r (Bj le Rs)) (AB ym st).2 false true [] 0 s5 q'->Fin bf R s5 6 D (cont n rl r Rs (D++q'.map Tk.row) (AB ym st).2 false true (ym+3+1))):
 Fin bf R s (lv yn) D0 (cont n rl (.BU::r) Rs (D0++q.map Tk.row) st true yn ym):=by
 have hl:=hJ.len;obtain⟨p,T,ky,h1,h2,hky,h3⟩:=ZG hJ hw (ID hle Rs r) (Dp yn);have zD:=DT ym st;have zA:=hJ.tk;rw [hJ.Dc]at zA;rw [HS (show Av n rl (D0++q.map Tk.row) st true yn ym .BU= .next (As n ym ym (D0++q.map Tk.row) st++[Li n ym]) _ _ _ _ from if_neg hd)];have hJw:J m bf n (ym+3) (C7 r (Bj le Rs)) (AB ym st).2 false true [] 0 (OR bf p n ym (s.taken+T.length) (AB ym st).2 ky) [JB ⟨p,n,ym⟩ ⟨p+3,n,ym+3⟩]:=by rw [hky];refine⟨rfl,h1,rfl,rfl,rfl,rfl,hJ.CI.AB,rfl,hJ.l0,rfl,?_,hJ.chr,by show 1+(AB ym st).2.length+2 * m<=800;exact AU (uA zA (t7 zD))⟩;rw [if_pos rfl];exact⟨_,_,rfl,beq_eq_false_iff_ne.mpr hd,rfl,rfl,Za p,rfl⟩
 obtain⟨ts,e,hr,hf⟩:=K _ _ (D0++T.map Tk.row) hJw;refine⟨T++ts,e,h3 ts e (hr.down _ ?_),?_⟩
 . cases yn with
   |false=> rw [hJ.SU];decide
   |true=> obtain⟨t,rfl⟩:=hJ.ZZ;exact uO _
 . rw [h2]at hf;rw [show As n ym ym (D0++q.map Tk.row) st=D0++(q.map Tk.row++tv (AB ym st).1 (Ah n ym))from t8 ..,<-h2];rw [<-h2]at hf;exact hf.more
end
theorem tj(l:Kw):(Wd.kw l).txt.length=l.len+1:=by cases l<;>rfl
theorem J.k9{n ym k m:Nat}{X:List Nat}{st:List Int}{yp yn:Bool}{yq:List Gp}{s:Sc}{q:List Tk}(h:J (m+1) bf n ym X st yp yn yq k s q):2 * m+1<=900:=t5 (t5 (vf _) (vb ..)) h.len
theorem J.up{n ym k m:Nat}{X:List Nat}{st:List Int}{yp yn:Bool}{yq:List Gp}{s:Sc}{q:List Tk}(h:J (m+1) bf n ym X st yp yn yq k s q):(AB ym st).2.headD 0<=(ym:Int):=Lq st h.CI.C1 (ue (by decide) (u4 _))
theorem J.up1{n ym k m:Nat}{X:List Nat}{st:List Int}{yp yn:Bool}{yq:List Gp}{s:Sc}{q:List Tk}(h:J (m+1) bf n ym X st yp yn yq k s q):(AB (-1) st).2.headD 0<=0:=ue (Lq st h.CI.C1 (by decide)) (by decide)
theorem KO{n ym:Nat}{Rs:List (List Wd)}{E:Nat×Nat}{w:Wd}{r:List Wd}(hE:Cu (n,ym+(AM (w::r)).length) (n+1) Rs=E):Cu (n,ym+w.txt.length+(C7 r []).length) (n+1) Rs=E:=by rw [<-hE,sA,ui]
theorem mc{r:List Wd}{Rs:List (List Wd)}{m:Nat}{w:Wd}(h:(w::r).length+BD Rs<=m+1):r.length+BD Rs<=m:=Nat.le_of_succ_le_succ (Nat.succ_add .. ▸h)
theorem Lv{a c m:Nat}(h:a+c<=m):c<=m:=t5 (vb ..) h
theorem Lx{ym l:Nat}{x:Int}(h:x<=(ym:Int)):x<=((ym+l:Nat):Int):=ue h (vA.mpr (ur ..))
section
variable{Rs:List (List Wd)}{n rl:Nat}{r:List Wd}
theorem sR(A:EK R le bf Rs)(hdr:R.drop (n+1)=Rs)(hn:n<R.length)(ih:r≠[]->Dd R le bf Rs n rl r):Dd R le bf Rs n rl (.blank::r):=fun m ym k yq s q st yp yn D0 hJ zM hw zr hm hE zm=> by
 have hlen:=hJ.len;have hm:=mc hm;have zZ:=KO hE;rw [F6]at hJ;rw [HS (show Av n rl (D0++q.map Tk.row) st yp yn ym .blank= .next _ _ _ _ _ from rfl)];cases(r)with
 |nil=> exact A m n ym k [] yq s q st yp yn D0 hJ.dn rfl (uO _) (by exact AU hlen) (Lv hm) hdr hn zZ
 |cons w' r=>
  cases(m)with
  |zero=> exact absurd hm (x9 _∘t5 (u6 (uO _))∘(Nat.succ_add .. ▸ ·))
  |succ m=> exact ih nofun m (ym+1) (k+1) yq s q st yp yn D0 (hJ.dn.blank (by exact AU hlen)) zM hw (fun h=> ⟨(zr h).1,Lx (zr h).2⟩) hm (by rw [<-zZ];show Cu (n,ym+1+(AM (w'::r)).length) _ _=Cu (n,ym+0+(32::(AM (w'::r)++[])).length) _ _;rw [uD,uh,ui,xm 1];rfl) (fun h=> absurd h (Nat.succ_ne_zero _))
theorem sU(A:EK R le bf Rs)(hdr:R.drop (n+1)=Rs)(hn:n<R.length):Dd R le bf Rs n rl (.rem::r):=fun m ym k yq s q st yp yn D0 hJ zM hw zr hm hE zm=> by have hlen:=hJ.len;obtain rfl:r=[]:=u7.mp zM;rw [SS (show Av n rl (D0++q.map Tk.row) st yp yn ym .rem= .brk _ _ _ _ from rfl)];exact A m n ym k Wd.rem.txt yq s q st yp yn D0 hJ.dn ZS (by decide) (by exact AU hlen) (Lv (mc hm)) hdr hn hE
theorem sV(hle:isLE le=true)(A:EK R le bf Rs)(hdr:R.drop (n+1)=Rs)(hn:n<R.length)(ih:r≠[]->Dd R le bf Rs n rl r):Dd R le bf Rs n rl (.start::r):=fun m ym k yq s q st yp yn D0 hJ zM hw zr hm hE zm=> by obtain⟨h0,h1⟩:=t6.mp (show(ym==0&&tw 4 r)=true from zM);obtain rfl:ym=0:=eq_of_beq h0;have zZ:=KO hE;rw [F6]at hJ;exact sC hle hJ hw fun s5 D=> KN A hdr hn ih (mc hm) hJ.k9 zZ (fun _=> ⟨rfl,h1⟩) (fun _=> ue hJ.up1 (by decide))
theorem sW(hle:isLE le=true)(A:EK R le bf Rs)(hdr:R.drop (n+1)=Rs)(hn:n<R.length)(ih:r≠[]->Dd R le bf Rs n rl r):Dd R le bf Rs n rl (.stop::r):=fun m ym k yq s q st yp yn D0 hJ zM hw zr hm hE zm=> by obtain⟨h0,h1⟩:=t6.mp (show(ym==0&&tw 4 r)=true from zM);obtain rfl:ym=0:=eq_of_beq h0;have zZ:=KO hE;rw [F6]at hJ;exact sD hle hJ hw fun s5 D=> KN A hdr hn ih (mc hm) hJ.k9 zZ (fun _=> ⟨rfl,h1⟩) (fun _=> ue hJ.up1 (by decide))
theorem sX(hle:isLE le=true)(A:EK R le bf Rs)(B:JC R le bf Rs)(hdr:R.drop (n+1)=Rs)(hn:n<R.length):Dd R le bf Rs n rl (.dy::r):=fun m ym k yq s q st yp yn D0 hJ zM hw zr hm hE zm=> by obtain⟨h0,h1⟩:=t6.mp (show(ym==0&&Ls [49,46,49] r)=true from zM);obtain rfl:ym=0:=eq_of_beq h0;obtain rfl:=ZL h1;rw [show rl=9 from zm rfl];rw [F6]at hJ;exact sF hle A B hdr hn hJ hw hJ.up1 (Lv (mc hm)) hJ.k9 hE
theorem sY(hle:isLE le=true)(A:EK R le bf Rs)(B:JC R le bf Rs)(hdr:R.drop (n+1)=Rs)(hn:n<R.length):Dd R le bf Rs n rl (.dd::r):=fun m ym k yq s q st yp yn D0 hJ zM hw zr hm hE zm=> by
 rw [F6]at hJ;by_cases ha:ym=0
 . subst ha;obtain rfl:=ZL (show Ls [119] r=true from zM);exact sG hle A B hdr hn hJ hw hJ.up1 (Lv (mc hm)) hJ.k9 hE
 . exact sH hJ hw ha
theorem Zb(l:Ln):(Wd.ln l).txt=[l.ch]:=by cases l<;>rfl
theorem sZ(l:Kw):(Wd.kw l).txt.length=l.len+1:=by cases l<;>rfl
theorem sa(l:Kw):(Wd.kw l).txt=l.raw++[58]:=by cases l<;>rfl
theorem sb{l:Ln}(hle:isLE le=true)(A:EK R le bf Rs)(hdr:R.drop (n+1)=Rs)(hn:n<R.length)(ih:r≠[]->Dd R le bf Rs n rl r):Dd R le bf Rs n rl (.ln l::r):=fun m ym k yq s q st yp yn D0 hJ zM hw zr hm hE zm=> by
 have zZ:=KO hE;rw [Zb]at zZ;rw [F6,Zb]at hJ;cases(yp)with
 |false=> obtain⟨rfl,h0⟩:=zr rfl;exact sI hJ (ID hle Rs r) hJ.CI.C1 h0
 |true=> exact sJ hle hJ hw fun s5 yx D=> KN A hdr hn ih (mc hm) hJ.k9 zZ (fun _=> ⟨rfl,zM⟩) nofun
theorem sg{l:Kw}(hle:isLE le=true)(A:EK R le bf Rs)(hdr:R.drop (n+1)=Rs)(hn:n<R.length)(ih:r≠[]->Dd R le bf Rs n rl r):Dd R le bf Rs n rl (.kw l::r):=fun m ym k yq s q st yp yn D0 hJ zM hw zr hm hE zm=> by
 have zZ:=KO hE;rw [sZ,<-ui]at zZ;rw [F6,sa,t8]at hJ;cases(yp)with
 |false=> exact sL hJ hw (ID hle Rs r)
 |true=> exact sM hle hJ hw hJ.up fun s5 yx D h=> KN A hdr hn ih (mc hm) hJ.k9 zZ (fun _=> ⟨rfl,zM⟩) (fun _=> Lx (l:=1) (Lx h))
theorem si(hle:isLE le=true)(hT:∀ws∈R,ws∈Dn)(A:EK R le bf Rs)(hdr:R.drop (n+1)=Rs)(hn:n<R.length)(ih:r≠[]->Dd R le bf Rs n rl r):Dd R le bf Rs n rl (.BU::r):=fun m ym k yq s q st yp yn D0 hJ zM hw zr hm hE zm=> by
 obtain rfl:r=[]:=u7.mp zM;have zZ:=KO hE;rw [F6]at hJ;cases(yp)with
 |false=> exact sN hle hJ hw fun s5 D=> KN A hdr hn ih (mc hm) hJ.k9 zZ (fun h=> absurd rfl h) (fun _=> Lx hJ.up)
 |true=>
  by_cases hd:(AB ym st).2.headD 0=(ym:Int)
  . exact sP hle hT hdr hn hJ hw (Lv (mc hm)) hE hd
  . exact sQ hle hJ hw hd fun s5 q' D=> KN A hdr hn ih (mc hm) hJ.k9 zZ (fun h=> absurd rfl h) (fun _=> Lx hJ.up)
end
theorem Zc(hle:isLE le=true)(hT:∀ws∈R,ws∈Dn){Rs:List (List Wd)}(A:EK R le bf Rs)(B:JC R le bf Rs){n rl:Nat}(hdr:R.drop (n+1)=Rs)(hn:n<R.length):∀ws,ws≠[]->Dd R le bf Rs n rl ws
 | []=>@fun h=> absurd rfl h
 |w::r=>@fun _=> have ih:=Zc hle hT A B hdr hn r;match w with
  | .Cz _=> fun _ _ _ _ _ _ _ _ _ _ _ h=> cFT h
  | .blank=> sR A hdr hn ih
  | .rem=> sU A hdr hn
  | .start=> sV hle A hdr hn ih
  | .stop=> sW hle A hdr hn ih
  | .dy=> sX hle A B hdr hn
  | .dd=> sY hle A B hdr hn
  | .ln _=> sb hle A hdr hn ih
  | .kw _=> sg hle A hdr hn ih
  | .BU=> si hle hT A hdr hn ih
theorem SV(hle:isLE le=true)(hT:∀ws∈R,ws∈Dn){Rs:List (List Wd)}(A:EK R le bf Rs)(B:JC R le bf Rs){n rl:Nat}(hdr:R.drop (n+1)=Rs)(hn:n<R.length)(ws:List Wd)(m ym k:Nat)(yq:List Gp)(s:Sc)(q:List Tk)(st:List Int)(yp yn:Bool)(D0:List AV)(hJ:J m bf n ym (AM ws++Bj le Rs) st yp yn yq k s q)(y0:ws≠[])(h1:tw ym ws=true)(h2:yn=true->yq≠[])(h3:yp=false->yn=false/\st.headD 0<=(ym:Int))(hm:ws.length+BD Rs<=m)(h4:Cu (n,ym+(AM ws).length) (n+1) Rs=DG R)(h5:ym=0->rl=(AM ws).length):
 Fin bf R s (lv yn) D0 (cont n rl ws Rs (D0++q.map Tk.row) st yp yn ym):=by
 cases m with
 |zero=>
  cases ws with
  |nil=> exact absurd rfl y0
  |cons _ _=> exact absurd (t5 (ur ..) hm) (x9 _)
 |succ m=> exact Zc hle hT A B hdr hn ws y0 m ym k yq s q st yp yn D0 hJ h1 h2 h3 hm h4 h5
end
section
variable{R:List (List Wd)}{le bf:List Nat}
theorem SW(n:Nat)(ws:List Wd)(Rs:List (List Wd))(AA:List AV)(st:List Int)(yp yn:Bool):cont n (AM ws).length ws Rs AA st yp yn 0=B3 n (ws::Rs) AA st yp yn:=by
 unfold cont;show _=(match CZ n (AM ws).length ws AA st yp yn 0 with
  | .brk d s wt fr=> B3 (n+1) Rs d s fr wt
  | .next d s f wt a=>.next d s f wt a
  | .ret d r=>.ret d r)
 rfl
theorem Zd{α:Type}{R:List α}{n:Nat}{x:α}{r:List α}(h:R.drop n=x::r):R.drop (n+1)=r/\n<R.length:=by
 have hl:n<R.length:=by
  rcases vI n R.length with z |z
  . exact z
  . rw [wD z]at h;cases h
 rw [v9 hl]at h;exact⟨(xf h).2,hl⟩
theorem Ze(hle:isLE le=true)(hT:∀ws∈R,ws∈Dn):∀Rs,EK R le bf Rs/\JC R le bf Rs
 | []=> by refine⟨fun m n ym k w yq s q st yp yn D0 hJ hrm hwl hb hm hdr hn hE=> ?_,fun m n s st D0 hJ h=> absurd rfl h⟩;obtain⟨T,h1,h2⟩:=rp hJ hrm (by exact AU (uA hb hwl)) (Dp yn);refine⟨T,none,h2,rfl,?_⟩;have hE:(n,ym+w.length)=DG R:=hE;rw [h1,<-hE];unfold I8;simp only [t8]
 |ws::Rs=> by
  obtain⟨A,B⟩:=Ze hle hT Rs;refine⟨fun m n ym k w yq s q st yp yn D0 hJ hrm hwl hb hm hdr hn hE=> ?_,fun m n s st D0 hJ _ h0 hm hdr hn hE=> ?_⟩
  . obtain⟨d1,d2⟩:=Zd hdr;have zq:ws∈R:=by
     have:ws∈R.drop (n+1):=by rw [hdr];exact .head _
     exact wG this
    have hm:ws.length+BD Rs<=m:=hm;have hx:=SV hle hT A B (rl:=(AM ws).length) d1 d2 ws m 0 0 _ s q st true yn D0 (hJ.row hrm hle (by exact AU (uA hb hwl)) (by assumption)) (OW (hT ws zq)) (OV (hT ws zq)) (fun _=> by simp) nofun hm (by rw [uv];exact hE) (fun _=> rfl);rw [SW]at hx;exact hx
  . obtain⟨d1,d2⟩:=Zd hdr;have zq:ws∈R:=by
     have:ws∈R.drop (n+1):=by rw [hdr];exact .head _
     exact wG this
    have hm:ws.length+BD Rs<=m:=hm;have hx:=SV hle hT A B (rl:=(AM ws).length) d1 d2 ws m 0 0 [] s [] st false false D0 hJ (OW (hT ws zq)) (OV (hT ws zq)) nofun (fun _=> ⟨rfl,h0⟩) hm (by rw [uv];exact hE) (fun _=> rfl);rw [SW,xA,uD]at hx;exact hx
theorem Zf:∀(ws:List Wd) (Rs:List (List Wd)),Ca le (ws::Rs)++[0]=AM ws++Bj le Rs
 |ws,[]=> rfl
 |ws,zQ::Rs=> by have ih:=Zf zQ Rs;show(AM ws++le++Ca le (zQ::Rs))++[0]=AM ws++(le++(AM zQ++Bj le Rs));rw [t8,t8,ih]
theorem Zg:∀(Rs:List (List Wd)) (p:Nat×Nat) (n:Nat),Rs≠[]->Cu p n Rs=(n+Rs.length - 1,(AM (Rs.getLast?.getD [])).length)
 | []=>@fun _ _ h=> absurd rfl h
 | [ws]=>@fun p n _=> rfl
 |ws::zQ::Rs=>@fun p n _=> by show Cu (n,(AM ws).length) (n+1) (zQ::Rs)=_;rw [Zg (zQ::Rs) _ (n+1) (by simp),List.getLast?_cons_cons];congr 1;simp only [uh];lia
theorem sj(hle:isLE le=true)(hT:∀ws∈R,ws∈Dn)(y0:R≠[])(hc:BD R<=300)(zi:(Ca le R++[0]).all (fun c=> c !=65279)=true):
 ∃ts e,Runs (Ca le R++[0]) (run (Sc.new (Ca le R))) (.start ⟨0,0,0⟩::ts) e/\KL (Ca le R++[0]) R [AG DF .none 0 0 0 0] (B3 0 R [AG DF .none 0 0 0 0] [-1] true false) ts e:=by
 cases R with
 |nil=> exact absurd rfl y0
 |cons ws Rs=>
  have hm:ws.length+BD Rs<=300:=hc;obtain⟨A,B⟩:=Ze (bf:=Ca le (ws::Rs)++[0]) hle hT Rs;have zq:=hT ws (.head _);have hE:Cu (0,0+(AM ws).length) (0+1) Rs=DG (ws::Rs):=by rw [uv];have:=Zg (ws::Rs) (0,0) 0 (by simp);show Cu (0,0) 0 (ws::Rs)=_;rw [this];unfold DG;rw [uv]
  have hJ:J (ws.length+BD Rs) (Ca le (ws::Rs)++[0]) 0 0 (AM ws++Bj le Rs) [-1] true false [] 0 ⟨Ca le (ws::Rs)++[0],0,0,0,[],1,[-1],true,none⟩ []:=by refine⟨rfl,?_,rfl,rfl,rfl,rfl,⟨[],rfl⟩,rfl,by show 0+0+2 * (ws.length+BD Rs)<=900;exact AU (wj 2 hm),rfl,⟨rfl,rfl⟩,zi,by show 0+1+2 * (ws.length+BD Rs)<=800;exact AU (wj 2 hm)⟩;show Ab (Ca le (ws::Rs)++[0]) 0 ([]++([]++(AM ws++Bj le Rs)));rw [wN,wN,<-Zf];intro i c e;rw [uv];exact e
  obtain⟨ts,e,h1,h2⟩:=SV hle hT A B (rl:=(AM ws).length) (n:=0) rfl (by simp) ws _ 0 0 [] _ [] [-1] true false [AG DF .none 0 0 0 0] hJ (OW zq) (OV zq) nofun nofun (uW _) hE (fun _=> rfl);rw [SW,xA,uD]at h2;refine⟨ts,e,?_,h2⟩;refine Rx.runs (j:=0) (.take (l:=[]) (.none rfl rfl) rfl (by exact Gj) (h1.down 0 (uO _))) _ (.nil _)
end
def DH(d:List AV):Prop:=∀v∈d,PR v
theorem DH.add{d:List AV}(h:DH d){v:AV}(hv:PR v):DH (d++[v]):=fun x hx=> by
 rcases uN.mp hx with hx |hx
 . exact h x hx
 . rw [u5.mp hx];exact hv
theorem EL(i:List Nat)(a b c d:Nat):PR (AG i .none a b c d):=⟨i,_,a,b,c,d,rfl,.none⟩
theorem Ly(i s:List Nat)(a b c d:Nat):PR (AG i (.str s) a b c d):=⟨i,_,a,b,c,d,rfl,.str s⟩
theorem sm(i:List Nat)(a b c d:Nat):PR (AG i (.tup [.int 1,.int 1]) a b c d):=⟨i,_,a,b,c,d,rfl,.rS⟩
theorem DH.rep{d:List AV}(h:DH d)(k:Nat){v:AV}(hv:PR v):DH (d++tv k v):=fun x hx=> by
 rcases uN.mp hx with hx |hx
 . exact h x hx
 . rw [List.eq_of_mem_replicate hx];exact hv
theorem DH.As{d:List AV}(h:DH d)(n ym:Nat)(B:Int)(st:List Int):DH (As n ym B d st):=h.rep _ (EL _ _ _ _ _)
def WR.nice(k:Nat):WR->Prop
 | .next d s _ _ _=> DH d
 | .brk d s _ _=> DH d
 | .ret d _=> DH d/\d.length<=k
theorem sq{n rl:Nat}{AA:List AV}{st:List Int}{yp yn:Bool}{ym:Nat}{w:Wd}(h:DH AA):(Av n rl AA st yp yn ym w).nice (AA.length+st.length+5):=by
 have hb:=fun B=> h.As n ym B st;have hl:=fun B=> Yl n ym B AA st;cases w with
 |blank=> exact h
 |rem=> exact h
 |Cz w=> exact h
 |start=> exact(hb _).add (EL _ _ _ _ _)
 |stop=> exact(hb _).add (EL _ _ _ _ _)
 |dy=> exact(hb _).add (sm _ _ _ _ _)
 |dd=>
  by_cases ha:ym=0
  . rw [show Av n rl AA st yp yn ym .dd=_ from if_pos ha];exact(hb _).add (EL _ _ _ _ _)
  . rw [show Av n rl AA st yp yn ym .dd=_ from if_neg ha];cases yn
    . exact⟨h,by show AA.length<=_;exact Bt⟩
    . refine⟨fun v hv=> h v (wG (x8 hv)),?_⟩;have h1:(CB AA none (some (-1))).length<=AA.length:=by
       unfold CB;exact t5 (List.length_take_le' ..) (by rw [wM];exact Bt)
      exact t5 h1 (by exact Bt)
 |ln l=>
  rw [show Av n rl AA st yp yn ym (.ln l)=EH n ym yp l (As n ym ym AA st) (AB ym st).2 from rfl];cases yp
  . exact⟨hb _,by have:=hl ym;exact AU (t7 this)⟩
  . by_cases q:(AB (ym:Int) st).2.headD 0<(ym:Int)
    . rw [show EH n ym true l (As n ym ym AA st) (AB ym st).2=_ from if_pos q];exact((hb _).add (EL _ _ _ _ _)).add (EL _ _ _ _ _)
    . rw [show EH n ym true l (As n ym ym AA st) (AB ym st).2=_ from if_neg q];exact(hb _).add (EL _ _ _ _ _)
 |kw l=>
  rw [show Av n rl AA st yp yn ym (.kw l)=EI n ym yp l (As n ym ym AA st) (AB ym st).2 from rfl];cases yp
  . exact⟨(hb _).add (Ly _ _ _ _ _ _),by rw [t9,uw];have:=hl ym;exact AU (t7 this)⟩
  . by_cases q:(AB (ym:Int) st).2.headD 0<(ym:Int)
    . rw [show EI n ym true l (As n ym ym AA st) (AB ym st).2=_ from if_pos q];exact((((hb _).add (EL _ _ _ _ _)).add (EL _ _ _ _ _)).add (Ly _ _ _ _ _ _)).add (EL _ _ _ _ _)
    . rw [show EI n ym true l (As n ym ym AA st) (AB ym st).2=_ from if_neg q];exact(((hb _).add (EL _ _ _ _ _)).add (Ly _ _ _ _ _ _)).add (EL _ _ _ _ _)
 |BU=>
  rw [show Av n rl AA st yp yn ym .BU=Eb n ym yp (As n ym ym AA st) (AB ym st).2 from rfl];cases yp
  . exact(hb _).add (Ly _ _ _ _ _ _)
  . by_cases q:(AB (ym:Int) st).2.headD 0=(ym:Int)
    . rw [show Eb n ym true (As n ym ym AA st) (AB ym st).2=_ from if_pos q];exact⟨hb _,by have:=hl ym;exact AU (t7 this)⟩
    . rw [show Eb n ym true (As n ym ym AA st) (AB ym st).2=_ from if_neg q];exact(hb _).add (Ly _ _ _ _ _ _)
theorem WR.nice.mono{a b:Nat}(h:a<=b):∀{r:WR},r.nice a->r.nice b
 | .next _ _ _ _ _=>@fun x=> x
 | .brk _ _ _ _=>@fun x=> x
 | .ret _ _=>@fun x=> ⟨x.1,t5 x.2 h⟩
theorem Zh{n rl:Nat}:∀{ws:List Wd} {AA:List AV} {st:List Int} {yp yn:Bool} {ym:Nat},By st->DH AA->(CZ n rl ws AA st yp yn ym).nice (AA.length+st.length+5 * ws.length)
 | [],AA,st,yp,yn,ym,hS,h=> h
 |w::ws,AA,st,yp,yn,ym,hS,h=> by
  have h1:=sq (n:=n) (rl:=rl) (st:=st) (yp:=yp) (yn:=yn) (ym:=ym) (w:=w) h;have h2:=R4 (n:=n) (rl:=rl) (AA:=AA) (yp:=yp) (yn:=yn) (ym:=ym) (w:=w) hS;rw [IC];rw [uh];cases hw:Av n rl AA st yp yn ym w with
  |ret d r=> rw [hw]at h1;exact h1.mono (by exact Gi)
  |brk d s wt fr=> rw [hw]at h1;exact h1
  |next d s f wt a=> rw [hw]at h1 h2;exact(Zh (ws:=ws) h2.1 h1).mono (by have:=h2.2;exact AU this)
theorem Zi:∀{R:List (List Wd)} {n:Nat} {AA:List AV} {st:List Int} {yr yn:Bool},By st->DH AA->(B3 n R AA st yr yn).nice (AA.length+st.length+5 * BD R)
 | [],n,AA,st,yr,yn,hS,h=> h
 |ws::R,n,AA,st,yr,yn,hS,h=> by
  have h1:=Zh (n:=n) (rl:=(AM ws).length) (ws:=ws) (yp:=yr) (yn:=yn) (ym:=0) hS h;have hc:BD (ws::R)=ws.length+BD R:=rfl;rw [Lj];cases hw:CZ n (AM ws).length ws AA st yr yn 0 with
  |ret d r=> rw [hw]at h1;exact h1.mono (by lia)
  |next d s f wt a=> rw [hw]at h1;exact h1
  |brk d s wt fr=> rw [hw]at h1;have h2:=OO hS hw;exact(Zi (R:=R) h2.1 h1).mono (by have:=h2.2;lia)
theorem sr{R:List (List Wd)}(hc:BD R<=100):DH (DW R).1/\(DW R).1.length<=1500:=by
 have hS:By [-1]:=rfl;have h0:DH [AG DF .none 0 0 0 0]:=fun v hv=> by rw [u5.mp hv];exact EL _ _ _ _ _
 have h1:=Zi (R:=R) (n:=0) (yr:=true) (yn:=false) hS h0;unfold DW;cases hz:B3 0 R [AG DF .none 0 0 0 0] [-1] true false with
 |next d s f wt a=>
  exfalso;have:∀(R:List (List Wd)) (n:Nat) (AA:List AV) (st:List Int) (fr wt:Bool),∀d s f w a,B3 n R AA st fr wt≠ .next d s f w a:=by
   intro R
   induction R with
   |nil=> intro n AA st fr wt d s f w a h;cases h
   |cons ws R ih=>
    intro n AA st fr wt d s f w a h;rw [Lj]at h;have hn:∀(ws:List Wd) (AA:List AV) (st:List Int) (fr wt:Bool) (ym:Nat) (d:List AV) (s:List Int) (f w:Bool) (a:Nat),CZ n (AM ws).length ws AA st fr wt ym= .next d s f w a->False:=by
     intro ws;generalize(AM ws).length=rl
     induction ws with
     |nil=> intro AA st fr wt ym d s f w a h;cases h
     |cons x ws ih2=>
      intro AA st fr wt ym d s f w a h;rw [IC]at h;cases hx:Av n rl AA st fr wt ym x with
      |next _ _ _ _ _=> rw [hx]at h;exact ih2 _ _ _ _ _ _ _ _ _ _ h
      |brk _ _ _ _=> rw [hx]at h;cases h
      |ret _ _=> rw [hx]at h;cases h
    cases hx:CZ n (AM ws).length ws AA st fr wt 0 with
    |next _ _ _ _ _=> exact hn _ _ _ _ _ _ _ _ _ _ _ hx
    |brk _ _ _ _=> rw [hx]at h;exact ih _ _ _ _ _ _ _ _ _ _ h
    |ret _ _=> rw [hx]at h;cases h
  exact this _ _ _ _ _ _ _ _ _ _ _ hz
 |ret d r=> rw [hz]at h1;exact⟨h1.1,by have:=h1.2;show d.length<=1500;have e1:[AG DF .none 0 0 0 0].length=1:=rfl;have e2:([-1]:List Int).length=1:=rfl;lia⟩
 |brk d s wt fr=> rw [hz]at h1;have h2:=R7 hS hz;refine⟨(DH.rep h1 _ (EL _ _ _ _ _)).add (EL _ _ _ _ _),?_⟩;show((d++tv (s.length - 1) _)++[_]).length<=1500;rw [t9,t9,ub,uw];have e1:[AG DF .none 0 0 0 0].length=1:=rfl;have e2:([-1]:List Int).length=1:=rfl;have:=h2.2;lia
theorem sv{n rl:Nat}{AA d:List AV}{st:List Int}{yp yn:Bool}{ym a b:Nat}{w:Wd}(h:Av n rl AA st yp yn ym w= .ret d (.req a b)):a=n:=by
 cases(w)with
 |blank=> cases(h)
 |rem=> cases(h)
 |Cz w=> cases(h)
 |start=> cases(h)
 |stop=> cases(h)
 |dy=> cases(h)
 |dd=>
  by_cases ha:ym=0
  . rw [show Av n rl AA st yp yn ym .dd=_ from if_pos ha]at h;cases(h)
  . rw [show Av n rl AA st yp yn ym .dd=_ from if_neg ha]at h;cases(h)
 |ln l=>
  rw [show Av n rl AA st yp yn ym (.ln l)=EH n ym yp l (As n ym ym AA st) (AB ym st).2 from rfl]at h;unfold EH at h;cases(yp)
  . cases(h)
  . dsimp only at h;split at h<;>cases(h)
 |kw l=>
  rw [show Av n rl AA st yp yn ym (.kw l)=EI n ym yp l (As n ym ym AA st) (AB ym st).2 from rfl]at h;unfold EI at h;cases(yp)
  . cases(h)
  . dsimp only at h;split at h<;>cases(h)
 |BU=>
  rw [show Av n rl AA st yp yn ym .BU=Eb n ym yp (As n ym ym AA st) (AB ym st).2 from rfl]at h;unfold Eb at h;cases(yp)
  . cases(h)
  . dsimp only at h;split at h
    . cases(h);rfl
    . cases(h)
theorem Zj{n rl:Nat}{a b:Nat}{d:List AV}:∀{ws:List Wd} {AA:List AV} {st:List Int} {yp yn:Bool} {ym:Nat},CZ n rl ws AA st yp yn ym= .ret d (.req a b)->a=n
 | [],_,_,_,_,_,h=> by cases(h)
 |w::ws,AA,st,yp,yn,ym,h=> by
  rw [IC]at h;cases hw:Av n rl AA st yp yn ym w with
  |ret d r=> rw [hw]at h;cases(h);exact sv hw
  |brk _ _ _ _=> rw [hw]at h;cases(h)
  |next _ _ _ _ _=> rw [hw]at h;exact Zj h
theorem Zk{a b:Nat}{d:List AV}:∀{R:List (List Wd)} {n:Nat} {AA:List AV} {st:List Int} {yr yn:Bool},B3 n R AA st yr yn= .ret d (.req a b)->a<n+R.length
 | [],_,_,_,_,_,h=> by cases(h)
 |ws::R,n,AA,st,yr,yn,h=> by
  rw [Lj]at h;rw [uh];cases hw:CZ n (AM ws).length ws AA st yr yn 0 with
  |ret d r=> rw [hw]at h;cases(h);have:=Zj hw;exact A7 (t7 this)
  |next _ _ _ _ _=> rw [hw]at h;cases(h)
  |brk _ _ _ _=> rw [hw]at h;have:=Zk h;exact A7 this
theorem Zl:∀(ns:List Int) (R:List (List Wd)),(∀ws∈R,ws∈E1)->∀ws∈pick ns R,ws∈E1
 | []=>@fun R h=> h
 |n::r=>@fun R h=> by
  rw [R9];refine Zl r _ fun ws hw=> ?_;by_cases q:jl (R++[Cp n])<=36
  . rw [if_pos q]at hw;rcases uN.mp hw with hw |hw
    . exact h ws hw
    . rw [u5.mp hw];exact R8 n
  . rw [if_neg q]at hw;exact h ws hw
theorem sx(ns:List Int):∀ws∈drawn ns,ws∈Dn:=fun ws hw=> by
 have h1:=Zl (dl ns) [] (fun _ h=> by cases h);unfold drawn at hw;unfold Dn;split at hw
 . rcases uN.mp hw with hw |hw
   . exact uN.mpr (.inl (h1 ws hw))
   . exact uN.mpr (.inr hw)
 . exact uN.mpr (.inl (h1 ws hw))
theorem sy(k:Nat):isLE (C0 k)=true/\(C0 k).all Ez=true/\(C0 k).length<=2:=by rcases Y4 k with h |h |h<;>rw [h]<;>exact⟨rfl,rfl,by decide⟩
theorem Zm{le:List Nat}(hle:le.all Ez=true):∀{R:List (List Wd)},(∀ws∈R,ws∈Dn)->(Ca le R).all Ez=true
 | []=>@fun _=> rfl
 | [ws]=>@fun h=> ZM (h ws (.head _))
 |ws::zQ::R=>@fun h=> by show((AM ws++le)++Ca le (zQ::R)).all Ez=true;rw [w5,w5,ZM (h ws (.head _)),hle,Zm hle fun v hv=> h v (.tail _ hv)];rfl
theorem Zn{le:List Nat}(hl:le.length<=2):∀{R:List (List Wd)},(Ca le R).length<=((R.map AM).map uY).sum+2 * R.length
 | []=> uO _
 | [ws]=> by show(AM ws).length<=(AM ws).length+0+2 * 1;exact JD
 |ws::zQ::R=> by have ih:=Zn hl (R:=zQ::R);show((AM ws++le)++Ca le (zQ::R)).length<=(AM ws).length+(((zQ::R).map AM).map uY).sum+2 * ((zQ::R).length+1);rw [t9,t9];exact AU (uA ih hl)
theorem s7{c:Nat}(h:Ez c=true):(c !=65279)=true:=by
 rw [bne_iff_ne]
 rintro rfl
 cases h
theorem s8{bf:List Nat}{R:List (List Wd)}{ts:List Tk}{e:Option AV}(hf:KL bf R [AG DF .none 0 0 0 0] (B3 0 R [AG DF .none 0 0 0 0] [-1] true false) ts e):(Tk.start ⟨0,0,0⟩::ts).map Tk.row=(DW R).1/\SI bf (OQ R (DW R).2) e:=by
 unfold DW;cases hz:B3 0 R [AG DF .none 0 0 0 0] [-1] true false with
 |next _ _ _ _ _=> rw [hz]at hf;exact hf.elim
 |brk d s wt fr=> rw [hz]at hf;obtain(⟨rfl,hf⟩):=hf;exact⟨hf,rfl⟩
 |ret d r=> refine cps fun yv yt=> ?_;rw [hz]at hf;obtain(⟨hd,x,mk,c,rfl,hx,hr⟩):=hf;refine yt ?_;exact⟨hd,mk,c,hx,hr⟩
theorem tB(ns:List Int):∃h',∀d,Gr (AN PP fu (AD PP fu (d+13)) Kt ⟨[(N.Le,CH ns)],Y0⟩)= .ok (.bool true) h':=by
 refine cps fun yv yt=> ?_;obtain⟨y,_,h1⟩:=SD ns;have h2:=rI ns (y:=y);obtain⟨dv,x,z,g,hdv,h3⟩:=rJ ns (y:=y);have hG:=Y1 ns;have hT:=sx ns;obtain⟨l1,l2,l3⟩:=sy ns.length;obtain⟨b,b1,b2,b3,h4⟩:=rP (ns:=ns) (y:=y) (dv:=dv) (x:=x) (z:=z) (g:=g) hG (DW (drawn ns)).2 (fun a c e=> by
  unfold DW at e;cases hz:B3 0 (drawn ns) [AG DF .none 0 0 0 0] [-1] true false with
  |next _ _ _ _ _=> rw [hz]at e;cases e
  |brk _ _ _ _=> rw [hz]at e;cases e
  |ret d r=> rw [hz]at e;have e:some r=some (.req a c):=e;cases e;have:=Zk hz;have:=hG.len;lia)
 have ACA:=Zm l2 hT;have zD:=hG.sum;have htl:=Zn l3 (R:=drawn ns);have h5:=rR (x:=x) (z:=z) (g:=g) hG b3 ACA (by exact AU (uA htl (wj 2 zD)));have zi:(Ca (C0 ns.length) (drawn ns)++[0]).all (fun c=> c !=65279)=true:=by rw [w5];have:(Ca (C0 ns.length) (drawn ns)).all (fun c=> c !=65279)=true:=uM.mpr fun c hc=> s7 (uM.mp ACA c hc);rw [this];rfl
 obtain⟨ts,e,hr,hf⟩:=sj l1 hT hG.ne (t5 hG.cnt (by decide)) zi;obtain⟨n1,n2⟩:=sr (R:=drawn ns) (t5 hG.cnt (by decide));have ACi:=s8 hf;obtain⟨hr1,zh⟩:=ACi;have hl:(Tk.start ⟨0,0,0⟩::ts).length=(DW (drawn ns)).1.length:=by rw [<-hr1,uL]
 obtain⟨h',h6⟩:=rZ (b:=b) (t:=Ca (C0 ns.length) (drawn ns)) (lo:=.lst (Ak (drawn ns))::.lst x::.lst (z.reverse.map .int)::g) hr nofun (by exact AU (uA (t7 hl) n2)) (by rw [hr1];exact n1) (by
  rw [hr1,b1];rcases hdv with h |⟨h,hx⟩
  . exact .inl h
  . exact .inr ⟨h,.lst (Ak (drawn ns)),.lst (z.reverse.map .int)::g,by rw [hx]⟩) (by
  have:SI (Ca (C0 ns.length) (drawn ns)++[0]) b.ref e:=by rw [b2];exact zh
  exact this)
 refine yt ?_;refine⟨h',fun d=> ?_⟩;rw [<-h6 d];congr 1;exact CN (a:=[Lw 0,Lw 1]) (h1 (d+10)) (CN (a:=[Lw 2]) (h2 (d+10)) (CN (a:=[Lw 3]) (h3 (d+10)) (CN (a:=[Lw 4]) (h4 (d+10)) (CN (a:=[Lw 5,Lw 6,Lw 7]) (b:=[Lw 8,Lw 9]) (h5 (d+8)) rfl))))
end L4
end Internal
section
set_option maxHeartbeats 0
namespace Internal
theorem tC{R:WRecords}{cl:tq->Option Addr}{P:Params}{h:Heap}{args:List WData}{vals:List R5}{as:List Addr}(AB1:PySem.Challenge.rw_te0052_04.row.toRowW.claim.pre args=true)(AB2:WData.layableAll args=true)(hrd:ReadsAllW R cl h vals args as)(hwl:WellAll P h vals args)(hlo:∀a∈as,(a==sysModules)=false):
 ∃a vs ns,vals=[.ref a]/\args=[ofPy (.list (uV PyData.int ns))]/\h.IsList a vs.toArray/\IntsAre vs ns/\ns.length<=63:=by
 wrow_args AB1 AB2 hrd hwl hlo
 refine⟨_,_,_,rfl,rfl,by assumption,by assumption,by omega⟩
theorem tD:L4.Aq.all (Kp (progOf L4.Dv L4.Aq L4.Bm))=true:=by decide+kernel
theorem tE(G:Gx)(hp:G.prog=pw)(hk:Pg L4.Mt L4.Aq L4.Bm L4.Hh L4.Hg L4.Dv BR G.K=true)(ht:Mx G.K ((L4.Hh,L4.Hg)::L4.Dv)=G4 ((L4.Hh,L4.Hg)::L4.Dv) BR):∀{fl:List (Nat×Fn)},fl.all (fun p=> IT pw G.K (Gy (Gz G.K)) (Gw L4.Aq) 0 p.1 p.2 (BR p.1))=true->Mx G.K fl=G4 fl BR->∀a fn,DB fl a=some fn->IT G.prog G.K (Gy (Gz G.K)) (Gw L4.Aq) 0 a fn (BR a)=true/\Kq G.K a=some (Fb fn.body (BR a)):=by
 intro fl h1 h2 a fn e;have hm:=Kl e;clear e
 induction fl with
 |nil=> cases hm
 |cons p r ih=>
  obtain⟨g1,g2⟩:=xf h2;refine Aa (show(IT pw G.K _ _ 0 p.1 p.2 _&&List.all _ _)=true from h1) fun h1 h3=> ?_;cases hm with
  |head=> exact⟨hp▸h1,g1⟩
  |tail _ hm=> exact ih h3 g2 hm
theorem tF{o:Option (Option R5)}{a:Nat}(h:Tt o a=true):o=some (some (.ref a)):=by
 cases o with
 |none=> exact cFT h
 |some v=> cases v with
  |none=> exact cFT h
  |some v=> cases v with
   |ref b=> rw [uq h]
   |_=> exact cFT h
theorem tG{XP:(tq->Option R5)->Heap->Prop}{d:DefRec}{kwd:List (tq×Expr)}(hn:d.name=("law":tq)):
 WalkX vw Ja XP (fun s=> YS L4.Mt L4.Aq L4.Bm L4.Hh L4.Hg L4.Dv BR s.heap) (fun _=> True) PySem.Challenge.rw_te0052_04.row.toRowW d kwd fun f vs=> PySem.call f vs:=by
 intro w s₀ s₁ mg mb G Y fa o pm cd doc dV kV ho hd z8 hD hmg hg args vals as L AB1 AB2 hrd hwl hlo;clear ho hd z8 hD;obtain⟨a,vs,ns,rfl,rfl,hl,hi,hlen⟩:=tC AB1 AB2 hrd hwl hlo;obtain⟨K,k0,k1,k2⟩:=of_eq_true Y;have c:=J0 k1;have DR:∀y r,Gy (Gz K) y=some r->nsIn K mainGlobals y=some r:=mU (c 0);let GX:Gx:=⟨pw,w,K,vw,looseW vw Ja,ExcName.means s₀.heap,mg,mb,s₁.heap,s₁.os⟩;have X:K.In s₁.heap:=k0.keeps L.keeps;obtain⟨t1,t2⟩:=xf k2;have H:Hx GX (progOf L4.Dv L4.Aq L4.Bm) (Gy (Gz K)) (Gw L4.Aq):=mT (G:=GX) (tE GX rfl k1 k2 (c 4) t2) (c 1) tD DR;obtain⟨fd,F⟩:=Qt (G:=GX) (c 3) t1;have e:=mg_of X G.T.g (DR _ _ (tF (c 2)));rw [hn,e]at hmg;cases hmg;obtain⟨h',hr⟩:=L4.tB ns;refine uG (enter (fu:=L4.fu) (d:=80) H F rfl X G.T hg rfl (PySem.W.X.script_obj L hl) hi (t5 hlen (by decide)) (by decide) (h':=h') ?_) (fun v s' hq=> ?_) fun _ _ z=> z.elim
 . exact hr 67
 . obtain⟨rfl,z1,z2,z3⟩:=hq;exact⟨.inl ⟨_,.bool true,[],rfl,fun _=> rfl,.bool _,(by wrow_post),fun _=> ⟨List.nodup_nil,nofun⟩⟩,.of_keep z1,z3,.of_eq z2⟩
theorem tH:PySem.Challenge.rw_te0052_04.Holds:=by refine holds_law dU fun said=> ?_;refine holds_openX (q:=vw) (loose:=Ja) (Xt:=My) (XP:=PySem.W.XL vw []) (N:=10300) dk (fun s e=> xl_of s (t6.mp e).1) PySem.W.XL.keeps (by rfl) (by rfl) (by rfl) (fun s e=> recFacts_of (t6.mp e).2) rfl (by assumption) (by decide+kernel) ⟨rfl,rfl,rfl,rfl,rfl,by decide+kernel⟩ ⟨[.list []],by decide+kernel,by decide+kernel⟩ (tG rfl)
end Internal
end
theorem PySem.Challenge.cw_te0052_04_holds : PySem.Challenge.rw_te0052_04.Holds :=
 Internal.tH
