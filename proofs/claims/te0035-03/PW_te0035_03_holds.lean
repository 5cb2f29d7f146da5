import PyProof.Rows.All
import Wide.All
import OpenK.AllK
import Wide.FinOn
import PyProof.GenRules
import PyProof.GenObj
import PyProof.InstSpecial
import PyProof.ListIndexNeg
import PyProof.EnumStmt
import PyProof.EnumMake
import PyProof.StrLawsReplace
import PyProof.AttrMissHeap
import KE.KDictOf
import Lean
import PySem.Challenge.RW_te0035_03
set_option Elab.async false
set_option maxRecDepth 100000
set_option maxHeartbeats 4000000
set_option bootstrap.genMatcherCode false
set_option genSizeOf false
set_option linter.all false
section
set_option compiler.extract_closed false
local macro_rules (kind:=Lean.Parser.Command.declaration)
| s=>if s.getPos?.isNone||s[0][1].getNumArgs>0 then Lean.Macro.throwUnsupported else do
 let M:Lean.KVMap:=⟨("aj=Str.ofString ak=List aq=length au=cps.toList az=some aA=Nat.le_trans aB=PySem.Expr aC=heap.objs.size aD=Nat.le_of_ble_eq_true aF=Nat.le_of_not_lt aH=Option aI=Value aJ=toArray aK=wpAny_bind aL=c.w.params aM=Bool aN=env.locals aO=Nat.le_of_eq aP=s.heap aQ=Addr aR=list aU=rest aV=Nat.min_eq_left aW=wpAny_mono aX=length_append aY=if_neg aZ=Shared bf=BindsTo.of_eq bg=mem_append_right bh=Nat.lt_of_lt_of_le bk=getElem?_eq_getElem br=cons bw=wpAny_pure bz=Nat.le_refl bA=mem_append_left bB=mem_cons.mp bC=Nat.zero_le bD=scope bF=bool bH=Nat.add_le_add_left bI=Nat.add_le_add bJ=if_pos bK=false_ne_true bM=congrArg bN=and_eq_true bO=dict bQ=Heap.get?_push_of_some bR=mem_singleton.mp bT=length_map bU=c.prog bV=all_eq_true.mp bW=names.lookup bX=of_decide_eq_true bY=items bZ=size_toArray b9=Nat.lt_of_le_of_lt cg=mem_of_getElem? cj=builtin cu=Nat.le_add_right cz=getElem?_eq_some_iff.mp cA=decide_eq_true_eq cB=Nat.succ_le_of_lt cC=told cD=Nat.succ_pos cF=get? cG=others cH=Int.natCast_nonneg cI=tail cJ=mem_append.mp cK=decide_eq_false cL=eq_of_beq cM=False cN=decide_eq_true cO=absurd cP=Nat.lt_of_not_le cQ=Nat.lt_irrefl cR=inst cT=nodup_cons cU=beq_self_eq_true cV=append_assoc cY=wpAny_holding cZ=wpAny c8=Heap dg=type dh=len_str dw=head dz=Nat.add_le_add_right dB=model dD=Nat.zero_add dF=Int.ofNat_lt dG=Nat.mul_le_mul_left dH=Nonempty dI=Builtin dJ=Nat.add_assoc dK=kernel dM=size dN=Params dO=body dR=Around dU=Nat.le_antisymm dW=take_of_length_le dX=Array dY=Nat.lt_succ_self dZ=Nat.succ_le_succ d8=heap eu=append_nil eF=lookup eG=same eK=beq_false_of_ne eL=take eN=Nat.le_of_succ_le_succ eV=s.toks eW=mono eX=length_take eZ=Nat.add_comm fu=sizeLine fB=get?_push_size fC=Nat.le_of_lt_succ fD=outer fG=not_lt.mpr fJ=value fM=l.map fO=Int.ofNat_le fP=Nat.le_of_lt fQ=r.inv fR=Nat.le_succ_of_le fX=drop fZ=GenState f9=data gc=target gf=SeqAt.EqAt gh=DictEntry gn=Nat.lt_succ_of_lt gq=wpAny_loadPart' gr=keep gB=pure gD=S.apart gF=attr gJ=σ.W gK=part gM=c.K gO=Scope gR=toNat gV=c.h₀ gX=length_drop gY=Nat.ne_of_lt gZ=iter g6=contains_iff_mem.mp g7=Nat.le_add_left g9=elim ie=map_append iu=lt_size iw=wpAny_standAt iy=s.off iz=s.ch iB=mainGlobals iD=gens iG=S.base iH=map_eq_some_iff.mp iI=getElem?_map iK=Nat.succ_add_eq_add_succ iL=Nat.min_le_right iM=length_toList iT=Nodup iW=Stmt iX=beq_iff_eq iY=getD_eq_getElem?_getD i7=NameKind.globalImplicit i8=MeetsSeq3.plain_eq_loop i9=whileLoop jg=push jh=getElem?_append_left ji=baseOf jk=S.out jm=handled jo=nodup_append jq=strKind jt=mem_map.mp ju=BoolOp jw=nil_append jx=σ.T jy=getElem?_append_right jz=takeWhile_cons_of_neg jE=drawn jF=A.frames jG=contains jH=behindInMarks jI=clipAt jJ=drop_append_of_le_length jK=Nat.ne_of_gt jL=Range.rangeSize jM=take_add_one jO=CallD jQ=Nat.lt_of_lt_of_eq jR=Nat.pos_of_ne_zero jW=hlen jX=takeWhile jY=drop_eq_getElem_cons jZ=Nat.add_sub_cancel_left j5=c.w j9=builtins kh=keeps kj=Nat.lt_of_succ_lt ku=forall_mem_cons.mpr kB=Nat.add_sub_cancel' kK=sizeLine_eq kM=length_cons kN=S.ok kR=FuncData kT=takeWhile_cons_of_pos kU=succ kW=Nat.min_eq_right kY=names k7=mem_range.mpr lg=prog lq=ListComp lu=decide_eq_decide.mpr lD=elts lE=globals lH=Nat.not_lt_zero lI=cell lJ=or_eq_true lK=Nat.sub_le lO=zero lP=Operator lR=dictOf lU=Nat.lt_of_succ_lt_succ lW=Nat.sub_self lY=unsupported lZ=fd.qualname l8=Subscript l9=getElem?_eq_none mJ=mem_iff_getElem.mp mQ=Name mU=isKey mW=Attribute mX=letOwnedTupleGo mY=ForInStep.yield mZ=env.cells m9=Here ng=function ni=Range.small nj=numSign nu=toList nA=toks nB=keys nD=bne_iff_ne nI=A.units nJ=SameBut nM=Nat.lt_add_of_pos_right nO=objs nP=Int.eq_ofNat_of_zero_le nQ=toList_toArray nY=PySem nZ=not_mem_nil n6=fd.defaults n7=Yield ou=Nat.lt_or_eq_of_le oA=Compare oB=eraseIdxIfInBounds oE=not_eq_true' oF=used oV=finished oW=or_false oX=turn oY=While oZ=Nat.min_le_left o7=codeAny_builtin o8=mem_of_mem_take pg=mem_filterMap pA=getElem?_drop pJ=fields pK=builtinLookup_eq_fast pL=length_eq_zero_iff.mp pN=map_map pO=wpAny_newObj_type pP=drop_of_length_le p6=PyData.keyHash p7=cons_append p8=V.int p9=cs.map qb=Txt.startswith qe=isSubtype_type qg=Nat.sub_add_eq qj=Nat.sub_succ_lt_self qk=Nat.le_zero.mp qt=isEmpty qu=sameBut qw=holding qx=Nat.lt_or_ge qy=size_push qz=Int.le_trans qA=weak qB=rows qJ=h₀ qW=starEach qX=S.ns qY=Unit qZ=setIfInBounds q7=join_nil q8=Nat.ble q9=wpAny_execs_nil rm=wpAny_specialOf rA=valueAt rB=l.foldl rE=σ.loc rF=cont rG=findIn rH=wpAny_call rI=Result rJ=filter rK=ls.map rL=reverseAux rO=frame rP=all_eq_true rQ=slicePicked rR=MeetsSeq3.entry_eq_loop rT=not_lt.mp rU=getElem?_eq_none_iff.mp su=kind sI=refl sJ=isSome sO=S.above sS=S.loc sU=reverse sV=Keeper.boundFrame sW=Tuple sX=strPairs sY=TypeIs sZ=add_right_comm s6=max_eq_right s7=bne_self_eq_false s8=Nat.mul_succ s9=Nat.exists_eq_add_one_of_ne_zero tG=Expr tO=range tQ=A.in1 tR=Nat.le_of_sub_eq_zero ug=extBut uh=update um=fmod uo=and_false uq=eq_iff_iff uw=Program uy=mem_singleton uz=codeAny uA=ExceptHandler uB=plainId_quiet uC=under_plainId uD=Int.ofNat.inj u0=Stat u5=divisionGoesByPylong u6=occurrences u9=String vd=typeLookup_type vg=typeIs vh=mem_of_mem_drop vC=execs vD=Str.strSliceIndices vG=Range.rangeFitsLong vQ=bootBuiltins vR=ItemsOf vU=Nat.sub_zero vV=wpAny_richCompare_same_room vW=drop_zero we=Nat.add_lt_add_of_lt_of_le wg=builtinsNs wj=Calls.Name_function_global wk=Keeper.machine wu=DictOf wz=typeLookup wA=Assign wB=map_congr_left wC=lt_trans wD=Int.sub_eq_add_neg wF=lastOccurrence wG=sysModules wH=append_toArray wJ=Nat.sub_add_cancel wK=seg_execs_cons wL=Nat.lt_of_le_of_ne wM=of_decide_eq_false wN=foldl_cons w4=func xq=mem_map.mpr xr=he.look xu=isCoroutine xw=Binds xx=BindsTo xy=Nat.le_succ xA=StrLaws xB=fastTable_eq_tree xC=slot_list_setitem xD=wpAny_dictEntries xE=Nat.sub_pos_of_lt xF=V.pure_mono xG=take_length xH=takeWhile_sublist xP=Frag xQ=eval_Constant xR=keepIn xT=wpAny_comprehension_free xU=fdiv xV=getD xW=F.slot_list_getattribute xX=filter_append xY=envOfC xZ=eq_nil_of_length_eq_zero yc=semi yd=grow yg=Int.ofNat_inj yJ=base yK=depth yL=key.isStr yM=l.all yN=Constant yO=hasDictIn yP=map_cons yQ=p.le yR=Nat.not_lt_of_le".splitOn " ").map fun x=>let p:=x.splitOn "="; (p.head!.toName,.ofName p.getLast!.toName)⟩
 let t:=s.rewriteBottomUp fun x=>if x.isIdent && !x.getId.hasMacroScopes then Lean.mkIdent (x.getId.components.foldl (fun a n=>a++M.getName n n) .anonymous) else x.setInfo .none
 let q←`(noncomputable def x:=0)
 pure (if t[1].isOfKind `Lean.Parser.Command.definition||t[1].isOfKind `Lean.Parser.Command.abbrev then t.setArg 0 (t[0].setArg 4 (q.raw[0][4].rewriteBottomUp (·.setInfo .none))) else t)
set_option tactic.hygienic false
set_option tactic.hygienic true
section
namespace HL.Lake
open PySem PySem.W PyProof.Rows
local macro_rules |`(tactic|o_head $_H)=>`(tactic|assumption)
set_option Elab.async false in
set_option maxHeartbeats 0 in
theorem top(h:nY.Challenge.rw_te0035_03.row.Holds):nY.Challenge.rw_te0035_03.row.Holds:=by k_head
end HL.Lake
end
set_option tactic.hygienic false
section
namespace HL.Lake
open PySem PySem.W PySem.Calls PyProof.Rows
@[elab_as_elim] theorem rwm{α:Sort _}{a b:α}{motive:α->Prop}(h:a=b)(q:motive b):motive a:=h▸q
@[elab_as_elim] theorem rwn{α:Sort _}{a b:α}{motive:α->Prop}(h:b=a)(q:motive b):motive a:=h▸q
end HL.Lake
set_option tactic.hygienic true
local macro_rules (kind:=Lean.Parser.Tactic.rwSeq)
|s=>if s[3].getNumArgs>0 then Lean.Macro.throwUnsupported else do
 let n:=Lean.Syntax.node .none
 let a:=Lean.mkAtom
 let N:=n Lean.nullKind
 let b:=λt=>n Lean.groupKind #[a "|",n `Lean.Parser.Tactic.tacticSeq #[n `Lean.Parser.Tactic.tacticSeq1Indented #[N #[t]]]]
 pure (N ((s[2][1].getSepArgs.map λx=>n `Lean.Parser.Tactic.first #[a "first",N #[b (n `Lean.Parser.Tactic.refine #[a "refine",n `Lean.Parser.Term.app #[Lean.mkIdent (.str `HL.Lake (if x[0].getNumArgs==0 then"rwm" else"rwn")),N #[n `Lean.Parser.Term.app #[x[1],N #[n `Lean.Parser.Term.ellipsis #[a ".."]]],n `Lean.Parser.Term.syntheticHole #[a "?",a "_"]]]]),b (n `Lean.Parser.Tactic.rewriteSeq #[a "rewrite",s[1],s[2].setArg 1 (N #[x]),s[3]])]]).push (<-`(tactic|try with_reducible rfl))))
set_option tactic.hygienic false
namespace HL.Lake
open PySem PySem.W PySem.Calls PyProof.Rows
theorem gC{P:Prop}(h:∀G:Prop,(P->G)->G):P:=h P id
theorem iU{A B:Prop}{G:Prop}(h:A/\B)(g:A->B->G):G:=by
 obtain⟨a0,a1⟩:=h
 exact g a0 a1
theorem zN{A B C:Prop}{G:Prop}(h:A/\B/\C)(g:A->B->C->G):G:=by
 obtain⟨a0,a1,a2⟩:=h
 exact g a0 a1 a2
theorem YY{A B C D:Prop}{G:Prop}(h:A/\B/\C/\D)(g:A->B->C->D->G):G:=by
 obtain⟨a0,a1,a2,a3⟩:=h
 exact g a0 a1 a2 a3
theorem YZ{A B C D E:Prop}{G:Prop}(h:A/\B/\C/\D/\E)(g:A->B->C->D->E->G):G:=by
 obtain⟨a0,a1,a2,a3,a4⟩:=h
 exact g a0 a1 a2 a3 a4
theorem eO{T0:Sort _}{A:T0->Prop}{G:Prop}(h:∃x,A x)(g:∀x,A x->G):G:=by
 obtain⟨x,a0⟩:=h
 exact g x a0
theorem gg{T0:Sort _}{A B:T0->Prop}{G:Prop}(h:∃x,A x/\B x)(g:∀x,A x->B x->G):G:=by
 obtain⟨x,a0,a1⟩:=h
 exact g x a0 a1
theorem uE{T0:Sort _}{A B C:T0->Prop}{G:Prop}(h:∃x,A x/\B x/\C x)(g:∀x,A x->B x->C x->G):G:=by
 obtain⟨x,a0,a1,a2⟩:=h
 exact g x a0 a1 a2
theorem E6{T0:Sort _}{A B C D:T0->Prop}{G:Prop}(h:∃x,A x/\B x/\C x/\D x)(g:∀x,A x->B x->C x->D x->G):G:=by
 obtain⟨x,a0,a1,a2,a3⟩:=h
 exact g x a0 a1 a2 a3
theorem Hz{T0:Sort _}{A B C D E:T0->Prop}{G:Prop}(h:∃x,A x/\B x/\C x/\D x/\E x)(g:∀x,A x->B x->C x->D x->E x->G):G:=by
 obtain⟨x,a0,a1,a2,a3,a4⟩:=h
 exact g x a0 a1 a2 a3 a4
theorem E1{T0 T1:Sort _}{A:T0->T1->Prop}{G:Prop}(h:∃x,∃y,A x y)(g:∀x y,A x y->G):G:=by
 obtain⟨x,y,a0⟩:=h
 exact g x y a0
theorem Ht{T0 T1:Sort _}{A B:T0->T1->Prop}{G:Prop}(h:∃x,∃y,A x y/\B x y)(g:∀x y,A x y->B x y->G):G:=by
 obtain⟨x,y,a0,a1⟩:=h
 exact g x y a0 a1
theorem oH{T0 T1:Sort _}{A B C:T0->T1->Prop}{G:Prop}(h:∃x,∃y,A x y/\B x y/\C x y)(g:∀x y,A x y->B x y->C x y->G):G:=by
 obtain⟨x,y,a0,a1,a2⟩:=h
 exact g x y a0 a1 a2
theorem x24{T0 T1:Sort _}{A B C D:T0->T1->Prop}{G:Prop}(h:∃x,∃y,A x y/\B x y/\C x y/\D x y)(g:∀x y,A x y->B x y->C x y->D x y->G):G:=by
 obtain⟨x,y,a0,a1,a2,a3⟩:=h
 exact g x y a0 a1 a2 a3
theorem x25{T0 T1:Sort _}{A B C D E:T0->T1->Prop}{G:Prop}(h:∃x,∃y,A x y/\B x y/\C x y/\D x y/\E x y)(g:∀x y,A x y->B x y->C x y->D x y->E x y->G):G:=by
 obtain⟨x,y,a0,a1,a2,a3,a4⟩:=h
 exact g x y a0 a1 a2 a3 a4
theorem x26{T0 T1:Sort _}{A B C D E F:T0->T1->Prop}{G:Prop}(h:∃x,∃y,A x y/\B x y/\C x y/\D x y/\E x y/\F x y)(g:∀x y,A x y->B x y->C x y->D x y->E x y->F x y->G):G:=by
 obtain⟨x,y,a0,a1,a2,a3,a4,a5⟩:=h
 exact g x y a0 a1 a2 a3 a4 a5
theorem x27{T0 T1:Sort _}{A B C D E F H:T0->T1->Prop}{G:Prop}(h:∃x,∃y,A x y/\B x y/\C x y/\D x y/\E x y/\F x y/\H x y)(g:∀x y,A x y->B x y->C x y->D x y->E x y->F x y->H x y->G):G:=by
 obtain⟨x,y,a0,a1,a2,a3,a4,a5,a6⟩:=h
 exact g x y a0 a1 a2 a3 a4 a5 a6
theorem x32{T0 T1 T2:Sort _}{A B:T0->T1->T2->Prop}{G:Prop}(h:∃x,∃y,∃z,A x y z/\B x y z)(g:∀x y z,A x y z->B x y z->G):G:=by
 obtain⟨x,y,z,a0,a1⟩:=h
 exact g x y z a0 a1
theorem xJ{T0 T1 T2:Sort _}{A B C:T0->T1->T2->Prop}{G:Prop}(h:∃x,∃y,∃z,A x y z/\B x y z/\C x y z)(g:∀x y z,A x y z->B x y z->C x y z->G):G:=by
 obtain⟨x,y,z,a0,a1,a2⟩:=h
 exact g x y z a0 a1 a2
theorem E3{T0 T1 T2:Sort _}{A B C D:T0->T1->T2->Prop}{G:Prop}(h:∃x,∃y,∃z,A x y z/\B x y z/\C x y z/\D x y z)(g:∀x y z,A x y z->B x y z->C x y z->D x y z->G):G:=by
 obtain⟨x,y,z,a0,a1,a2,a3⟩:=h
 exact g x y z a0 a1 a2 a3
theorem KI{T0 T1 T2:Sort _}{A B C D E:T0->T1->T2->Prop}{G:Prop}(h:∃x,∃y,∃z,A x y z/\B x y z/\C x y z/\D x y z/\E x y z)(g:∀x y z,A x y z->B x y z->C x y z->D x y z->E x y z->G):G:=by
 obtain⟨x,y,z,a0,a1,a2,a3,a4⟩:=h
 exact g x y z a0 a1 a2 a3 a4
theorem x36{T0 T1 T2:Sort _}{A B C D E F:T0->T1->T2->Prop}{G:Prop}(h:∃x,∃y,∃z,A x y z/\B x y z/\C x y z/\D x y z/\E x y z/\F x y z)(g:∀x y z,A x y z->B x y z->C x y z->D x y z->E x y z->F x y z->G):G:=by
 obtain⟨x,y,z,a0,a1,a2,a3,a4,a5⟩:=h
 exact g x y z a0 a1 a2 a3 a4 a5
theorem x43{T0 T1 T2 T3:Sort _}{A B C:T0->T1->T2->T3->Prop}{G:Prop}(h:∃x,∃y,∃z,∃u,A x y z u/\B x y z u/\C x y z u)(g:∀x y z u,A x y z u->B x y z u->C x y z u->G):G:=by
 obtain⟨x,y,z,u,a0,a1,a2⟩:=h
 exact g x y z u a0 a1 a2
theorem MX{T0 T1 T2 T3:Sort _}{A B C D E:T0->T1->T2->T3->Prop}{G:Prop}(h:∃x,∃y,∃z,∃u,A x y z u/\B x y z u/\C x y z u/\D x y z u/\E x y z u)(g:∀x y z u,A x y z u->B x y z u->C x y z u->D x y z u->E x y z u->G):G:=by
 obtain⟨x,y,z,u,a0,a1,a2,a3,a4⟩:=h
 exact g x y z u a0 a1 a2 a3 a4
theorem x06{A B C D E F:Prop}{G:Prop}(h:A/\B/\C/\D/\E/\F)(g:A->B->C->D->E->F->G):G:=by
 obtain⟨a0,a1,a2,a3,a4,a5⟩:=h
 exact g a0 a1 a2 a3 a4 a5
theorem x08{A B C D E F H I:Prop}{G:Prop}(h:A/\B/\C/\D/\E/\F/\H/\I)(g:A->B->C->D->E->F->H->I->G):G:=by
 obtain⟨a0,a1,a2,a3,a4,a5,a6,a7⟩:=h
 exact g a0 a1 a2 a3 a4 a5 a6 a7
theorem x54{T0 T1 T2 T3 T4:Sort _}{A B C D:T0->T1->T2->T3->T4->Prop}{G:Prop}(h:∃x,∃y,∃z,∃u,∃v,A x y z u v/\B x y z u v/\C x y z u v/\D x y z u v)(g:∀x y z u v,A x y z u v->B x y z u v->C x y z u v->D x y z u v->G):G:=by
 obtain⟨x,y,z,u,v,a0,a1,a2,a3⟩:=h
 exact g x y z u v a0 a1 a2 a3
theorem x63{T0 T1 T2 T3 T4 T5:Sort _}{A B C:T0->T1->T2->T3->T4->T5->Prop}{G:Prop}(h:∃x,∃y,∃z,∃u,∃v,∃w,A x y z u v w/\B x y z u v w/\C x y z u v w)(g:∀x y z u v w,A x y z u v w->B x y z u v w->C x y z u v w->G):G:=by
 obtain⟨x,y,z,u,v,w,a0,a1,a2⟩:=h
 exact g x y z u v w a0 a1 a2
theorem x71{T0 T1 T2 T3 T4 T5 T6:Sort _}{A:T0->T1->T2->T3->T4->T5->T6->Prop}{G:Prop}(h:∃x,∃y,∃z,∃u,∃v,∃w,∃s,A x y z u v w s)(g:∀x y z u v w s,A x y z u v w s->G):G:=by
 obtain⟨x,y,z,u,v,w,s,a0⟩:=h
 exact g x y z u v w s a0
theorem x72{T0 T1 T2 T3 T4 T5 T6:Sort _}{A B:T0->T1->T2->T3->T4->T5->T6->Prop}{G:Prop}(h:∃x,∃y,∃z,∃u,∃v,∃w,∃s,A x y z u v w s/\B x y z u v w s)(g:∀x y z u v w s,A x y z u v w s->B x y z u v w s->G):G:=by
 obtain⟨x,y,z,u,v,w,s,a0,a1⟩:=h
 exact g x y z u v w s a0 a1
theorem nn{α:Type _}{a:aH α}{o:α}{P:Prop}(h:a=none)(k:a=az o):P:=aH.noConfusion rfl (heq_of_eq (h.symm.trans k))
set_option genCtorIdx false in
set_option genInjectivity false in
inductive LN
 |n (k:Nat)|v (i:Nat)|a (x y:LN)|m (k:Nat) (x:LN)
def ati:ak Nat->Nat->Nat
 |[],_=>0
 |x::_,0=>x
 |_::r,i+1=>ati r i
def LN.d(xs:ak Nat):LN->Nat
 |.n k=>k
 |.v i=>ati xs i
 |.a x y=>x.d xs+y.d xs
 |.m k x=>k * x.d xs
def LN.k:LN->Nat
 |.n k=>k
 |.v _=>0
 |.a x y=>x.k+y.k
 |.m k x=>k * x.k
def LN.w(i:Nat):LN->Nat
 |.n _=>0
 |.v j=>if i=j then 1 else 0
 |.a x y=>x.w i+y.w i
 |.m k x=>k * x.w i
def LN.dot(e:LN):ak Nat->Nat->Nat
 |[],_=>0
 |x::r,i=>e.w i * x+e.dot r (i+1)
theorem LN.Zq(k:Nat)(xs:ak Nat):∀i:Nat,(LN.n k).dot xs i=0:=by
 induction xs with
 |nil=>exact λz9=>rfl
 |br x r ih=>exact λi=>(bM (0 * x+·) (ih (i+1))).trans (Nat.zero_mul x)
theorem LN.Zr(x y:LN)(xs:ak Nat):∀i:Nat,(LN.a x y).dot xs i=x.dot xs i+y.dot xs i:=by
 induction xs with
 |nil=>exact λz9=>rfl
 |br z r ih=>
  intro i
  show(x.w i+y.w i) * z+(LN.a x y).dot r (i+1)=(x.w i * z+x.dot r (i+1))+(y.w i * z+y.dot r (i+1))
  rw[ih,Nat.add_mul,Nat.add_add_add_comm]
theorem LN.Zs(k:Nat)(x:LN)(xs:ak Nat):∀i:Nat,(LN.m k x).dot xs i=k * x.dot xs i:=by
 induction xs with
 |nil=>exact λz9=>rfl
 |br z r ih=>
  intro i
  show k * x.w i * z+(LN.m k x).dot r (i+1)=k * (x.w i * z+x.dot r (i+1))
  rw[ih,Nat.mul_add,Nat.mul_assoc]
theorem LN.VF(j:Nat)(xs:ak Nat):∀i:Nat,j<i->(LN.v j).dot xs i=0:=by
 induction xs with
 |nil=>exact λz9 z9=>rfl
 |br z r ih=>
  intro i h
  show(if i=j then 1 else 0) * z+(LN.v j).dot r (i+1)=0
  rw[ih (i+1) (gn h),aY (jK h)]
  exact Nat.zero_mul z
theorem LN.Zt(xs:ak Nat):∀(i j:Nat),(LN.v (i+j)).dot xs i=ati xs j:=by
 induction xs with
 |nil=>exact λz9 z9=>rfl
 |br z r ih=>
  intro i j
  cases j with
  |lO=>
   show(if i=i then 1 else 0) * z+(LN.v i).dot r (i+1)=z
   rw[LN.VF _ r (i+1) (dY _),bJ rfl]
   exact Nat.one_mul z
  |kU j=>
   show(if i=i+(j+1)then 1 else 0) * z+(LN.v (i+(j+1))).dot r (i+1)=ati r j
   rw[aY (gY (nM (cD j))),Nat.zero_mul,dD,show i+(j+1)=(i+1)+j from(iK i j).symm]
   exact ih (i+1) j
theorem LN.Zu(xs:ak Nat)(e:LN):e.d xs=e.k+e.dot xs 0:=by
 induction e with
 |n k=>exact(bM (k+·) (LN.Zq k xs 0)).symm
 |v j=>exact((dD _).trans ((bM (λz=>(LN.v z).dot xs 0) (dD j).symm).trans (LN.Zt xs 0 j))).symm
 |a x y hx hy=>
  show x.d xs+y.d xs=(x.k+y.k)+(LN.a x y).dot xs 0
  rw[LN.Zr,hx,hy,Nat.add_add_add_comm]
 |m k x hx=>
  show k * x.d xs=k * x.k+(LN.m k x).dot xs 0
  rw[LN.Zs,hx,Nat.mul_add]
def LN.all(l r:LN):Nat->aM
 |0=>true
 |i+1=>q8 (r.w i) (l.w i)&&LN.all l r i
theorem LN.VG{l r:LN}{N i:Nat}(h:LN.all l r N=true)(hi:i<N):r.w i<=l.w i:=by
 induction N with
 |lO=>exact cO hi (lH _)
 |kU N ih=>
  have h':=(aM.bN _ _).mp h
  rcases ou (fC hi)with h1|h1
  ·exact ih h'.2 h1
  ·exact h1▸aD h'.1
theorem LN.VH{l r:LN}(xs:ak Nat):∀i:Nat,(∀j,i<=j->j<i+xs.aq->r.w j<=l.w j)->r.dot xs i<=l.dot xs i:=by
 induction xs with
 |nil=>exact λz9 z9=>bz _
 |br x s ih=>exact λi h=>bI (Nat.mul_le_mul_right x (h i (bz i) (nM (cD _)))) (ih (i+1) λj h1 h2=>h j (Nat.le_of_succ_le h1) (jQ h2 (iK i s.aq)))
def LN.gt(n:Nat)(l r:LN):aM:=q8 (r.k+1) l.k&&LN.all l r n
theorem LN.no{xs:ak Nat}{l r:LN}(h:LN.gt xs.aq l r=true)(h1:l.d xs<=r.d xs):cM:=by
 have h':=(aM.bN _ _).mp h
 rw[LN.Zu,LN.Zu]at h1
 have h2:=LN.VH (l:=l) (r:=r) xs 0 λj z9 hj=>LN.VG h'.2 (jQ hj (dD _))
 exact Nat.fG h1 (we (aD h'.1) h2)
section
variable{l1 r1 l2 r2 l3 r3 l4 r4 l5 r5 l6 r6 l7 r7:LN}
theorem LN.ad{xs:ak Nat}(k:Nat)(h1:l1.d xs<=r1.d xs)(h2:l2.d xs<=r2.d xs):(LN.a (.m k l1) l2).d xs<=(LN.a (.m k r1) r2).d xs:=bI (dG k h1) h2
theorem n1(xs:ak Nat)(l1 r1:LN)(h:LN.gt xs.aq l1 r1=true)(h1:l1.d xs<=r1.d xs):cM:=LN.no h h1
theorem n2(xs:ak Nat)(k1:Nat)(l1 r1:LN)(k2:Nat)(l2 r2:LN)(h:LN.gt xs.aq (.a (.m k1 l1) (.m k2 l2)) (.a (.m k1 r1) (.m k2 r2))=true)(h1:l1.d xs<=r1.d xs)(h2:l2.d xs<=r2.d xs):cM:=LN.no h (LN.ad k1 h1 (dG k2 h2))
theorem n3(xs:ak Nat)(k1:Nat)(l1 r1:LN)(k2:Nat)(l2 r2:LN)(k3:Nat)(l3 r3:LN)(h:LN.gt xs.aq (.a (.m k1 l1) (.a (.m k2 l2) (.m k3 l3))) (.a (.m k1 r1) (.a (.m k2 r2) (.m k3 r3)))=true)(h1:l1.d xs<=r1.d xs)(h2:l2.d xs<=r2.d xs)(h3:l3.d xs<=r3.d xs):cM:=LN.no h (LN.ad k1 h1 (LN.ad k2 h2 (dG k3 h3)))
theorem n4(xs:ak Nat)(k1:Nat)(l1 r1:LN)(k2:Nat)(l2 r2:LN)(k3:Nat)(l3 r3:LN)(k4:Nat)(l4 r4:LN)(h:LN.gt xs.aq (.a (.m k1 l1) (.a (.m k2 l2) (.a (.m k3 l3) (.m k4 l4)))) (.a (.m k1 r1) (.a (.m k2 r2) (.a (.m k3 r3) (.m k4 r4))))=true)(h1:l1.d xs<=r1.d xs)(h2:l2.d xs<=r2.d xs)(h3:l3.d xs<=r3.d xs)(h4:l4.d xs<=r4.d xs):cM:=LN.no h (LN.ad k1 h1 (LN.ad k2 h2 (LN.ad k3 h3 (dG k4 h4))))
theorem n5(xs:ak Nat)(k1:Nat)(l1 r1:LN)(k2:Nat)(l2 r2:LN)(k3:Nat)(l3 r3:LN)(k4:Nat)(l4 r4:LN)(k5:Nat)(l5 r5:LN)(h:LN.gt xs.aq (.a (.m k1 l1) (.a (.m k2 l2) (.a (.m k3 l3) (.a (.m k4 l4) (.m k5 l5))))) (.a (.m k1 r1) (.a (.m k2 r2) (.a (.m k3 r3) (.a (.m k4 r4) (.m k5 r5)))))=true)(h1:l1.d xs<=r1.d xs)(h2:l2.d xs<=r2.d xs)(h3:l3.d xs<=r3.d xs)(h4:l4.d xs<=r4.d xs)(h5:l5.d xs<=r5.d xs):cM:=LN.no h (LN.ad k1 h1 (LN.ad k2 h2 (LN.ad k3 h3 (LN.ad k4 h4 (dG k5 h5)))))
end
theorem Ra(a b:Nat):a<=a - b+b:=Nat.le_add_of_sub_le (bz _)
theorem Y0{x:Nat}(h:x<=10000):x<=fu:=by rw[kK];exact aA h (aD rfl)
theorem DO{x:Nat}(h:x<=10000):(x:Int)<2^63:=Int.lt_of_le_of_lt (fO.mpr h) (by decide)
theorem Zv{x:Nat}(h:x<=10000):¬((x:Int)>=2^63):=Int.not_le.mpr (DO h)
inductive V where
 |none|bF (b:aM)|int (i:Int)|str (s:Str)
 |st (v:aI)
 |ob (i:Nat)
 |lo (i:Nat)
 |cR (C:aQ) (i:Nat)
 |tup (l:ak V)|aR (l:ak V)|bO (l:ak (Str×V))
 |meth (f:aI) (self:V)
inductive AO where
 |aR (l:ak V)
 |bO (l:ak (Str×V))
 /-- a variable ahu inner scopes see:CO place in Zw table,CO address,CO number -/
 |lI(i:Nat)(x:aQ)(k:aH Int)
set_option genInjectivity false in
structure Cx where
 lg:uw
 w:World
 K:xP
 qJ:c8
 mg:Str->aH aI
 mb:Str->aH aI
 X:K.In qJ
 nl:qJ.NoLimit
 g:qJ.Ns iB mg
 b:qJ.Ns wg mb
 bi:∀x:Str,x≠"__name__"->mb x=vQ x
 nd:∃mc,qJ.Ns cStatics mc/\mc "sys.int_max_str_digits"=none
abbrev c7:=aQ->aH Obj
mutual
inductive Rel(P:Params)(g:c7)(yh w5:List Addr):V->Value->Prop
 |none:Rel P g yh w5 .none .none
 |bool {b}:Rel P g yh w5 (.bool b) (.bool b)
 |int {i t}:Rel P g yh w5 (.int i) (.int i t)
 |str {s t}:Rel P g yh w5 (.str s) (.str s t)
 |st {v}:Rel P g yh w5 (.st v) v
 |ob {i a}:w5[i]?=some a->Rel P g yh w5 (.ob i) (.ref a)
 |lo {i a}:yh[i]?=some a->Rel P g yh w5 (.lo i) (.ref a)
 |inst {C i x d}:w5[i]?=some d->g x=some ⟨.ref C,some d,.plain,#[]⟩->Rel P g yh w5 (.inst C i) (.ref x)
 |tup {l x xs n}:g x=some {cls:=.type "tuple",data:=.seq (List.toArray xs) n}->fK P g yh w5 l xs->Rel P g yh w5 (.tup l) (.ref x)
 |list {l x xs n}:g x=some {cls:=.type "list",data:=.seq (List.toArray xs) n}->fK P g yh w5 l xs->Rel P g yh w5 (.list l) (.ref x)
 |dict {l x es n}:g x=some (dictOf es n)->1<x->kE P g yh w5 l es->(l.map (·.1)).Nodup->Rel P g yh w5 (.dict l) (.ref x)
 |meth {f self sv x}:g x=some (methodObj f sv)->Rel P g yh w5 self sv->Rel P g yh w5 (.meth f self) (.ref x)
inductive fK(P:Params)(g:c7)(yh w5:List Addr):List V->List Value->Prop
 |nil:fK P g yh w5 [] []
 |cons {v rv l rl}:Rel P g yh w5 v rv->fK P g yh w5 l rl->fK P g yh w5 (v::l) (rv::rl)
inductive kE(P:Params)(g:c7)(yh w5:List Addr):List (Str×V)->List DictEntry->Prop
 |nil:kE P g yh w5 [] []
 |cons {k v t rv l rl}:Rel P g yh w5 v rv->kE P g yh w5 l rl->kE P g yh w5 ((k,v)::l) (⟨PyData.keyHash P k,.str k t,rv⟩::rl)
end
def Rel.Inv(P:dN)(g:c7)(yh w5:ak aQ):V->aI->Prop
 |.none,rv=>rv=.none
 |.bF b,rv=>rv=.bF b
 |.int i,rv=>∃t,rv=.int i t
 |.str s,rv=>∃t,rv=.str s t
 |.st v,rv=>rv=v
 |.ob i,rv=>∃a,rv=.ref a/\w5[i]?=az a
 |.lo i,rv=>∃a,rv=.ref a/\yh[i]?=az a
 |.cR C i,rv=>∃x d,rv=.ref x/\w5[i]?=az d/\g x=az ⟨.ref C,az d,.plain,#[]⟩
 |.tup l,rv=>∃x xs n,rv=.ref x/\g x=az {cls:=.dg "tuple",f9:=.seq (ak.aJ xs) n}/\fK P g yh w5 l xs
 |.aR l,rv=>∃x xs n,rv=.ref x/\g x=az {cls:=.dg "list",f9:=.seq (ak.aJ xs) n}/\fK P g yh w5 l xs
 |.bO l,rv=>∃x es n,rv=.ref x/\g x=az (lR es n)/\1<x/\kE P g yh w5 l es/\(fM (·.1)).iT
 |.meth f self,rv=>∃sv x,rv=.ref x/\g x=az (methodObj f sv)/\Rel P g yh w5 self sv
set_option tactic.hygienic true in
theorem Rel.inv{P:dN}{g:c7}{yh w5:ak aQ}{v:V}{rv:aI}(h:Rel P g yh w5 v rv):Rel.Inv P g yh w5 v rv:=by
 cases h
 case none=>exact rfl
 case bF=>exact rfl
 case int=>exact⟨_,rfl⟩
 case str=>exact⟨_,rfl⟩
 case st=>exact rfl
 case ob h=>exact⟨_,rfl,h⟩
 case lo h=>exact⟨_,rfl,h⟩
 case cR h k=>exact⟨_,_,rfl,h,k⟩
 case tup h r=>exact⟨_,_,_,rfl,h,r⟩
 case aR h r=>exact⟨_,_,_,rfl,h,r⟩
 case bO h q r n=>exact⟨_,_,_,rfl,h,q,r,n⟩
 case meth h r=>exact⟨_,_,rfl,h,r⟩
structure Sub(g g':c7)(a a' b b':ak aQ):Prop where
 hg:∀(x:aQ)(o:Obj),g x=az o->g' x=az o
 ha:∀(i:Nat)(x:aQ),a[i]?=az x->a'[i]?=az x
 hb:∀(i:Nat)(x:aQ),b[i]?=az x->b'[i]?=az x
theorem Rel.eW{P:dN}{g g':c7}{a a' b b':ak aQ}(S:Sub g g' a a' b b'){v:V}{rv:aI}(h:Rel P g a b v rv):Rel P g' a' b' v rv:=@Rel.rec P g a b (λv rv z9=>Rel P g' a' b' v rv) (λv rv z9=>fK P g' a' b' v rv) (λv rv z9=>kE P g' a' b' v rv) .none .bF .int .str .st (λh=>.ob (S.hb _ _ h)) (λh=>.lo (S.ha _ _ h)) (λh k=>.cR (S.hb _ _ h) (S.hg _ _ k)) (λh z9 ih=>.tup (S.hg _ _ h) ih) (λh z9 ih=>.aR (S.hg _ _ h) ih) (λh q z9 n ih=>.bO (S.hg _ _ h) q ih n) (λh z9 ih=>.meth (S.hg _ _ h) ih) .nil (λz9 z9 i1 i2=>.br i1 i2) .nil (λz9 z9 i1 i2=>.br i1 i2) _ _ h
theorem fK.eW{P:dN}{g g':c7}{a a' b b':ak aQ}(S:Sub g g' a a' b b'){v:ak V}{rv:ak aI}(h:fK P g a b v rv):fK P g' a' b' v rv:=@fK.rec P g a b (λv rv z9=>Rel P g' a' b' v rv) (λv rv z9=>fK P g' a' b' v rv) (λv rv z9=>kE P g' a' b' v rv) .none .bF .int .str .st (λh=>.ob (S.hb _ _ h)) (λh=>.lo (S.ha _ _ h)) (λh k=>.cR (S.hb _ _ h) (S.hg _ _ k)) (λh z9 ih=>.tup (S.hg _ _ h) ih) (λh z9 ih=>.aR (S.hg _ _ h) ih) (λh q z9 n ih=>.bO (S.hg _ _ h) q ih n) (λh z9 ih=>.meth (S.hg _ _ h) ih) .nil (λz9 z9 i1 i2=>.br i1 i2) .nil (λz9 z9 i1 i2=>.br i1 i2) _ _ h
theorem kE.eW{P:dN}{g g':c7}{a a' b b':ak aQ}(S:Sub g g' a a' b b'){v:ak (Str×V)}{rv:ak gh}(h:kE P g a b v rv):kE P g' a' b' v rv:=@kE.rec P g a b (λv rv z9=>Rel P g' a' b' v rv) (λv rv z9=>fK P g' a' b' v rv) (λv rv z9=>kE P g' a' b' v rv) .none .bF .int .str .st (λh=>.ob (S.hb _ _ h)) (λh=>.lo (S.ha _ _ h)) (λh k=>.cR (S.hb _ _ h) (S.hg _ _ k)) (λh z9 ih=>.tup (S.hg _ _ h) ih) (λh z9 ih=>.aR (S.hg _ _ h) ih) (λh q z9 n ih=>.bO (S.hg _ _ h) q ih n) (λh z9 ih=>.meth (S.hg _ _ h) ih) .nil (λz9 z9 i1 i2=>.br i1 i2) .nil (λz9 z9 i1 i2=>.br i1 i2) _ _ h
theorem fK.un{P:dN}{g:c7}{a b:ak aQ}{v:V}{l:ak V}{rl:ak aI}(h:fK P g a b (v::l) rl):∃r t,rl=r::t/\Rel P g a b v r/\fK P g a b l t:=by
 cases h with|br r t=>exact⟨_,_,rfl,r,t⟩
theorem fK.ind{P:dN}{g:c7}{a b:ak aQ}{M:ak V->ak aI->Prop}(h0:M [] [])(h1:∀v rv l rl,Rel P g a b v rv->fK P g a b l rl->M l rl->M (v::l) (rv::rl)){l:ak V}{rl:ak aI}(h:fK P g a b l rl):M l rl:=by
 induction l generalizing rl with
 |nil=>cases h;exact h0
 |br v l ih=>obtain⟨r,t,rfl,hr,ht⟩:=h.un;exact h1 _ _ _ _ hr ht (ih ht)
theorem kE.ind{P:dN}{g:c7}{a b:ak aQ}{M:ak (Str×V)->ak gh->Prop}(h0:M [] [])(h1:∀k v t rv l rl,Rel P g a b v rv->kE P g a b l rl->M l rl->M ((k,v)::l) (⟨p6 P k,.str k t,rv⟩::rl)){l:ak (Str×V)}{rl:ak gh}(h:kE P g a b l rl):M l rl:=by
 induction l generalizing rl with
 |nil=>cases h;exact h0
 |br v l ih=>cases h with|br r t=>exact h1 _ _ _ _ _ _ r t (ih t)
inductive zg(P:dN)(g:c7)(a b:ak aQ):AO->Obj->Prop
 |aR {l xs n}:fK P g a b l xs->zg P g a b (.aR l) {cls:=.dg "list",f9:=.seq (ak.aJ xs) n}
 |bO {l es n}:kE P g a b l es->(fM (·.1)).iT->zg P g a b (.bO l) (lR es n)
 |lI {i x k t ob}:a[i]?=az x->ob.f9=.lI (az (.int k t))->zg P g a b (.lI i x (az k)) ob
 |E7 {i x ob}:a[i]?=az x->ob.f9=.lI none->zg P g a b (.lI i x none) ob
theorem zg.eW{P:dN}{g g':c7}{a a' b b':ak aQ}(S:Sub g g' a a' b b'){o ob}(h:zg P g a b o ob):zg P g' a' b' o ob:=by
 cases h with
 |aR r=>exact .aR (r.eW S)
 |bO r n=>exact .bO (r.eW S) n
 |lI e d=>exact .lI (S.ha _ _ e) d
 |E7 e d=>exact .E7 (S.ha _ _ e) d
set_option genInjectivity false in
structure Wd where
 s:aZ
 m:Str->aH aI
 a:ak aQ
 b:ak aQ
 g:c7
 k:c7
 kf:aQ->aH (Str->aH aI)
set_option genInjectivity false in
structure St where
 loc:ak (Str×aH V)
 T:ak AO
 W:ak AO
def Tab(P:dN)(g:c7)(a b:ak aQ)(h:c8)(ι:ak aQ)(T:ak AO):Prop:=
 ι.aq=T.aq/\∀(i:Nat)(o:AO),T[i]?=az o->∃(x:aQ)(ob:Obj),ι[i]?=az x/\h.cF x=az ob/\zg P g a b o ob
structure xK(c:Cx)(W:ak AO)(s:aZ)(b:ak aQ)(g k:c7)(kf:aQ->aH (Str->aH aI)):Prop where
 gr:∀x o,g x=az o->aP.cF x=az o
 yJ:∀x o,gV.cF x=az o->g x=az o
 tab:Tab aL g [] b aP b W
 nodup:b.iT
 out:∀x∈b,g x=none
 kk:∀x o,k x=az o->aP.cF x=az o
 ok:∀x∈b,k x=none
 nf:∀x m,kf x=az m->aP.Ns x m
 qC:∀x∈b,kf x=none
 oJ:∀x m,kf x=az m->k x=none/\g x=none
 dk:∀x o,k x=az o->g x=none
 sz:gV.nO.dM<=s.aC/\∀x∈b,1<x
structure Sat(c:Cx)(L:aQ)(σ:St)(ω:Wd):Prop where
 ns:ω.aP.Ns L ω.m
 gr:∀x o,ω.g x=az o->ω.aP.cF x=az o
 yJ:∀x o,gV.cF x=az o->ω.g x=az o
 high:gV.nO.dM<=L/\∀x∈ω.a++ω.b,1<x
 loc:∀x v,(x,az v)∈rE->∃rv,ω.m x=az rv/\Rel aL ω.g ω.a ω.b v rv
 nd:(rE.map (·.1)).iT
 tT:Tab aL ω.g ω.a ω.b ω.aP ω.a jx
 tW:Tab aL ω.g [] ω.b ω.aP ω.b gJ
 apart:(L::(ω.a++ω.b)).iT
 out:∀x∈L::(ω.a++ω.b),ω.g x=none
 kk:∀x o,ω.k x=az o->ω.aP.cF x=az o
 ok:∀x∈L::(ω.a++ω.b),ω.k x=none
 nf:∀x m,ω.kf x=az m->ω.aP.Ns x m
 qC:∀x∈L::(ω.a++ω.b),ω.kf x=none
 oJ:∀x m,ω.kf x=az m->ω.k x=none/\ω.g x=none
 dk:∀x o,ω.k x=az o->ω.g x=none
def adu:fZ->aM
 |.oV=>true
 |_=>false
def Zx(g:fZ)(q:ak fZ):ak fZ:=bif q.qt&&adu g then[]else g::q
def BA(l:ak fZ):ak fZ:=l.foldr Zx []
def gk(a:dX fZ):ak fZ:=BA a.nu
structure Le(ω fj:Wd):Prop where
 sub:Sub ω.g fj.g ω.a fj.a ω.b fj.b
 iD:gk fj.s.iD=gk ω.s.iD
 jE:fj.s.jE=ω.s.jE
 os:fj.s.os=ω.s.os
 k:fj.k=ω.k
 kf:fj.kf=ω.kf
theorem Sub.sI{g:c7}{a b:ak aQ}:Sub g g a a b b:=⟨λz9 z9 h=>h,λz9 z9 h=>h,λz9 z9 h=>h⟩
theorem Sub.trans{g g' g'':c7}{a a' a'' b b' b'':ak aQ}(x:Sub g g' a a' b b')(y:Sub g' g'' a' a'' b' b''):Sub g g'' a a'' b b'':=
 ⟨λz9 z9 h=>y.hg _ _ (x.hg _ _ h),λz9 z9 h=>y.ha _ _ (x.ha _ _ h),λz9 z9 h=>y.hb _ _ (x.hb _ _ h)⟩
theorem Le.sI(ω:Wd):Le ω ω:=⟨.sI,rfl,rfl,rfl,rfl,rfl⟩
theorem Le.trans{ω fj E8:Wd}(x:Le ω fj)(y:Le fj E8):Le ω E8:=⟨x.sub.trans y.sub,y.iD.trans x.iD,y.jE.trans x.jE,y.os.trans x.os,y.k.trans x.k,y.kf.trans x.kf⟩
structure xM(n:Nat)(A:dR):Prop where
 yK:A.yK+10 * n<600
 units:nI+50 * n<9000
 jm:A.jm=none
def zO(c:Cx)(kf:aQ->aH (Str->aH aI))(fD:ak Env):Prop:=∀e∈fD,e.bD.su≠.module/\∃L m,e.rO=az L/\kf L=az m/\gV.cF L=none
structure m9(c:Cx)(n:Nat)(env:Env)(A:dR)(kf:aQ->aH (Str->aH aI)):Prop where
 room:xM n A
 fm:∃l,jF=az l/\∀e∈l,e.bD.su≠.module/\∃L,e.rO=az L/\gV.cF L=none/\(L=aN\/∃m,kf L=az m)
 hd:env.w4.sJ=true->∃fD,jF=az (env::fD)/\zO c kf fD
theorem m9.le{c:Cx}{n:Nat}{env:Env}{A:dR}{ω fj:Wd}(h:m9 c n env A ω.kf)(l:Le ω fj):m9 c n env A fj.kf:=l.kf▸h
abbrev RV(c:Cx)(ω:Wd)(v:V)(rv:aI):Prop:=Rel aL ω.g ω.a ω.b v rv
abbrev E9(c:Cx)(ω:Wd)(v:ak V)(rv:ak aI):Prop:=fK aL ω.g ω.a ω.b v rv
def MY(c:Cx)(l:ak Env)(e:aI)(h:c8)(K:aQ->Obj->Prop):Prop:=
 ∃(ea:aQ)(a0:aI)(B:c8),e=.ref ea/\c8.FlyingW B l ea (.dg "KeyError") a0 h/\(∀x o,gV.cF x=az o->B.cF x=az o)/\∀x o,K x o->B.cF x=az o
def Known(ω:Wd)(x:aQ)(o:Obj):Prop:=ω.g x=az o\/ω.k x=az o\/(x∈ω.a++ω.b/\ω.aP.cF x=az o)
def Made(c:Cx)(L:aQ)(ω:Wd)(e:aI):Prop:=∃(ea:aQ)(vs:ak aI)(h1:c8),e=.ref ea/\c8.MadeExcOf h1 ω.aP ea (.dg "KeyError") vs/\(∀x o,gV.cF x=az o->h1.cF x=az o)/\
 (∀x o,Known ω x o->h1.cF x=az o)/\(∀x m,ω.kf x=az m->h1.Ns x m)/\∃m,h1.Ns L m
def Exc(c:Cx)(env:Env)(A:dR)(ω:Wd)(e:aI):Prop:=(∃l,jF=az l/\MY c l e ω.aP (Known ω))\/Made c aN ω e
inductive d9{α β:Type}(c:Cx)(L:aQ)(rel:Wd->β->α->Prop)(ω:Wd)(Q:β->St->Prop)(a:α)(s':aZ):Prop
 |intro(b:β) (fL:St) (fj:Wd) (l:Le ω fj) (e:fj.s=s') (S:Sat c L fL fj) (r:rel fj b a) (q:Q b fL):d9 c L rel ω Q a s'
inductive oK(c:Cx)(env:Env)(A:dR)(ω:Wd)(X:St->Prop)(e:aI)(s':aZ):Prop
 |intro(fL:St) (fj:Wd) (l:Le ω fj) (e':fj.s=s') (S:Sat c aN fL fj) (hx:Exc c env A fj e) (q:X fL):oK c env A ω X e s'
theorem d9.le{α β:Type}{c:Cx}{L:aQ}{rel:Wd->β->α->Prop}{ω fj:Wd}{Q:β->St->Prop}{a:α}{s':aZ}(l:Le ω fj)(h:d9 c L rel fj Q a s'):d9 c L rel ω Q a s':=by
 cases h with|intro b fL E8 l' e S r q=>exact⟨b,fL,E8,l.trans l',e,S,r,q⟩
theorem oK.le{c:Cx}{env:Env}{A:dR}{ω fj:Wd}{X:St->Prop}{e:aI}{s':aZ}(l:Le ω fj)(h:oK c env A fj X e s'):oK c env A ω X e s':=by
 cases h with|intro fL E8 l' e' S hx q=>exact⟨fL,E8,l.trans l',e',S,hx,q⟩
theorem oK.no{c:Cx}{env:Env}{A:dR}{ω:Wd}{e:aI}{s':aZ}{P:Prop}(h:oK c env A ω (λz9=>cM) e s'):P:=by
 cases h with|intro _ _ _ _ _ _ q=>exact q.g9
def W{α β:Type}(c:Cx)(n:Nat)(env:Env)(t:Sem α)(rel:Wd->β->α->Prop)(Q:β->St->Prop)(X:St->Prop)(σ:St):Prop:=
 ∀A ω,m9 c n env A ω.kf->Sat c aN σ ω->cZ (dB bU j5) A t (d9 c aN rel ω Q) (oK c env A ω X) ω.s
abbrev WE(c:Cx)(n:Nat)(env:Env)(e:aB)(Q:V->St->Prop)(X:St->Prop)(σ:St):Prop:=W c n env (eval e env) (RV c) Q X σ
abbrev WT(c:Cx)(n:Nat)(env:Env)(e:aB)(Q:aM->St->Prop)(X:St->Prop)(σ:St):Prop:=W c n env (isTrue e env (eval e env)) (λz9 a b=>a=b) Q X σ
set_option genInjectivity false in
inductive Fl where
 |next|brk|rF|ret (v:V)
inductive HA(c:Cx)(ω:Wd):Fl->Flow->Prop
 |next:HA c ω .next .next
 |brk:HA c ω .brk .brk
 |rF:HA c ω .rF .rF
 |ret {v rv}:RV c ω v rv->HA c ω (.ret v) (.ret rv)
abbrev WS(c:Cx)(n:Nat)(env:Env)(b:ak iW)(Q:Fl->St->Prop)(X:St->Prop)(σ:St):Prop:=W c n env (vC b env) (HA c) Q X σ
abbrev WL(c:Cx)(n:Nat)(env:Env)(pos:Pos)(es:ak aB)(Q:ak V->St->Prop)(X:St->Prop)(σ:St):Prop:=W c n env (spliced (backTo pos (qW es env))) (E9 c) Q X σ
def WO{α β:Type}(c:Cx)(n:Nat)(env:Env)(f:ak aI->Sem α)(vs:ak V)(rel:Wd->β->α->Prop)(Q:β->St->Prop)(X:St->Prop)(σ:St):Prop:=
 ∀A ω kO,m9 c n env A ω.kf->Sat c aN σ ω->E9 c ω vs kO->cZ (dB bU j5) A (f kO) (d9 c aN rel ω Q) (oK c env A ω X) ω.s
theorem xM.line{n k:Nat}{A:dR}(h:xM n A)(hk:k<=900):nI+k<cLine:=bh (we (b9 (cu ..) h.units) hk) (aD rfl)
theorem xM.dl{n k:Nat}{A:dR}(h:xM n A)(hk:k<=400):A.yK+k<recursionLimit:=bh (we (b9 (cu ..) h.yK) hk) (aD rfl)
theorem xM.eW{n k:Nat}{A:dR}(h:xM n A)(hk:k<=n):xM k A:=⟨b9 (bH (dG 10 hk) _) h.yK,b9 (bH (dG 50 hk) _) h.units,h.jm⟩
theorem W.eW{α β:Type}{c:Cx}{n:Nat}{env:Env}{t:Sem α}{rel:Wd->β->α->Prop}{Q Q':β->St->Prop}{X X':St->Prop}{σ:St}
  (h:W c n env t rel Q X σ)(hQ:∀b σ,Q b σ->Q' b σ)(hX:∀σ,X σ->X' σ):W c n env t rel Q' X' σ:=λA ω hR hS=>
 aW (h A ω hR hS) (λz9 z9 p=>by cases p with|intro b fL fj l e S r q=>exact⟨b,fL,fj,l,e,S,r,hQ _ _ q⟩) λz9 z9 p=>by cases p with|intro fL fj l e S r q=>exact⟨fL,fj,l,e,S,r,hX _ q⟩
theorem Sat.above{c:Cx}{L:aQ}{σ:St}{ω:Wd}(S:Sat c L σ ω):gV.nO.dM<=L:=S.high.1
theorem Cx.big(c:Cx):2<gV.nO.dM:=c.nd.g9 λz9 q=>q.1.lt
theorem Sat.fr{c:Cx}{L:aQ}{σ:St}{ω:Wd}(S:Sat c L σ ω):Fr gV L ω.aP ω.m:=⟨qX,λx o e=>S.gr x o (iG x o e),sO⟩
theorem Sat.tok{c:Cx}{L:aQ}{σ:St}{ω:Wd}(S:Sat c L σ ω)(k:Nat):Sat c L σ {ω with s:={ω.s with nA:=k}}:=⟨qX,S.gr,iG,S.high,sS,S.nd,S.tT,S.tW,gD,jk,S.kk,kN,S.nf,S.qC,S.oJ,S.dk⟩
theorem Sat.X{c:Cx}{L:aQ}{σ:St}{ω:Wd}(S:Sat c L σ ω):gM.In ω.aP:=λx o e=>S.gr x o (iG x o (c.X x o e))
theorem done{α β:Type}{c:Cx}{L:aQ}{σ:St}{ω:Wd}{rel:Wd->β->α->Prop}{Q:β->St->Prop}{a:α}{b:β}(S:Sat c L σ ω)(r:rel ω b a)(q:Q b σ):d9 c L rel ω Q a ω.s:=
 ⟨b,σ,ω,.sI _,rfl,S,r,q⟩
theorem kP{β α:Type}{c:Cx}{L:aQ}{σ:St}{ω:Wd}{rel:Wd->β->α->Prop}{Q:β->St->Prop}{a:α}{b:β}{k:Nat}(S:Sat c L σ ω)
  (r:rel {ω with s:={ω.s with nA:=k}} b a)(q:Q b σ):d9 c L rel ω Q a {ω.s with nA:=k}:=
 ⟨b,σ,{ω with s:={ω.s with nA:=k}},⟨.sI,rfl,rfl,rfl,rfl,rfl⟩,rfl,S.tok k,r,q⟩
theorem neP:dH nY.dN:=by
 constructor
 constructor<;>intros<;>exact default
theorem neW:dH World:=neP.g9 λp=>⟨⟨λz9 z9=>0,p⟩⟩
def nbD(es:dX gh):Obj:={cls:=.dg "dict",bO:=none,f9:=.bO es 0}
def Zy:c8:={nO:=#[nbD ((Manifest.builtinsNames.map λy=>(⟨0,.str (aj y.1) 0,bootValue y.2 y.1⟩:gh)).sU.aJ),nbD #[],nbD #[],nbD #[]]}
theorem nbN(a:aQ)(h:Zy.isNs a=true):Zy.Ns a (Zy.nsMap a):=.of_isNs h
theorem neCx:dH Cx:=neW.g9 λw=>⟨⟨default,w,[],Zy,_,_,λz9 z9 h=>(nomatch h),⟨_,nbN _ (by kernel_rfl),rfl⟩,nbN _ (by kernel_rfl),nbN _ (by kernel_rfl),λx z9=>(c8.nsMap_eq_lookup (by kernel_rfl) x).trans (bM (ak.eF x) (by kernel_rfl:Zy.nsPairs wg=(Manifest.builtinsNames.map λy=>(aj y.1,bootValue y.2 y.1)).sU)),⟨_,nbN _ (by kernel_rfl),rfl⟩⟩⟩
theorem neWd:dH Wd:=⟨⟨{},λz9=>none,[],[],λz9=>none,λz9=>none,λz9=>none⟩⟩
theorem neSt:dH St:=⟨⟨[],[],[]⟩⟩
theorem neAO:dH AO:=⟨.aR []⟩
theorem neV:dH V:=⟨.none⟩
theorem neAr:dH dR:=⟨{}⟩
theorem neSh:dH aZ:=⟨{}⟩
theorem neMo:dH Model:=neW.g9 λw=>⟨dB default w⟩
theorem neEx{α:Type}(n:dH α)(P:α->Prop):dH {x:α//P x->∀y,P y}:=by
 cases Classical.em (∀y,P y)with
 |inl h=>exact n.g9 λx=>⟨⟨x,λz9=>h⟩⟩
 |inr h=>exact Classical.byContradiction λk=>h λy=>Classical.byContradiction λq=>k ⟨⟨y,λp=>cO p q⟩⟩
def ε1{α:Type}(n:dH α)(P:α->Prop):α:=(Classical.choice (neEx n P)).1
theorem e1{jj:Type}{P:jj->Prop}(n:dH jj)(h:P (ε1 n P)):∀x1,P x1:=(Classical.choice (neEx n P)).2 h
def ε2{jj jr:Type}(n:dH (jj×jr))(P:jj->jr->Prop):jj×jr:=ε1 n λt=>P t.1 t.2
theorem e2{jj jr:Type}{P:jj->jr->Prop}(n:dH (jj×jr))(h:P (ε2 n P).1 (ε2 n P).2):∀x1 x2,P x1 x2:=λx1 x2=>e1 (P:=λt=>P t.1 t.2) n h (x1,x2)
def ε3{jj jr jA:Type}(n:dH ((jj×jr)×jA))(P:jj->jr->jA->Prop):(jj×jr)×jA:=ε2 n λt=>P t.1 t.2
theorem e3{jj jr jA:Type}{P:jj->jr->jA->Prop}(n:dH ((jj×jr)×jA))(h:P (ε3 n P).1.1 (ε3 n P).1.2 (ε3 n P).2):∀x1 x2 x3,P x1 x2 x3:=λx1 x2=>e2 (P:=λt=>P t.1 t.2) n h (x1,x2)
def ε4{jj jr jA j0:Type}(n:dH (((jj×jr)×jA)×j0))(P:jj->jr->jA->j0->Prop):((jj×jr)×jA)×j0:=ε3 n λt=>P t.1 t.2
theorem e4{jj jr jA j0:Type}{P:jj->jr->jA->j0->Prop}(n:dH (((jj×jr)×jA)×j0))(h:P (ε4 n P).1.1.1 (ε4 n P).1.1.2 (ε4 n P).1.2 (ε4 n P).2):∀x1 x2 x3 x4,P x1 x2 x3 x4:=λx1 x2=>e3 (P:=λt=>P t.1 t.2) n h (x1,x2)
def ε5{jj jr jA j0 kF:Type}(n:dH ((((jj×jr)×jA)×j0)×kF))(P:jj->jr->jA->j0->kF->Prop):(((jj×jr)×jA)×j0)×kF:=ε4 n λt=>P t.1 t.2
theorem e5{jj jr jA j0 kF:Type}{P:jj->jr->jA->j0->kF->Prop}(n:dH ((((jj×jr)×jA)×j0)×kF))(h:P (ε5 n P).1.1.1.1 (ε5 n P).1.1.1.2 (ε5 n P).1.1.2 (ε5 n P).1.2 (ε5 n P).2):∀x1 x2 x3 x4 x5,P x1 x2 x3 x4 x5:=λx1 x2=>e4 (P:=λt=>P t.1 t.2) n h (x1,x2)
def ε6{jj jr jA j0 kF kX:Type}(n:dH (((((jj×jr)×jA)×j0)×kF)×kX))(P:jj->jr->jA->j0->kF->kX->Prop):((((jj×jr)×jA)×j0)×kF)×kX:=ε5 n λt=>P t.1 t.2
theorem e6{jj jr jA j0 kF kX:Type}{P:jj->jr->jA->j0->kF->kX->Prop}(n:dH (((((jj×jr)×jA)×j0)×kF)×kX))(h:P (ε6 n P).1.1.1.1.1 (ε6 n P).1.1.1.1.2 (ε6 n P).1.1.1.2 (ε6 n P).1.1.2 (ε6 n P).1.2 (ε6 n P).2):∀x1 x2 x3 x4 x5 x6,P x1 x2 x3 x4 x5 x6:=λx1 x2=>e5 (P:=λt=>P t.1 t.2) n h (x1,x2)
def ε7{jj jr jA j0 kF kX lF:Type}(n:dH ((((((jj×jr)×jA)×j0)×kF)×kX)×lF))(P:jj->jr->jA->j0->kF->kX->lF->Prop):(((((jj×jr)×jA)×j0)×kF)×kX)×lF:=ε6 n λt=>P t.1 t.2
theorem e7{jj jr jA j0 kF kX lF:Type}{P:jj->jr->jA->j0->kF->kX->lF->Prop}(n:dH ((((((jj×jr)×jA)×j0)×kF)×kX)×lF))(h:P (ε7 n P).1.1.1.1.1.1 (ε7 n P).1.1.1.1.1.2 (ε7 n P).1.1.1.1.2 (ε7 n P).1.1.1.2 (ε7 n P).1.1.2 (ε7 n P).1.2 (ε7 n P).2):∀x1 x2 x3 x4 x5 x6 x7,P x1 x2 x3 x4 x5 x6 x7:=λx1 x2=>e6 (P:=λt=>P t.1 t.2) n h (x1,x2)
def ε8{jj jr jA j0 kF kX lF mj:Type}(n:dH (((((((jj×jr)×jA)×j0)×kF)×kX)×lF)×mj))(P:jj->jr->jA->j0->kF->kX->lF->mj->Prop):((((((jj×jr)×jA)×j0)×kF)×kX)×lF)×mj:=ε7 n λt=>P t.1 t.2
theorem e8{jj jr jA j0 kF kX lF mj:Type}{P:jj->jr->jA->j0->kF->kX->lF->mj->Prop}(n:dH (((((((jj×jr)×jA)×j0)×kF)×kX)×lF)×mj))(h:P (ε8 n P).1.1.1.1.1.1.1 (ε8 n P).1.1.1.1.1.1.2 (ε8 n P).1.1.1.1.1.2 (ε8 n P).1.1.1.1.2 (ε8 n P).1.1.1.2 (ε8 n P).1.1.2 (ε8 n P).1.2 (ε8 n P).2):∀x1 x2 x3 x4 x5 x6 x7 x8,P x1 x2 x3 x4 x5 x6 x7 x8:=λx1 x2=>e7 (P:=λt=>P t.1 t.2) n h (x1,x2)
def ε9{jj jr jA j0 kF kX lF mj m5:Type}(n:dH ((((((((jj×jr)×jA)×j0)×kF)×kX)×lF)×mj)×m5))(P:jj->jr->jA->j0->kF->kX->lF->mj->m5->Prop):(((((((jj×jr)×jA)×j0)×kF)×kX)×lF)×mj)×m5:=ε8 n λt=>P t.1 t.2
theorem e9{jj jr jA j0 kF kX lF mj m5:Type}{P:jj->jr->jA->j0->kF->kX->lF->mj->m5->Prop}(n:dH ((((((((jj×jr)×jA)×j0)×kF)×kX)×lF)×mj)×m5))(h:P (ε9 n P).1.1.1.1.1.1.1.1 (ε9 n P).1.1.1.1.1.1.1.2 (ε9 n P).1.1.1.1.1.1.2 (ε9 n P).1.1.1.1.1.2 (ε9 n P).1.1.1.1.2 (ε9 n P).1.1.1.2 (ε9 n P).1.1.2 (ε9 n P).1.2 (ε9 n P).2):∀x1 x2 x3 x4 x5 x6 x7 x8 x9,P x1 x2 x3 x4 x5 x6 x7 x8 x9:=λx1 x2=>e8 (P:=λt=>P t.1 t.2) n h (x1,x2)
def ε10{jj jr jA j0 kF kX lF mj m5 iC:Type}(n:dH (((((((((jj×jr)×jA)×j0)×kF)×kX)×lF)×mj)×m5)×iC))(P:jj->jr->jA->j0->kF->kX->lF->mj->m5->iC->Prop):((((((((jj×jr)×jA)×j0)×kF)×kX)×lF)×mj)×m5)×iC:=ε9 n λt=>P t.1 t.2
theorem e10{jj jr jA j0 kF kX lF mj m5 iC:Type}{P:jj->jr->jA->j0->kF->kX->lF->mj->m5->iC->Prop}(n:dH (((((((((jj×jr)×jA)×j0)×kF)×kX)×lF)×mj)×m5)×iC))(h:P (ε10 n P).1.1.1.1.1.1.1.1.1 (ε10 n P).1.1.1.1.1.1.1.1.2 (ε10 n P).1.1.1.1.1.1.1.2 (ε10 n P).1.1.1.1.1.1.2 (ε10 n P).1.1.1.1.1.2 (ε10 n P).1.1.1.1.2 (ε10 n P).1.1.1.2 (ε10 n P).1.1.2 (ε10 n P).1.2 (ε10 n P).2):∀x1 x2 x3 x4 x5 x6 x7 x8 x9 CS,P x1 x2 x3 x4 x5 x6 x7 x8 x9 CS:=λx1 x2=>e9 (P:=λt=>P t.1 t.2) n h (x1,x2)
def ε11{jj jr jA j0 kF kX lF mj m5 iC jc:Type}(n:dH ((((((((((jj×jr)×jA)×j0)×kF)×kX)×lF)×mj)×m5)×iC)×jc))(P:jj->jr->jA->j0->kF->kX->lF->mj->m5->iC->jc->Prop):(((((((((jj×jr)×jA)×j0)×kF)×kX)×lF)×mj)×m5)×iC)×jc:=ε10 n λt=>P t.1 t.2
theorem e11{jj jr jA j0 kF kX lF mj m5 iC jc:Type}{P:jj->jr->jA->j0->kF->kX->lF->mj->m5->iC->jc->Prop}(n:dH ((((((((((jj×jr)×jA)×j0)×kF)×kX)×lF)×mj)×m5)×iC)×jc))(h:P (ε11 n P).1.1.1.1.1.1.1.1.1.1 (ε11 n P).1.1.1.1.1.1.1.1.1.2 (ε11 n P).1.1.1.1.1.1.1.1.2 (ε11 n P).1.1.1.1.1.1.1.2 (ε11 n P).1.1.1.1.1.1.2 (ε11 n P).1.1.1.1.1.2 (ε11 n P).1.1.1.1.2 (ε11 n P).1.1.1.2 (ε11 n P).1.1.2 (ε11 n P).1.2 (ε11 n P).2):∀x1 x2 x3 x4 x5 x6 x7 x8 x9 CS eO,P x1 x2 x3 x4 x5 x6 x7 x8 x9 CS eO:=λx1 x2=>e10 (P:=λt=>P t.1 t.2) n h (x1,x2)
def ε12{jj jr jA j0 kF kX lF mj m5 iC jc jB:Type}(n:dH (((((((((((jj×jr)×jA)×j0)×kF)×kX)×lF)×mj)×m5)×iC)×jc)×jB))(P:jj->jr->jA->j0->kF->kX->lF->mj->m5->iC->jc->jB->Prop):((((((((((jj×jr)×jA)×j0)×kF)×kX)×lF)×mj)×m5)×iC)×jc)×jB:=ε11 n λt=>P t.1 t.2
theorem e12{jj jr jA j0 kF kX lF mj m5 iC jc jB:Type}{P:jj->jr->jA->j0->kF->kX->lF->mj->m5->iC->jc->jB->Prop}(n:dH (((((((((((jj×jr)×jA)×j0)×kF)×kX)×lF)×mj)×m5)×iC)×jc)×jB))(h:P (ε12 n P).1.1.1.1.1.1.1.1.1.1.1 (ε12 n P).1.1.1.1.1.1.1.1.1.1.2 (ε12 n P).1.1.1.1.1.1.1.1.1.2 (ε12 n P).1.1.1.1.1.1.1.1.2 (ε12 n P).1.1.1.1.1.1.1.2 (ε12 n P).1.1.1.1.1.1.2 (ε12 n P).1.1.1.1.1.2 (ε12 n P).1.1.1.1.2 (ε12 n P).1.1.1.2 (ε12 n P).1.1.2 (ε12 n P).1.2 (ε12 n P).2):∀x1 x2 x3 x4 x5 x6 x7 x8 x9 CS eO gg,P x1 x2 x3 x4 x5 x6 x7 x8 x9 CS eO gg:=λx1 x2=>e11 (P:=λt=>P t.1 t.2) n h (x1,x2)
def ε13{jj jr jA j0 kF kX lF mj m5 iC jc jB kG:Type}(n:dH ((((((((((((jj×jr)×jA)×j0)×kF)×kX)×lF)×mj)×m5)×iC)×jc)×jB)×kG))(P:jj->jr->jA->j0->kF->kX->lF->mj->m5->iC->jc->jB->kG->Prop):(((((((((((jj×jr)×jA)×j0)×kF)×kX)×lF)×mj)×m5)×iC)×jc)×jB)×kG:=ε12 n λt=>P t.1 t.2
theorem e13{jj jr jA j0 kF kX lF mj m5 iC jc jB kG:Type}{P:jj->jr->jA->j0->kF->kX->lF->mj->m5->iC->jc->jB->kG->Prop}(n:dH ((((((((((((jj×jr)×jA)×j0)×kF)×kX)×lF)×mj)×m5)×iC)×jc)×jB)×kG))(h:P (ε13 n P).1.1.1.1.1.1.1.1.1.1.1.1 (ε13 n P).1.1.1.1.1.1.1.1.1.1.1.2 (ε13 n P).1.1.1.1.1.1.1.1.1.1.2 (ε13 n P).1.1.1.1.1.1.1.1.1.2 (ε13 n P).1.1.1.1.1.1.1.1.2 (ε13 n P).1.1.1.1.1.1.1.2 (ε13 n P).1.1.1.1.1.1.2 (ε13 n P).1.1.1.1.1.2 (ε13 n P).1.1.1.1.2 (ε13 n P).1.1.1.2 (ε13 n P).1.1.2 (ε13 n P).1.2 (ε13 n P).2):∀x1 x2 x3 x4 x5 x6 x7 x8 x9 CS eO gg uE,P x1 x2 x3 x4 x5 x6 x7 x8 x9 CS eO gg uE:=λx1 x2=>e12 (P:=λt=>P t.1 t.2) n h (x1,x2)
def ε14{jj jr jA j0 kF kX lF mj m5 iC jc jB kG lG:Type}(n:dH (((((((((((((jj×jr)×jA)×j0)×kF)×kX)×lF)×mj)×m5)×iC)×jc)×jB)×kG)×lG))(P:jj->jr->jA->j0->kF->kX->lF->mj->m5->iC->jc->jB->kG->lG->Prop):((((((((((((jj×jr)×jA)×j0)×kF)×kX)×lF)×mj)×m5)×iC)×jc)×jB)×kG)×lG:=ε13 n λt=>P t.1 t.2
theorem e14{jj jr jA j0 kF kX lF mj m5 iC jc jB kG lG:Type}{P:jj->jr->jA->j0->kF->kX->lF->mj->m5->iC->jc->jB->kG->lG->Prop}(n:dH (((((((((((((jj×jr)×jA)×j0)×kF)×kX)×lF)×mj)×m5)×iC)×jc)×jB)×kG)×lG))(h:P (ε14 n P).1.1.1.1.1.1.1.1.1.1.1.1.1 (ε14 n P).1.1.1.1.1.1.1.1.1.1.1.1.2 (ε14 n P).1.1.1.1.1.1.1.1.1.1.1.2 (ε14 n P).1.1.1.1.1.1.1.1.1.1.2 (ε14 n P).1.1.1.1.1.1.1.1.1.2 (ε14 n P).1.1.1.1.1.1.1.1.2 (ε14 n P).1.1.1.1.1.1.1.2 (ε14 n P).1.1.1.1.1.1.2 (ε14 n P).1.1.1.1.1.2 (ε14 n P).1.1.1.1.2 (ε14 n P).1.1.1.2 (ε14 n P).1.1.2 (ε14 n P).1.2 (ε14 n P).2):∀x1 x2 x3 x4 x5 x6 x7 x8 x9 CS eO gg uE E6,P x1 x2 x3 x4 x5 x6 x7 x8 x9 CS eO gg uE E6:=λx1 x2=>e13 (P:=λt=>P t.1 t.2) n h (x1,x2)
def ε15{jj jr jA j0 kF kX lF mj m5 iC jc jB kG lG m6:Type}(n:dH ((((((((((((((jj×jr)×jA)×j0)×kF)×kX)×lF)×mj)×m5)×iC)×jc)×jB)×kG)×lG)×m6))(P:jj->jr->jA->j0->kF->kX->lF->mj->m5->iC->jc->jB->kG->lG->m6->Prop):(((((((((((((jj×jr)×jA)×j0)×kF)×kX)×lF)×mj)×m5)×iC)×jc)×jB)×kG)×lG)×m6:=ε14 n λt=>P t.1 t.2
theorem e15{jj jr jA j0 kF kX lF mj m5 iC jc jB kG lG m6:Type}{P:jj->jr->jA->j0->kF->kX->lF->mj->m5->iC->jc->jB->kG->lG->m6->Prop}(n:dH ((((((((((((((jj×jr)×jA)×j0)×kF)×kX)×lF)×mj)×m5)×iC)×jc)×jB)×kG)×lG)×m6))(h:P (ε15 n P).1.1.1.1.1.1.1.1.1.1.1.1.1.1 (ε15 n P).1.1.1.1.1.1.1.1.1.1.1.1.1.2 (ε15 n P).1.1.1.1.1.1.1.1.1.1.1.1.2 (ε15 n P).1.1.1.1.1.1.1.1.1.1.1.2 (ε15 n P).1.1.1.1.1.1.1.1.1.1.2 (ε15 n P).1.1.1.1.1.1.1.1.1.2 (ε15 n P).1.1.1.1.1.1.1.1.2 (ε15 n P).1.1.1.1.1.1.1.2 (ε15 n P).1.1.1.1.1.1.2 (ε15 n P).1.1.1.1.1.2 (ε15 n P).1.1.1.1.2 (ε15 n P).1.1.1.2 (ε15 n P).1.1.2 (ε15 n P).1.2 (ε15 n P).2):∀x1 x2 x3 x4 x5 x6 x7 x8 x9 CS eO gg uE E6 Hz,P x1 x2 x3 x4 x5 x6 x7 x8 x9 CS eO gg uE E6 Hz:=λx1 x2=>e14 (P:=λt=>P t.1 t.2) n h (x1,x2)
def ε16{jj jr jA j0 kF kX lF mj m5 iC jc jB kG lG m6 pB:Type}(n:dH (((((((((((((((jj×jr)×jA)×j0)×kF)×kX)×lF)×mj)×m5)×iC)×jc)×jB)×kG)×lG)×m6)×pB))(P:jj->jr->jA->j0->kF->kX->lF->mj->m5->iC->jc->jB->kG->lG->m6->pB->Prop):((((((((((((((jj×jr)×jA)×j0)×kF)×kX)×lF)×mj)×m5)×iC)×jc)×jB)×kG)×lG)×m6)×pB:=ε15 n λt=>P t.1 t.2
theorem e16{jj jr jA j0 kF kX lF mj m5 iC jc jB kG lG m6 pB:Type}{P:jj->jr->jA->j0->kF->kX->lF->mj->m5->iC->jc->jB->kG->lG->m6->pB->Prop}(n:dH (((((((((((((((jj×jr)×jA)×j0)×kF)×kX)×lF)×mj)×m5)×iC)×jc)×jB)×kG)×lG)×m6)×pB))(h:P (ε16 n P).1.1.1.1.1.1.1.1.1.1.1.1.1.1.1 (ε16 n P).1.1.1.1.1.1.1.1.1.1.1.1.1.1.2 (ε16 n P).1.1.1.1.1.1.1.1.1.1.1.1.1.2 (ε16 n P).1.1.1.1.1.1.1.1.1.1.1.1.2 (ε16 n P).1.1.1.1.1.1.1.1.1.1.1.2 (ε16 n P).1.1.1.1.1.1.1.1.1.1.2 (ε16 n P).1.1.1.1.1.1.1.1.1.2 (ε16 n P).1.1.1.1.1.1.1.1.2 (ε16 n P).1.1.1.1.1.1.1.2 (ε16 n P).1.1.1.1.1.1.2 (ε16 n P).1.1.1.1.1.2 (ε16 n P).1.1.1.1.2 (ε16 n P).1.1.1.2 (ε16 n P).1.1.2 (ε16 n P).1.2 (ε16 n P).2):∀x1 x2 x3 x4 x5 x6 x7 x8 x9 CS eO gg uE E6 Hz Rb,P x1 x2 x3 x4 x5 x6 x7 x8 x9 CS eO gg uE E6 Hz Rb:=λx1 x2=>e15 (P:=λt=>P t.1 t.2) n h (x1,x2)
def ε17{jj jr jA j0 kF kX lF mj m5 iC jc jB kG lG m6 pB rW:Type}(n:dH ((((((((((((((((jj×jr)×jA)×j0)×kF)×kX)×lF)×mj)×m5)×iC)×jc)×jB)×kG)×lG)×m6)×pB)×rW))(P:jj->jr->jA->j0->kF->kX->lF->mj->m5->iC->jc->jB->kG->lG->m6->pB->rW->Prop):(((((((((((((((jj×jr)×jA)×j0)×kF)×kX)×lF)×mj)×m5)×iC)×jc)×jB)×kG)×lG)×m6)×pB)×rW:=ε16 n λt=>P t.1 t.2
theorem e17{jj jr jA j0 kF kX lF mj m5 iC jc jB kG lG m6 pB rW:Type}{P:jj->jr->jA->j0->kF->kX->lF->mj->m5->iC->jc->jB->kG->lG->m6->pB->rW->Prop}(n:dH ((((((((((((((((jj×jr)×jA)×j0)×kF)×kX)×lF)×mj)×m5)×iC)×jc)×jB)×kG)×lG)×m6)×pB)×rW))(h:P (ε17 n P).1.1.1.1.1.1.1.1.1.1.1.1.1.1.1.1 (ε17 n P).1.1.1.1.1.1.1.1.1.1.1.1.1.1.1.2 (ε17 n P).1.1.1.1.1.1.1.1.1.1.1.1.1.1.2 (ε17 n P).1.1.1.1.1.1.1.1.1.1.1.1.1.2 (ε17 n P).1.1.1.1.1.1.1.1.1.1.1.1.2 (ε17 n P).1.1.1.1.1.1.1.1.1.1.1.2 (ε17 n P).1.1.1.1.1.1.1.1.1.1.2 (ε17 n P).1.1.1.1.1.1.1.1.1.2 (ε17 n P).1.1.1.1.1.1.1.1.2 (ε17 n P).1.1.1.1.1.1.1.2 (ε17 n P).1.1.1.1.1.1.2 (ε17 n P).1.1.1.1.1.2 (ε17 n P).1.1.1.1.2 (ε17 n P).1.1.1.2 (ε17 n P).1.1.2 (ε17 n P).1.2 (ε17 n P).2):∀x1 x2 x3 x4 x5 x6 x7 x8 x9 CS eO gg uE E6 Hz Rb VI,P x1 x2 x3 x4 x5 x6 x7 x8 x9 CS eO gg uE E6 Hz Rb VI:=λx1 x2=>e16 (P:=λt=>P t.1 t.2) n h (x1,x2)
def ε18{jj jr jA j0 kF kX lF mj m5 iC jc jB kG lG m6 pB rW vX:Type}(n:dH (((((((((((((((((jj×jr)×jA)×j0)×kF)×kX)×lF)×mj)×m5)×iC)×jc)×jB)×kG)×lG)×m6)×pB)×rW)×vX))(P:jj->jr->jA->j0->kF->kX->lF->mj->m5->iC->jc->jB->kG->lG->m6->pB->rW->vX->Prop):((((((((((((((((jj×jr)×jA)×j0)×kF)×kX)×lF)×mj)×m5)×iC)×jc)×jB)×kG)×lG)×m6)×pB)×rW)×vX:=ε17 n λt=>P t.1 t.2
theorem e18{jj jr jA j0 kF kX lF mj m5 iC jc jB kG lG m6 pB rW vX:Type}{P:jj->jr->jA->j0->kF->kX->lF->mj->m5->iC->jc->jB->kG->lG->m6->pB->rW->vX->Prop}(n:dH (((((((((((((((((jj×jr)×jA)×j0)×kF)×kX)×lF)×mj)×m5)×iC)×jc)×jB)×kG)×lG)×m6)×pB)×rW)×vX))(h:P (ε18 n P).1.1.1.1.1.1.1.1.1.1.1.1.1.1.1.1.1 (ε18 n P).1.1.1.1.1.1.1.1.1.1.1.1.1.1.1.1.2 (ε18 n P).1.1.1.1.1.1.1.1.1.1.1.1.1.1.1.2 (ε18 n P).1.1.1.1.1.1.1.1.1.1.1.1.1.1.2 (ε18 n P).1.1.1.1.1.1.1.1.1.1.1.1.1.2 (ε18 n P).1.1.1.1.1.1.1.1.1.1.1.1.2 (ε18 n P).1.1.1.1.1.1.1.1.1.1.1.2 (ε18 n P).1.1.1.1.1.1.1.1.1.1.2 (ε18 n P).1.1.1.1.1.1.1.1.1.2 (ε18 n P).1.1.1.1.1.1.1.1.2 (ε18 n P).1.1.1.1.1.1.1.2 (ε18 n P).1.1.1.1.1.1.2 (ε18 n P).1.1.1.1.1.2 (ε18 n P).1.1.1.1.2 (ε18 n P).1.1.1.2 (ε18 n P).1.1.2 (ε18 n P).1.2 (ε18 n P).2):∀x1 x2 x3 x4 x5 x6 x7 x8 x9 CS eO gg uE E6 Hz Rb VI Zz,P x1 x2 x3 x4 x5 x6 x7 x8 x9 CS eO gg uE E6 Hz Rb VI Zz:=λx1 x2=>e17 (P:=λt=>P t.1 t.2) n h (x1,x2)
def ε19{jj jr jA j0 kF kX lF mj m5 iC jc jB kG lG m6 pB rW vX Ao:Type}(n:dH ((((((((((((((((((jj×jr)×jA)×j0)×kF)×kX)×lF)×mj)×m5)×iC)×jc)×jB)×kG)×lG)×m6)×pB)×rW)×vX)×Ao))(P:jj->jr->jA->j0->kF->kX->lF->mj->m5->iC->jc->jB->kG->lG->m6->pB->rW->vX->Ao->Prop):(((((((((((((((((jj×jr)×jA)×j0)×kF)×kX)×lF)×mj)×m5)×iC)×jc)×jB)×kG)×lG)×m6)×pB)×rW)×vX)×Ao:=ε18 n λt=>P t.1 t.2
theorem e19{jj jr jA j0 kF kX lF mj m5 iC jc jB kG lG m6 pB rW vX Ao:Type}{P:jj->jr->jA->j0->kF->kX->lF->mj->m5->iC->jc->jB->kG->lG->m6->pB->rW->vX->Ao->Prop}(n:dH ((((((((((((((((((jj×jr)×jA)×j0)×kF)×kX)×lF)×mj)×m5)×iC)×jc)×jB)×kG)×lG)×m6)×pB)×rW)×vX)×Ao))(h:P (ε19 n P).1.1.1.1.1.1.1.1.1.1.1.1.1.1.1.1.1.1 (ε19 n P).1.1.1.1.1.1.1.1.1.1.1.1.1.1.1.1.1.2 (ε19 n P).1.1.1.1.1.1.1.1.1.1.1.1.1.1.1.1.2 (ε19 n P).1.1.1.1.1.1.1.1.1.1.1.1.1.1.1.2 (ε19 n P).1.1.1.1.1.1.1.1.1.1.1.1.1.1.2 (ε19 n P).1.1.1.1.1.1.1.1.1.1.1.1.1.2 (ε19 n P).1.1.1.1.1.1.1.1.1.1.1.1.2 (ε19 n P).1.1.1.1.1.1.1.1.1.1.1.2 (ε19 n P).1.1.1.1.1.1.1.1.1.1.2 (ε19 n P).1.1.1.1.1.1.1.1.1.2 (ε19 n P).1.1.1.1.1.1.1.1.2 (ε19 n P).1.1.1.1.1.1.1.2 (ε19 n P).1.1.1.1.1.1.2 (ε19 n P).1.1.1.1.1.2 (ε19 n P).1.1.1.1.2 (ε19 n P).1.1.1.2 (ε19 n P).1.1.2 (ε19 n P).1.2 (ε19 n P).2):∀x1 x2 x3 x4 x5 x6 x7 x8 x9 CS eO gg uE E6 Hz Rb VI Zz x19,P x1 x2 x3 x4 x5 x6 x7 x8 x9 CS eO gg uE E6 Hz Rb VI Zz x19:=λx1 x2=>e18 (P:=λt=>P t.1 t.2) n h (x1,x2)
def ε20{jj jr jA j0 kF kX lF mj m5 iC jc jB kG lG m6 pB rW vX Ao KJ:Type}(n:dH (((((((((((((((((((jj×jr)×jA)×j0)×kF)×kX)×lF)×mj)×m5)×iC)×jc)×jB)×kG)×lG)×m6)×pB)×rW)×vX)×Ao)×KJ))(P:jj->jr->jA->j0->kF->kX->lF->mj->m5->iC->jc->jB->kG->lG->m6->pB->rW->vX->Ao->KJ->Prop):((((((((((((((((((jj×jr)×jA)×j0)×kF)×kX)×lF)×mj)×m5)×iC)×jc)×jB)×kG)×lG)×m6)×pB)×rW)×vX)×Ao)×KJ:=ε19 n λt=>P t.1 t.2
theorem e20{jj jr jA j0 kF kX lF mj m5 iC jc jB kG lG m6 pB rW vX Ao KJ:Type}{P:jj->jr->jA->j0->kF->kX->lF->mj->m5->iC->jc->jB->kG->lG->m6->pB->rW->vX->Ao->KJ->Prop}(n:dH (((((((((((((((((((jj×jr)×jA)×j0)×kF)×kX)×lF)×mj)×m5)×iC)×jc)×jB)×kG)×lG)×m6)×pB)×rW)×vX)×Ao)×KJ))(h:P (ε20 n P).1.1.1.1.1.1.1.1.1.1.1.1.1.1.1.1.1.1.1 (ε20 n P).1.1.1.1.1.1.1.1.1.1.1.1.1.1.1.1.1.1.2 (ε20 n P).1.1.1.1.1.1.1.1.1.1.1.1.1.1.1.1.1.2 (ε20 n P).1.1.1.1.1.1.1.1.1.1.1.1.1.1.1.1.2 (ε20 n P).1.1.1.1.1.1.1.1.1.1.1.1.1.1.1.2 (ε20 n P).1.1.1.1.1.1.1.1.1.1.1.1.1.1.2 (ε20 n P).1.1.1.1.1.1.1.1.1.1.1.1.1.2 (ε20 n P).1.1.1.1.1.1.1.1.1.1.1.1.2 (ε20 n P).1.1.1.1.1.1.1.1.1.1.1.2 (ε20 n P).1.1.1.1.1.1.1.1.1.1.2 (ε20 n P).1.1.1.1.1.1.1.1.1.2 (ε20 n P).1.1.1.1.1.1.1.1.2 (ε20 n P).1.1.1.1.1.1.1.2 (ε20 n P).1.1.1.1.1.1.2 (ε20 n P).1.1.1.1.1.2 (ε20 n P).1.1.1.1.2 (ε20 n P).1.1.1.2 (ε20 n P).1.1.2 (ε20 n P).1.2 (ε20 n P).2):∀x1 x2 x3 x4 x5 x6 x7 x8 x9 CS eO gg uE E6 Hz Rb VI Zz x19 x20,P x1 x2 x3 x4 x5 x6 x7 x8 x9 CS eO gg uE E6 Hz Rb VI Zz x19 x20:=λx1 x2=>e19 (P:=λt=>P t.1 t.2) n h (x1,x2)
end HL.Lake
set_option tactic.hygienic true
local macro_rules (kind:=Lean.Parser.Tactic.intros)
|s=>if s[1].getNumArgs==0 then Lean.Macro.throwUnsupported else
 let k:=s[1].getNumArgs
 let n:=Lean.Syntax.node .none
 let a:=Lean.mkAtom
 let N:=n Lean.nullKind
 let i:=λx=>(Lean.mkIdent (.str `HL.Lake x)).raw
 let j:=λx=>(Lean.mkIdent (.str .anonymous x)).raw
 let h:=n `Lean.Parser.Term.hole #[a "_"]
 let g:=λ(p:List (Lean.Syntax×Lean.Syntax))=>n `Lean.Parser.Tactic.generalize #[a "generalize",N (p.foldl (λr p=>(r.push (n `Lean.Parser.Tactic.generalizeArg #[N #[],p.1,a "=",p.2])).push (a ",")) #[]),N #[]]
 let q:=λp f=>n `Lean.Parser.Term.proj #[p,a ".",n `fieldIdx #[a f]]
 let T:="neCx neP neW neWd neSt neAO neV neAr neSh neMo".splitOn " "
 let(p,l):=(s[1].getArgs.toList.drop 1).foldr (λx(p,l)=>(q p "1",(q p "2",x)::l)) (j "zt",[])
 pure (N #[g (T.map λx=>(i x,j x)),n `Lean.Parser.Tactic.refine #[a "refine",n `Lean.Parser.Term.app #[n `Lean.Parser.Term.explicit #[a "@",i s!"e{k}"],N ((Array.replicate (k+1) h).push (j (if k==1 then"inferInstance" else"instNonemptyProd"))|>.push (n `Lean.Parser.Term.syntheticHole #[a "?",a "_"]))]],g [(n `Lean.Parser.Term.app #[i s!"ε{k}",N #[h,h]],j "zt")],g ((p,s[1][0])::l),n `Lean.Parser.Tactic.clear #[a "clear",N (("zt"::T).map j).toArray]])
set_option tactic.hygienic false
namespace HL.Lake
open PySem PySem.W PySem.Calls PyProof.Rows
section
variable{P:Params}{g:c7}{a b:List Addr}
theorem kE.get{l:ak (Str×V)}{es:ak gh}(h:kE P g a b l es)(nd:(fM (·.1)).iT){x:Str}{v:V}(m:(x,v)∈l):∃rv,getL x es=az (az rv)/\Rel P g a b v rv:=by
 haveI key:∃e,es.find? (·.yL x)=az e/\Rel P g a b v e.val:=by
  induction l generalizing es with
  |nil=>cases m
  |br p l ih=>
   cases h with
   |@br k v' t rv l' rl hv hr=>
    haveI nd:=ak.cT.mp nd
    rcases ak.bB m with e|m
    ·cases e
     exact⟨_,ak.find?_cons_of_pos (p:=λd:gh=>d.yL x) (cU x),hv⟩
    ·refine gg (ih hr nd.2 m) λe e1 r=>?_
     haveI hk:k≠x:=λe=>nd.1 (ak.xq ⟨_,m,e.symm⟩)
     exact⟨e,(ak.find?_cons_of_neg (p:=λd:gh=>d.yL x) (by intro q;exact hk (cL (show(k==x)=true from q)))).trans e1,r⟩
 refine gg key λe e1 r=>?_;clear key
 unfold getL
 rw[e1]
 exact⟨_,rfl,r⟩
theorem kE.noRef{l:ak (Str×V)}{es:ak gh}(h:kE P g a b l es):es.any (·.refKey)=false:=by
 induction l generalizing es with
 |nil=>cases h;rfl
 |br p l ih=>cases h with|br hv hr=>simp only[ak.any_cons,ih hr,aM.oW];rfl
theorem kE.miss{l:ak (Str×V)}{es:ak gh}(h:kE P g a b l es){x:Str}(m:x∉fM (·.1)):getL x es=az none:=by
 have:es.find? (·.yL x)=none:=by
  induction l generalizing es with
  |nil=>cases h;rfl
  |br p l ih=>
   cases h with
   |@br k v' t rv l' rl hv hr=>
    exact(ak.find?_cons_of_neg (p:=λd:gh=>d.yL x) (by intro q;exact m (cL (show(k==x)=true from q)▸.dw _))).trans (ih hr λq=>m (.cI _ q))
 unfold getL
 rw[this,h.noRef]
 rfl
theorem kE.nB{l:ak (Str×V)}{es:ak gh}(h:kE P g a b l es):l.aq=es.aq:=by
 induction l generalizing es with
 |nil=>cases h;rfl
 |br p l ih=>cases h with|br hv hr=>simp[ih hr]
inductive Jx(x:Str)(v:V):ak (Str×V)->ak (Str×V)->Prop
 |dw {w r}:Jx x v ((x,w)::r) ((x,v)::r)
 |cI {p r r'}:Jx x v r r'->Jx x v (p::r) (p::r')
theorem Jx.nB{x:Str}{v:V}{l l':ak (Str×V)}(h:Jx x v l l'):l'.map (·.1)=fM (·.1):=by
 induction h with
 |dw=>rfl
 |cI _ ih=>simp[ih]
theorem Jx.mem{x:Str}{v:V}{l l':ak (Str×V)}(h:Jx x v l l'):x∈fM (·.1):=by
 induction h with
 |dw=>exact .dw _
 |cI _ ih=>exact .cI _ ih
theorem Fb{x k:Str}{hh h0:Int}{t:Tok}{kk rv w:aI}{es:ak gh}(h:k≠x):putL x hh kk rv (⟨h0,.str k t,w⟩::es)=⟨h0,.str k t,w⟩::putL x hh kk rv es:=aY λq=>h (cL q)
theorem kE.put{l l':ak (Str×V)}{es:ak gh}(h:kE P g a b l es)(nd:(fM (·.1)).iT){x:Str}{v:V}{rv:aI}(m:Jx x v l l')(r:Rel P g a b v rv){hh:Int}{kk:aI}:
  kE P g a b l' (putL x hh kk rv es):=by
 induction m generalizing es with
 |dw=>
  cases h with
  |@br _ _ t w _ rl hv hr=>rw[show putL x hh kk rv (⟨_,.str x t,w⟩::rl)=_ from bJ (cU x)];exact .br r hr
 |cI m ih=>
  cases h with
  |br hv hr=>
   haveI nd:=ak.cT.mp nd
   rw[Fb (by rintro rfl;exact nd.1 m.mem)]
   exact .br hv (ih hr nd.2)
theorem kE.VJ{l:ak (Str×V)}{es:ak gh}(h:kE P g a b l es){x:Str}{v:V}{rv:aI}(m:x∉fM (·.1))(r:Rel P g a b v rv){t:Tok}:
  kE P g a b (l++[(x,v)]) (putL x (p6 P x) (.str x t) rv es):=by
 induction l generalizing es with
 |nil=>cases h;exact .br r .nil
 |br p l ih=>
  cases h with
  |br hv hr=>
   rw[Fb (by rintro rfl;exact m (.dw _))]
   exact .br hv (ih hr λq=>m (.cI _ q))
end
def Fc(l:ak Nat)(e:aB):aM:=yM λk=>!(k.beq e.ctorIdx)
set_option backward.match.sparseCases false in
def ZC(e:aB)(f:aB->ak aB->aM):aM:=match e with
 |.Call g a _ _=>f g a
 |_=>true
def qK(o:aB):aM:=ZC o λz9 a=>!a.qt
theorem mz{a b:aM}(h:(a&&b)=true):a=true/\b=true:=aM.and_eq_true_iff.mp h
theorem Rc{α:Type}{b:aM}{x:aH α}{y:α}(h:(bif b then x else none)=az y):b=true/\x=az y:=by
 cases b with
 |false=>cases h
 |true=>exact⟨rfl,h⟩
theorem pQ{o:aB}{gF:Str}{env:Env}{t:Sem aI}(h:qK o=true):attributeBase o gF env t=t:=by
 refine aB.casesOn (motive_1:=λo=>qK o=true->attributeBase o gF env t=t) o ?_ ?_ ?_ ?_ ?_ ?_ ?_ ?_ ?_ ?_ ?_ ?_ ?_ ?_ ?_ ?_ (λf a k p h=>?_) ?_ ?_ ?_ ?_ ?_ ?_ ?_ ?_ ?_ ?_ h
 case refine_17=>cases a with
  |nil=>cases h
  |br x r=>exact aB.casesOn (motive_1:=λf=>attributeBase (.Call f (x::r) k p) gF env t=t) f (by intros;rfl) (by intros;rfl) (by intros;rfl) (by intros;rfl) (by intros;rfl) (by intros;rfl) (by intros;rfl) (by intros;rfl) (by intros;rfl) (by intros;rfl) (by intros;rfl) (by intros;rfl) (by intros;rfl) (by intros;rfl) (by intros;rfl) (by intros;rfl) (by intros;rfl) (by intros;rfl) (by intros;rfl) (by intros;rfl) (by intros;rfl) (by intros;rfl) (by intros;rfl) (by intros;rfl) (by intros;rfl) (by intros;rfl) (by intros;rfl)
 all_goals(intros;rfl)
structure fU(env:Env)(sc:gO):Prop where
 bD:env.bD=sc
 su:sc.su=.ng
 lE:env.lE=iB
 j9:env.j9=wg
def qL(env:Env):Prop:=env.rO=az aN/\env.w4.sJ=true
theorem fU.ym{env:Env}{sc:gO}(h:fU env sc):env.bD.su=.ng:=h.bD▸h.su
theorem fU.look{env:Env}{sc:gO}{x:Str}{k:NameKind}(h:fU env sc)(e:(sc.bW x==az k)=true):env.kindOf x=az k:=by
 unfold Env.kindOf;rw[h.bD];exact iX.mp e
section
variable{c:Cx}{n:Nat}{env:Env}{Q:V->St->Prop}{X:St->Prop}{σ:St}{pos:Pos}
theorem UE{x:Str}{k:Nat}(h:Q (.str x) σ):WE c n env (.yN (.str x) k pos) Q X σ:=λA ω z9 hS=>by
 rw[xQ];exact wpAny_mkText (kP hS .str h)
theorem UG{i:Int}{k:Nat}(h:Q (.int i) σ):WE c n env (.yN (.int i) k pos) Q X σ:=λA ω z9 hS=>by
 rw[xQ];exact wpAny_mkInt (kP hS .int h)
theorem MZ{i:aM}{k:Nat}(h:Q (.bF i) σ):WE c n env (.yN (.bF i) k pos) Q X σ:=λA ω z9 hS=>by
 rw[xQ];exact bw (done hS .bF h)
theorem M0{k:Nat}(h:Q .none σ):WE c n env (.yN .none k pos) Q X σ:=λA ω z9 hS=>by
 rw[xQ];exact bw (done hS .none h)
theorem DP{x:Str}{v:V}{sc:gO}(he:fU env sc)(hm:(x,az v)∈rE)(hk:(sc.bW x==az .local)=true)(hd:(x==("__debug__":Str))=false)(h:Q v σ):WE c n env (.mQ x pos) Q X σ:=λA ω z9 hS=>by
 refine gg (hS.loc x v hm) λrv e r=>?_
 exact wpAny_Name (wpAny_loadName_local he.ym (xr hk) hS.ns e (done hS r h)) hd
def u0(c:Cx)(v:V)(rv:aI):Prop:=∀g:c7,(∀x o,gM.eF x=az o->g x=az o)->Rel aL g [] [] v rv
theorem u0.rel{v:V}{rv:aI}(h:u0 c v rv){L:aQ}{ω:Wd}(S:Sat c L σ ω):RV c ω v rv:=
 (h ω.g λx o e=>iG x o (c.X x o e)).eW ⟨λz9 z9 h=>h,λz9 z9 h=>(Lake.nn rfl h),λz9 z9 h=>(Lake.nn rfl h)⟩
theorem u0.st{rv:aI}:u0 c (.st rv) rv:=λz9 z9=>.st
theorem M1{x:Str}{v:V}{rv:aI}{sc:gO}(he:fU env sc)(hk:(sc.bW x==az .globalImplicit)=true)(hd:(x==("__debug__":Str))=false)
  (hg:nsIn gM iB x=az (az rv))(hr:u0 c v rv)(h:Q v σ):WE c n env (.mQ x pos) Q X σ:=λA ω z9 hS=>by
 haveI hn:ω.aP.Ns env.lE c.mg:=by rw[he.lE];exact c.g.kh λx o e=>hS.gr x o (hS.yJ x o e)
 exact wj he.ym (xr hk) (Calls.loadGlobal_global hn (mg_of c.X c.g hg) (done hS (hr.rel hS) h)) hd
theorem yS{x:Str}{rv:aI}{sc:gO}(he:fU env sc)(hk:(sc.bW x==az .globalImplicit)=true)(hd:(x==("__debug__":Str))=false)
  (hg:nsIn gM iB x=az none)(hb:vQ x=az rv)(hx:(x==("__name__":Str))=false)(h:Q (.st rv) σ):WE c n env (.mQ x pos) Q X σ:=λA ω z9 hS=>by
 haveI k:∀x o,gV.cF x=az o->ω.aP.cF x=az o:=λx o e=>hS.gr x o (hS.yJ x o e)
 haveI hn:ω.aP.Ns env.lE c.mg:=by rw[he.lE];exact c.g.kh k
 haveI KL:ω.aP.Ns env.j9 c.mb:=by rw[he.j9];exact c.b.kh k
 exact wj he.ym (xr hk) (Calls.loadGlobal_builtin hn (mg_none_of c.X c.g hg) KL ((c.bi x (beq_eq_false_iff_ne.mp hx)).trans hb) (done hS .st h)) hd
end
section
variable{c:Cx}{L:Addr}{σ:St}{ω:Wd}
theorem Tab.lt{P:dN}{g:c7}{a b ι:ak aQ}{h:c8}{T:ak AO}(t:Tab P g a b h ι T){x:aQ}(hx:x∈ι):x<h.nO.dM:=by
 refine eO (ak.mJ hx) λi iZ=>?_;refine eO iZ λhi e=>?_;clear iZ
 have hi':i<T.aq:=t.1▸hi
 refine oH (t.2 i T[i] (by simp[hi'])) λy ob ey ho zw=>?_
 rw[ak.bk hi,e]at ey
 cases ey
 exact c8.iu ho
theorem Sat.lt{x:aQ}(S:Sat c L σ ω)(hx:x∈L::(ω.a++ω.b)):x<ω.s.aC:=by
 rcases ak.bB hx with rfl|hx
 ·exact qX.lt
 ·rcases ak.cJ hx with hx|hx
  ·exact S.tT.lt hx
  ·exact S.tW.lt hx
theorem Sat.glt{x:aQ}{o:Obj}(S:Sat c L σ ω)(h:ω.g x=az o):x<ω.s.aC:=c8.iu (S.gr _ _ h)
theorem Tab.kh{P:dN}{g g':c7}{a a' b b' ι:ak aQ}{h h':c8}{T:ak AO}(t:Tab P g a b h ι T)(S:Sub g g' a a' b b')(hk:∀x∈ι,h'.cF x=h.cF x):Tab P g' a' b' h' ι T:=
 ⟨t.1,λi o e=>(t.2 i o e).imp λx q=>q.imp λob q=>⟨q.1,(hk x (ak.cg q.1)).trans q.2.1,q.2.2.eW S⟩⟩
def g8(g:c7)(x:aQ)(o:Obj):c7:=λy=>if y=x then az o else g y
theorem uF{g:c7}{x:aQ}{o:Obj}{a b:ak aQ}(h:g x=none):Sub g (g8 g x o) a a b b:=by
 refine⟨λy o' e=>?_,λz9 z9 h=>h,λz9 z9 h=>h⟩
 unfold g8
 rw[aY (by rintro rfl;exact Lake.nn (h) e)];exact e
theorem yp{h:c8}{o:Obj}{x:aQ}(hx:x<h.nO.dM):(h.jg o).cF x=h.cF x:=c8.get?_push_ne h x o (gY hx)
set_option tactic.hygienic true in
theorem Sat.jg(S:Sat c L σ ω)(o:Obj)(hf:o.isFreed=false)(k:Nat):
  Sat c L σ {ω with s:={ω.s with d8:=ω.aP.jg o,nA:=k},g:=g8 ω.g ω.s.aC o}/\
  Le ω {ω with s:={ω.s with d8:=ω.aP.jg o,nA:=k},g:=g8 ω.g ω.s.aC o}:=by
 revert S hf
 revert c L σ ω o k
 intros c L σ ω o k
 intro S hf
 haveI hn:ω.g ω.s.aC=none:=by
  cases e:ω.g ω.s.aC with
  |none=>rfl
  |az o'=>exact cO (S.glt e) (cQ _)
 have hs:∀{a b:ak aQ},Sub ω.g (g8 ω.g ω.s.aC o) a a b b:=uF hn
 refine⟨⟨qX.jg o,λx o' e=>?_,λx o' e=>hs.hg (a:=ω.a) (b:=ω.b) _ _ (iG x o' e),S.high,λx v m=>?_,S.nd,?_,?_,gD,λx hx=>?_,λx o' e=>bQ _ (S.kk x o' e),kN,λx m e=>(S.nf x m e).jg o,S.qC,λx m e=>⟨(S.oJ x m e).1,?_⟩,λx o' e=>?_⟩,⟨hs,rfl,rfl,rfl,rfl,rfl⟩⟩
 ·have e':(if x=ω.s.aC then az o else ω.g x)=az o':=e
  split at e'
  ·rename_i h;subst h;cases e';exact c8.fB _ hf
  ·exact bQ _ (S.gr x o' e')
 ·refine gg (sS x v m) λrv e r=>?_
  exact⟨rv,e,r.eW hs⟩
 ·exact S.tT.kh hs λx hx=>yp (S.tT.lt hx)
 ·exact S.tW.kh hs λx hx=>yp (S.tW.lt hx)
 ·show g8 _ _ _ x=none
  unfold g8
  rw[aY (gY (S.lt hx))]
  exact jk x hx
 ·show g8 _ _ _ x=none
  unfold g8
  rw[aY (gY (S.nf x m e).lt)]
  exact(S.oJ x m e).2
 ·show g8 _ _ _ x=none
  unfold g8
  rw[aY (gY (c8.iu (S.kk x o' e)))]
  exact S.dk x o' e
theorem Sat.UH(S:Sat c L σ ω)(o:AO)(ob:Obj)(r:zg aL ω.g (ω.a++[ω.s.aC]) ω.b o ob)(hf:ob.isFreed=false)(k:Nat):
  Sat c L {σ with T:=jx++[o]} {ω with s:={ω.s with d8:=ω.aP.jg ob,nA:=k},a:=ω.a++[ω.s.aC]}/\
  Le ω {ω with s:={ω.s with d8:=ω.aP.jg ob,nA:=k},a:=ω.a++[ω.s.aC]}:=by
 revert S r hf
 revert c L σ ω o ob k
 intros c L σ ω o ob k
 intro S r hf
 have hs:∀{b:ak aQ},Sub ω.g ω.g ω.a (ω.a++[ω.s.aC]) b b:=λ{b}=>⟨λz9 z9 h=>h,λi x e=>(by
  have hi:i<ω.a.aq:=(ak.cz e).1
  rw[ak.jh hi];exact e),λz9 z9 h=>h⟩
 haveI ha:ω.s.aC∉L::(ω.a++ω.b):=λh=>cQ _ (S.lt h)
 have hn:ω.g ω.s.aC=none:=by
  cases e:ω.g ω.s.aC with
  |none=>rfl
  |az o'=>exact cO (S.glt e) (cQ _)
 haveI hnk:ω.k ω.s.aC=none:=by
  cases e:ω.k ω.s.aC with
  |none=>rfl
  |az o'=>exact cO (c8.iu (S.kk _ _ e)) (cQ _)
 refine⟨⟨qX.jg ob,λx o' e=>bQ _ (S.gr x o' e),iG,⟨sO,λx hx=>by
  rcases ak.cJ hx with hx|hx
  ·rcases ak.cJ hx with hx|hx
   ·exact S.high.2 x (ak.bA _ hx)
   ·have e:=ak.bR hx;haveI h1:=c.big;haveI h2:=sO;haveI h3:=qX.lt;show 1<x;rw[e];exact bh (kj h1) (aA h2 (fP h3))
  ·exact S.high.2 x (ak.bg _ hx)⟩,λx v m=>?_,S.nd,?_,?_,?_,λx hx=>?_,λx o' e=>bQ _ (S.kk x o' e),λx hx=>?_,λx m e=>(S.nf x m e).jg ob,λx hx=>?_,S.oJ,S.dk⟩,⟨hs,rfl,rfl,rfl,rfl,rfl⟩⟩
 ·refine gg (sS x v m) λrv e r=>?_
  exact⟨rv,e,r.eW hs⟩
 ·refine⟨by simp[S.tT.1],λi o' e=>?_⟩
  by_cases hi:i<jx.aq
  ·rw[ak.jh hi]at e
   refine oH (S.tT.2 i o' e) λx E4 e1 e2 r'=>?_
   exact⟨x,E4,hs.ha (b:=ω.b) _ _ e1,bQ _ e2,r'.eW hs⟩
  ·rw[ak.jy (aF hi)]at e
   have h0:i - jx.aq=0:=by
    cases hk:i - jx.aq with
    |lO=>rfl
    |kU j=>rw[hk]at e;simp at e
   rw[h0]at e
   cases e
   refine⟨ω.s.aC,ob,?_,c8.fB _ hf,r⟩
   have:i=ω.a.aq:=by rw[S.tT.1];exact(dU (aF λhn=>Lake.n3 [_,_,_] 1 (.a (.v 0) (.n 1)) (.v 1) 1 (.v 2) (.n 0) 1 (.v 1) (.a (.v 2) (.v 0)) rfl hn (aO h0) (Lake.Ra _ _)) (aF λhn=>Lake.n2 [_,_] 1 (.a (.v 1) (.n 1)) (.v 0) 1 (.v 0) (.v 1) rfl hn (aF hi)))
   subst this
   simp
 ·exact S.tW.kh ⟨λz9 z9 h=>h,λz9 z9 h=>h,λz9 z9 h=>h⟩ λx hx=>yp (S.tW.lt hx)
 ·haveI hp:(L::(ω.a++[ω.s.aC]++ω.b)).Perm (ω.s.aC::L::(ω.a++ω.b)):=by
   rw[ak.cV]
   exact((ak.perm_middle (l₁:=ω.a) (l₂:=ω.b)).br L).trans (.swap ..)
  exact hp.nodup_iff.mpr (ak.cT.mpr ⟨ha,gD⟩)
 ·simp only[ak.mem_cons,ak.mem_append,ak.nZ,oW]at hx
  rcases hx with rfl|(hx|rfl)|hx
  ·exact jk _ (.dw _)
  ·exact jk _ (.cI _ (ak.bA _ hx))
  ·exact hn
  ·exact jk _ (.cI _ (ak.bg _ hx))
 ·simp only[ak.mem_cons,ak.mem_append,ak.nZ,oW]at hx
  rcases hx with rfl|(hx|rfl)|hx
  ·exact kN _ (.dw _)
  ·exact kN _ (.cI _ (ak.bA _ hx))
  ·exact hnk
  ·exact kN _ (.cI _ (ak.bg _ hx))
 ·simp only[ak.mem_cons,ak.mem_append,ak.nZ,oW]at hx
  rcases hx with rfl|(hx|rfl)|hx
  ·exact S.qC _ (.dw _)
  ·exact S.qC _ (.cI _ (ak.bA _ hx))
  ·cases e:ω.kf ω.s.aC with
   |none=>rfl
   |az m=>exact cO (S.nf _ _ e).lt (cQ _)
  ·exact S.qC _ (.cI _ (ak.bg _ hx))
theorem Fd{l:ak aQ}(nd:l.iT){i j:Nat}{x y:aQ}(hi:l[i]?=az x)(hj:l[j]?=az y)(h:i≠j):x≠y:=by
 rintro rfl
 exact h ((ak.getElem?_inj (ak.cz hi).1 nd).mp (hi.trans hj.symm))
theorem Sat.neW(S:Sat c L σ ω){i j:Nat}{x y:aQ}(hi:ω.b[i]?=az x)(hj:ω.b[j]?=az y)(h:i≠j):x≠y:=
 Fd (ak.jo.mp (ak.cT.mp gD).2).2.1 hi hj h
theorem Sat.neT(S:Sat c L σ ω){i j:Nat}{x y:aQ}(hi:ω.a[i]?=az x)(hj:ω.a[j]?=az y)(h:i≠j):x≠y:=
 Fd (ak.jo.mp (ak.cT.mp gD).2).1 hi hj h
theorem Sat.neTW(S:Sat c L σ ω){x y:aQ}(hx:x∈ω.a)(hy:y∈ω.b):x≠y:=
 (ak.jo.mp (ak.cT.mp gD).2).2.2 x hx y hy
theorem Sat.neL(S:Sat c L σ ω){x:aQ}(hx:x∈ω.a++ω.b):L≠x:=by
 rintro rfl;exact(ak.cT.mp gD).1 hx
set_option tactic.hygienic true in
theorem Tab.set{P:dN}{g:c7}{a b ι:ak aQ}{h h':c8}{T:ak AO}(t:Tab P g a b h ι T){i:Nat}{d L:aQ}{o':AO}{E4:Obj}(hd:ι[i]?=az d)(hn:∀j x,ι[j]?=az x->i≠j->d≠x)(hL:∀x∈ι,x≠L)
  (h1:h'.cF d=az E4)(h2:∀x o,x≠d->x≠L->h.cF x=az o->h'.cF x=az o)(r:zg P g a b o' E4):Tab P g a b h' ι (T.set i o'):=by
 refine⟨by simp[t.1],λj o e=>?_⟩
 rw[ak.getElem?_set]at e
 split at e
 ·rename_i VK
  split at e
  ·cases e;exact⟨d,E4,VK▸hd,h1,r⟩
  ·cases e
 ·rename_i VK
  refine gC λG hG=>?_
  refine oH (t.2 j o e) λx ob e1 e2 r'=>?_
  refine hG ?_
  exact⟨x,ob,e1,h2 x _ (Ne.symm (hn j x e1 VK)) (hL x (ak.cg e1)) e2,r'⟩
theorem Tab.mK{P:dN}{g:c7}{a b ι:ak aQ}{h h':c8}{T:ak AO}(t:Tab P g a b h ι T)(hk:∀x∈ι,∀o,h.cF x=az o->h'.cF x=az o):Tab P g a b h' ι T:=
 ⟨t.1,λi o e=>let⟨x,ob,e1,e2,r⟩:=t.2 i o e;⟨x,ob,e1,hk x (ak.cg e1) _ e2,r⟩⟩
theorem Aq{h h':c8}{x:aQ}{m:Str->aH aI}(n:h.Ns x m)(k:∀o,h.cF x=az o->h'.cF x=az o):h'.Ns x m:=by
 refine x32 n λo es ep ho r=>?_;clear n;exact⟨o,es,ep,k o ho,r⟩
theorem Sat.Rd(S:Sat c L σ ω){i:Nat}{d:aQ}{o':AO}{E4:Obj}{h':c8}(hd:ω.b[i]?=az d)(hns:h'.Ns L ω.m)(hs:∀x o,x≠d->x≠L->ω.aP.cF x=az o->h'.cF x=az o)(h1:h'.cF d=az E4)(r:zg aL ω.g [] ω.b o' E4)(k:Nat):
  Sat c L {σ with W:=gJ.set i o'} {ω with s:={ω.s with d8:=h',nA:=k}}/\Le ω {ω with s:={ω.s with d8:=h',nA:=k}}:=by
 haveI hm:d∈ω.b:=ak.cg hd
 haveI hg:ω.g d=none:=jk d (.cI _ (ak.bg _ hm))
 haveI hgL:ω.g L=none:=jk L (.dw _)
 haveI kg:ω.k d=none:=kN d (.cI _ (ak.bg _ hm))
 haveI kfd:ω.kf d=none:=S.qC d (.cI _ (ak.bg _ hm))
 haveI kfL:ω.kf L=none:=S.qC L (.dw _)
 haveI kgL:ω.k L=none:=kN L (.dw _)
 refine⟨⟨hns,λx o e=>?_,iG,S.high,sS,S.nd,?_,?_,gD,jk,λx o e=>hs x o (by rintro rfl;exact Lake.nn (kg) e) (by rintro rfl;exact Lake.nn (kgL) e) (S.kk x o e),kN,λx m e=>Aq (S.nf x m e) (λo q=>hs x o (by rintro rfl;exact Lake.nn (kfd) e) (by rintro rfl;exact Lake.nn (kfL) e) q),S.qC,S.oJ,S.dk⟩,⟨.sI,rfl,rfl,rfl,rfl,rfl⟩⟩
 ·exact hs x o (by rintro rfl;exact Lake.nn (hg) e) (by rintro rfl;exact Lake.nn (hgL) e) (S.gr x o e)
 ·exact S.tT.mK λx hx o e=>hs x o (S.neTW hx hm) (Ne.symm (S.neL (ak.bA _ hx))) e
 ·exact S.tW.set hd (λj x e VK=>S.neW hd e VK) (λx hx=>Ne.symm (S.neL (ak.bg _ hx))) h1 hs r
theorem Sat.VL(S:Sat c L σ ω){i:Nat}{d:aQ}{o':AO}{E4:Obj}{h':c8}(hd:ω.a[i]?=az d)(hns:h'.Ns L ω.m)(hs:∀x o,x≠d->x≠L->ω.aP.cF x=az o->h'.cF x=az o)(h1:h'.cF d=az E4)(r:zg aL ω.g ω.a ω.b o' E4)(k:Nat):
  Sat c L {σ with T:=jx.set i o'} {ω with s:={ω.s with d8:=h',nA:=k}}/\Le ω {ω with s:={ω.s with d8:=h',nA:=k}}:=by
 haveI hm:d∈ω.a:=ak.cg hd
 haveI hg:ω.g d=none:=jk d (.cI _ (ak.bA _ hm))
 haveI hgL:ω.g L=none:=jk L (.dw _)
 haveI kg:ω.k d=none:=kN d (.cI _ (ak.bA _ hm))
 haveI kfd:ω.kf d=none:=S.qC d (.cI _ (ak.bA _ hm))
 haveI kfL:ω.kf L=none:=S.qC L (.dw _)
 haveI kgL:ω.k L=none:=kN L (.dw _)
 refine⟨⟨hns,λx o e=>?_,iG,S.high,sS,S.nd,?_,?_,gD,jk,λx o e=>hs x o (by rintro rfl;exact Lake.nn (kg) e) (by rintro rfl;exact Lake.nn (kgL) e) (S.kk x o e),kN,λx m e=>Aq (S.nf x m e) (λo q=>hs x o (by rintro rfl;exact Lake.nn (kfd) e) (by rintro rfl;exact Lake.nn (kfL) e) q),S.qC,S.oJ,S.dk⟩,⟨.sI,rfl,rfl,rfl,rfl,rfl⟩⟩
 ·exact hs x o (by rintro rfl;exact Lake.nn (hg) e) (by rintro rfl;exact Lake.nn (hgL) e) (S.gr x o e)
 ·exact S.tT.set hd (λj x e VK=>S.neT hd e VK) (λx hx=>Ne.symm (S.neL (ak.bA _ hx))) h1 hs r
 ·exact S.tW.mK λx hx o e=>hs x o (Ne.symm (S.neTW hm hx)) (Ne.symm (S.neL (ak.bg _ hx))) e
def cG(qJ h:c8)(L d:aQ):ak (aQ×Obj):=(ak.tO h.nO.dM).filterMap λx=>if x=L\/x=d\/(qJ.cF x).sJ then none else(h.cF x).map λo=>(x,o)
set_option tactic.hygienic true in
theorem yq{qJ h:c8}{L d:aQ}{p:aQ×Obj}(hp:p∈cG qJ h L d):h.cF p.1=az p.2/\p.1≠L/\qJ.cF p.1=none/\p.1≠d:=by
 revert hp
 revert qJ h L d p
 intros qJ h L d p
 intro hp
 refine gg (ak.pg.mp hp) λx bG e=>?_
 split at e
 ·cases e
 ·rename_i hc
  simp only[not_or,aM.not_eq_true,aH.isSome_eq_false_iff,aH.isNone_iff_eq_none]at hc
  cases q:h.cF x with
  |none=>rw[q]at e;cases e
  |az o=>rw[q]at e;cases e;exact⟨q,hc.1,hc.2.2,hc.2.1⟩
theorem HB{qJ h:c8}{L d x:aQ}{o:Obj}(e:h.cF x=az o)(h1:x≠L)(h2:qJ.cF x=none)(h3:x≠d):(x,o)∈cG qJ h L d:=by
 refine ak.pg.mpr ⟨x,ak.k7 (c8.iu e),?_⟩
 rw[aY (by simp[h1,h2,h3]),e];rfl
theorem Sat.ledger(S:Sat c L σ ω){d:aQ}{od:Obj}(hd:d∈ω.a++ω.b)(ho:ω.aP.cF d=az od):News gV L ω.aP (cG gV ω.aP L d++(d,od)::[]):=by
 intro p hp
 rcases ak.cJ hp with hp|hp
 ·have:=yq hp;exact⟨this.1,this.2.1,this.2.2.1⟩
 ·rw[ak.uy]at hp
  subst hp
  refine⟨ho,Ne.symm (S.neL hd),?_⟩
  cases q:gV.cF d with
  |none=>rfl
  |az o=>have:=iG d o q;exact Lake.nn (jk d (.cI _ hd)) this
theorem AV{m:Str->aH aI}{d:aQ}{od':Obj}{h h':c8}(F:Fr gV L h' m)(N:News gV L h' (cG gV h L d++(d,od')::[]))(K:∀x o,gV.cF x=az o->h.cF x=az o):
  h'.Ns L m/\(∀x o,x≠d->x≠L->h.cF x=az o->h'.cF x=az o)/\h'.cF d=az od':=by
 refine⟨F.ns,λx o h1 h2 e=>?_,(N (d,od') (by simp)).1⟩
 cases q:gV.cF x with
 |none=>exact(N (x,o) (ak.bA _ (HB e h2 q h1))).1
 |az o'=>have:=K x o' q;rw[e]at this;cases this;exact F.gr x o q
inductive tU(x:Str)(v:V):ak (Str×aH V)->ak (Str×aH V)->Prop
 |dw {w r}:tU x v ((x,w)::r) ((x,az v)::r)
 |cI {p r r'}:tU x v r r'->tU x v (p::r) (p::r')
theorem tU.nB{x:Str}{v:V}{l l':ak (Str×aH V)}(h:tU x v l l'):l'.map (·.1)=fM (·.1):=by
 induction h with
 |dw=>rfl
 |cI _ ih=>simp[ih]
theorem tU.mem{x:Str}{v:V}{l l':ak (Str×aH V)}(h:tU x v l l'):x∈fM (·.1):=by
 induction h with
 |dw=>exact .dw _
 |cI _ ih=>exact .cI _ ih
theorem tU.look{x:Str}{v:V}{l l':ak (Str×aH V)}(h:tU x v l l')(nd:(fM (·.1)).iT){y:Str}{u:V}(m:(y,az u)∈l'):(y=x/\u=v)\/(y≠x/\(y,az u)∈l):=by
 induction h with
 |@dw w r=>
  rcases ak.bB m with e|m'
  ·cases e;exact .inl ⟨rfl,rfl⟩
  ·refine .inr ⟨?_,.cI _ m'⟩
   rintro rfl
   exact(ak.cT.mp nd).1 (ak.xq ⟨(y,az u),m',rfl⟩)
 |@cI p r r' h ih=>
  rcases ak.bB m with e|m
  ·refine .inr ⟨?_,e▸.dw _⟩
   rintro rfl
   subst e
   exact(ak.cT.mp nd).1 h.mem
  ·rcases ih (ak.cT.mp nd).2 m with h|h
   ·exact .inl h
   ·exact .inr ⟨h.1,.cI _ h.2⟩
theorem Sat.store(S:Sat c L σ ω){x:Str}{v:V}{rv:aI}{l':ak (Str×aH V)}(p:tU x v rE l')(r:RV c ω v rv){h':c8}(hn:h'.Ns L (λy=>if y=x then az rv else ω.m y))(hs:c8.nJ L ω.aP h')(k:Nat):
  Sat c L {σ with loc:=l'} {ω with s:={ω.s with d8:=h',nA:=k},m:=λy=>if y=x then az rv else ω.m y}/\Le ω {ω with s:={ω.s with d8:=h',nA:=k},m:=λy=>if y=x then az rv else ω.m y}:=by
 revert S p r hn hs
 revert c L σ ω x v rv l' h' k
 intros c L σ ω x v rv l' h' k
 intro S p r hn hs
 haveI hg:ω.g L=none:=jk L (.dw _)
 haveI kg:ω.k L=none:=kN L (.dw _)
 refine⟨⟨hn,λy o e=>?_,iG,S.high,λy u m=>?_,?_,?_,?_,gD,jk,λy o e=>(hs.2 y (by rintro rfl;exact Lake.nn (kg) e)).trans (S.kk y o e),kN,λx m e=>(S.nf x m e).qu hs (by rintro rfl;exact Lake.nn (S.qC _ (.dw _)) e),S.qC,S.oJ,S.dk⟩,⟨.sI,rfl,rfl,rfl,rfl,rfl⟩⟩
 ·exact(hs.2 y (by rintro rfl;exact Lake.nn (hg) e)).trans (S.gr y o e)
 ·rcases p.look S.nd m with⟨rfl,rfl⟩|⟨pU,m⟩
  ·exact⟨rv,bJ rfl,r⟩
  ·refine gg (sS y u m) λru e r=>?_
   exact⟨ru,(aY pU).trans e,r⟩
 ·show(l'.map (·.1)).iT
  rw[p.nB];exact S.nd
 ·exact S.tT.kh .sI λx hx=>hs.2 x (Ne.symm (S.neL (ak.bA _ hx)))
 ·exact S.tW.kh .sI λx hx=>hs.2 x (Ne.symm (S.neL (ak.bg _ hx)))
end
section
variable{c:Cx}{n:Nat}{L:Addr}{env:Env}{X:St->Prop}{σ:St}{pos:Pos}{ω:Wd}
theorem d9.all{α β:Type}{rel:Wd->β->α->Prop}{Q:β->St->Prop}{F:α->aZ->Prop}(k:∀a b fL fj,Le ω fj->Sat c L fL fj->rel fj b a->Q b fL->F a fj.s):∀a s',d9 c L rel ω Q a s'->F a s':=by
 rintro a s ⟨b,fL,fj,l,rfl,S,r,q⟩
 exact k a b fL fj l S r q
theorem n8{α:Type}{A:dR}{t:Sem α}{Q Q':α->aZ->Prop}{ω fj:Wd}{s:aZ}(l:Le ω fj)(h:cZ (dB bU j5) A t Q (oK c env A fj X) s)(hQ:∀a s',Q a s'->Q' a s'):
  cZ (dB bU j5) A t Q' (oK c env A ω X) s:=aW h hQ λz9 z9 x=>x.le l
theorem Sat.M3{i:Nat}{l:ak (Str×V)}(S:Sat c L σ ω)(h:gJ[i]?=az (.bO l)):∃d es k,ω.b[i]?=az d/\ω.aP.cF d=az (lR es k)/\kE aL ω.g [] ω.b l es/\(fM (·.1)).iT:=by
 revert S h
 revert c L σ ω i l
 intros c L σ ω i l
 intro S h
 refine gC λG hG=>?_
 refine oH (S.tW.2 i _ h) λd ob e ho r=>?_
 refine hG ?_
 refine gC λG hG=>?_
 cases r with
 |bO r nd=>refine hG ?_;exact⟨d,_,_,e,ho,r,nd⟩
theorem Sat.zx{C:aQ}{i:Nat}{rv:aI}{l:ak (Str×V)}(S:Sat c L σ ω)(r:RV c ω (.cR C i) rv)(h:gJ[i]?=az (.bO l)):
  ∃x d es k,rv=.ref x/\ω.b[i]?=az d/\ω.g x=az ⟨.ref C,az d,.plain,#[]⟩/\InstAt ω.aP x ⟨.ref C,az d,.plain,#[]⟩ C (az (lR es k))/\ω.aP.cF d=az (lR es k)/\kE aL ω.g [] ω.b l es/\(fM (·.1)).iT:=by
 revert S r h
 revert c L σ ω C i rv l
 intros c L σ ω C i rv l
 intro S r h
 refine gC λG hG=>?_
 refine E3 (S.M3 h) λd es k e ho rd nd=>?_
 refine oH fQ λx d' ig hd hg=>?_;obtain rfl:=ig
 refine hG ?_
 rw[hd]at e;cases e
 exact⟨x,d,es,k,rfl,hd,hg,⟨S.gr _ _ hg,rfl,rfl,ho⟩,ho,rd,nd⟩
theorem ZD{P:dN}{g:c7}{a b:ak aQ}{v rv}(h:Rel P g [] b v rv):Rel P g a b v rv:=h.eW ⟨λz9 z9 h=>h,λz9 z9 h=>(Lake.nn rfl h),λz9 z9 h=>h⟩
def AW(K:xP)(C:aQ)(x:Str):Prop:=plainGet K C x=true/\yO K C=true/\∃gF,rG K (.ref C) x=az gF/\noGet K gF=true
def HC(K:xP)(C:aQ)(x:Str)(f:aQ):Prop:=plainGet K C x=true/\rG K (.ref C) x=az (az (.ref f))/\isFn K (.ref f)=true/\xR K (.ref f)=true/\fnIn K f=true
def DQ(K:xP)(C:aQ)(x:Str)(f:aQ):Prop:=HC K C x f/\yO K C=true/\specialIn K (.ref f) "__get__"=az (az (.cj "function.__get__"))/\takesIn K (.ref f)=az false/\copiedNames.jG x=false
def Dl(K:xP)(C:aQ)(x:Str):Prop:=rG K (.ref C) "__setattr__"=az (az (.cj "object.__setattr__"))/\plainOver K C=true/\takerIn K C x=az none/\yO K C=true
abbrev GA(c:Cx)(n:Nat)(env:Env)(x:Str)(v:V)(Q:V->St->Prop)(X:St->Prop)(σ:St):Prop:=
 WO c n env (λ|[o]=>getAttr o x true|_=>lY "") [v] (RV c) Q X σ
theorem fK.one{P:dN}{g:c7}{a b:ak aQ}{v:V}{kO:ak aI}(h:fK P g a b [v] kO):∃rv,kO=[rv]/\Rel P g a b v rv:=by
 revert h
 revert P g a b v kO
 intros P g a b v kO
 intro h
 cases h with|br r t=>cases t;exact⟨_,rfl,r⟩
theorem fK.two{P:dN}{g:c7}{a b:ak aQ}{v w:V}{kO:ak aI}(h:fK P g a b [v,w] kO):∃rv rw,kO=[rv,rw]/\Rel P g a b v rv/\Rel P g a b w rw:=by
 revert h
 revert P g a b v w kO
 intros P g a b v w kO
 intro h
 cases h with|br r t=>(refine gg t.one λrw bG r'=>?_;obtain rfl:=bG);exact⟨_,rw,rfl,r,r'⟩
theorem fK.three{P:dN}{g:c7}{a b:ak aQ}{v w z:V}{kO:ak aI}(h:fK P g a b [v,w,z] kO):∃rv rw rz,kO=[rv,rw,rz]/\Rel P g a b v rv/\Rel P g a b w rw/\Rel P g a b z rz:=by
 revert h
 revert P g a b v w z kO
 intros P g a b v w z kO
 intro h
 cases h with|br r t=>(refine oH t.two λrw rz ig r' Rg=>?_;obtain rfl:=ig);exact⟨_,rw,rz,rfl,r,r',Rg⟩
def uG:V->aM
 |.st (.cj _)=>false
 |_=>true
theorem AX{P:dN}{g:c7}{a b:ak aQ}{v:V}{rv:aI}(h:Rel P g a b v rv)(k:uG v=true):handedIn rv=true:=by
 revert h k
 revert P g a b v rv
 intros P g a b v rv
 intro h k
 cases h<;>first|rfl|(cases rv<;>first|rfl|cases k)
theorem VM{Q:V->St->Prop}{C:aQ}{i:Nat}{l:ak (Str×V)}{x:Str}{v:V}(hk:AW gM C x)(hW:gJ[i]?=az (.bO l))(hm:(x,v)∈l)(hb:uG v=true)(h:Q v σ):GA c n env x (.cR C i) Q X σ:=λA ω kO z9 hS hr=>by
 refine gC λG hG=>?_
 refine gg hr.one λrv bG r=>?_;obtain rfl:=bG
 refine MX (hS.zx r hW) λx' d es k zw hd hg I iZ=>?_;obtain rfl:=zw;refine zN iZ λho rd nd=>?_;clear iZ
 refine gg (rd.get nd hm) λrv e r'=>?_
 refine zN hk λh1 h2 iZ=>?_;clear hk;refine gg iZ λgF h3 h4=>?_;clear iZ
 refine hG ?_
 exact get_own hS.fr c.X I h1 h2 h3 h4 e (AX r' hb) (kP hS (ZD r') h)
theorem VN{Q:V->St->Prop}{C:aQ}{i:Nat}{l:ak (Str×V)}{x:Str}{v:V}{rv:aI}(hg:plainGet gM C x=true)(hh:yO gM C=true)(ha:rG gM (.ref C) x=az (az rv))(hn:specialIn gM rv "__get__"=az none)
  (hv:handedIn rv=true)(hc:copiedNames.jG x=false)(MM:u0 c v rv)(hW:gJ[i]?=az (.bO l))(hm:x∉fM (·.1))(h:Q v σ):GA c n env x (.cR C i) Q X σ:=λA ω kO z9 hS hr=>by
 refine gC λG hG=>?_
 refine gg hr.one λrv bG r=>?_;obtain rfl:=bG
 refine MX (hS.zx r hW) λx' d es k zw hd ZE I iZ=>?_;obtain rfl:=zw;refine zN iZ λho rd nd=>?_;clear iZ
 refine hG ?_
 exact get_cls hS.fr c.X I hg hh ha hn hv hc (rd.miss hm) (kP hS (MM.rel (hS.tok _)) h)
theorem yU{Q:V->St->Prop}{x:aQ}{C dx:aQ}{es:ak gh}{k:Nat}{nm:Str}{v:V}{rv:aI}(hk:AW gM C nm)(h1:gM.eF x=az ⟨.ref C,az dx,.plain,#[]⟩)(h2:gM.eF dx=az (lR es k))
  (hl:getL nm es=az (az rv))(hv:handedIn rv=true)(MM:u0 c v rv)(h:Q v σ):GA c n env nm (.st (.ref x)) Q X σ:=λA ω kO z9 hS hr=>by
 refine gg hr.one λrv bG r=>?_;obtain rfl:=bG
 (first|obtain rfl:=fQ|obtain⟨_,rfl⟩:=fQ|cases r)
 refine gC λG hG=>?_
 refine zN hk λa1 a2 iZ=>?_;clear hk;refine gg iZ λgF a3 a4=>?_;clear iZ
 refine hG ?_
 exact get_own hS.fr c.X (InstAt.of_K hS.X h1 h2) a1 a2 a3 a4 hl hv (kP hS (MM.rel (hS.tok _)) h)
theorem M4{Q:V->St->Prop}{C:aQ}{i:Nat}{l:ak (Str×V)}{x:Str}{f:aQ}(hk:DQ gM C x f)(hW:gJ[i]?=az (.bO l))(hm:x∉fM (·.1))
  (h:Q (.meth (.ref f) (.cR C i)) σ):GA c n env x (.cR C i) Q X σ:=λA ω kO z9 hS hr=>by
 refine gC λG hG=>?_
 refine gg hr.one λrv bG r=>?_;obtain rfl:=bG
 refine MX (hS.zx r hW) λx' d es k zw hd hg I iZ=>?_;obtain rfl:=zw;refine zN iZ λho rd nd=>?_;clear iZ
 refine YZ hk λfY h4 h5 h6 h7=>?_;clear hk;refine YZ fY λh1 h2 h3 ahw ahx=>?_;clear fY
 refine hG ?_
 refine get_bind hS.X I (plainGet_of h1).1 (findObj_fn h4 h2 h5 h6 h7 (by show lookIn x (lR es k)=_;rw[lookIn_dict,rd.miss hm])) (plainGet_of h1).2
  (rH (fn_get (s:={ω.s with nA:=ω.eV+1}) hS.X (iX.mp h3) (handed_on rfl ?_)))
 refine iU (hS.jg (methodObj (.ref f) (.ref x')) rfl (ω.eV+1)) λS' l'=>?_
 refine⟨_,σ,_,l',rfl,S',.meth (bJ rfl) (r.eW l'.sub),h⟩
theorem adD{C:aQ}{i:Nat}{l l':ak (Str×V)}{x:Str}{v:V}{rv rx:aI}{A:dR}{Q:qY->St->Prop}(hk:Dl gM C x)(hW:gJ[i]?=az (.bO l))(hp:Jx x v l l')(hz:l.aq<=1000)(hS:Sat c aN σ ω)
  (VO:RV c ω (.cR C i) rx)(r:Rel aL ω.g [] ω.b v rv)(h:Q () {σ with W:=gJ.set i (.bO l')}):cZ (dB bU j5) A (setAttr rx x rv) (d9 c aN (λz9 z9 z9=>True) ω Q) (oK c env A ω X) ω.s:=by
 revert hk hW hp hz hS VO r h
 revert c env X σ ω C i l l' x v rv rx A Q
 intros c env X σ ω C i l l' x v rv rx A Q
 intro hk hW hp hz hS VO r h
 refine gC λG hG=>?_
 refine MX (hS.zx VO hW) λx' d es k zw hd hg I iZ=>?_;obtain rfl:=zw;refine zN iZ λho rd nd=>?_;clear iZ
 refine YY hk λh1 h2 h3 h4=>?_;clear hk
 haveI N:=hS.ledger (ak.bg _ (ak.cg hd)) ho
 have HD:kE aL ω.g [] ω.b l' (putL x (p6 aL x) (.str x (ω.eV+1)) rv es):=rd.put nd hp r
 refine gg (HD.get (by rw[hp.nB];exact nd) (x:=x) (v:=v) (by
  clear hW hz h rd HD nd
  induction hp with
  |dw=>exact .dw _
  |cI _ ih=>exact .cI _ ih)) λru eg ig=>?_
 refine hG ?_
 haveI M5:(getL x es).sJ=true:=by
  unfold getL;split
  ·rfl
  ·rw[rd.noRef];rfl
 refine set_dict hS.fr c.X (news':=cG gV ω.aP aN d++(d,lR (putL x (p6 aL x) (.str x (ω.eV+1)) rv es) (putN x es k))::[]) N I rfl h1 h2 h3 h4 M5 rfl ?_ ?_ ?_
 ·have:∀q:ak (aQ×Obj),(∀p∈q,p.1≠d)->∀o o',Upd d o o' (q++(d,o)::[]) (q++(d,o')::[]):=by
   intro q
   induction q with
   |nil=>intro _ o o';exact .dw (λz9 h=>nomatch h)
   |br p q ih=>intro hq o o';exact .cI (hq p (.dw _)) (ih (λy hy=>hq y (.cI _ hy)) o o')
  exact this _ (λp hp=>(yq hp).2.2.2) _ _
 ·rw[<-HD.nB]
  have:=bM ak.aq hp.nB
  simp only[ak.bT]at this
  exact aA (aO this) hz
 ·intro h' F' N'
  refine zN (AV F' N' hS.fr.gr) λq1 q2 q3=>?_
  refine iU (hS.Rd (o':=.bO l') hd q1 q2 q3 (.bO HD (by rw[hp.nB];exact nd)) (ω.eV+2)) λS' Fe=>?_
  exact⟨(),_,_,Fe,rfl,S',trivial,h⟩
theorem VP{C:aQ}{i:Nat}{l:ak (Str×V)}{x:Str}{v:V}{rv rx:aI}{A:dR}{Q:qY->St->Prop}(hk:Dl gM C x)(hW:gJ[i]?=az (.bO l))(hp:x∉fM (·.1))(hz:l.aq+1<=1000)(hS:Sat c aN σ ω)
  (VO:RV c ω (.cR C i) rx)(r:Rel aL ω.g [] ω.b v rv)(h:Q () {σ with W:=gJ.set i (.bO (l++[(x,v)]))}):cZ (dB bU j5) A (setAttr rx x rv) (d9 c aN (λz9 z9 z9=>True) ω Q) (oK c env A ω X) ω.s:=by
 revert hk hW hp hz hS VO r h
 revert c env X σ ω C i l x v rv rx A Q
 intros c env X σ ω C i l x v rv rx A Q
 intro hk hW hp hz hS VO r h
 refine gC λG hG=>?_
 refine MX (hS.zx VO hW) λx' d es k zw hd hg I iZ=>?_;obtain rfl:=zw;refine zN iZ λho rd nd=>?_;clear iZ
 refine YY hk λh1 h2 h3 h4=>?_;clear hk
 refine hG ?_
 have N:=hS.ledger (ak.bg _ (ak.cg hd)) ho
 have HD:kE aL ω.g [] ω.b (l++[(x,v)]) (putL x (p6 aL x) (.str x (ω.eV+1)) rv es):=rd.VJ hp r
 have M5:(getL x es).sJ=true:=by rw[rd.miss hp];rfl
 refine set_dict hS.fr c.X (news':=cG gV ω.aP aN d++(d,lR (putL x (p6 aL x) (.str x (ω.eV+1)) rv es) (putN x es k))::[]) N I rfl h1 h2 h3 h4 M5 rfl ?_ ?_ ?_
 ·have:∀q:ak (aQ×Obj),(∀p∈q,p.1≠d)->∀o o',Upd d o o' (q++(d,o)::[]) (q++(d,o')::[]):=by
   intro q
   induction q with
   |nil=>intro _ o o';exact .dw (λz9 h=>nomatch h)
   |br p q ih=>intro hq o o';exact .cI (hq p (.dw _)) (ih (λy hy=>hq y (.cI _ hy)) o o')
  exact this _ (λp hp=>(yq hp).2.2.2) _ _
 ·rw[<-HD.nB]
  simpa using hz
 ·intro h' F' N'
  refine gC λG hG=>?_
  refine zN (AV F' N' hS.fr.gr) λq1 q2 q3=>?_
  have Rh:((l++[(x,v)]).map (·.1)).iT:=by
   rw[ak.ie,ak.jo]
   exact⟨nd,by simp,λy hy z hz=>by simp only[ak.yP,ak.map_nil,ak.uy]at hz;subst hz;rintro rfl;exact hp hy⟩
  refine iU (hS.Rd (o':=.bO (l++[(x,v)])) hd q1 q2 q3 (.bO HD Rh) (ω.eV+2)) λS' Fe=>?_
  refine hG ?_
  exact⟨(),_,_,Fe,rfl,S',trivial,h⟩
theorem M6{Q:V->St->Prop}{o:aB}{x:Str}(hn:qK o=true)(h:WE c n env o (λv fL=>GA c n env x v Q X fL) X σ):WE c n env (.mW o x pos) Q X σ:=λA ω hR hS=>by
 rw[arm_eval_Attribute,pQ hn]
 refine aK (aW (h A ω hR hS) ?_ λz9 z9 x=>x)
 refine d9.all λrv v bx ω₁ l₁ cW r d7=>?_
 refine aK (iw (aK (cY (n8 l₁ (d7 A ω₁ [rv] (hR.le l₁) cW (.br r .nil)) ?_))))
 rintro ru BB p
 exact aK (wpAny_letTemporaryGo (bw (yQ l₁)))
end
set_option backward.match.sparseCases false in
mutual
noncomputable def V.j7:V->Bool
 |.lo _=>false
 |.tup l=>V.gW l
 |.list l=>V.gW l
 |.dict l=>V.w6 l
 |.meth _ s=>s.j7
 |_=>true
noncomputable def V.gW:List V->Bool
 |[]=>true
 |v::r=>v.j7&&V.gW r
noncomputable def V.w6:List (Str×V)->Bool
 |[]=>true
 |(_,v)::r=>v.j7&&V.w6 r
end
theorem Rel.j7{P:dN}{g:c7}{a a' b:ak aQ}{v:V}{rv:aI}(h:Rel P g a b v rv):v.j7=true->Rel P g a' b v rv:=@Rel.rec P g a b (λv rv z9=>v.j7=true->Rel P g a' b v rv) (λv rv z9=>V.gW v=true->fK P g a' b v rv) (λv rv z9=>V.w6 v=true->kE P g a' b v rv) (λz9=>.none) (λz9=>.bF) (λz9=>.int) (λz9=>.str) (λz9=>.st) (λh z9=>.ob h) (λz9 e=>cO (show false=true from e) aM.bK) (λh k z9=>.cR h k) (λh z9 ih e=>.tup h (ih e)) (λh z9 ih e=>.aR h (ih e)) (λh q z9 n ih e=>.bO h q (ih e) n) (λh z9 ih e=>.meth h (ih e)) (λz9=>.nil) (λz9 z9 i1 i2 e=>.br (i1 (mz e).1) (i2 (mz e).2)) (λz9=>.nil) (λz9 z9 i1 i2 e=>.br (i1 (mz e).1) (i2 (mz e).2)) _ _ h
theorem fK.j7{P:dN}{g:c7}{a a' b:ak aQ}{v:ak V}{rv:ak aI}(h:fK P g a b v rv):V.gW v=true->fK P g a' b v rv:=@fK.rec P g a b (λv rv z9=>v.j7=true->Rel P g a' b v rv) (λv rv z9=>V.gW v=true->fK P g a' b v rv) (λv rv z9=>V.w6 v=true->kE P g a' b v rv) (λz9=>.none) (λz9=>.bF) (λz9=>.int) (λz9=>.str) (λz9=>.st) (λh z9=>.ob h) (λz9 e=>nomatch e) (λh k z9=>.cR h k) (λh z9 ih e=>.tup h (ih e)) (λh z9 ih e=>.aR h (ih e)) (λh q z9 n ih e=>.bO h q (ih e) n) (λh z9 ih e=>.meth h (ih e)) (λz9=>.nil) (λz9 z9 i1 i2 e=>.br (i1 (mz e).1) (i2 (mz e).2)) (λz9=>.nil) (λz9 z9 i1 i2 e=>.br (i1 (mz e).1) (i2 (mz e).2)) _ _ h
theorem kE.j7{P:dN}{g:c7}{a a' b:ak aQ}{v:ak (Str×V)}{rv:ak gh}(h:kE P g a b v rv):V.w6 v=true->kE P g a' b v rv:=@kE.rec P g a b (λv rv z9=>v.j7=true->Rel P g a' b v rv) (λv rv z9=>V.gW v=true->fK P g a' b v rv) (λv rv z9=>V.w6 v=true->kE P g a' b v rv) (λz9=>.none) (λz9=>.bF) (λz9=>.int) (λz9=>.str) (λz9=>.st) (λh z9=>.ob h) (λz9 e=>nomatch e) (λh k z9=>.cR h k) (λh z9 ih e=>.tup h (ih e)) (λh z9 ih e=>.aR h (ih e)) (λh q z9 n ih e=>.bO h q (ih e) n) (λh z9 ih e=>.meth h (ih e)) (λz9=>.nil) (λz9 z9 i1 i2 e=>.br (i1 (mz e).1) (i2 (mz e).2)) (λz9=>.nil) (λz9 z9 i1 i2 e=>.br (i1 (mz e).1) (i2 (mz e).2)) _ _ h
def F2{α β:Type}(R:α->β->Prop)(l:ak α):ak β->Prop:=@ak.rec α (λz9=>ak β->Prop) (λr=>r=[]) (λx z9 ih r=>∃y t,r=y::t/\R x y/\ih t) l
theorem F2.nil{α β:Type}{R:α->β->Prop}:F2 R [] []:=rfl
theorem F2.br{α β:Type}{R:α->β->Prop}{x:α}{y:β}{l:ak α}{r:ak β}(h:R x y)(t:F2 R l r):F2 R (x::l) (y::r):=⟨_,_,rfl,h,t⟩
theorem F2.ind{α β:Type}{R:α->β->Prop}{M:(l:ak α)->(r:ak β)->F2 R l r->Prop}(nil:M [] [] .nil)(br:∀{x y l r}(h:R x y)(t:F2 R l r),M l r t->M (x::l) (y::r) (.br h t)){l:ak α}{r:ak β}(h:F2 R l r):M l r h:=by
 induction l generalizing r with
 |nil=>obtain rfl:=(h:r=[]);exact nil
 |br x l ih=>(refine oH ((h:∃y t,r=y::t/\R x y/\F2 R l t)) λy t ig h1 h2=>?_;obtain rfl:=ig);exact br h1 h2 (ih h2)
abbrev jC(P:dN)(g:c7)(a b:ak aQ):ak (Str×V)->ak (Str×aI)->Prop:=F2 λp q=>p.1=q.1/\Rel P g a b p.2 q.2
theorem jC.ind{P:dN}{g:c7}{a b:ak aQ}{M:(l:ak (Str×V))->(r:ak (Str×aI))->jC P g a b l r->Prop}(nil:M [] [] .nil)(br:∀{k v rv l rl}(h:Rel P g a b v rv)(t:jC P g a b l rl),M l rl t->M ((k,v)::l) ((k,rv)::rl) (.br ⟨rfl,h⟩ t)){l:ak (Str×V)}{rl:ak (Str×aI)}(h:jC P g a b l rl):M l rl h:=
 F2.ind nil (λ{x y l r}h t ih=>by obtain⟨k,v⟩:=x;obtain⟨k',w⟩:=y;haveI e:k=k':=h.1;subst e;exact br h.2 t ih) h
structure KN(s s':aZ):Prop where
 iD:gk s'.iD=gk s.iD
 jE:s'.jE=s.jE
 os:s'.os=s.os
def HE(s:aZ)(b:ak aQ)(g k:c7)(x:aQ)(o:Obj):Prop:=g x=az o\/k x=az o\/(x∈b/\aP.cF x=az o)
def ZF(c:Cx)(A:dR)(s:aZ)(b:ak aQ)(g k:c7)(kf:aQ->aH (Str->aH aI))(Q:V->ak AO->Prop)(X:ak AO->Prop)(r:rI)(s':aZ):Prop:=
 match r with
 |.ok (.ret rv)=>∃v W' b' g',Sub g g' [] [] b b'/\KN s s'/\xK c W' s' b' g' k kf/\Rel aL g' [] b' v rv/\Q v W'
 |.ok _=>cM
 |.error e=>∃W' b' g',Sub g g' [] [] b b'/\KN s s'/\xK c W' s' b' g' k kf/\(∃l,jF=az l/\MY c l e s'.d8 (HE s' b' g' k))/\X W'
def gj(c:Cx)(n:Nat)(f:aI)(vs:ak V)(kw:ak (Str×V))(Q:V->ak AO->Prop)(X:ak AO->Prop)(W:ak AO):Prop:=
 ∀A s b g k kf kO BC,xM n A->(∃l,jF=az l/\zO c kf l)->xK c W s b g k kf->fK aL g [] b vs kO->jC aL g [] b kw BC->
  uz (dB bU j5) A (.call f ⟨kO,BC⟩) (ZF c A s b g k kf Q X) s
theorem gj.eW{c:Cx}{n:Nat}{f:aI}{vs:ak V}{kw:ak (Str×V)}{Q Q':V->ak AO->Prop}{X X':ak AO->Prop}{W:ak AO}(h:gj c n f vs kw Q X W)(hQ:∀v W,Q v W->Q' v W)(hX:∀W,X W->X' W):gj c n f vs kw Q' X' W:=
 λA s b g k kf kO BC a1 a2 a3 a4 a5=>codeAny_mono (h A s b g k kf kO BC a1 a2 a3 a4 a5) λr s' z=>by
  rcases r with e|(_|_|_|v)
  ·refine KI z λW' b' g' z1 z2 z3 z4 z5=>?_;clear z;exact⟨W',b',g',z1,z2,z3,z4,hX _ z5⟩
  ·exact z
  ·exact z
  ·exact z
  ·refine MX z λv W' b' g' z1 z2 z3 z4 z5=>?_;clear z;exact⟨v,W',b',g',z1,z2,z3,z4,hQ _ _ z5⟩
section
variable{c:Cx}{n:Nat}{env:Env}{X:St->Prop}{σ:St}{pos:Pos}{ω:Wd}{sc:Scope}
def lA(L:aQ)(ω:Wd):c7:=λx=>if x=L\/x∈ω.b\/(ω.kf x).sJ\/(ω.g x).sJ then none else ω.aP.cF x
def eY(L:aQ)(ω:Wd):aQ->aH (Str->aH aI):=λx=>if x=L then az ω.m else ω.kf x
set_option tactic.hygienic true in
theorem Sat.ZG{L:aQ}(S:Sat c L σ ω):xK c gJ ω.s ω.b ω.g (lA L ω) (eY L ω):=by
 revert S
 revert c σ ω L
 intros c σ ω L
 intro S
 have hb:∀x∈ω.b,x≠L:=λx hx=>Ne.symm (S.neL (ak.bg _ hx))
 refine⟨S.gr,iG,S.tW,(ak.jo.mp (ak.cT.mp gD).2).2.1,λx hx=>jk x (.cI _ (ak.bg _ hx)),?_,?_,?_,?_,?_,?_,⟨aA sO (fP qX.lt),λx hx=>S.high.2 x (ak.bg _ hx)⟩⟩
 ·intro x o e
  unfold lA at e
  split at e
  ·cases e
  ·exact e
 ·intro x hx
  unfold lA
  rw[bJ (.inr (.inl hx))]
 ·intro x m e
  unfold eY at e
  split at e
  ·rename_i h;subst h;cases e;exact qX
  ·exact S.nf x m e
 ·intro x hx
  unfold eY
  rw[aY (hb x hx)]
  exact S.qC x (.cI _ (ak.bg _ hx))
 ·intro x m e
  unfold eY at e
  split at e
  ·rename_i h;subst h;exact⟨by unfold lA;rw[bJ (.inl rfl)],jk _ (.dw _)⟩
  ·exact⟨by unfold lA;rw[bJ (.inr (.inr (.inl (by rw[e];rfl))))],(S.oJ x m e).2⟩
 ·intro x o e
  unfold lA at e
  split at e
  ·cases e
  ·rename_i h
   cases q:ω.g x with
   |none=>rfl
   |az o'=>exact cO (.inr (.inr (.inr (by rw[q];rfl)))) h
theorem Sat.uH{L:aQ}(S:Sat c L σ ω){x:aQ}(hx:x∈ω.a):∃o,ω.aP.cF x=az o/\lA L ω x=az o:=by
 revert S hx
 revert c σ ω L x
 intros c σ ω L x
 intro S hx
 refine gC λG hG=>?_
 refine eO (ak.mJ hx) λi iZ=>?_;refine eO iZ λhi e=>?_;clear iZ
 have hi':i<jx.aq:=S.tT.1▸hi
 refine oH (S.tT.2 i jx[i] (by simp[hi'])) λy ob ey ho zw=>?_
 refine hG ?_
 rw[ak.bk hi,e]at ey
 cases ey
 refine⟨ob,ho,?_⟩
 unfold lA
 rw[aY]
 ·exact ho
 ·rintro(h|h|h|h)
  ·exact S.neL (ak.bA _ hx) h.symm
  ·exact S.neTW hx h rfl
  ·rw[S.qC x (.cI _ (ak.bA _ hx))]at h;cases h
  ·rw[jk x (.cI _ (ak.bA _ hx))]at h;cases h
theorem Sat.back{L:aQ}(S:Sat c L σ ω){W':ak AO}{s':aZ}{b':ak aQ}{g':c7}(hs:Sub ω.g g' [] [] ω.b b')(hm:KN ω.s s')(S':xK c W' s' b' g' (lA L ω) (eY L ω)):
  Sat c L {σ with W:=W'} {ω with s:=s',b:=b',g:=g'}/\Le ω {ω with s:=s',b:=b',g:=g'}:=by
 revert S hs hm S'
 revert c σ ω L W' s' b' g'
 intros c σ ω L W' s' b' g'
 intro S hs hm S'
 have Bb:∀{a:ak aQ},Sub ω.g g' a a ω.b b':=⟨hs.hg,λz9 z9 h=>h,hs.hb⟩
 have kL:eY L ω L=az ω.m:=bJ rfl
 have Y3:∀x m,ω.kf x=az m->eY L ω x=az m:=λx m e=>by
  unfold eY;rw[aY];exact e
  rintro rfl;exact Lake.nn (S.qC _ (.dw _)) e
 have kk:∀x o,ω.k x=az o->lA L ω x=az o:=λx o e=>by
  unfold lA
  rw[aY]
  ·exact S.kk x o e
  ·rintro(h|h|h|h)
   ·subst h;exact Lake.nn (kN _ (.dw _)) e
   ·exact Lake.nn (kN x (.cI _ (ak.bg _ h))) e
   ·refine eO (aH.isSome_iff_exists.mp h) λm hm=>?_;exact Lake.nn ((S.oJ x m hm).1) e
   ·rw[S.dk x o e]at h;cases h
 haveI hLb:L∉b':=λh=>by have:=S'.qC L h;rw[kL]at this;cases this
 haveI Ri:∀x∈ω.a,x∉b':=λx hx h=>by
  refine gg (S.uH hx) λo bG e=>?_
  exact Lake.nn (S'.ok x h) e
 refine⟨⟨S'.nf L _ kL,S'.gr,S'.yJ,⟨sO,λx hx=>(ak.cJ hx).g9 (λq=>S.high.2 x (ak.bA _ q)) λq=>S'.sz.2 x q⟩,λx v m=>?_,S.nd,?_,S'.tab,?_,?_,λx o e=>S'.kk x o (kk x o e),?_,λx m e=>S'.nf x m (Y3 x m e),?_,λx m e=>⟨(S.oJ x m e).1,(S'.oJ x m (Y3 x m e)).2⟩,λx o e=>S'.dk x o (kk x o e)⟩,⟨Bb,hm.iD,hm.jE,hm.os,rfl,rfl⟩⟩
 ·refine gg (sS x v m) λrv e r=>?_
  exact⟨rv,e,r.eW Bb⟩
 ·refine⟨S.tT.1,λi o e=>?_⟩
  refine oH (S.tT.2 i o e) λx ob e1 e2 r=>?_
  refine gg (S.uH (ak.cg e1)) λE4 h1 h2=>?_
  rw[e2]at h1;cases h1
  exact⟨x,ob,e1,S'.kk x ob h2,r.eW Bb⟩
 ·have:=ak.jo.mp (ak.cT.mp gD).2
  refine ak.cT.mpr ⟨λh=>?_,ak.jo.mpr ⟨this.1,S'.nodup,λx hx y hy=>?_⟩⟩
  ·rcases ak.cJ h with h|h
   ·exact(ak.cT.mp gD).1 (ak.bA _ h)
   ·exact hLb h
  ·rintro rfl;exact Ri x hx hy
 ·intro x hx
  rcases ak.bB hx with rfl|hx
  ·exact(S'.oJ _ _ kL).2
  ·rcases ak.cJ hx with hx|hx
   ·refine gg (S.uH hx) λo bG e=>?_
    exact S'.dk x o e
   ·exact S'.out x hx
 ·intro x hx
  rcases ak.bB hx with rfl|hx
  ·exact kN _ (.dw _)
  ·rcases ak.cJ hx with hx|hx
   ·exact kN x (.cI _ (ak.bA _ hx))
   ·cases q:ω.k x with
    |none=>rfl
    |az o=>have:=kk x o q;exact Lake.nn (S'.ok x hx) this
 ·intro x hx
  rcases ak.bB hx with rfl|hx
  ·exact S.qC _ (.dw _)
  ·rcases ak.cJ hx with hx|hx
   ·exact S.qC x (.cI _ (ak.bA _ hx))
   ·cases q:ω.kf x with
    |none=>rfl
    |az m=>have:=Y3 x m q;exact Lake.nn (S'.qC x hx) this
end
mutual
inductive KO(T:List AO):V->V->Prop
 |same {v}:v.j7=true->KO T v v
 |lol {i l l'}:T[i]?=some (.list l)->HF T l l'->KO T (.lo i) (.list l')
 |lod {i l l'}:T[i]?=some (.dict l)->Fg T l l'->KO T (.lo i) (.dict l')
 |tup {l l'}:HF T l l'->KO T (.tup l) (.tup l')
 |list {l l'}:HF T l l'->KO T (.list l) (.list l')
 |dict {l l'}:Fg T l l'->KO T (.dict l) (.dict l')
inductive HF(T:List AO):List V->List V->Prop
 |same {v}:V.gW v=true->HF T v v
 |nil:HF T [] []
 |cons {v v' l l'}:KO T v v'->HF T l l'->HF T (v::l) (v'::l')
inductive Fg(T:List AO):List (Str×V)->List (Str×V)->Prop
 |same {v}:V.w6 v=true->Fg T v v
 |nil:Fg T [] []
 |cons {k v v' l l'}:KO T v v'->Fg T l l'->Fg T ((k,v)::l) ((k,v')::l')
end
theorem Fg.nB{T:ak AO}{l l':ak (Str×V)}(h:Fg T l l'):l'.map (·.1)=fM (·.1):=by
 induction l generalizing l' with
 |nil=>cases h<;>rfl
 |br p l ih=>
  cases h with
  |eG=>rfl
  |br h r=>simp[ih r]
def zj(g:c7)(a:ak aQ)(h:c8):c7:=λx=>if x∈a then h.cF x else g x
section
variable{P:Params}{g:c7}{a b:List Addr}{h:Heap}{T:List AO}
theorem sy(ho:∀x∈a,g x=none){a' b':ak aQ}:Sub g (zj g a h) a' a' b' b':=⟨λx o e=>by
 unfold zj
 rw[aY (λhx=>by exact Lake.nn (ho x hx) e)];exact e,λz9 z9 h=>h,λz9 z9 h=>h⟩
theorem KO.rel(t:Tab P g a b h a T)(ho:∀x∈a,g x=none)(h1:∀x∈a,1<x){v v':V}{rv:aI}(f:KO T v v'):Rel P g a b v rv->Rel P (zj g a h) [] b v' rv:=by
 revert t ho h1 f
 revert P g a b h T v v' rv
 intros P g a b h T v v' rv
 intro t ho h1 f
 exact @KO.rec T (λv v' z9=>∀rv,Rel P g a b v rv->Rel P (zj g a h) [] b v' rv) (λl l' z9=>∀rl,fK P g a b l rl->fK P (zj g a h) [] b l' rl) (λl l' z9=>∀rl,kE P g a b l rl->kE P (zj g a h) [] b l' rl)
  (λe z9 r=>(r.j7 e).eW (sy ho))
  (λe z9 ih z9 r=>by
   obtain⟨y,rfl,hi⟩:=fQ
   obtain⟨x,ob,e1,e2,q⟩:=t.2 _ _ e
   rw[hi]at e1;cases e1
   cases q with
   |aR q=>exact .aR (by unfold zj;rw[bJ (ak.cg hi)];exact e2) (ih _ q))
  (λe f ih z9 r=>by
   obtain⟨y,rfl,hi⟩:=fQ
   obtain⟨x,ob,e1,e2,q⟩:=t.2 _ _ e
   rw[hi]at e1;cases e1
   cases q with
   |bO q nd=>exact .bO (by unfold zj;rw[bJ (ak.cg hi)];exact e2) (h1 _ (ak.cg hi)) (ih _ q) (by rw[f.nB];exact nd))
  (λz9 ih z9 r=>by
   obtain⟨x,xs,n,rfl,hg,r⟩:=fQ
   exact .tup ((sy (a':=a) (b':=b) ho).hg _ _ hg) (ih _ r))
  (λz9 ih z9 r=>by
   obtain⟨x,xs,n,rfl,hg,r⟩:=fQ
   exact .aR ((sy (a':=a) (b':=b) ho).hg _ _ hg) (ih _ r))
  (λf ih z9 r=>by
   obtain⟨x,xs,n,rfl,hg,q,r,nd⟩:=fQ
   exact .bO ((sy (a':=a) (b':=b) ho).hg _ _ hg) q (ih _ r) (by rw[f.nB];exact nd))
  (λe z9 r=>(r.j7 e).eW (sy ho))
  (λz9 r=>by cases r;exact .nil)
  (λz9 z9 i1 i2 z9 r=>by cases r with|br r rs=>exact .br (i1 _ r) (i2 _ rs))
  (λe z9 r=>(r.j7 e).eW (sy ho))
  (λz9 r=>by cases r;exact .nil)
  (λz9 z9 i1 i2 z9 r=>by cases r with|br r rs=>exact .br (i1 _ r) (i2 _ rs))
  _ _ f rv
end
section
variable{c:Cx}{n:Nat}{env:Env}{X:St->Prop}{σ:St}{pos:Pos}{ω:Wd}{sc:Scope}
theorem Sat.leave{L:aQ}(S:Sat c L σ ω):xK c gJ ω.s ω.b (zj ω.g ω.a ω.aP) ω.k ω.kf:=by
 haveI ho:∀x∈ω.a,ω.g x=none:=λx hx=>jk x (.cI _ (ak.bA _ hx))
 have hs:∀{a' b':ak aQ},Sub ω.g (zj ω.g ω.a ω.aP) a' a' b' b':=sy ho
 refine⟨λx o e=>?_,λx o e=>(hs (a':=[]) (b':=[])).hg x o (iG x o e),S.tW.kh hs λz9 z9=>rfl,(ak.jo.mp (ak.cT.mp gD).2).2.1,λx hx=>?_,S.kk,λx hx=>kN x (.cI _ (ak.bg _ hx)),S.nf,λx hx=>S.qC x (.cI _ (ak.bg _ hx)),λx m e=>⟨(S.oJ x m e).1,?_⟩,λx o e=>?_,⟨aA sO (fP qX.lt),λx hx=>S.high.2 x (ak.bg _ hx)⟩⟩
 ·unfold zj at e
  split at e
  ·exact e
  ·exact S.gr x o e
 ·unfold zj
  rw[aY (λh=>S.neTW h hx rfl)]
  exact jk x (.cI _ (ak.bg _ hx))
 ·unfold zj
  rw[aY (λh=>by exact Lake.nn (S.qC x (.cI _ (ak.bA _ h))) e)]
  exact(S.oJ x m e).2
 ·unfold zj
  rw[aY (λh=>by exact Lake.nn (kN x (.cI _ (ak.bA _ h))) e)]
  exact S.dk x o e
def VQ(Q:V->ak AO->Prop)(fl:Fl)(σ:St):Prop:=match fl with
 |.ret v=>∃v',KO jx v v'/\Q v' gJ
 |.next=>Q .none gJ
 |_=>cM
def mL(l:ak Env):ak aQ:=l.filterMap (·.rO)
theorem ZJ{A:dR}{k8:Wd}{XB:ak AO->Prop}{e:aI}{s' s₀:aZ}{Rj:ak aQ}{Rk:c7}{R:rI->aZ->Prop}(he:fU env sc)(hns:qL env)(UI:∃fD,jF=az fD/\zO c k8.kf fD)(hL:gV.nO.dM<=aN)
  (Bb:Sub Rk k8.g [] [] Rj k8.b)(AY:KN s₀ k8.s)
  (h:oK c env (A.deeper env) k8 (λfL=>XB fL.W) e s')
  (hR:∀CP W' b' g',Sub Rk g' [] [] Rj b'->KN s₀ CP->xK c W' CP b' g' k8.k k8.kf->(∃l,jF=az l/\MY c l e CP.d8 (HE CP b' g' k8.k))->XB W'->R (.error e) CP):
  cZ (dB bU j5) (A.deeper env) (leaving env e) (λz9 CP=>R (.error e) CP) (λe' CP=>R (.error e') CP) s':=by
 revert he hns UI hL Bb AY h hR
 revert c env sc A k8 XB e s' s₀ Rj Rk R
 intros c env sc A k8 XB e s' s₀ Rj Rk R
 intro he hns UI hL Bb AY h hR
 refine gg UI λfD hA ho=>?_;clear UI
 obtain⟨fL,fj,l',rfl,S,hx,q⟩:=h
 have xN:(A.deeper env).frames=az (env::fD):=by show jF.map _=_;rw[hA];rfl
 have Bp:zO c fj.kf fD:=by rw[l'.kf];exact ho
 have hns:env.rO=az aN:=hns.1
 -- adF is Zw eG in both:Zw end
 have fin:∀(ea:aQ)(a0:aI)(B h':c8),e=.ref ea->c8.FlyingW B fD ea (.dg "KeyError") a0 h'->fj.aP.UpToSlots h'->(∀x o,gV.cF x=az o->B.cF x=az o)->(∀x o,Known fj x o->B.cF x=az o)->
   R (.error e) {fj.s with d8:=h'}:=by
  intro ea a0 B h' hea QK VR M7 KP
  subst hea
  have kp:∀x o,Known fj x o->h'.cF x=az o:=λx o k=>QK.1 x o (KP x o k)
  refine hR _ fL.W fj.b fj.g (Bb.trans ⟨l'.sub.hg,λz9 z9 h=>h,l'.sub.hb⟩) ⟨l'.iD.trans AY.iD,l'.jE.trans AY.jE,l'.os.trans AY.os⟩ ?_ ⟨fD,hA,ea,a0,B,rfl,QK,M7,λx o k=>KP x o ?_⟩ q
  ·rw[<-l'.k,<-l'.kf]
   refine⟨λx o e=>kp x o (.inl e),iG,?_,(ak.jo.mp (ak.cT.mp gD).2).2.1,λx hx=>jk x (.cI _ (ak.bg _ hx)),λx o e=>kp x o (.inr (.inl e)),λx hx=>kN x (.cI _ (ak.bg _ hx)),λx m e=>VR.ns (S.nf x m e),λx hx=>S.qC x (.cI _ (ak.bg _ hx)),S.oJ,S.dk,⟨aA sO (fP (VR.ns qX).lt),λx hx=>S.high.2 x (ak.bg _ hx)⟩⟩
   exact S.tW.mK λx hx o e=>kp x o (.inr (.inr ⟨ak.bg _ hx,e⟩))
  ·rcases k with k|k|⟨k1,k2⟩
   ·exact .inl k
   ·exact .inr (.inl (by rw[l'.k];exact k))
   ·refine .inr (.inr ⟨ak.bg _ k1,?_⟩)
    refine eO (ak.mJ k1) λi iZ=>?_;refine eO iZ λhi ex=>?_;clear iZ
    have hi':i<fL.W.aq:=S.tW.1▸hi
    refine oH (S.tW.2 i fL.W[i] (by simp[hi'])) λy ob ey hy zw=>?_
    rw[ak.bk hi,ex]at ey
    cases ey
    have:=kp x ob (.inr (.inr ⟨ak.bg _ k1,hy⟩))
    rw[k2]at this;cases this;exact hy
 refine gC λG hG=>?_
 rcases hx with⟨l,hl,ea,a0,B,rfl,QK,M7,KP⟩|⟨ea,vs,h1,rfl,hx,ZK,h1K,h1f,m1,ZL⟩
 ·refine hG ?_
  rw[xN]at hl;cases hl
  exact wpAny_leaves_onW xN hns QK λh' k1 k2=>fin ea a0 B h' rfl k1 k2 M7 KP
 ·refine hG ?_
  have n9:∀x∈mL (env::fD),x=aN\/∃m,fj.kf x=az m:=λx hx=>by
   refine gg (ak.pg.mp hx) λe' he' KQ=>?_
   rcases ak.bB he' with rfl|he'
   ·rw[hns]at KQ;cases KQ;exact .inl rfl
   ·refine iU (Bp e' he') λfY iZ=>?_;refine oH iZ λL' m VS hm Fi=>?_;clear iZ
    rw[KQ]at VS;cases VS;exact .inr ⟨m,hm⟩
  have M7:∀x o,gV.cF x=az o->(hideAll h1 (mL (env::fD))).cF x=az o:=λx o q=>hideAll_get _ (ZK x o q) λhm=>by
   rcases n9 x hm with rfl|⟨m,hm⟩
   ·exact cO (c8.iu q) (yR hL)
   ·have:=(S.oJ x m hm).2;rw[iG x o q]at this;cases this
  have KP:∀x o,Known fj x o->(hideAll h1 (mL (env::fD))).cF x=az o:=λx o k=>hideAll_get _ (h1K x o k) λhm=>by
   rcases n9 x hm with rfl|⟨m,hm⟩
   ·rcases k with k|k|⟨k,_⟩
    ·exact Lake.nn (jk _ (.dw _)) k
    ·exact Lake.nn (kN _ (.dw _)) k
    ·exact S.neL k rfl
   ·rcases k with k|k|⟨k,_⟩
    ·exact Lake.nn ((S.oJ x m hm).2) k
    ·exact Lake.nn ((S.oJ x m hm).1) k
    ·exact Lake.nn (S.qC x (.cI _ k)) hm
  have hff:h1.FunFrames (hideAll h1 (mL (env::fD))) (env::fD):=by
   refine⟨by rw[he.bD,he.su];decide,?_,?_⟩
   ·refine xJ ZL λob es ep ho hd MN=>?_;clear ZL
    exact⟨aN,ob,hns,hideAll_none _ (ak.pg.mpr ⟨env,.dw _,hns⟩),ho,λvs q=>by rw[hd]at q;(first|obtain rfl:=q.inv|obtain⟨_,rfl⟩:=q.inv|cases q)⟩
   ·have:∀l:ak Env,(∀e'∈l,e'∈fD)->h1.FunFrames (hideAll h1 (mL (env::fD))) l:=by
     intro l
     induction l with
     |nil=>intro _;trivial
     |br e' l ih=>
      intro hl
      refine iU (Bp e' (hl e' (.dw _))) λhk iZ=>?_;refine oH iZ λL' m hf hm Fi=>?_;clear iZ
      refine xJ (h1f L' m hm) λob es ep ho hd MN=>?_
      exact⟨hk,⟨L',ob,hf,hideAll_none _ (ak.pg.mpr ⟨e',.cI _ (hl e' (.dw _)),hf⟩),ho,λvs q=>by rw[hd]at q;(first|obtain rfl:=q.inv|obtain⟨_,rfl⟩:=q.inv|cases q)⟩,ih λz hz=>hl z (.cI _ hz)⟩
    exact this fD λz9 h=>h
  exact wpAny_leaves_madeW xN hns (λb o q=>of_hideAll _ q) hff hx λh' t k1 z9 z9 k2=>fin ea _ _ h' rfl k1 k2 M7 KP
end
structure ZM(K:xP)(f:aQ)(fd:kR)(sc:gO)(dO:ak iW):Prop where
 look:∃o,K.eF f=az o/\o.f9=.w4 fd
 dO:fd.dO=.stmts dO
 bD:fd.bD=sc
 lE:fd.lE=iB
 j9:fd.j9=wg
 code:codeIn K fd.code lZ=true
 su:sc.su=.ng
 co:sc.xu=false
def xw(c:Cx)(fd:kR)(vs:ak V)(kw:ak (Str×V))(bs:ak (Str×V)):Prop:=
 ∀(s:aZ)(g:c7)(b:ak aQ)(kO:ak aI)(BC:ak (Str×aI)),gM.In aP->(∀x o,gM.eF x=az o->g x=az o)->fK aL g [] b vs kO->jC aL g [] b kw BC->
  ∃rb,xx s fd ⟨kO,BC⟩ rb/\jC aL g [] b bs rb
theorem jC.nB{P:dN}{g:c7}{a b:ak aQ}{l:ak (Str×V)}{rl:ak (Str×aI)}(h:jC P g a b l rl):rl.map (·.1)=fM (·.1):=by
 induction h using F2.ind with
 |nil=>rfl
 |br h _ ih=>rw[ak.yP,ak.yP,ih,h.1]
theorem jC.look{P:dN}{g:c7}{a b:ak aQ}{l:ak (Str×V)}{rl:ak (Str×aI)}(h:jC P g a b l rl)(nd:(fM (·.1)).iT){x:Str}{v:V}(m:(x,v)∈l):∃rv,rl.sU.eF x=az rv/\Rel P g a b v rv:=by
 revert h nd m
 revert P g a b l rl x v
 intros P g a b l rl x v
 intro h nd m
 haveI key:∃rv,(x,rv)∈rl/\Rel P g a b v rv:=by
  induction h using jC.ind with
  |nil=>cases m
  |br r _ ih=>
   rcases ak.bB m with e|m
   ·cases e;exact⟨_,.dw _,r⟩
   ·refine gg (ih (ak.cT.mp nd).2 m) λrv h1 h2=>?_
    exact⟨rv,.cI _ h1,h2⟩
 refine gg key λrv h1 h2=>?_;clear key
 refine⟨rv,?_,h2⟩
 haveI Rh:(rl.sU.map (·.1)).iT:=by rw[ak.map_reverse,(ak.reverse_perm _).nodup_iff,h.nB];exact nd
 haveI MO:(x,rv)∈rl.sU:=ak.mem_reverse.mpr h1
 clear h h1 m nd h2
 generalize rl.sU=q at Rh MO
 induction q with
 |nil=>cases MO
 |br p q ih=>
  obtain⟨y,w⟩:=p
  simp only[ak.yP,ak.cT]at Rh
  rcases ak.bB MO with e|m
  ·cases e;simp[ak.lookup_cons]
  ·have:(x==y)=false:=by
    rw[beq_eq_false_iff_ne];rintro rfl;exact Rh.1 (ak.xq ⟨_,m,rfl⟩)
   rw[ak.lookup_cons,this];exact ih Rh.2 m
def Bc(bs:ak (Str×V))(cG:ak Str):ak (Str×aH V):=bs.map (λp=>(p.1,az p.2))++cG.map λx=>(x,none)
section
variable{c:Cx}{n:Nat}{X:List AO->Prop}{Q:V->List AO->Prop}{sc:Scope}
theorem KR{f:aQ}{fd:kR}{dO:ak iW}{vs:ak V}{kw bs:ak (Str×V)}{cG:ak Str}{Ar:ak AO}(D:ZM gM f fd sc dO)(hb:xw c fd vs kw bs)
  (hnd:((bs.map (·.1))++cG).iT)(yr:∀x∈bs.map (·.1),sc.bW x=az .local)(uI:∀x∈sc.kY,x.2≠.lI)
  (h:∀env,fU env sc->qL env->WS c n env dO (VQ Q) (λσ=>X gJ) ⟨Bc bs cG,[],Ar⟩)(HG:sc.isGenerator=false):gj c (n+1) (.ref f) vs kw Q X Ar:=by
 revert D hb hnd yr uI h HG
 revert c n X Q sc f fd dO vs kw bs cG Ar
 intros c n X Q sc f fd dO vs kw bs cG Ar
 intro D hb hnd yr uI h HG
 intros A s b g k kf kO BC
 intro hR hF S hv hk
 refine gC λG hG=>?_
 obtain⟨fD,hA,ho⟩:=hF
 have XK:gM.In aP:=λx o e=>S.gr x o (iG x o (c.X x o e))
 obtain⟨rb,hbt,hrb⟩:=hb s g b kO BC XK (λx o e=>iG x o (c.X x o e)) hv hk
 obtain⟨o,hl,hod⟩:=D.look
 refine hG ?_
 have M8:aP.NoLimit:=c.nl.kh λx o e=>S.gr x o (iG x o e)
 refine codeAny_call_def (fd:=fd) (dO:=dO) (binds:=rb) (hR.dl (k:=0) (bC _)) (XK _ _ hl) hod M8 (codeRec_of XK D.code) D.dO hbt (by rw[D.bD];exact uI) (λx hx=>by
   rw[D.bD];exact yr _ (by rw[<-hrb.nB];exact ak.xq ⟨x,hx,rfl⟩)) (λd7 hns Dm=>?_) (by rw[D.bD];exact D.co) (by rw[D.bD];exact HG) (by rw[D.bD];exact D.su)
 generalize BD:callEnv fd s.aC f=env
 have M9:aN=s.aC:=by rw[<-BD];rfl
 have he:fU env sc:=⟨by rw[<-BD];exact D.bD,D.su,by rw[<-BD];exact D.lE,by rw[<-BD];exact D.j9⟩
 have lM:∀x∈b,x<s.aC:=λx hx=>S.tab.lt hx
 have ZO:g s.aC=none:=by
  cases q:g s.aC with
  |none=>rfl
  |az o'=>exact cO (c8.iu (S.gr _ _ q)) (cQ _)
 have ZP:k s.aC=none:=by
  cases q:k s.aC with
  |none=>rfl
  |az o'=>exact cO (c8.iu (S.kk _ _ q)) (cQ _)
 have VT:kf s.aC=none:=by
  cases q:kf s.aC with
  |none=>rfl
  |az m=>exact cO (S.nf _ _ q).lt (cQ _)
 let k8:Wd:={s:={s with d8:=d7,nA:=eV+rb.aq},m:=λx=>rb.sU.eF x,a:=[],b:=b,g:=g,k:=k,kf:=kf}
 have Na:gV.nO.dM<=s.aC:=S.sz.1
 have HH:Sat c aN ⟨Bc bs cG,[],Ar⟩ k8:=by
  rw[M9]
  refine⟨hns,λx o e=>Dm x o (S.gr x o e),iG,⟨Na,λx hx=>S.sz.2 x (by simpa [k8]using hx)⟩,?_,?_,⟨rfl,λi o e=>(by simp at e)⟩,S.tab.kh .sI λx hx=>?_,?_,?_,λx o e=>Dm x o (S.kk x o e),?_,λx m e=>(S.nf x m e).kh Dm,?_,S.oJ,S.dk⟩
  ·intro x v m
   rcases ak.cJ m with m|m
   ·obtain⟨p,hp,e⟩:=ak.jt m
    cases e
    exact hrb.look (ak.jo.mp hnd).1 hp
   ·obtain⟨p,hp,e⟩:=ak.jt m
    cases e
  ·unfold Bc
   simpa [ak.ie,ak.pN,Function.comp_def]using hnd
  ·refine gC λG hG=>?_
   obtain⟨i,hi,e⟩:=ak.mJ hx
   have hi':i<Ar.aq:=S.tab.1▸hi
   obtain⟨y,ob,ey,ho,_⟩:=S.tab.2 i Ar[i] (by simp[hi'])
   refine hG ?_
   rw[ak.bk hi,e]at ey
   cases ey
   rw[ho];exact Dm _ _ ho
  ·exact ak.cT.mpr ⟨λh=>cQ _ (lM _ h),S.nodup⟩
  ·intro x hx
   rcases ak.bB hx with rfl|hx
   ·exact ZO
   ·exact jk x hx
  ·intro x hx
   rcases ak.bB hx with rfl|hx
   ·exact ZP
   ·exact kN x hx
  ·intro x hx
   rcases ak.bB hx with rfl|hx
   ·exact VT
   ·exact S.qC x hx
 have hf:qL env:=by rw[<-BD];exact⟨rfl,rfl⟩
 have h0:gV.cF aN=none:=by
  cases q:gV.cF aN with
  |none=>rfl
  |az o'=>exact cO (c8.iu q) (yR (M9▸Na))
 have hR':m9 c n env (A.deeper env) k8.kf:=⟨⟨by have:=hR.yK;show A.yK+1+_<_;exact(cP λhn=>Lake.n2 [_,_] 1 (.n 600) (.a (.a (.v 0) (.n 1)) (.m 10 (.v 1))) 1 (.a (.a (.v 0) (.m 10 (.a (.v 1) (.n 1)))) (.n 1)) (.n 600) rfl hn this),by have:=hR.units;show nI+3+_<_;exact(cP λhn=>Lake.n2 [_,_] 1 (.n 9000) (.a (.a (.v 0) (.n 3)) (.m 50 (.v 1))) 1 (.a (.a (.v 0) (.m 50 (.a (.v 1) (.n 1)))) (.n 1)) (.n 9000) rfl hn this),hR.jm⟩,⟨env::fD,by show jF.map _=_;rw[hA];rfl,λe' he'=>by
  rcases ak.bB he' with q|q
  ·subst q;exact⟨by rw[he.bD,he.su];decide,_,hf.1,h0,.inl rfl⟩
  ·obtain⟨h1,L',m,h2,h3,h4⟩:=ho e' q;exact⟨h1,L',h2,h4,.inr ⟨m,h3⟩⟩⟩,λz9=>⟨fD,by show jF.map _=_;rw[hA];rfl,ho⟩⟩
 refine aW (h env he hf (A.deeper env) k8 hR' HH) ?_ ?_
 ·refine d9.all λf fl fL fj l S' r q=>?_
  have SW:=S'.leave
  rw[l.k,l.kf]at SW
  have hs:Sub g (zj fj.g fj.a fj.aP) [] [] b fj.b:=
   (⟨l.sub.hg,λz9 z9 h=>h,l.sub.hb⟩:Sub g fj.g [] [] b fj.b).trans (sy λx hx=>S'.out x (.cI _ (ak.bA _ hx)))
  have AY:KN s fj.s:=⟨l.iD,l.jE,l.os⟩
  cases r with
  |next=>exact⟨.none,fL.W,_,_,hs,AY,SW,.none,q⟩
  |brk=>exact q.g9
  |rF=>exact q.g9
  |ret r=>
   obtain⟨v',fz,q⟩:=q
   exact⟨v',fL.W,_,_,hs,AY,SW,fz.rel S'.tT (λx hx=>S'.out x (.cI _ (ak.bA _ hx))) (λx hx=>S'.high.2 x (ak.bA _ hx)) r,q⟩
 ·intro e s' hx
  exact ZJ he hf ⟨fD,hA,ho⟩ (by rw[M9];exact Na) .sI ⟨rfl,rfl,rfl⟩ hx λCP W' b' g' z1 z2 z3 z4 z5=>⟨W',b',g',z1,⟨z2.iD,z2.jE,z2.os⟩,z3,z4,z5⟩
end
section
variable{c:Cx}{n:Nat}{env:Env}{X:St->Prop}{σ:St}{pos:Pos}{ω:Wd}{sc:Scope}
def ZQ:ak aI->Sem aI
 |f::vs=>call f vs
 |[]=>lY ""
abbrev CV(c:Cx)(n:Nat)(env:Env)(f:V)(vs:ak V)(Q:V->St->Prop)(X:St->Prop)(σ:St):Prop:=WO c n env ZQ (f::vs) (RV c) Q X σ
theorem m9.outs{A:dR}{L:aQ}(h:m9 c n env A ω.kf)(hL:aN=L):∃l,jF=az l/\zO c (eY L ω) l:=by
 revert h hL
 revert c n env ω A L
 intros c n env ω A L
 intro h hL
 refine gg h.fm λl hA ho=>?_
 refine⟨_,hA,λe he'=>?_⟩
 refine iU (ho e he') λh1 iZ=>?_;refine uE iZ λL' h2 h4 h3=>?_;clear iZ
 by_cases hq:L'=L
 ·subst hq
  exact⟨h1,L',ω.m,h2,by unfold eY;rw[bJ rfl],h4⟩
 ·rcases h3 with h3|⟨m,h3⟩
  ·exact cO (h3.trans hL) hq
  ·exact⟨h1,L',m,h2,by unfold eY;rw[aY hq];exact h3,h4⟩
theorem HJ{L:aQ}(S:Sat c L σ ω){s':aZ}{b':ak aQ}{g':c7}{W':ak AO}(S':xK c W' s' b' g' (lA L ω) (eY L ω)){x:aQ}{o:Obj}
  (h:Known {ω with s:=s',b:=b',g:=g'} x o):HE s' b' g' (lA L ω) x o:=by
 revert S S' h
 revert c σ ω L s' b' g' W' x o
 intros c σ ω L s' b' g' W' x o
 intro S S' h
 rcases h with h|h|⟨h1,h2⟩
 ·exact .inl h
 ·refine .inr (.inl ?_)
  unfold lA
  rw[aY]
  ·exact S.kk x o h
  ·rintro(q|q|q|q)
   ·subst q;exact Lake.nn (kN _ (.dw _)) h
   ·exact Lake.nn (kN x (.cI _ (ak.bg _ q))) h
   ·refine eO (aH.isSome_iff_exists.mp q) λm hm=>?_;exact Lake.nn ((S.oJ x m hm).1) h
   ·rw[S.dk x o h]at q;(first|obtain rfl:=q.inv|obtain⟨_,rfl⟩:=q.inv|cases q)
 ·rcases ak.cJ h1 with h1|h1
  ·refine .inr (.inl ?_)
   refine gg (S.uH h1) λob bG e=>?_
   have:=S'.kk x ob e
   rw[h2]at this;cases this;exact e
  ·exact .inr (.inr ⟨h1,h2⟩)
theorem yV{A:dR}{Q:V->St->Prop}{rv:rI}{s':aZ}(hS:Sat c aN σ ω)
  (z:ZF c A ω.s ω.b ω.g (lA aN ω) (eY aN ω) (λv W'=>Q v {σ with W:=W'}) (λW'=>X {σ with W:=W'}) rv s'):
  match(generalizing:=false) rv with|.ok (.ret v)=>d9 c aN (RV c) ω Q v s'|.ok _=>cM|.error e=>oK c env A ω X e s':=by
 revert hS z
 revert c env X σ ω A Q rv s'
 intros c env X σ ω A Q rv s'
 intro hS z
 rcases rv with e|(_|_|_|v)
 ·refine gC λG hG=>?_
  refine KI z λW' b' g' z1 z2 z3 ZE z5=>?_;clear z;(refine gg ZE λl z4 iZ=>?_;clear ZE;refine E3 iZ λea a0 B z6 z7 z8 z9=>?_;clear iZ)
  refine iU (hS.back z1 z2 z3) λS' l'=>?_
  refine hG ?_
  exact⟨_,_,l',rfl,S',.inl ⟨l,z4,ea,a0,B,z6,z7,z8,λx o k=>z9 x o (HJ hS z3 k)⟩,z5⟩
 ·exact z
 ·exact z
 ·exact z
 ·refine gC λG hG=>?_
  refine MX z λu W' b' g' z1 z2 z3 z4 z5=>?_;clear z
  refine iU (hS.back z1 z2 z3) λS' l'=>?_
  refine hG ?_
  exact⟨u,_,_,l',rfl,S',z4.eW ⟨λz9 z9 h=>h,λz9 z9 h=>(Lake.nn rfl h),λz9 z9 h=>h⟩,z5⟩
theorem BE{Q:V->St->Prop}{f:aI}{vs:ak V}(he:fU env sc)(hv:V.gW vs=true)(h:gj c n f vs [] (λv W'=>Q v {σ with W:=W'}) (λW'=>X {σ with W:=W'}) gJ):CV c n env (.st f) vs Q X σ:=by
 revert he hv h
 revert c n env X σ sc Q f vs
 intros c n env X σ sc Q f vs
 intro he hv h
 intros A ω kO
 intro hR hS hr
 cases hr with
 |br r rs=>
  (first|obtain rfl:=fQ|obtain⟨_,rfl⟩:=fQ|cases r)
  refine rH (codeAny_mono (h A ω.s ω.b ω.g (lA aN ω) (eY aN ω) _ _ hR.room (hR.outs rfl) hS.ZG (rs.j7 hv) .nil) λrv s' z=>?_)
  exact yV hS z
theorem HM{Q:V->St->Prop}{f:aI}{self:V}{vs:ak V}(he:fU env sc)(hv:V.gW (self::vs)=true)(h:gj c n f (self::vs) [] (λv W'=>Q v {σ with W:=W'}) (λW'=>X {σ with W:=W'}) gJ):CV c n env (.meth f self) vs Q X σ:=by
 revert he hv h
 revert c n env X σ sc Q f self vs
 intros c n env X σ sc Q f self vs
 intro he hv h
 intros A ω kO
 intro hR hS hr
 cases hr with
 |br r rs=>
  obtain⟨_,_,rfl,hg,r⟩:=fQ
  refine rH (method_call (hS.gr _ _ hg) (codeAny_mono (h A ω.s ω.b ω.g (lA aN ω) (eY aN ω) _ _ hR.room (hR.outs rfl) hS.ZG (fK.j7 (.br r rs) hv) .nil) λrv s' z=>?_))
  exact yV hS z
inductive Kp(c:Cx):V->Prop
 |cj {id}:Kp c (.st (.cj id))
 |dg {T}:Kp c (.st (.dg T))
 |ref {a}:xR gM (.ref a)=true->Kp c (.st (.ref a))
 |meth {f self}:fnIn gM f=true->Kp c (.meth (.ref f) self)
theorem Kp.ZR{L:aQ}{v:V}{rv:aI}(k:Kp c v)(S:Sat c L σ ω)(r:RV c ω v rv):∃k,(k=Keeper.rO\/k=wk\/k=sV)/\Looks (dB bU j5) ω.aP (keeperOf rv) k:=by
 revert k S r
 revert c σ ω L v rv
 intros c σ ω L v rv
 intro k S r
 cases k with
 |cj=>(first|obtain rfl:=fQ|obtain⟨_,rfl⟩:=fQ|cases r);exact⟨.machine,.inr (.inl rfl),Looks.now⟩
 |dg=>(first|obtain rfl:=fQ|obtain⟨_,rfl⟩:=fQ|cases r);exact⟨.machine,.inr (.inl rfl),Looks.now⟩
 |ref h=>(first|obtain rfl:=fQ|obtain⟨_,rfl⟩:=fQ|cases r);exact keeps_K h _ S.X
 |meth h=>(refine oH fQ λfY bG ig hg r=>?_;obtain rfl:=ig);exact keeps_M (q:=_) (self:=_) h _ ⟨S.gr _ _ hg,S.X⟩
def notStar(e:aB):aM:=Fc [22] e
def mD(l:ak aB):aM:=yM notStar
theorem vH{e:aB}{aU:ak aB}(h:notStar e=true):qW (e::aU) env=(false,eval e env)::qW aU env:=by
 cases e<;>first|rfl|cases h
theorem uJ{Q:ak V->St->Prop}(h:Q [] σ):WL c n env pos [] Q X σ:=λA ω z9 hS=>spliced_nil (done hS .nil h)
theorem wQ{Q:ak V->St->Prop}{e:aB}{aU:ak aB}(hs:notStar e=true)(h:WE c n env e (λv bx=>WL c n env pos aU (λvs bL=>Q (v::vs) bL) X bx) X σ):WL c n env pos (e::aU) Q X σ:=λA ω hR hS=>by
 refine args_cons (aW (h A ω hR hS) ?_ λz9 z9 x=>x) (vH hs)
 refine d9.all λrv v bx ω₁ l₁ cW r d7=>?_
 refine n8 l₁ (d7 A ω₁ (hR.le l₁) cW) ?_
 rintro kO BB ⟨vs,bL,dj,l₂,vI,fV,rs,i6⟩
 exact⟨v::vs,bL,dj,l₁.trans l₂,vI,fV,.br (r.eW l₂.sub) rs,i6⟩
theorem uK{l:ak aB}(h:mD l=true):(backTo pos (qW l env)).any (·.1)=false:=by
 induction l with
 |nil=>rfl
 |br e l ih=>
  simp only[mD,ak.all_cons,aM.bN]at h
  rw[vH h.1]
  show(false||(backTo pos (qW l env)).any (·.1))=false
  rw[ih h.2];rfl
theorem ql{M:Model}{A:dR}{E:aI->aZ->Prop}{s:aZ}{f:aI}{l:ak aB}{Q:Args->aZ->Prop}(hs:mD l=true)(h:cZ M A (spliced (backTo pos (qW l env))) (λvs s'=>Q ⟨vs,[]⟩ s') E s):
  cZ M A (evalArgs f true (backTo pos (qW l env)) []) Q E s:=by
 revert hs h
 revert env pos M A E s f l Q
 intros env pos M A E s f l Q
 intro hs h
 cases l with
 |nil=>
  unfold evalArgs
  show cZ M A (spliced []>>=_) Q E s
  refine aK (aW h (λvs s' h'=>aK (bw ?_)) λz9 z9 x=>x)
  exact cY (aK (bw (aK (bw (bw h')))))
 |br e l=>
  simp only[mD,ak.all_cons,aM.bN]at hs
  rw[vH hs.1]at h⊢
  exact evalArgs_plain h
end
section
variable{c:Cx}{n:Nat}{env:Env}{X:St->Prop}{σ:St}{pos:Pos}{ω:Wd}{sc:Scope}
theorem Bd:backToKw pos (keywordEach [] env)=[]:=rfl
def notAttr(e:aB):aM:=Fc [20] e
theorem As{f:aB}{args:ak aB}{kws:ak Keyword}(h:notAttr f=true):eval (.Call f args kws pos) env=(do callWith pos (<-eval f env) [] (backTo pos (qW args env)) (backToKw pos (keywordEach kws env))):=by
 cases f<;>first|rfl|cases h
theorem UJ{A:dR}{f:V}{rf:aI}{first:ak V}{Av:ak aI}{args:ak aB}{Q:V->St->Prop}(hs:mD args=true)(hR:m9 c n env A ω.kf)(hS:Sat c aN σ ω)(r:RV c ω f rf)(rs:E9 c ω first Av)
  (h:WL c n env pos args (λvs bL=>Kp c f/\CV c n env f (first++vs) Q X bL) X σ):
  cZ (dB bU j5) A (callWith pos rf Av (backTo pos (qW args env)) []) (d9 c aN (RV c) ω Q) (oK c env A ω X) ω.s:=by
 refine callWith_of (P:=λh=>∃k,(k=Keeper.rO\/k=wk\/k=sV)/\Looks (dB bU j5) h (keeperOf rf) k) (by rw[uK hs];rfl) (λz9 h=>h) ?_
 refine ql hs (aW (h A ω hR hS) ?_ λz9 z9 x=>x)
 refine d9.all λkO vs bL dj l₂ fV adK Y4=>?_
 refine iU Y4 λkp i6=>?_;clear Y4
 haveI r':=r.eW l₂.sub
 refine⟨kp.ZR fV r',?_⟩
 have:=i6 A dj (rf::(Av++kO)) (hR.le l₂) fV (.br r' ?_)
 ·exact n8 l₂ this λz9 z9 p=>yQ l₂
 ·clear i6 h
  haveI q:=rs.eW l₂.sub
  clear rs
  generalize first=l1 at q
  generalize Av=l2 at q
  induction l1 generalizing l2 with
  |nil=>(first|obtain rfl:=q.inv|obtain⟨_,rfl⟩:=q.inv|cases q);exact adK
  |br a l1 ih=>cases q with|br a b=>exact .br a (ih _ b)
theorem VU{Q:V->St->Prop}{f:aB}{args:ak aB}(hf:notAttr f=true)(hs:mD args=true)(h:WE c n env f (λv bx=>WL c n env pos args (λvs bL=>Kp c v/\CV c n env v vs Q X bL) X bx) X σ):
  WE c n env (.Call f args [] pos) Q X σ:=λA ω hR hS=>by
 rw[As hf]
 refine aK (aW (h A ω hR hS) ?_ λz9 z9 x=>x)
 refine d9.all λrf v bx ω₁ l₁ cW r d7=>?_
 exact n8 l₁ (UJ (first:=[]) hs (hR.le l₁) cW r .nil d7) λz9 z9 p=>yQ l₁
abbrev GM(c:Cx)(n:Nat)(env:Env)(x:Str)(v:V)(Q:V->ak V->St->Prop)(X:St->Prop)(σ:St):Prop:=
 ∀pl:Sem aM,WO (α:=aI×ak aI) (β:=V×ak V) c n env (λ|[o]=>getMethod o x pl|_=>lY "") [v] (λω p q=>RV c ω p.1 q.1/\E9 c ω p.2 q.2) (λp σ=>Q p.1 p.2 σ) X σ
theorem DR{l:ak aB}(h:mD l=true):(backTo pos (qW l env)).all (!·.1)=true:=by
 have:=uK (env:=env) (pos:=pos) h
 rw[ak.all_eq_not_any_not]
 simp only[aM.not_not]
 rw[this];rfl
theorem VV{Q:V->St->Prop}{o:aB}{x:Str}{apos:Pos}{args:ak aB}(hn:qK o=true)(hp:(apos.endLine==pos.line)=true)(hl:decide (args.aq<30)=true)(hs:mD args=true)
  (h:WE c n env o (λv bx=>GM c n env x v (λf first bL=>WL c n env pos args (λvs eB=>Kp c f/\CV c n env f (first++vs) Q X eB) X bL) X bx) X σ):
  WE c n env (.Call (.mW o x apos) args [] pos) Q X σ:=by
 revert hn hp hl hs h
 revert c n env X σ pos Q o x apos args
 intros c n env X σ pos Q o x apos args
 intro hn hp hl hs h
 intros A ω
 intro hR hS
 rw[arm_eval_Call,pQ hn]
 refine aK (aW (h A ω hR hS) ?_ λz9 z9 x=>x)
 refine d9.all λro v bx ω₁ l₁ cW r d7=>?_
 haveI ZS:methodCallForm (args.aq+([]:ak Keyword).aq) (backTo pos (qW args env)) (backToKw pos (keywordEach [] env))=true:=by
  unfold methodCallForm
  rw[DR hs]
  have:=bX hl
  simp only[Bd,ak.length_nil,Nat.add_zero,ak.all_nil,aM.and_true,aM.true_and,ak.isEmpty_nil,if_true]
  exact cN this
 unfold methodCall
 rw[ZS]
 refine aK (iw (aK (cY (n8 l₁ (d7 _ A ω₁ [ro] (hR.le l₁) cW (.br r .nil)) ?_))))
 refine d9.all λaz2 bz3 bL dj l₂ fV ZU i6=>?_
 obtain⟨rf,Av⟩:=az2
 obtain⟨f,first⟩:=bz3
 refine iU ZU λr2 rs2=>?_;clear ZU
 haveI Nb:methodCallPos true o env apos pos=gB pos:=by
  unfold methodCallPos
  rw[hp];rfl
 rw[Nb]
 refine aK (bw ?_)
 exact n8 (l₁.trans l₂) (UJ hs (hR.le (l₁.trans l₂)) fV r2 rs2 i6) λz9 z9 p=>yQ (l₁.trans l₂)
theorem Jy{Q:V->ak V->St->Prop}{C:aQ}{i:Nat}{l:ak (Str×V)}{x:Str}{f:aQ}(hk:HC gM C x f)(hW:gJ[i]?=az (.bO l))(hm:x∉fM (·.1))(h:Q (.st (.ref f)) [.cR C i] σ):GM c n env x (.cR C i) Q X σ:=λpl A ω kO z9 hS hr=>by
 refine gg hr.one λrv bG r=>?_;obtain rfl:=bG
 refine gC λG hG=>?_
 refine MX (hS.zx r hW) λx' d es k zw hd hg I iZ=>?_;obtain rfl:=zw;refine zN iZ λho rd nd=>?_;clear iZ
 refine YY hk λh1 h2 h3 jd=>?_;clear hk
 refine hG ?_
 exact method_inst hS.fr c.X I h1 h2 h3 (rd.miss hm) (done (b:=(V.st (.ref f),[V.cR C i])) hS ⟨.st,.br r .nil⟩ h)
theorem VW{Q:V->ak V->St->Prop}{C:aQ}{i:Nat}{l:ak (Str×V)}{x:Str}{v:V}(hk:AW gM C x)(hf:rG gM (.ref C) x=az none)(hW:gJ[i]?=az (.bO l))(hm:(x,v)∈l)(hb:uG v=true)(h:Q v [] σ):GM c n env x (.cR C i) Q X σ:=by
 revert hk hf hW hm hb h
 revert c n env X σ Q C i l x v
 intros c n env X σ Q C i l x v
 intro hk hf hW hm hb h
 intros pl A ω kO
 intro _ hS hr
 refine gC λG hG=>?_
 refine gg hr.one λrv bG r=>?_;obtain rfl:=bG
 refine MX (hS.zx r hW) λx' d es k zw hd hg I iZ=>?_;obtain rfl:=zw;refine zN iZ λho rd nd=>?_;clear iZ
 refine gg (rd.get nd hm) λrv e r'=>?_
 refine zN hk λh1 h2 iZ=>?_;clear hk;refine gg iZ λgF h3 h4=>?_;clear iZ
 refine hG ?_
 exact kmu_own hS.fr c.X I h1 hf (get_own hS.fr c.X I h1 h2 h3 h4 e (AX r' hb) (kP (b:=(v,([]:ak V))) hS ⟨ZD r',.nil⟩ h))
theorem Dn{Q:V->ak V->St->Prop}{x C dx f:aQ}{es:ak gh}{k:Nat}{nm:Str}(hk:HC gM C nm f)(h1:gM.eF x=az ⟨.ref C,az dx,.plain,#[]⟩)(h2:gM.eF dx=az (lR es k))(hl:getL nm es=az none)
  (h:Q (.st (.ref f)) [.st (.ref x)] σ):GM c n env nm (.st (.ref x)) Q X σ:=λpl A ω kO z9 hS hr=>by
 refine gg hr.one λrv bG r=>?_;obtain rfl:=bG
 (first|obtain rfl:=fQ|obtain⟨_,rfl⟩:=fQ|cases r)
 refine YY hk λa1 a2 a3 jd=>?_;clear hk
 exact method_inst hS.fr c.X (InstAt.of_K hS.X h1 h2) a1 a2 a3 hl (done (b:=(V.st (.ref f),[V.st (.ref x)])) hS ⟨.st,.br .st .nil⟩ h)
abbrev BV(c:Cx)(n:Nat)(env:Env)(op:lP)(a b:V)(Q:V->St->Prop)(X:St->Prop)(σ:St):Prop:=WO c n env (λ|[x,y]=>binaryOp op x y|_=>lY "") [a,b] (RV c) Q X σ
abbrev KV(c:Cx)(n:Nat)(env:Env)(op:CmpOp)(a b:V)(Q:V->St->Prop)(X:St->Prop)(σ:St):Prop:=WO c n env (λ|[x,y]=>compareOp op x y|_=>lY "") [a,b] (RV c) Q X σ
abbrev TV(c:Cx)(n:Nat)(env:Env)(a:V)(Q:aM->St->Prop)(X:St->Prop)(σ:St):Prop:=WO c n env (λ|[x]=>truthy x|_=>lY "") [a] (λz9 a b=>a=b) Q X σ
theorem UK{Q:V->St->Prop}{op:lP}{l r:aB}(h:WE c n env l (λa bx=>WE c n env r (λb bL=>BV c n env op a b Q X bL) X bx) X σ):WE c n env (.BinOp l op r pos) Q X σ:=λA ω hR hS=>by
 refine wpAny_BinOp (aW (h A ω hR hS) ?_ λz9 z9 x=>x)
 refine d9.all λra a bx ω₁ l₁ cW lQ d7=>?_
 refine n8 l₁ (d7 A ω₁ (hR.le l₁) cW) ?_
 refine d9.all λrb b bL dj l₂ fV pC i6=>?_
 exact n8 (l₁.trans l₂) (i6 A dj [ra,rb] (hR.le (l₁.trans l₂)) fV (.br (lQ.eW l₂.sub) (.br pC .nil))) λz9 z9 p=>yQ (l₁.trans l₂)
theorem Nc{Q:V->St->Prop}{op:CmpOp}{l r:aB}(hm:jH op r=false)(h:WE c n env l (λa bx=>WE c n env r (λb bL=>KV c n env op a b Q X bL) X bx) X σ):WE c n env (.oA l [op] [r] pos) Q X σ:=λA ω hR hS=>by
 refine wpAny_Compare1 (aW (h A ω hR hS) ?_ λz9 z9 x=>x) hm
 refine d9.all λra a bx ω₁ l₁ cW lQ d7=>?_
 refine n8 l₁ (d7 A ω₁ (hR.le l₁) cW) ?_
 refine d9.all λrb b bL dj l₂ fV pC i6=>?_
 exact n8 (l₁.trans l₂) (i6 A dj [ra,rb] (hR.le (l₁.trans l₂)) fV (.br (lQ.eW l₂.sub) (.br pC .nil))) λz9 z9 p=>yQ (l₁.trans l₂)
theorem AZ{Q:aM->St->Prop}{op:CmpOp}{l r:aB}(hm:jH op r=false)(h:WE c n env l (λa bx=>WE c n env r (λb bL=>KV c n env op a b (λv eB=>TV c n env v Q X eB) X bL) X bx) X σ):WT c n env (.oA l [op] [r] pos) Q X σ:=λA ω hR hS=>by
 refine wpAny_isTrue_Compare1 (aW (h A ω hR hS) ?_ λz9 z9 x=>x) hm
 refine d9.all λra a bx ω₁ l₁ cW lQ d7=>?_
 refine n8 l₁ (d7 A ω₁ (hR.le l₁) cW) ?_
 refine d9.all λrb b bL dj l₂ fV pC i6=>?_
 haveI oM:=l₁.trans l₂
 refine n8 oM (i6 A dj [ra,rb] (hR.le oM) fV (.br (lQ.eW l₂.sub) (.br pC .nil))) ?_
 refine d9.all λrv v eB gw jT lB DU qM=>?_
 haveI zy:=oM.trans jT
 exact n8 zy (qM A gw [rv] (hR.le zy) lB (.br DU .nil)) λz9 z9 p=>yQ zy
theorem UL{Q:aM->St->Prop}{x:aB}(h:WT c n env x (λb fL=>Q (!b) fL) X σ):WT c n env (.UnaryOp .Not x pos) Q X σ:=λA ω hR hS=>by
 refine isTrue_not (aW (h A ω hR hS) ?_ λz9 z9 x=>x)
 rintro b s₁ ⟨b',bx,ω₁,l₁,e,cW,rfl,d7⟩
 exact⟨!b',bx,ω₁,l₁,e,cW,rfl,d7⟩
def vY(e:aB):aM:=Fc [3,0,5,15] e
theorem KU{e:aB}{whole:Sem aI}(h:vY e=true):isTrue e env whole=(do let v <-whole;standAt e.pos;qw [v] (truthy v)):=by
 revert h
 exact aB.casesOn (motive_1:=λe=>vY e=true->isTrue e env whole=(do let v <-whole;standAt e.pos;qw [v] (truthy v))) e (by intros;first|rfl|contradiction) (by intros;first|rfl|contradiction) (by intros;first|rfl|contradiction) (by intros;first|rfl|contradiction) (by intros;first|rfl|contradiction) (by intros;first|rfl|contradiction) (by intros;first|rfl|contradiction) (by intros;first|rfl|contradiction) (by intros;first|rfl|contradiction) (by intros;first|rfl|contradiction) (by intros;first|rfl|contradiction) (by intros;first|rfl|contradiction) (by intros;first|rfl|contradiction) (by intros;first|rfl|contradiction) (by intros;first|rfl|contradiction) (by intros;first|rfl|contradiction) (by intros;first|rfl|contradiction) (by intros;first|rfl|contradiction) (by intros;first|rfl|contradiction) (by intros;first|rfl|contradiction) (by intros;first|rfl|contradiction) (by intros;first|rfl|contradiction) (by intros;first|rfl|contradiction) (by intros;first|rfl|contradiction) (by intros;first|rfl|contradiction) (by intros;first|rfl|contradiction) (by intros;first|rfl|contradiction)
theorem Jz{Q:aM->St->Prop}{e:aB}(hp:vY e=true)(h:WE c n env e (λv fL=>TV c n env v Q X fL) X σ):WT c n env e Q X σ:=λA ω hR hS=>by
 refine isTrue_plain (aW (h A ω hR hS) ?_ λz9 z9 x=>x) (KU hp)
 refine d9.all λrv v bx ω₁ l₁ cW lQ d7=>?_
 exact n8 l₁ (d7 A ω₁ [rv] (hR.le l₁) cW (.br lQ .nil)) λz9 z9 p=>yQ l₁
abbrev UM(c:Cx)(n:Nat)(env:Env)(op:ju)(l:ak aB)(Q:aM->St->Prop)(X:St->Prop)(σ:St):Prop:=W c n env (allTrue op l env) (λz9 a b=>a=b) Q X σ
theorem HN{Q:aM->St->Prop}{op:ju}{l:ak aB}(h:UM c n env op l Q X σ):WT c n env (.ju op l pos) Q X σ:=h
theorem VX{Q:aM->St->Prop}{op:ju}(h:Q (op==.And) σ):UM c n env op [] Q X σ:=λA ω hR hS=>bw (done hS rfl h)
theorem Bq{Q:aM->St->Prop}{op:ju}{x:aB}{l:ak aB}(h:WT c n env x (λb fL=>if b=(op==.And)then UM c n env op l Q X fL else Q b fL) X σ):UM c n env op (x::l) Q X σ:=λA ω hR hS=>by
 rw[arm_allTrue_cons]
 refine aK (aW (h A ω hR hS) ?_ λz9 z9 x=>x)
 refine d9.all λb b' bx ω₁ l₁ cW rz5 d7=>?_
 obtain rfl:=rz5
 cases op<;>(first|obtain rfl:=b'.inv|obtain⟨_,rfl⟩:=b'.inv|cases b')
 ·exact bw ⟨false,bx,ω₁,l₁,rfl,cW,rfl,d7⟩
 ·exact n8 l₁ (d7 A ω₁ (hR.le l₁) cW) λz9 z9 p=>yQ l₁
 ·exact n8 l₁ (d7 A ω₁ (hR.le l₁) cW) λz9 z9 p=>yQ l₁
 ·exact bw ⟨true,bx,ω₁,l₁,rfl,cW,rfl,d7⟩
end
section
variable{c:Cx}{n:Nat}{env:Env}{X:St->Prop}{σ:St}{pos:Pos}{ω:Wd}{sc:Scope}
theorem Fj{Q:V->St->Prop}{v:V}(hS:Sat c aN σ ω)(o:Obj)(hf:o.isFreed=false)(r:RV c {ω with s:={ω.s with d8:=ω.aP.jg o},g:=g8 ω.g ω.s.aC o} v (.ref ω.s.aC))(h:Q v σ):
  d9 c aN (RV c) ω Q (.ref ω.s.aC) {ω.s with d8:=ω.aP.jg o}:=by
 refine iU (hS.jg o hf ω.eV) λS' l'=>?_
 exact⟨v,σ,_,l',rfl,S',r,h⟩
theorem E9.len{vs:ak V}{kO:ak aI}(h:E9 c ω vs kO):kO.aq=vs.aq:=by
 induction vs generalizing kO with
 |nil=>cases h;rfl
 |br v vs ih=>cases h with|br _ r=>simp[ih r]
theorem iQ{g:c7}{x:aQ}{o:Obj}:g8 g x o x=az o:=bJ rfl
theorem Sat.Nf{L:aQ}(S:Sat c L σ ω):ω.g ω.s.aC=none:=by
 cases e:ω.g ω.s.aC with
 |none=>rfl
 |az o'=>exact cO (S.glt e) (cQ _)
theorem Ng{Q:V->St->Prop}{es:ak aB}{k:Nat}(h:WL c n env pos es (λvs fL=>vs.aq<=4096/\Q (.tup vs) fL) X σ):WE c n env (.sW es k pos) Q X σ:=λA ω hR hS=>by
 refine Tuple_ (aW (h A ω hR hS) ?_ λz9 z9 x=>x)
 refine d9.all λkO vs bx ω₁ l₁ cW rs hz6=>?_
 refine iU hz6 λhl d7=>?_;clear hz6
 refine pO ?_ ?_
 ·refine(Fj cW _ rfl (.tup iQ (rs.eW (uF cW.Nf))) d7).le l₁
 ·show kO.aJ.dM<=fu
  rw[ak.bZ,rs.len,kK];exact(aF λhn=>Lake.n2 [_] 1 (.a (.n 16777216) (.n 1)) (.v 0) 1 (.v 0) (.n 4096) rfl hn hl)
theorem JA{Q:V->St->Prop}{es:ak aB}(h:WL c n env pos es (λvs fL=>vs.aq<=4096/\Q (.aR vs) fL) X σ):WE c n env (.ak es pos) Q X σ:=λA ω hR hS=>by
 refine List_ (aW (h A ω hR hS) ?_ λz9 z9 x=>x)
 refine d9.all λkO vs bx ω₁ l₁ cW rs hz7=>?_
 obtain⟨hl,d7⟩:=hz7
 refine pO ?_ ?_
 ·refine(Fj cW _ rfl (.aR iQ (rs.eW (uF cW.Nf))) d7).le l₁
 ·show kO.aJ.dM<=fu
  rw[ak.bZ,rs.len,kK];exact(aF λhn=>Lake.n2 [_] 1 (.a (.n 16777216) (.n 1)) (.v 0) 1 (.v 0) (.n 4096) rfl hn hl)
theorem ZV{g:c7}{a b:ak aQ}{x:aQ}:Sub g g a (a++[x]) b b:=⟨λz9 z9 h=>h,λi y e=>by
 haveI hi:i<a.aq:=(ak.cz e).1
 rw[ak.jh hi];exact e,λz9 z9 h=>h⟩
theorem Dp{Q:V->St->Prop}(hS:Sat c aN σ ω)(o:AO)(ob:Obj)(r:zg aL ω.g ω.a ω.b o ob)(hf:ob.isFreed=false)(h:Q (.lo jx.aq) {σ with T:=jx++[o]}):
  d9 c aN (RV c) ω Q (.ref ω.s.aC) {ω.s with d8:=ω.aP.jg ob}:=by
 refine iU (hS.UH o ob (r.eW ZV) hf ω.eV) λS' l'=>?_
 refine⟨_,_,_,l',rfl,S',.lo ?_,h⟩
 show(ω.a++[ω.s.aC])[jx.aq]?=_
 rw[<-hS.tT.1];simp
theorem Rl{Q:V->St->Prop}{es:ak aB}(h:WL c n env pos es (λvs fL=>vs.aq<=4096/\Q (.lo fL.T.aq) {fL with T:=fL.T++[.aR vs]}) X σ):WE c n env (.ak es pos) Q X σ:=λA ω hR hS=>by
 refine List_ (aW (h A ω hR hS) ?_ λz9 z9 x=>x)
 refine d9.all λkO vs bx ω₁ l₁ cW rs hz8=>?_
 refine iU hz8 λhl d7=>?_;clear hz8
 refine pO ?_ ?_
 ·exact(Dp cW (.aR vs) _ (.aR rs) rfl d7).le l₁
 ·show kO.aJ.dM<=fu
  rw[ak.bZ,rs.len,kK];exact(aF λhn=>Lake.n2 [_] 1 (.a (.n 16777216) (.n 1)) (.v 0) 1 (.v 0) (.n 4096) rfl hn hl)
set_option tactic.hygienic true in
theorem Sat.KW{L:aQ}(S:Sat c L σ ω)(o:Obj)(hf:o.isFreed=false):
  Sat c L σ {ω with s:={ω.s with d8:=ω.aP.jg o},k:=g8 ω.k ω.s.aC o}:=by
 revert S hf
 revert c σ ω L o
 intros c σ ω L o
 intro S hf
 have pU:∀x,x<ω.s.aC->g8 ω.k ω.s.aC o x=ω.k x:=λx hx=>by unfold g8;rw[aY (gY hx)]
 refine⟨qX.jg o,λx o' e=>bQ _ (S.gr x o' e),iG,S.high,sS,S.nd,S.tT.kh .sI λx hx=>yp (S.tT.lt hx),S.tW.kh .sI λx hx=>yp (S.tW.lt hx),gD,jk,λx o' e=>?_,λx hx=>(pU x (S.lt hx)).trans (kN x hx),λx m e=>(S.nf x m e).jg o,S.qC,λx m e=>⟨(pU x (S.nf x m e).lt).trans (S.oJ x m e).1,(S.oJ x m e).2⟩,λx o' e=>?_⟩
 ·have e':(if x=ω.s.aC then az o else ω.k x)=az o':=e
  split at e'
  ·rename_i h;subst h;cases e';exact c8.fB _ hf
  ·exact bQ _ (S.kk x o' e')
 ·have e':(if x=ω.s.aC then az o else ω.k x)=az o':=e
  split at e'
  ·rename_i h;subst h;exact S.Nf
  ·exact S.dk x o' e'
set_option tactic.hygienic true in
theorem Sat.BF{L d:aQ}{o o':Obj}{k₀:c7}{h':c8}(S:Sat c L σ ω)(hk:ω.k=g8 k₀ d o)(h0:k₀ d=none)(hs:c8.nJ d ω.aP h')(hd:h'.cF d=az o')(t:Nat):
  Sat c L σ {ω with s:={ω.s with d8:=h',nA:=t},k:=k₀,g:=g8 ω.g d o'}/\Sub ω.g (g8 ω.g d o') ω.a ω.a ω.b ω.b:=by
 revert S hk h0 hs hd
 revert c σ ω L d o o' k₀ h' t
 intros c σ ω L d o o' k₀ h' t
 intro S hk h0 hs hd
 have kd:ω.k d=az o:=by rw[hk];exact iQ
 have pU:∀x,x≠d->ω.k x=k₀ x:=λx hx=>by rw[hk];unfold g8;rw[aY hx]
 have gd:ω.g d=none:=S.dk d o kd
 have n9:∀x∈L::(ω.a++ω.b),x≠d:=λx hx=>by rintro rfl;exact Lake.nn (kN x hx) kd
 have wO:∀x m,ω.kf x=az m->x≠d:=λx m e=>by rintro rfl;exact Lake.nn ((S.oJ x m e).1) kd
 have Fo:Sub ω.g (g8 ω.g d o') ω.a ω.a ω.b ω.b:=uF gd
 have gne:∀x,x≠d->g8 ω.g d o' x=ω.g x:=λx hx=>by unfold g8;rw[aY hx]
 refine⟨⟨qX.qu hs (n9 L (.dw _)),λx tV e=>?_,λx tV e=>Fo.hg x tV (iG x tV e),S.high,λx v m=>?_,S.nd,?_,?_,gD,λx hx=>(gne x (n9 x hx)).trans (jk x hx),λx tV e=>?_,λx hx=>(pU x (n9 x hx)).symm.trans (kN x hx),λx m e=>(S.nf x m e).qu hs (wO x m e),S.qC,λx m e=>⟨(pU x (wO x m e)).symm.trans (S.oJ x m e).1,(gne x (wO x m e)).trans (S.oJ x m e).2⟩,λx tV e=>?_⟩,Fo⟩
 ·have e':(if x=d then az o' else ω.g x)=az tV:=e
  split at e'
  ·rename_i h;subst h;cases e';exact hd
  ·rename_i h;exact(hs.2 x h).trans (S.gr x tV e')
 ·refine gg (sS x v m) λrv e r=>?_
  exact⟨rv,e,r.eW Fo⟩
 ·exact S.tT.kh Fo λx hx=>hs.2 x (n9 x (.cI _ (ak.bA _ hx)))
 ·exact S.tW.kh ⟨Fo.hg,λ_ _ h=>h,λ_ _ h=>h⟩ λx hx=>hs.2 x (n9 x (.cI _ (ak.bg _ hx)))
 ·have hx:x≠d:=by rintro rfl;have e':k₀ x=az tV:=e;exact Lake.nn (h0) e'
  exact(hs.2 x hx).trans (S.kk x tV ((pU x hx).trans e))
 ·have hx:x≠d:=by rintro rfl;have e':k₀ x=az tV:=e;exact Lake.nn (h0) e'
  exact(gne x hx).trans (S.dk x tV ((pU x hx).trans e))
abbrev ZW(c:Cx)(ω:Wd):ak (V×V)->ak (aI×aI)->Prop:=F2 λp q=>RV c ω p.1 q.1/\RV c ω p.2 q.2
abbrev WD(c:Cx)(n:Nat)(env:Env)(pos:Pos)(nB:ak (aH aB))(values:ak aB)(Q:ak (V×V)->St->Prop)(X:St->Prop)(σ:St):Prop:=W c n env (evalPairs (pairTrees nB values env pos)) (ZW c) Q X σ
end
section
variable{c:Cx}{n:Nat}{env:Env}{X:St->Prop}{σ:St}{pos:Pos}{ω:Wd}{sc:Scope}
theorem Nh{Q:ak (V×V)->St->Prop}{vs:ak aB}(h:Q [] σ):WD c n env pos [] vs Q X σ:=λA ω z9 hS=>by
 rw[show pairTrees [] vs env pos=[] from rfl]
 exact evalPairs_nil (done hS .nil h)
theorem Rm{Q:ak (V×V)->St->Prop}{k v:aB}{ks:ak (aH aB)}{vs:ak aB}(h:WE c n env k (λa bx=>WE c n env v (λb bL=>WD c n env pos ks vs (λps eB=>Q ((a,b)::ps) eB) X bL) X bx) X σ):
  WD c n env pos (az k::ks) (v::vs) Q X σ:=by
 revert h
 revert c n env X σ pos Q k v ks vs
 intros c n env X σ pos Q k v ks vs
 intro h
 intros A ω
 intro hR hS
 rw[show pairTrees (az k::ks) (v::vs) env pos=(eval k env,do let x <-eval v env;standAt pos;gB x)::pairTrees ks vs env pos from rfl]
 refine evalPairs_cons (aW (h A ω hR hS) ?_ λz9 z9 x=>x)
 refine d9.all λra a bx ω₁ l₁ cW lQ d7=>?_
 refine aK (n8 l₁ (d7 A ω₁ (hR.le l₁) cW) ?_)
 refine d9.all λrb b bL dj l₂ fV pC i6=>?_
 haveI oM:=l₁.trans l₂
 refine aK (iw (bw (n8 oM (i6 A dj (hR.le oM) fV) ?_)))
 rintro rps KY ⟨ps,eB,gw,jT,adP,lB,DU,qM⟩
 exact⟨_,eB,gw,oM.trans jT,adP,lB,.br ⟨lQ.eW (l₂.trans jT).sub,pC.eW jT.sub⟩ DU,qM⟩
def sX:ak (V×V)->aH (ak (Str×V))
 |[]=>az []
 |(.str x,v)::r=>(sX r).map ((x,v)::·)
 |_::_=>none
theorem Exc.BF{A:dR}{ω:Wd}{k₀:c7}{e:aI}(h:Exc c env A ω e)(hk:∀x o,k₀ x=az o->ω.k x=az o):Exc c env A {ω with k:=k₀} e:=by
 revert h hk
 revert c env A ω k₀ e
 intros c env A ω k₀ e
 intro h hk
 have kn:∀x o,Known {ω with k:=k₀} x o->Known ω x o:=λx o h=>by
  rcases h with h|h|h
  ·exact .inl h
  ·exact .inr (.inl (hk x o h))
  ·exact .inr (.inr h)
 refine gC λG hG=>?_
 rcases h with⟨l,h1,ea,a0,B,h2,h3,h4,h5⟩|⟨ea,vs,h1,h2,h3,h4,h5,h6,h7⟩
 ·refine hG ?_
  exact .inl ⟨l,h1,ea,a0,B,h2,h3,h4,λx o q=>h5 x o (kn x o q)⟩
 ·refine hG ?_
  exact .inr ⟨ea,vs,h1,h2,h3,h4,λx o q=>h5 x o (kn x o q),h6,h7⟩
theorem Ni{α:Type}{x:aH α}(h:∀o,x=az o->cM):x=none:=by
 cases x with
 |none=>rfl
 |az o=>exact(h o rfl).g9
theorem Sat.ZX{L:aQ}{k₀:c7}(S:Sat c L σ ω)(hk:∀x o,k₀ x=az o->ω.k x=az o):Sat c L σ {ω with k:=k₀}:=
 ⟨qX,S.gr,iG,S.high,sS,S.nd,S.tT,S.tW,gD,jk,λx o e=>S.kk x o (hk x o e),λx hx=>Ni λo q=>(by
  have:=hk x o q;rw[kN x hx]at this;cases this),S.nf,S.qC,λx m e=>⟨Ni λo q=>(by
  have:=hk x o q;rw[(S.oJ x m e).1]at this;cases this),(S.oJ x m e).2⟩,λx o e=>S.dk x o (hk x o e)⟩
theorem oK.BF{A:dR}{ω₁:Wd}{k₀:c7}{e:aI}{s':aZ}(h:oK c env A ω₁ X e s')(hk:∀x o,k₀ x=az o->ω₁.k x=az o)(hl:Le ω {ω₁ with k:=k₀}):oK c env A ω X e s':=by
 obtain⟨fL,fj,l,e',S,hx,q⟩:=h
 haveI Dq:∀x o,k₀ x=az o->fj.k x=az o:=λx o q=>by rw[l.k];exact hk x o q
 haveI l':Le {ω₁ with k:=k₀} {fj with k:=k₀}:=⟨l.sub,l.iD,l.jE,l.os,rfl,l.kf⟩
 exact⟨fL,{fj with k:=k₀},hl.trans l',e',S.ZX Dq,hx.BF Dq,q⟩
set_option tactic.hygienic true in
theorem CT{k v:V}{ps:ak (V×V)}{l:ak (Str×V)}(h:sX ((k,v)::ps)=az l):∃x l',k=.str x/\l=(x,v)::l'/\sX ps=az l':=by
 revert h
 revert k v ps l
 intros k v ps l
 intro h
 cases k<;>first|(cases h;done)|skip
 rename_i x
 refine gg (aH.iH (show(sX ps).map ((x,v)::·)=az l from h)) λl' e' ig=>?_;obtain rfl:=ig
 exact⟨x,l',rfl,rfl,e'⟩
theorem vZ{ps:ak (V×V)}{l:ak (Str×V)}{rps:ak (aI×aI)}(e:sX ps=az l)(r:ZW c ω ps rps):∃kvs:ak (Str×aI),Carries (jq bU j5) rps kvs/\jC aL ω.g ω.a ω.b l kvs:=by
 induction r using F2.ind generalizing l with
 |nil=>cases e;exact⟨[],trivial,rfl⟩
 |@br p q _ _ r1 r ih=>
  obtain⟨p1,p2⟩:=p
  obtain⟨q1,q2⟩:=q
  refine oH (CT e) λx l' ig jd e'=>?_;obtain rfl:=ig;obtain rfl:=jd
  refine gg (ih e') λkvs h1 h2=>?_
  refine eO r1.1.inv λfY bG=>?_;obtain rfl:=bG
  exact⟨(x,q2)::kvs,⟨strKind_is _ _ x _,rfl,h1⟩,.br ⟨rfl,r1.2⟩ h2⟩
theorem stored_new{kvs:ak (Str×aI)}{k:Str}{v:aI}(h:k∉kvs.map (·.1)):stored kvs k v=kvs++[(k,v)]:=by
 unfold stored
 rw[aY]
 intro q
 refine gg (ak.any_eq_true.mp q) λp hp e=>?_
 exact h (ak.xq ⟨p,hp,bX e⟩)
theorem BG{more:ak (Str×aI)}:∀{acc:ak (Str×aI)},(acc.map (·.1)++more.map (·.1)).iT->merged acc more=acc++more:=by
 induction more with
 |nil=>intro acc _;exact(ak.eu _).symm
 |br p more ih=>
  intro acc h
  haveI hk:p.1∉acc.map (·.1):=λhk=>(ak.jo.mp h).2.2 _ hk _ (.dw _) rfl
  show merged (stored acc p.1 p.2) more=_
  rw[stored_new hk,ih (by rw[ak.ie,ak.cV];exact h),ak.cV];rfl
theorem uL{P:dN}{g:c7}{a b:ak aQ}{h:c8}{d:aQ}{l:ak (Str×V)}{kvs:ak (Str×aI)}(hP:P=aL)(D:h.wu (jq bU j5) d kvs)(r:jC P g a b l kvs):∃es k,h.cF d=az (lR es k)/\kE P g a b l es:=by
 revert hP D r
 revert c P g a b h d l kvs
 intros c P g a b h d l kvs
 intro hP D r
 refine x36 D λfY bG ep ho zw hd hk hp ndk=>?_;clear D;obtain⟨cls,dd,dt,sl⟩:=fY;obtain⟨es⟩:=bG;refine zN zw λhc hdd KZ=>?_;clear zw
 dsimp only at hc hdd KZ hd
 subst hc hdd KZ hd
 refine⟨es,ep,ho,?_⟩
 replace hk:∀e∈es,∃k,aI.isStrOf k e.key=true/\e.hash=hashStr j5 k:=λe he=>hk e (by simpa using he)
 replace hp:Pairs (jq bU j5) es kvs:=hp
 clear ho ndk
 induction r using jC.ind generalizing es with
 |nil=>cases hp;exact .nil
 |@br k v rv l rl hr _ ih=>
  cases hp with
  |@br e _ es _ p1 p2 p3=>
   refine gg (hk e (.dw _)) λk' q1 q2=>?_
   obtain⟨hh,key,val⟩:=e
   dsimp only at p1 p2 q1 q2
   refine eO (aI.isStrOf_shape p1) λt bG=>?_;obtain rfl:=bG
   have:k'=k:=aI.isStrOf_inj _ _ _ q1 p1
   subst this
   subst p2 q2 hP
   exact .br hr (ih es (λe he=>hk e (.cI _ he)) p3)
theorem Rn{Q:V->St->Prop}{ks:ak (aH aB)}{vs:ak aB}(DV:ks.all (·.sJ)=true)(hl:ks.aq=vs.aq)(h0:ks≠[])(jW:ks.aq<=15)
  (h:WD c n env pos ks vs (λps fL=>∃l,sX ps=az l/\(fM (·.1)).iT/\l.aq<=4096/\Q (.bO l) fL) X σ):WE c n env (.Dict ks vs pos) Q X σ:=λA ω hR hS=>by
 refine wpAny_Dict_any DV hl h0 jW ?_
 haveI Nj:=hS.KW {cls:=.dg "dict",f9:=.bO #[]} rfl
 have ZY:ω.k ω.s.aC=none:=by
  cases e:ω.k ω.s.aC with
  |none=>rfl
  |az o'=>exact cO (c8.iu (hS.kk _ _ e)) (cQ _)
 haveI hkk:∀x o,ω.k x=az o->g8 ω.k ω.s.aC {cls:=.dg "dict",f9:=.bO #[]} x=az o:=(uF (a:=[]) (b:=[]) ZY).hg
 let ω₁:Wd:={ω with s:={ω.s with d8:=ω.aP.jg {cls:=.dg "dict",f9:=.bO #[]}},k:=g8 ω.k ω.s.aC {cls:=.dg "dict",f9:=.bO #[]}}
 refine aW (h A ω₁ hR Nj) ?_ λe s' x=>x.BF hkk ⟨.sI,rfl,rfl,rfl,rfl,rfl⟩
 refine d9.all λrps ps bx dj l₂ fV rp hz9=>?_
 refine E6 hz9 λl hsp hnd hln i6=>?_;clear hz9
 refine gg (vZ hsp rp) λkvs hc VY=>?_
 haveI kd:dj.k ω.s.aC=az {cls:=.dg "dict",f9:=.bO #[]}:=by rw[l₂.k];exact iQ
 haveI K1:dj.aP.wu (jq bU j5) ω.s.aC []:=⟨_,#[],0,fV.kk _ _ kd,⟨rfl,rfl,rfl⟩,rfl,λe he=>by simp at he,.nil,.nil⟩
 haveI hm:merged [] kvs=kvs:=by rw[BG (by simpa [VY.nB]using hnd)];rfl
 haveI Nk:kvs.aq<=fu:=by
  have e1:=bM ak.aq VY.nB
  simp only[ak.bT]at e1
  exact Y0 (e1▸aA hln (aD rfl))
 refine wpAny_storeAll (knd:=jq bU j5) rps kvs [] _ _ hc K1 (by simpa using Nk) λh' hD hs=>?_
 rw[hm]at hD
 refine Ht (uL rfl hD VY) λes ep hg hr=>?_
 refine iU (fV.BF l₂.k ZY hs hg (dj.eV+rps.aq)) λlB JB=>?_
 exact⟨.bO l,bx,{dj with s:={dj.s with d8:=h',nA:=dj.eV+rps.aq},k:=ω.k,g:=g8 dj.g ω.s.aC (lR es ep)},⟨l₂.sub.trans JB,l₂.iD,l₂.jE,l₂.os,rfl,l₂.kf⟩,rfl,lB,.bO iQ (bh (kj c.big) (aA hS.above (fP hS.ns.lt))) (hr.eW JB) hnd,i6⟩
end
section
variable{c:Cx}{n:Nat}{env:Env}{X:St->Prop}{σ:St}{pos:Pos}{ω:Wd}{sc:Scope}
theorem UN{Q:V->St->Prop}{uM vI:aB}{aU:ak aB}(h:WE c n env uM (λv bx=>TV c n env v (λb bL=>if b then WE c n env (.ju .And (vI::aU) pos) Q X bL else Q v bL) X bx) X σ):WE c n env (.ju .And (uM::vI::aU) pos) Q X σ:=λA ω hR hS=>by
 refine BoolOp_and (aW (h A ω hR hS) ?_ λz9 z9 x=>x)
 refine d9.all λrv v bx ω₁ l₁ cW lQ d7=>?_
 refine n8 l₁ (d7 A ω₁ [rv] (hR.le l₁) cW (.br lQ .nil)) ?_
 refine d9.all λb b' bL dj l₂ fV adT i6=>?_
 obtain rfl:=adT
 have oM:=l₁.trans l₂
 cases b' with
 |true=>exact n8 oM (i6 A dj (hR.le oM) fV) λz9 z9 p=>yQ oM
 |false=>exact⟨v,bL,dj,oM,rfl,fV,lQ.eW l₂.sub,i6⟩
theorem ZZ{Q:V->St->Prop}{uM vI:aB}{aU:ak aB}(h:WE c n env uM (λv bx=>TV c n env v (λb bL=>if b then Q v bL else WE c n env (.ju .Or (vI::aU) pos) Q X bL) X bx) X σ):WE c n env (.ju .Or (uM::vI::aU) pos) Q X σ:=λA ω hR hS=>by
 refine BoolOp_or (aW (h A ω hR hS) ?_ λz9 z9 x=>x)
 refine d9.all λrv v bx ω₁ l₁ cW lQ d7=>?_
 refine n8 l₁ (d7 A ω₁ [rv] (hR.le l₁) cW (.br lQ .nil)) ?_
 refine d9.all λb b' bL dj l₂ fV adU i6=>?_
 obtain rfl:=adU
 have oM:=l₁.trans l₂
 cases b' with
 |false=>exact n8 oM (i6 A dj (hR.le oM) fV) λz9 z9 p=>yQ oM
 |true=>exact⟨v,bL,dj,oM,rfl,fV,lQ.eW l₂.sub,i6⟩
theorem DW{Q:V->St->Prop}{op:ju}{e:aB}(h:WE c n env e Q X σ):WE c n env (.ju op [e] pos) Q X σ:=λA ω hR hS=>BoolOp_one (h A ω hR hS)
theorem Ro{Q:V->St->Prop}{t a b:aB}(h:WT c n env t (λd bx=>if d then WE c n env a Q X bx else WE c n env b Q X bx) X σ):WE c n env (.IfExp t a b pos) Q X σ:=λA ω hR hS=>by
 rw[arm_eval_IfExp]
 refine aK (aW (h A ω hR hS) ?_ λz9 z9 x=>x)
 refine d9.all λd d' bx ω₁ l₁ cW adV d7=>?_
 obtain rfl:=adV
 cases d'<;>exact n8 l₁ (d7 A ω₁ (hR.le l₁) cW) λz9 z9 p=>yQ l₁
theorem BH{M:Model}{A:dR}{E:aI->aZ->Prop}{s:aZ}{vs gr:ak aI}{Q:qY->aZ->Prop}(h:Q () s):cZ M A (release vs gr) Q E s:=λΓ p z9=>by rw[Sem.wp_release];exact h
theorem Nl{Q:V->St->Prop}{uN rC:CmpOp}{l lQ pC:aB}(hm:lastMarks [uN,rC] [lQ,pC]=false)
  (h:WE c n env l (λa bx=>WE c n env lQ (λb bL=>KV c n env uN a b (λv eB=>TV c n env v (λt eH=>if t then WE c n env pC (λd oN=>KV c n env rC b d Q X oN) X eH else Q v eH) X eB) X bL) X bx) X σ):
  WE c n env (.oA l [uN,rC] [lQ,pC] pos) Q X σ:=λA ω hR hS=>by
 refine Compare_chain (aW (h A ω hR hS) ?_ λz9 z9 x=>x) hm
 refine d9.all λra a bx ω₁ l₁ cW Y5 d7=>?_
 show cZ _ _ (do
  let rv <-qw [ra] (eval lQ env)
  standAt pos
  let c <-qw [ra,rv] (compareOp uN ra rv)
  release [ra,rv] [c]
  if <-qw [c,rv] (truthy c)then compareChain pos rv [rC] [eval pC env]else gB c) _ _ _
 refine aK (cY (n8 l₁ (d7 A ω₁ (hR.le l₁) cW) ?_))
 refine d9.all λrb b bL dj l₂ fV UO i6=>?_
 have oM:=l₁.trans l₂
 refine aK (iw (aK (cY (n8 oM (i6 A dj [ra,rb] (hR.le oM) fV (.br (Y5.eW l₂.sub) (.br UO .nil))) ?_))))
 refine d9.all λrv v eB gw jT lB Y6 qM=>?_
 have zy:=oM.trans jT
 refine aK (BH ?_)
 refine aK (cY (n8 zy (qM A gw [rv] (hR.le zy) lB (.br Y6 .nil)) ?_))
 refine d9.all λt t' eH jD pD pR adW vJ=>?_
 obtain rfl:=adW
 have Be:=zy.trans pD
 cases t' with
 |false=>exact bw ⟨v,eH,jD,Be,rfl,pR,Y6.eW pD.sub,vJ⟩
 |true=>
  show cZ _ _ (do
   let rv <-qw [rb] (eval pC env)
   standAt pos
   operate [rb,rv] (compareOp rC rb rv)) _ _ _
  refine aK (cY (n8 Be (vJ A jD (hR.le Be) pR) ?_))
  refine d9.all λrd d oN mR pX tu HD DX=>?_
  have Nm:=Be.trans pX
  exact aK (iw (wpAny_operating (n8 Nm (DX A mR [rb,rd] (hR.le Nm) tu (.br (UO.eW (jT.trans (pD.trans pX)).sub) (.br HD .nil))) λz9 z9 p=>yQ Nm)))
theorem Nn{Q:aM->St->Prop}{uN rC:CmpOp}{l lQ pC:aB}(hm:lastMarks [uN,rC] [lQ,pC]=false)
  (h:WE c n env l (λa bx=>WE c n env lQ (λb bL=>KV c n env uN a b (λv eB=>TV c n env v (λt eH=>if t then WE c n env pC (λd oN=>KV c n env rC b d (λu A0=>TV c n env u Q X A0) X oN) X eH else Q false eH) X eB) X bL) X bx) X σ):
  WT c n env (.oA l [uN,rC] [lQ,pC] pos) Q X σ:=λA ω hR hS=>by
 refine isTrue_chain (aW (h A ω hR hS) ?_ λz9 z9 x=>x) hm
 refine d9.all λra a bx ω₁ l₁ cW Y5 d7=>?_
 show cZ _ _ (do
  let rv <-qw [ra] (eval lQ env)
  standAt pos
  let c <-qw [ra,rv] (compareOp uN ra rv)
  release [ra,rv] [c]
  if <-qw [c,rv] (truthy c)then testChain pos rv [rC] [eval pC env]else gB false) _ _ _
 refine aK (cY (n8 l₁ (d7 A ω₁ (hR.le l₁) cW) ?_))
 refine d9.all λrb b bL dj l₂ fV UO i6=>?_
 have oM:=l₁.trans l₂
 refine aK (iw (aK (cY (n8 oM (i6 A dj [ra,rb] (hR.le oM) fV (.br (Y5.eW l₂.sub) (.br UO .nil))) ?_))))
 refine d9.all λrv v eB gw jT lB Y6 qM=>?_
 have zy:=oM.trans jT
 refine aK (BH ?_)
 refine aK (cY (n8 zy (qM A gw [rv] (hR.le zy) lB (.br Y6 .nil)) ?_))
 refine d9.all λt t' eH jD pD pR adX vJ=>?_
 obtain rfl:=adX
 have Be:=zy.trans pD
 cases t' with
 |false=>exact bw ⟨false,eH,jD,Be,rfl,pR,rfl,vJ⟩
 |true=>
  show cZ _ _ (do
   let rv <-qw [rb] (eval pC env)
   standAt pos
   let c <-operate [rb,rv] (compareOp rC rb rv)
   qw [c] (truthy c)) _ _ _
  refine aK (cY (n8 Be (vJ A jD (hR.le Be) pR) ?_))
  refine d9.all λrd d oN mR pX tu HD DX=>?_
  have Nm:=Be.trans pX
  refine aK (iw (aK (wpAny_operating (n8 Nm (DX A mR [rb,rd] (hR.le Nm) tu (.br (UO.eW (jT.trans (pD.trans pX)).sub) (.br HD .nil))) ?_))))
  refine d9.all λru u A0 vm zm Aw ru' Fp=>?_
  have l16:=Nm.trans zm
  exact cY (n8 l16 (Fp A vm [ru] (hR.le l16) Aw (.br ru' .nil)) λz9 z9 p=>yQ l16)
abbrev UV(c:Cx)(n:Nat)(env:Env)(op:UnaryOp)(a:V)(Q:V->St->Prop)(X:St->Prop)(σ:St):Prop:=WO c n env (λ|[x]=>unaryOp op x|_=>lY "") [a] (RV c) Q X σ
theorem adZ{Q:V->St->Prop}{op:UnaryOp}{e:aB}(h:WE c n env e (λa bx=>UV c n env op a Q X bx) X σ):WE c n env (.UnaryOp op e pos) Q X σ:=λA ω hR hS=>by
 rw[arm_eval_UnaryOp]
 refine aK (aW (h A ω hR hS) ?_ λz9 z9 x=>x)
 refine d9.all λra a bx ω₁ l₁ cW lQ d7=>?_
 exact aK (iw (cY (n8 l₁ (d7 A ω₁ [ra] (hR.le l₁) cW (.br lQ .nil)) λz9 z9 p=>yQ l₁)))
def AO.noC:AO->aM
 |.lI ..=>false
 |_=>true
inductive zz(σ:St):V->Prop
 |str {x}:zz σ (.str x)
 |tup {l}:zz σ (.tup l)
 |aR {l}:zz σ (.aR l)
 |bO {l}:zz σ (.bO l)
 |lo {i o} (h:jx[i]?=az o) (hn:o.noC=true:=by rfl):zz σ (.lo i)
 |ob {i o} (h:gJ[i]?=az o) (hn:o.noC=true:=by rfl):zz σ (.ob i)
theorem wR{s:aZ}{x:aQ}{o:Obj}{T:u9}(ho:aP.cF x=az o)(hc:o.cls=.dg T):s.sY (.ref x) T:=⟨o,ho,hc⟩
theorem zz.slot{L:aQ}{v:V}{rv:aI}(k:zz σ v)(S:Sat c L σ ω)(r:RV c ω v rv):∃T id,ω.s.sY rv T/\wz (.dg T) "__getitem__"=gB (az (.cj id)):=by
 revert k S r
 revert c σ ω L v rv
 intros c σ ω L v rv
 intro k S r
 have ofO:∀{P g a b o ob x},zg P g a b o ob->o.noC=true->ω.aP.cF x=az ob->∃T id,ω.s.sY (.ref x) T/\wz (.dg T) "__getitem__"=gB (az (.cj id)):=by
  intro P g a b o ob x r hn ho
  cases r with
  |aR=>exact⟨"list",_,wR ho rfl,F.slot_list_getitem.eF⟩
  |bO=>exact⟨"dict",_,wR ho rfl,F.slot_dict_getitem.eF⟩
  |lI=>cases hn
  |E7=>cases hn
 cases k with
 |str=>(first|obtain rfl:=fQ|(refine eO fQ λfY bG=>?_;obtain rfl:=bG)|cases r);exact⟨"str",_,typeIs_str _ _ _,F.slot_str_getitem.eF⟩
 |tup=>(refine xJ fQ λfY bG ig jd hg MN=>?_;obtain rfl:=jd);exact⟨"tuple",_,wR (S.gr _ _ hg) rfl,F.slot_tuple_getitem.eF⟩
 |aR=>(refine xJ fQ λfY bG ig jd hg MN=>?_;obtain rfl:=jd);exact⟨"list",_,wR (S.gr _ _ hg) rfl,F.slot_list_getitem.eF⟩
 |bO=>(refine KI fQ λfY bG ig jd hg MN ZE ζ7=>?_;obtain rfl:=jd);exact⟨"dict",_,wR (S.gr _ _ hg) rfl,F.slot_dict_getitem.eF⟩
 |lo h hn=>(refine gg fQ λfY bG hi=>?_;obtain rfl:=bG);refine oH (S.tT.2 _ _ h) λx ob e1 e2 r=>?_;rw[hi]at e1;cases e1;exact ofO r hn e2
 |ob h hn=>(refine gg fQ λfY bG hi=>?_;obtain rfl:=bG);refine oH (S.tW.2 _ _ h) λx ob e1 e2 r=>?_;rw[hi]at e1;cases e1;exact ofO r hn e2
theorem tB{slice:aB}{o i:aI}:∃ops,subscripted slice false o i=operate ops (getItem o i):=by
 exact aB.casesOn (motive_1:=λe=>∃ops,subscripted e false o i=operate ops (getItem o i)) slice (by intros;exact⟨_,rfl⟩) (by intros;exact⟨_,rfl⟩) (by intros;exact⟨_,rfl⟩) (by intros;exact⟨_,rfl⟩) (by intros;exact⟨_,rfl⟩) (by intros;exact⟨_,rfl⟩) (by intros;exact⟨_,rfl⟩) (by intros;exact⟨_,rfl⟩) (by intros;exact⟨_,rfl⟩) (by intros;exact⟨_,rfl⟩) (by intros;exact⟨_,rfl⟩) (by intros;exact⟨_,rfl⟩) (by intros;exact⟨_,rfl⟩) (by intros;exact⟨_,rfl⟩) (by intros;exact⟨_,rfl⟩) (by intros;exact⟨_,rfl⟩) (by intros;exact⟨_,rfl⟩) (by intros;exact⟨_,rfl⟩) (by intros;exact⟨_,rfl⟩) (by intros;exact⟨_,rfl⟩) (by intros;exact⟨_,rfl⟩) (by intros;exact⟨_,rfl⟩) (by intros;exact⟨_,rfl⟩) (by intros;exact⟨_,rfl⟩) (by intros;exact⟨_,rfl⟩) (by intros;exact⟨_,rfl⟩) (by intro _ _ s _;cases s<;>exact⟨_,rfl⟩)
abbrev IV(c:Cx)(n:Nat)(env:Env)(a i:V)(Q:V->St->Prop)(X:St->Prop)(σ:St):Prop:=WO c n env (λ|[x,i]=>getItem x i|_=>lY "") [a,i] (RV c) Q X σ
theorem JC{Q:V->St->Prop}{fJ slice:aB}(h:WE c n env fJ (λo bx=>WE c n env slice (λi bL=>zz bL o/\IV c n env o i Q X bL) X bx) X σ):WE c n env (.l8 fJ slice pos) Q X σ:=λA ω hR hS=>by
 refine Subscript_ (aW (h A ω hR hS) ?_ λz9 z9 x=>x)
 refine d9.all λro o bx ω₁ l₁ cW lQ d7=>?_
 refine n8 l₁ (d7 A ω₁ (hR.le l₁) cW) ?_
 refine d9.all λri i bL dj l₂ fV pC Z0=>?_
 refine gC λG hG=>?_
 refine iU Z0 λk i6=>?_;clear Z0
 have oM:=l₁.trans l₂
 refine Ht (k.slot fV (lQ.eW l₂.sub)) λT id hT hl=>?_
 refine eO (tB (slice:=slice) (o:=ro) (i:=ri)) λops ho=>?_
 refine hG ?_
 exact n8 oM (tail_any hT hl (i6 A dj [ro,ri] (hR.le oM) fV (.br (lQ.eW l₂.sub) (.br pC .nil))) ho) λz9 z9 p=>yQ oM
end
section
variable{c:Cx}{n:Nat}{env:Env}{X:St->Prop}{σ:St}{pos:Pos}{ω:Wd}{sc:Scope}{rest:List Stmt}{Q:Fl->St->Prop}
theorem Z1(h:Q .next σ):WS c n env [] Q X σ:=λA ω hR hS=>q9 (done hS .next h)
def nW(e:aB):aM:=Fc [8,9,10] e
theorem kZ{v:aB}{t:aH aB}{k:Nat}(h:nW v=true):swapsWith v t k env=gB false:=by
 cases v<;>first|rfl|cases h
theorem mO{A:dR}{st:iW}(hR:m9 c n env A ω.kf)
  (h:cZ (dB bU j5) A (exec st env) (λf s'=>match f with|.next=>∃fL fj,Le ω fj/\fj.s=s'/\Sat c aN fL fj/\WS c n env aU Q X fL|f=>d9 c aN (HA c) ω Q f s') (oK c env A ω X) ω.s):
  cZ (dB bU j5) A (vC (st::aU) env) (d9 c aN (HA c) ω Q) (oK c env A ω X) ω.s:=by
 refine wpAny_execs_cons (aW h ?_ λz9 z9 x=>x)
 intro f s' p
 cases f with
 |next=>
  refine x24 p λfL fj l jd S' k=>?_;clear p;obtain rfl:=jd
  exact n8 l (k A fj (hR.le l) S') λz9 z9 p=>yQ l
 |_=>exact p
theorem zA{A:dR}{x:Str}{v:V}{rv:aI}{l':ak (Str×aH V)}(he:fU env sc)(hk:(sc.bW x==az .local)=true)(hS:Sat c aN σ ω)(r:RV c ω v rv)(p:tU x v rE l'){Q:qY->aZ->Prop}{E:aI->aZ->Prop}
  (h:∀fj,Le ω fj->Sat c aN {σ with loc:=l'} fj->Q () fj.s):cZ (dB bU j5) A (storeName env x rv) Q E ω.s:=by
 refine wpAny_storeName_local (xr hk) hS.ns (λh' hn hs=>?_) ?_
 ·refine iU (hS.store p r hn hs (ω.eV+1)) λS' Fe=>?_
  exact h _ Fe S'
 ·rw[he.ym];rfl
theorem Np{x:Str}{p':Pos}{fJ:aB}(he:fU env sc)(hk:(sc.bW x==az .local)=true)(hc:nW fJ=true)
  (h:WE c n env fJ (λv fL=>∃l',tU x v fL.loc l'/\WS c n env aU Q X {fL with loc:=l'}) X σ):WS c n env (.wA [.mQ x p'] fJ pos::aU) Q X σ:=λA ω hR hS=>by
 refine mO hR (wpAny_Assign_Name (aW (h A ω hR hS) ?_ λz9 z9 x=>x) (kZ hc))
 refine d9.all λrv v bx ω₁ l₁ cW r Nq=>?_
 refine gg Nq λl' p d7=>?_;clear Nq
 exact zA he hk cW r p λdj l₂ fV=>⟨_,dj,l₁.trans l₂,rfl,fV,d7⟩
abbrev SA(c:Cx)(n:Nat)(env:Env)(x:Str)(o v:V)(Q:qY->St->Prop)(X:St->Prop)(σ:St):Prop:=WO c n env (λ|[o,v]=>setAttr o x v|_=>lY "") [o,v] (λz9 z9 z9=>True) Q X σ
theorem VZ{Q:qY->St->Prop}{C:aQ}{i:Nat}{l l':ak (Str×V)}{x:Str}{v:V}(hk:Dl gM C x)(hW:gJ[i]?=az (.bO l))(hp:Jx x v l l')(hz:decide (l.aq<=1000)=true)(hv:v.j7=true)(h:Q () {σ with W:=gJ.set i (.bO l')}):SA c n env x (.cR C i) v Q X σ:=λA ω kO hR hS hr=>by
 refine oH hr.two λro rv ig r1 r2=>?_;obtain rfl:=ig
 exact adD hk hW hp (bX hz) hS r1 (r2.j7 hv) h
theorem V0{Q:qY->St->Prop}{C:aQ}{i:Nat}{l:ak (Str×V)}{x:Str}{v:V}(hk:Dl gM C x)(hW:gJ[i]?=az (.bO l))(hp:x∉fM (·.1))(hz:decide (l.aq+1<=1000)=true)(hv:v.j7=true)(h:Q () {σ with W:=gJ.set i (.bO (l++[(x,v)]))}):SA c n env x (.cR C i) v Q X σ:=λA ω kO hR hS hr=>by
 refine oH hr.two λro rv ig r1 r2=>?_;obtain rfl:=ig
 exact VP hk hW hp (bX hz) hS r1 (r2.j7 hv) h
theorem CU{o fJ:aB}{x:Str}{p':Pos}(hc:nW fJ=true)(h:WE c n env fJ (λv bx=>WE c n env o (λov bL=>SA c n env x ov v (λz9 eB=>WS c n env aU Q X eB) X bL) X bx) X σ):
  WS c n env (.wA [.mW o x p'] fJ pos::aU) Q X σ:=λA ω hR hS=>by
 refine mO hR (plainObj_wpAny_Assign_Attribute (aW (h A ω hR hS) ?_ λz9 z9 x=>x) (kZ hc))
 refine d9.all λrv v bx ω₁ l₁ cW r d7=>?_
 refine n8 l₁ (d7 A ω₁ (hR.le l₁) cW) ?_
 refine d9.all λro ov bL dj l₂ fV pC i6=>?_
 have oM:=l₁.trans l₂
 refine n8 oM (i6 A dj [ro,rv] (hR.le oM) fV (.br pC (.br (r.eW l₂.sub) .nil))) ?_
 refine d9.all λz9 z9 eB gw jT lB z9 qM=>?_
 exact⟨eB,gw,oM.trans jT,rfl,lB,qM⟩
abbrev SI(c:Cx)(n:Nat)(env:Env)(o i v:V)(Q:qY->St->Prop)(X:St->Prop)(σ:St):Prop:=WO c n env (λ|[o,i,v]=>setItem o i v|_=>lY "") [o,i,v] (λz9 z9 z9=>True) Q X σ
theorem DY{o i fJ:aB}{p':Pos}(hc:nW fJ=true)(h:WE c n env fJ (λv bx=>WE c n env o (λov bL=>WE c n env i (λiv eB=>SI c n env ov iv v (λz9 eH=>WS c n env aU Q X eH) X eB) X bL) X bx) X σ):
  WS c n env (.wA [.l8 o i p'] fJ pos::aU) Q X σ:=λA ω hR hS=>by
 refine mO hR (wpAny_Assign_Subscript (aW (h A ω hR hS) ?_ λz9 z9 x=>x) (kZ hc))
 refine d9.all λrv v bx ω₁ l₁ cW r d7=>?_
 refine n8 l₁ (d7 A ω₁ (hR.le l₁) cW) ?_
 refine d9.all λro ov bL dj l₂ fV pC i6=>?_
 have oM:=l₁.trans l₂
 refine n8 oM (i6 A dj (hR.le oM) fV) ?_
 refine d9.all λri iv eB gw jT lB DU qM=>?_
 have zy:=oM.trans jT
 refine n8 zy (qM A gw [ro,ri,rv] (hR.le zy) lB (.br (pC.eW jT.sub) (.br DU (.br (r.eW (l₂.trans jT).sub) .nil)))) ?_
 refine d9.all λz9 z9 eH jD pD pR z9 vJ=>?_
 exact⟨eH,jD,zy.trans pD,rfl,pR,vJ⟩
theorem Fq{e:aB}(h:WE c n env e (λv fL=>Q (.ret v) fL) X σ):WS c n env (.Return (az e) pos::aU) Q X σ:=λA ω hR hS=>by
 refine mO hR (wpAny_Return_some (aW (h A ω hR hS) ?_ λz9 z9 x=>x))
 rintro rv s₁ ⟨v,bx,ω₁,l₁,uM,cW,r,d7⟩
 exact⟨.ret v,bx,ω₁,l₁,uM,cW,.ret r,d7⟩
theorem CW(h:Q (.ret .none) σ):WS c n env (.Return none pos::aU) Q X σ:=λA ω hR hS=>by
 exact mO hR (wpAny_Return_none ⟨.ret .none,σ,ω,.sI _,rfl,hS,.ret .none,h⟩)
theorem Rp(h:Q .brk σ):WS c n env (.Break pos::aU) Q X σ:=λA ω hR hS=>by
 exact mO hR (λz9 z9 z9=>⟨.brk,σ,ω,.sI _,rfl,hS,.brk,h⟩)
theorem V1(h:WS c n env aU Q X σ):WS c n env (.Pass pos::aU) Q X σ:=λA ω hR hS=>by
 exact mO hR (wpAny_Pass ⟨σ,ω,.sI _,rfl,hS,h⟩)
theorem wU(a b:ak iW):vC (a++b) env=(do match <-vC a env with|.next=>vC b env|f=>gB f):=by
 induction a with
 |nil=>rw[execs_nil,pure_bind];rfl
 |br s a ih=>
  rw[ak.p7,execs_cons,execs_cons,bind_assoc]
  refine bM _ (funext λf=>?_)
  cases f with
  |next=>exact ih
  |_=>exact(pure_bind _ _).symm
theorem ad1{t:aB}{a o:ak iW}(h:WT c n env t (λb fL=>if b then WS c n env (a++aU) Q X fL else WS c n env (o++aU) Q X fL) X σ):WS c n env (.If t a o pos::aU) Q X σ:=λA ω hR hS=>by
 haveI e:vC (.If t a o pos::aU) env=(do standAt pos;if <-isTrue t env (eval t env)then vC (a++aU) env else vC (o++aU) env):=by
  rw[execs_cons,exec_If,bind_assoc]
  refine bM _ (funext λz9=>?_)
  rw[bind_assoc]
  refine bM _ (funext λb=>?_)
  (first|obtain rfl:=b.inv|obtain⟨_,rfl⟩:=b.inv|cases b)
  ·exact(wU o aU).symm
  ·exact(wU a aU).symm
 rw[e]
 refine aK (iw (aK (aW (h A ω hR hS) ?_ λz9 z9 x=>x)))
 refine d9.all λd d' bx ω₁ l₁ cW ad2 d7=>?_
 obtain rfl:=ad2
 cases d'<;>exact n8 l₁ (d7 A ω₁ (hR.le l₁) cW) λz9 z9 p=>yQ l₁
end
section
variable{c:Cx}{n:Nat}{env:Env}{X:St->Prop}{σ:St}{pos:Pos}{ω:Wd}{sc:Scope}{rest:List Stmt}{Q:Fl->St->Prop}
theorem BJ(he:fU env sc):interactive env=false:=by
 unfold interactive;rw[he.ym];rfl
theorem V2{e:aB}(he:fU env sc)(hc:nW e=true)(h:WE c n env e (λz9 fL=>WS c n env aU Q X fL) X σ):WS c n env (.tG e pos::aU) Q X σ:=λA ω hR hS=>by
 refine mO hR (wpAny_Expr_any (aW (h A ω hR hS) ?_ λz9 z9 x=>x) (BJ he) (kZ hc))
 rintro rv s₁ ⟨v,bx,ω₁,l₁,uM,cW,r,d7⟩
 exact⟨bx,ω₁,l₁,uM,cW,d7⟩
abbrev PV(c:Cx)(n:Nat)(env:Env)(op:lP)(a b:V)(Q:V->St->Prop)(X:St->Prop)(σ:St):Prop:=WO c n env (λ|[x,y]=>inplaceOp op x y|_=>lY "") [a,b] (RV c) Q X σ
theorem Z2{x:Str}{p':Pos}{op:lP}{fJ:aB}{v:V}(he:fU env sc)(hk:(sc.bW x==az .local)=true)(hm:(x,az v)∈rE)
  (h:WE c n env fJ (λw bx=>PV c n env op v w (λu bL=>∃l',tU x u bL.loc l'/\WS c n env aU Q X {bL with loc:=l'}) X bx) X σ):WS c n env (.AugAssign (.mQ x p') op fJ pos::aU) Q X σ:=by
 revert he hk hm h
 revert c n env X σ pos sc aU Q x p' op fJ v
 intros c n env X σ pos sc aU Q x p' op fJ v
 intro he hk hm h
 intros A ω
 intro hR hS
 refine gg (hS.loc x v hm) λrv e r=>?_
 refine mO hR (wpAny_AugAssign_Name (wpAny_loadName_local he.ym (xr hk) hS.ns e (aW (h A ω hR hS) ?_ λz9 z9 x=>x)))
 refine d9.all λrw w bx ω₁ l₁ cW lQ d7=>?_
 refine n8 l₁ (d7 A ω₁ [rv,rw] (hR.le l₁) cW (.br (r.eW l₁.sub) (.br lQ .nil))) ?_
 refine d9.all λru u bL dj l₂ fV pC Z3=>?_
 refine gg Z3 λl' p i6=>?_;clear Z3
 exact zA he hk fV pC p λgw jT lB=>⟨_,gw,(l₁.trans l₂).trans jT,rfl,lB,i6⟩
theorem HO{o fJ:aB}{x:Str}{p':Pos}{op:lP}
  (h:WE c n env o (λov bx=>GA c n env x ov (λold bL=>WE c n env fJ (λv eB=>PV c n env op old v (λnew eH=>SA c n env x ov new (λz9 oN=>WS c n env aU Q X oN) X eH) X eB) X bL) X bx) X σ):
  WS c n env (.AugAssign (.mW o x p') op fJ pos::aU) Q X σ:=by
 revert h
 revert c n env X σ pos aU Q o fJ x p' op
 intros c n env X σ pos aU Q o fJ x p' op
 intro h
 intros A ω
 intro hR hS
 refine mO hR (wpAny_AugAssign_AttributeAny (aW (h A ω hR hS) ?_ λz9 z9 x=>x))
 refine d9.all λro ov bx ω₁ l₁ cW lQ d7=>?_
 refine n8 l₁ (d7 A ω₁ [ro] (hR.le l₁) cW (.br lQ .nil)) ?_
 refine d9.all λV3 old bL dj l₂ fV pC i6=>?_
 have oM:=l₁.trans l₂
 refine n8 oM (i6 A dj (hR.le oM) fV) ?_
 refine d9.all λrv v eB gw jT lB DU qM=>?_
 have zy:=oM.trans jT
 refine n8 zy (qM A gw [V3,rv] (hR.le zy) lB (.br (pC.eW jT.sub) (.br DU .nil))) ?_
 refine d9.all λV4 new eH jD pD pR Nr vJ=>?_
 have Be:=zy.trans pD
 refine n8 Be (vJ A jD [ro,V4] (hR.le Be) pR (.br (lQ.eW (l₂.trans (jT.trans pD)).sub) (.br Nr .nil))) ?_
 refine d9.all λz9 z9 oN mR pX tu z9 DX=>?_
 exact⟨oN,mR,Be.trans pX,rfl,tu,DX⟩
def zP(e:aB):aM:=Fc [26] e
theorem BK{i:aB}(h:zP i=true)(ov iv new:aI):augStore i ov iv new=(do qw [new,ov,iv] (setItem ov iv new);release [new,ov,iv] [];gB .next):=by
 revert h
 exact aB.casesOn (motive_1:=λe=>zP e=true->augStore e ov iv new=(do qw [new,ov,iv] (setItem ov iv new);release [new,ov,iv] [];gB .next)) i (by intros;rfl) (by intros;rfl) (by intros;rfl) (by intros;rfl) (by intros;rfl) (by intros;rfl) (by intros;rfl) (by intros;rfl) (by intros;rfl) (by intros;rfl) (by intros;rfl) (by intros;rfl) (by intros;rfl) (by intros;rfl) (by intros;rfl) (by intros;rfl) (by intros;rfl) (by intros;rfl) (by intros;rfl) (by intros;rfl) (by intros;rfl) (by intros;rfl) (by intros;rfl) (by intros;rfl) (by intros;rfl) (by intros;rfl) (by intros;contradiction)
theorem K2{o i fJ:aB}{p':Pos}{op:lP}(hi:zP i=true)
  (h:WE c n env o (λov bx=>WE c n env i (λiv bL=>IV c n env ov iv (λold eB=>WE c n env fJ (λv eH=>PV c n env op old v (λnew oN=>SI c n env ov iv new (λz9 A0=>WS c n env aU Q X A0) X oN) X eH) X eB) X bL) X bx) X σ):
  WS c n env (.AugAssign (.l8 o i p') op fJ pos::aU) Q X σ:=by
 revert hi h
 revert c n env X σ pos aU Q o i fJ p' op
 intros c n env X σ pos aU Q o i fJ p' op
 intro hi h
 intros A ω
 intro hR hS
 refine mO hR (wpAny_AugAssign_SubscriptAny (aW (h A ω hR hS) ?_ λz9 z9 x=>x) (BK hi))
 refine d9.all λro ov bx ω₁ l₁ cW lQ d7=>?_
 refine n8 l₁ (d7 A ω₁ (hR.le l₁) cW) ?_
 refine d9.all λri iv bL dj l₂ fV pC i6=>?_
 have oM:=l₁.trans l₂
 refine n8 oM (i6 A dj [ro,ri] (hR.le oM) fV (.br (lQ.eW l₂.sub) (.br pC .nil))) ?_
 refine d9.all λV3 old eB gw jT lB DU qM=>?_
 have zy:=oM.trans jT
 refine n8 zy (qM A gw (hR.le zy) lB) ?_
 refine d9.all λrv v eH jD pD pR Nr vJ=>?_
 have Be:=zy.trans pD
 refine n8 Be (vJ A jD [V3,rv] (hR.le Be) pR (.br (DU.eW pD.sub) (.br Nr .nil))) ?_
 refine d9.all λV4 new oN mR pX tu V5 DX=>?_
 have Nm:=Be.trans pX
 have l25:=jT.trans (pD.trans pX)
 refine n8 Nm (DX A mR [ro,ri,V4] (hR.le Nm) tu (.br (lQ.eW (l₂.trans l25).sub) (.br (pC.eW l25.sub) (.br V5 .nil)))) ?_
 refine d9.all λz9 z9 A0 vm zm Aw z9 Fp=>?_
 exact⟨A0,vm,Nm.trans zm,rfl,Aw,Fp⟩
theorem Sat.ext{L:aQ}(S:Sat c L σ ω){h':c8}(hk:∀x o,ω.aP.cF x=az o->h'.cF x=az o)(t:Nat):Sat c L σ {ω with s:={ω.s with d8:=h',nA:=t}}/\Le ω {ω with s:={ω.s with d8:=h',nA:=t}}:=
 ⟨⟨qX.kh hk,λx o e=>hk _ _ (S.gr x o e),iG,S.high,sS,S.nd,S.tT.mK λx z9 o e=>hk x o e,S.tW.mK λx z9 o e=>hk x o e,gD,jk,λx o e=>hk _ _ (S.kk x o e),kN,λx m e=>(S.nf x m e).kh hk,S.qC,S.oJ,S.dk⟩,⟨.sI,rfl,rfl,rfl,rfl,rfl⟩⟩
abbrev Nt(c:Cx)(n:Nat)(env:Env)(ts:ak aB)(vs:ak V)(Q:qY->St->Prop)(X:St->Prop)(σ:St):Prop:=WO c n env (λkO=>assignInOrder ((assignEach ts env).map (·.2)) kO) vs (λz9 z9 z9=>True) Q X σ
theorem Nu{Q:qY->St->Prop}(h:Q () σ):Nt c n env [] [] Q X σ:=by
 revert h
 revert c n env X σ Q
 intros c n env X σ Q
 intro h
 intros A ω kO
 intro hR hS hr
 cases hr;exact bw (done hS trivial h)
theorem DZ{Q:qY->St->Prop}{x:Str}{p:Pos}{ts:ak aB}{v:V}{vs:ak V}(he:fU env sc)(hk:(sc.bW x==az .local)=true)(h:∃l',tU x v rE l'/\Nt c n env ts vs Q X {σ with loc:=l'}):Nt c n env (.mQ x p::ts) (v::vs) Q X σ:=by
 revert he hk h
 revert c n env X σ sc Q x p ts v vs
 intros c n env X σ sc Q x p ts v vs
 intro he hk h
 intros A ω kO
 intro hR hS hr
 cases hr with
 |br r rs=>
  refine gC λG hG=>?_
  obtain⟨l',p,h⟩:=h
  refine hG ?_
  refine assignInOrder_cons (assign_Name (zA he hk hS r p λfj l S'=>?_))
  exact n8 l (h A fj _ (hR.le l) S' (rs.eW l.sub)) λz9 z9 q=>q.le l
theorem Rq{Q:qY->St->Prop}{o:aB}{x:Str}{p:Pos}{ts:ak aB}{v:V}{vs:ak V}(h:WE c n env o (λov bx=>SA c n env x ov v (λz9 bL=>Nt c n env ts vs Q X bL) X bx) X σ):Nt c n env (.mW o x p::ts) (v::vs) Q X σ:=by
 revert h
 revert c n env X σ Q o x p ts v vs
 intros c n env X σ Q o x p ts v vs
 intro h
 intros A ω kO
 intro hR hS hr
 refine gC λG hG=>?_
 cases hr with
 |@br _ rv _ _ r rs=>
  refine hG ?_
  refine assignInOrder_cons (t:=assign (.mW o x p) env) ?_
  rw[arm_assign_Attribute]
  refine aK (cY (aW (h A ω hR hS) ?_ λz9 z9 x=>x))
  refine d9.all λro ov bx ω₁ l₁ cW lQ d7=>?_
  refine aK (iw (aK (cY (n8 l₁ (d7 A ω₁ [ro,rv] (hR.le l₁) cW (.br lQ (.br (r.eW l₁.sub) .nil))) ?_))))
  refine d9.all λz9 z9 bL dj l₂ fV z9 i6=>?_
  have oM:=l₁.trans l₂
  exact BH (n8 oM (i6 A dj _ (hR.le oM) fV (rs.eW oM.sub)) λz9 z9 q=>q.le oM)
def oO(e:aB):aM:=Fc [22] e
theorem tC{ts:ak aB}(h:ts.all oO=true):(assignEach ts env).findIdx? (·.1)=none/\(assignEach ts env).aq=ts.aq:=by
 induction ts with
 |nil=>exact⟨rfl,rfl⟩
 |br t ts ih=>
  have h:(oO t&&ts.all oO)=true:=h
  haveI e:assignEach (t::ts) env=(false,assign t env)::assignEach ts env:=by
   have h:=(mz h).1
   clear ih
   cases t<;>first|rfl|exact cO (show false=true from h) aM.bK
  refine iU (ih (mz h).2) λi1 i2=>?_
  rw[e,ak.findIdx?_cons,i1]
  exact⟨aY aM.bK,bM Nat.kU i2⟩
def zQ(e:aB):aM:=Fc [25] e
theorem tH{lD:ak aB}{k:Nat}{tp:Pos}{v:aB}(h:zQ v=true):swappedStores [.sW lD k tp] v env=gB none:=by
 cases v<;>first|rfl|cases h
theorem tK{t v:aB}{k:Nat}(h:nW v=true):swapsWithSole [t] v k env=gB false:=by
 show swapsWith v (az t) k env=_
 exact kZ h
theorem Rt{lD:ak aB}{k:Nat}{tp:Pos}{fJ:aB}(hc:nW fJ=true)(ht:zQ fJ=true)(hs:lD.all oO=true)
  (h:WE c n env fJ (λv bx=>∃vs,v=.tup vs/\vs.aq=lD.aq/\Nt c n env lD vs (λz9 bL=>WS c n env aU Q X bL) X bx) X σ):WS c n env (.wA [.sW lD k tp] fJ pos::aU) Q X σ:=by
 revert hc ht hs h
 revert c n env X σ pos aU Q lD k tp fJ
 intros c n env X σ pos aU Q lD k tp fJ
 intro hc ht hs h
 intros A ω
 intro hR hS
 refine mO hR (Assign_Tuple (aW (h A ω hR hS) ?_ λz9 z9 x=>x) (tK hc) (tH ht))
 refine d9.all λrv z9 bx ω₁ l₁ cW r Z4=>?_
 refine gC λG hG=>?_
 refine uE Z4 λvs bG hl d7=>?_;clear Z4;obtain rfl:=bG
 refine xJ fQ λx xs k jd hg rs=>?_;obtain rfl:=jd
 refine iU (tC (env:=env) hs) λq1 q2=>?_
 refine hG ?_
 rw[arm_assign_Tuple]
 refine aK (iw (unpack_tuple (hR.room.jm) ⟨_,cW.gr _ _ hg,rfl,k,rfl⟩ (by rw[q2,ak.bZ,E9.len rs,hl]) q1 λh' hx=>?_))
 refine iU (cW.ext (h':=h') (λy o e=>hx y o (gY (c8.iu e)) e) ω₁.eV) λfV l₂=>?_
 have oM:=l₁.trans l₂
 refine n8 oM (d7 A _ xs (hR.le oM) fV (rs.eW l₂.sub)) ?_
 refine d9.all λz9 z9 eB gw jT lB z9 qM=>?_
 exact⟨eB,gw,oM.trans jT,rfl,lB,qM⟩
theorem Ru{test:aB}{dO:ak iW}(I:Nat->St->Prop)(k:Nat)(hI:I k σ)
  (oX:∀k σ,I k σ->WT c n env test (λb bx=>if b then WS c n env dO (λfl bL=>match fl with|.next=>∃j,j<k/\I j bL|.rF=>∃j,j<k/\I j bL|.brk=>WS c n env aU Q X bL|.ret v=>Q (.ret v) bL) (λz9=>cM) bx else WS c n env aU Q X bx) (λz9=>cM) σ):
  WS c n env (.oY test dO [] pos::aU) Q X σ:=by
 revert hI oX
 revert c n env X σ pos aU Q test dO I k
 intros c n env X σ pos aU Q test dO I k
 intro hI oX
 intros A ω
 intro hR hS
 refine mO hR (wpAny_While ?_)
 refine codeAny_whileLoop (λk s=>∃fL fj,Le ω fj/\fj.s=s/\Sat c aN fL fj/\I k fL) ?_ k ⟨σ,ω,.sI _,rfl,hS,hI⟩
 intro k _ K3
 refine x24 K3 λfL fj l jd S' hI'=>?_;clear K3;obtain rfl:=jd
 refine aW (oX k fL hI' A fj (hR.le l) S') ?_ λz9 z9 p=>p.no
 refine d9.all λb b' bx ω₁ l₁ cW ad3 d7=>?_
 obtain rfl:=ad3
 have l01:=l.trans l₁
 cases b' with
 |false=>
  rw[aY aM.bK]at d7⊢
  exact q9 ⟨bx,ω₁,l01,rfl,cW,d7⟩
 |true=>
  rw[bJ rfl]at d7⊢
  refine aW (d7 A ω₁ (hR.le l01) cW) ?_ λz9 z9 p=>p.no
  refine d9.all λf fl bL dj l₂ fV rf i6=>?_
  have l02:=l01.trans l₂
  cases rf with
  |next=>(refine gg i6 λj hj Nv=>?_;clear i6);exact⟨j,hj,bL,dj,l02,rfl,fV,Nv⟩
  |rF=>(refine gg i6 λj hj Nv=>?_;clear i6);exact⟨j,hj,bL,dj,l02,rfl,fV,Nv⟩
  |brk=>exact⟨bL,dj,l02,rfl,fV,i6⟩
  |ret r=>exact⟨_,bL,dj,l02,rfl,fV,.ret r,i6⟩
theorem Ny{t:aB}(h:WT c n env t (λb fL=>b=true/\WS c n env aU Q X fL) X σ):WS c n env (.Assert t none pos::aU) Q X σ:=by
 revert h
 revert c n env X σ pos aU Q t
 intros c n env X σ pos aU Q t
 intro h
 intros A ω
 intro hR hS
 refine mO hR (wpAny_Assert_new hR.room.jm (aW (h A ω hR hS) ?_ λz9 z9 x=>x))
 rintro b s₁ ⟨b',bx,ω₁,l₁,uM,cW,rfl,rfl,d7⟩
 rw[bJ rfl]
 exact⟨bx,ω₁,l₁,uM,cW,d7⟩
end
section
variable{c:Cx}{n:Nat}{env:Env}{X:St->Prop}{σ:St}{pos:Pos}{ω:Wd}{sc:Scope}{rest:List Stmt}{Q:Fl->St->Prop}
set_option tactic.hygienic true in
theorem Sat.Nz{L I:aQ}{o o':Obj}{k₀:c7}{h':c8}(S:Sat c L σ ω)(hk:ω.k=g8 k₀ I o)(hs:∀x o,x≠I->ω.aP.cF x=az o->h'.cF x=az o)(hd:h'.cF I=az o')(t:Nat):
  Sat c L σ {ω with s:={ω.s with d8:=h',nA:=t},k:=g8 k₀ I o'}:=by
 revert S hk hs hd
 revert c σ ω L I o o' k₀ h' t
 intros c σ ω L I o o' k₀ h' t
 intro S hk hs hd
 have kd:ω.k I=az o:=by rw[hk];exact iQ
 have n9:∀x∈L::(ω.a++ω.b),x≠I:=λx hx=>by rintro rfl;exact Lake.nn (kN x hx) kd
 have wO:∀x m,ω.kf x=az m->x≠I:=λx m e=>by rintro rfl;exact Lake.nn ((S.oJ x m e).1) kd
 have pU:∀x,x≠I->g8 k₀ I o' x=ω.k x:=λx hx=>by rw[hk];unfold g8;rw[aY hx,aY hx]
 refine⟨Aq qX λo e=>hs _ o (n9 _ (.dw _)) e,λx tV e=>hs x tV (by rintro rfl;exact Lake.nn (S.dk _ _ kd) e) (S.gr x tV e),iG,S.high,sS,S.nd,S.tT.mK λx hx o e=>hs x o (n9 x (.cI _ (ak.bA _ hx))) e,S.tW.mK λx hx o e=>hs x o (n9 x (.cI _ (ak.bg _ hx))) e,gD,jk,λx tV e=>?_,λx hx=>(pU x (n9 x hx)).trans (kN x hx),λx m e=>Aq (S.nf x m e) λo q=>hs x o (wO x m e) q,S.qC,λx m e=>⟨(pU x (wO x m e)).trans (S.oJ x m e).1,(S.oJ x m e).2⟩,λx tV e=>?_⟩
 ·have e':(if x=I then az o' else k₀ x)=az tV:=e
  split at e'
  ·rename_i h;subst h;cases e';exact hd
  ·rename_i h;exact hs x tV h (S.kk x tV (by rw[<-pU x h];exact e))
 ·have e':(if x=I then az o' else k₀ x)=az tV:=e
  split at e'
  ·rename_i h;subst h;exact S.dk _ _ kd
  ·rename_i h;exact S.dk x tV (by rw[<-pU x h];exact e)
def nR(o:Obj):Prop:=match o.cls,o.f9 with
 |.dg n,.pJ _=>(["enumerate","zip","dict_itemiterator","dict_reverseitemiterator","odict_iterator","itertools.zip_longest","itertools.pairwise"]:ak u9).jG n=false
 |_,_=>True
theorem v5{o:Obj}{n:u9}{fs:dX aI}(hc:o.cls=.dg n)(hd:o.f9=.pJ fs)(h:(["enumerate","zip","dict_itemiterator","dict_reverseitemiterator","odict_iterator","itertools.zip_longest","itertools.pairwise"]:ak u9).jG n=false):nR o:=by
 unfold nR
 rw[hc,hd]
 exact h
structure zR(c:Cx)(ω:Wd)(rv:aI)(bY:ak V):Prop where
 it:∀(A:dR)(Q:aI->aZ->Prop)(E:aI->aZ->Prop),A.jm=none->
  (∀(o:Obj)(fp:ak aQ)(P:Nat->aI->Prop)(St:Nat->c8->Prop),o.isFreed=false->(∀A':dR,A'.jm=none->Walks bU j5 A' ω.s.aC fp [ω.s.aC] bY.aq P St)->St 0 (ω.aP.jg o)->
   (∀b∈fp,b=ω.s.aC\/∃o,ω.g b=az o)->(∀i h,St i h->∃o,h.cF ω.s.aC=az o/\nR o)->(∀i v,i<bY.aq->P i v->∃u,bY[i]?=az u/\RV c ω u v)->
   Q (.ref ω.s.aC) {ω.s with d8:=ω.aP.jg o})->cZ (dB bU j5) A (pyIter rv) Q E ω.s
theorem Ft{P:dN}{g:c7}{a b:ak aQ}{l:ak V}{rl:ak aI}{i:Nat}{v:aI}(h:fK P g a b l rl):rl[i]?=az v->∃u,l[i]?=az u/\Rel P g a b u v:=
 fK.ind (M:=λl rl=>∀i:Nat,rl[i]?=az v->∃u,l[i]?=az u/\Rel P g a b u v) (λz9 e=>by cases e) (λz9 z9 z9 z9 r z9 ih i e=>by
  cases i with
  |lO=>exact aH.az.inj e▸⟨_,rfl,r⟩
  |kU i=>exact ih i e) h i
theorem iJ{P:dN}{g:c7}{a b:ak aQ}{l:ak V}{rl:ak aI}(h:fK P g a b l rl):rl.aq=l.aq:=
 fK.ind (M:=λl rl=>rl.aq=l.aq) rfl (λz9 z9 z9 z9 z9 z9 ih=>bM (·+1) ih) h
theorem BL{L:aQ}{l:ak V}{rv:aI}(hS:Sat c L σ ω)(r:RV c ω (.aR l) rv):zR c ω rv l:=by
 refine xJ fQ λx xs k jd hg rs=>?_;obtain rfl:=jd
 refine⟨λA Q E hh hQ=>?_⟩
 have hl:ω.aP.IsList x xs.aJ:=⟨_,hS.gr _ _ hg,rfl,k,rfl⟩
 have pU:x≠ω.s.aC:=gY (c8.iu (hS.gr _ _ hg))
 have jW:xs.aJ.dM=l.aq:=by rw[ak.bZ,iJ rs]
 refine wpAny_pyIter_list hl (hQ _ [ω.s.aC,x] (λi v=>xs.aJ[i]?=az v) (λi h=>h.IsListIter ω.s.aC x i/\h.IsList x xs.aJ) rfl (λA' NB=>jW▸Walks.aR NB _ _ pU _) ⟨⟨_,c8.fB _ rfl,rfl,rfl⟩,hl.jg _⟩ ?_ ?_ ?_)
 ·intro b hb
  simp only[ak.mem_cons,ak.nZ,oW]at hb
  rcases hb with rfl|rfl
  ·exact .inl rfl
  ·exact .inr ⟨_,hg⟩
 ·rintro i h ⟨⟨o,ho,hc,hd⟩,_⟩
  refine⟨o,ho,?_⟩
  exact v5 hc hd (by decide)
 ·intro i v _ e
  exact Ft rs (by simpa using e)
theorem K4{L:aQ}{l:ak V}{rv:aI}(hS:Sat c L σ ω)(r:RV c ω (.tup l) rv):zR c ω rv l:=by
 refine xJ fQ λx xs k jd hg rs=>?_;obtain rfl:=jd
 refine⟨λA Q E hh hQ=>?_⟩
 have hl:ω.aP.IsTuple x xs.aJ:=⟨_,hS.gr _ _ hg,rfl,k,rfl⟩
 have pU:x≠ω.s.aC:=gY (c8.iu (hS.gr _ _ hg))
 have jW:xs.aJ.dM=l.aq:=by rw[ak.bZ,iJ rs]
 refine wpAny_pyIter_tuple hl (hQ _ [ω.s.aC,x] (λi v=>xs.aJ[i]?=az v) (λi h=>h.IsTupleIter ω.s.aC x i/\h.IsTuple x xs.aJ) rfl (λA' NB=>jW▸Walks.tuple NB _ _ pU _) ⟨⟨_,c8.fB _ rfl,rfl,rfl⟩,hl.jg _⟩ ?_ ?_ ?_)
 ·intro b hb
  simp only[ak.mem_cons,ak.nZ,oW]at hb
  rcases hb with rfl|rfl
  ·exact .inl rfl
  ·exact .inr ⟨_,hg⟩
 ·rintro i h ⟨⟨o,ho,hc,hd⟩,_⟩
  exact⟨o,ho,v5 hc hd (by decide)⟩
 ·intro i v _ e
  exact Ft rs (by simpa using e)
theorem A1{rv:aI}{r:aQ}{a b d:Int}{N:Nat}{t u v:Tok}(hr:rv=.ref r)(hg:ω.aP.cF r=az {cls:=.dg "range",bO:=none,f9:=.pJ #[.int a t,.int b u,.int d v],slots:=#[]})(hz:dI.ni a b d=true)(hN:dI.jL a b d=N):
  zR c ω rv ((ak.tO N).map λi=>.int (a+(i:Nat) * d)):=by
 subst hr
 refine⟨λA Q E hh hQ=>?_⟩
 have jW:((ak.tO N).map λ(i:Nat)=>p8 (a+i * d)).aq=N:=by simp
 refine wpAny_pyIter_range hg hz (hQ _ [ω.s.aC] (λi v=>∃t,v=.int (a+i * d) t) (λi h=>IsRangeIter h ω.s.aC (a+(i:Nat) * d) ((N:Int) - (i:Nat)) d) rfl (λA' NB=>by rw[jW];exact Walks.tO NB _ a d _) ?_ (λb hb=>.inl (by simpa using hb)) ?_ ?_)
 ·show c8.cF _ _=_
  rw[hN]
  simp only[Int.ofNat_zero,Int.zero_mul,Int.add_zero,Int.sub_zero,Int.natCast_zero]
  exact c8.fB _ rfl
 ·intro i h e
  exact⟨_,e,v5 rfl rfl (by decide)⟩
 ·rintro i v hi ⟨t,rfl⟩
  rw[jW]at hi
  exact⟨.int (a+i * d),by simp[hi],.int⟩
theorem K5{L:aQ}{x:Str}{rv:aI}(hS:Sat c L σ ω)(r:RV c ω (.str x) rv):zR c ω rv (x.au.map λk=>.str ⟨#[k]⟩):=by
 refine eO fQ λt bG=>?_;obtain rfl:=bG
 refine⟨λA Q E hh hQ=>?_⟩
 haveI jW:(x.au.map λk=>V.str ⟨#[k]⟩).aq=x.cps.dM:=ak.bT _
 haveI hP:∀i v,i<(x.au.map λk=>V.str ⟨#[k]⟩).aq->SignAt x i v->∃u,(x.au.map λk=>V.str ⟨#[k]⟩)[i]?=az u/\RV c ω u v:=by
  rintro i v - ⟨k,u,e,rfl⟩
  exact⟨.str ⟨#[k]⟩,by rw[ak.iI,dX.getElem?_toList,e];rfl,.str⟩
 cases ha:x.cps.all (·<128)
 ·exact wpAny_pyIter_wide ha (hQ _ [ω.s.aC] (SignAt x) (λi h=>h.IsStrIter ω.s.aC "str_iterator" x t i) rfl (λA' hA=>jW▸Walks.strWide hA _ x t) ⟨_,c8.fB _ rfl,rfl,rfl⟩ (λb hb=>.inl (ak.bR hb)) (λi h q=>q.imp λo q=>⟨q.1,v5 q.2.1 q.2.2 (by decide)⟩) hP)
 ·exact wpAny_pyIter_ascii ha (hQ _ [ω.s.aC] (SignAt x) (λi h=>h.IsStrIter ω.s.aC "str_ascii_iterator" x t i) rfl (λA' hA=>jW▸Walks.strAscii hA _ x t) ⟨_,c8.fB _ rfl,rfl,rfl⟩ (λb hb=>.inl (ak.bR hb)) (λi h q=>q.imp λo q=>⟨q.1,v5 q.2.1 q.2.2 (by decide)⟩) hP)
abbrev AT(c:Cx)(n:Nat)(env:Env)(t:aB)(v:V)(Q:qY->St->Prop)(X:St->Prop)(σ:St):Prop:=WO c n env (λ|[x]=>assign t env x|_=>lY "") [v] (λz9 z9 z9=>True) Q X σ
theorem D3{Q:qY->St->Prop}{x:Str}{p:Pos}{v:V}(he:fU env sc)(hk:(sc.bW x==az .local)=true)(h:∃l',tU x v rE l'/\Q () {σ with loc:=l'}):AT c n env (.mQ x p) v Q X σ:=λA ω kO hR hS hr=>by
 obtain⟨rv,rfl,r⟩:=hr.one
 obtain⟨l',p,h⟩:=h
 exact assign_Name (zA he hk hS r p λfj l S'=>⟨(),_,fj,l,rfl,S',trivial,h⟩)
theorem NC{Q:qY->St->Prop}{lD:ak aB}{k:Nat}{tp:Pos}{vs:ak V}(hs:lD.all oO=true)(hl:vs.aq=lD.aq)(h:Nt c n env lD vs Q X σ):AT c n env (.sW lD k tp) (.tup vs) Q X σ:=λA ω kO hR hS hr=>by
 refine gg hr.one λrv bG r=>?_;obtain rfl:=bG
 refine xJ fQ λx xs k jd hg rs=>?_;obtain rfl:=jd
 refine iU (tC (env:=env) hs) λq1 q2=>?_
 show cZ _ _ (assign (.sW lD _ tp) env (.ref x)) _ _ _
 rw[arm_assign_Tuple]
 refine aK (iw (unpack_tuple (hR.room.jm) ⟨_,hS.gr _ _ hg,rfl,k,rfl⟩ (by rw[q2,ak.bZ,E9.len rs,hl]) q1 λh' hx=>?_))
 refine iU (hS.ext (h':=h') (λy o e=>hx y o (gY (c8.iu e)) e) ω.eV) λfV l₂=>?_
 exact n8 l₂ (h A _ xs (hR.le l₂) fV (rs.eW l₂.sub)) λz9 z9 q=>q.le l₂
def qm(e:aB):aM:=Fc [7,11] e
end
section
variable{c:Cx}{n:Nat}{env:Env}{X:St->Prop}{σ:St}{pos:Pos}{ω:Wd}{sc:Scope}{rest:List Stmt}{Q:Fl->St->Prop}
theorem Sat.D4{L I:aQ}{o:Obj}{k₀:c7}{h':c8}(S:Sat c L σ ω)(hk:ω.k=g8 k₀ I o)(h0:k₀ I=none)(hs:∀x o,x≠I->ω.aP.cF x=az o->h'.cF x=az o)(t:Nat):
  Sat c L σ {ω with s:={ω.s with d8:=h',nA:=t},k:=k₀}:=by
 revert S hk h0 hs
 revert c σ ω L I o k₀ h' t
 intros c σ ω L I o k₀ h' t
 intro S hk h0 hs
 have kd:ω.k I=az o:=by rw[hk];exact iQ
 have n9:∀x∈L::(ω.a++ω.b),x≠I:=λx hx=>by rintro rfl;exact Lake.nn (kN x hx) kd
 have wO:∀x m,ω.kf x=az m->x≠I:=λx m e=>by rintro rfl;exact Lake.nn ((S.oJ x m e).1) kd
 have pU:∀x,x≠I->k₀ x=ω.k x:=λx hx=>by rw[hk];unfold g8;rw[aY hx]
 have Dq:∀x tV,k₀ x=az tV->x≠I:=λx tV e=>by rintro rfl;exact Lake.nn (h0) e
 refine⟨Aq qX λo e=>hs _ o (n9 _ (.dw _)) e,λx tV e=>hs x tV (by rintro rfl;exact Lake.nn (S.dk _ _ kd) e) (S.gr x tV e),iG,S.high,sS,S.nd,S.tT.mK λx hx o e=>hs x o (n9 x (.cI _ (ak.bA _ hx))) e,S.tW.mK λx hx o e=>hs x o (n9 x (.cI _ (ak.bg _ hx))) e,gD,jk,λx tV e=>hs x tV (Dq x tV e) (S.kk x tV ((pU x (Dq x tV e)).symm.trans e)),λx hx=>(pU x (n9 x hx)).trans (kN x hx),λx m e=>Aq (S.nf x m e) λo q=>hs x o (wO x m e) q,S.qC,λx m e=>⟨(pU x (wO x m e)).trans (S.oJ x m e).1,(S.oJ x m e).2⟩,λx tV e=>S.dk x tV ((pU x (Dq x tV e)).symm.trans e)⟩
structure Y7(ω fj:Wd):Prop where
 sub:Sub ω.g fj.g ω.a fj.a ω.b fj.b
 iD:gk fj.s.iD=gk ω.s.iD
 jE:fj.s.jE=ω.s.jE
 os:fj.s.os=ω.s.os
 kf:fj.kf=ω.kf
def LoopAt(c:Cx)(L:aQ)(k8:Wd)(I:aQ)(T:Nat->c8->Prop)(i:Nat)(σ:St)(s:aZ):Prop:=
 ∃ω o,Y7 k8 ω/\ω.s=s/\Sat c L σ ω/\ω.k=g8 k8.k I o/\k8.k I=none/\T i aP/\aP.cF I=az o
theorem LoopAt.out{L I:aQ}{T:Nat->c8->Prop}{i:Nat}{s:aZ}(h:LoopAt c L ω I T i σ s){h':c8}{t:Nat}(hs:∀x o,x≠I->aP.cF x=az o->h'.cF x=az o):
  ∃fj,Le ω fj/\fj.s={s with d8:=h',nA:=t}/\Sat c L σ fj:=by
 refine x26 h λfj o l jd S hk h0 ζ7=>?_;clear h;obtain rfl:=jd
 exact⟨{fj with s:={fj.s with d8:=h',nA:=t},k:=ω.k},⟨l.sub,l.iD,l.jE,l.os,rfl,l.kf⟩,rfl,S.D4 hk h0 hs t⟩
def ND(ω:Wd)(I:aQ)(fp:ak aQ):Prop:=∀b∈fp,b=I\/∃o,ω.g b=az o
theorem LoopAt.go{A:dR}{I:aQ}{fp:ak aQ}{N:Nat}{P:Nat->aI->Prop}{T:Nat->c8->Prop}(W:Walks bU j5 A I fp [I] N P T)(Hu:ND ω I fp)(ho:∀i h,T i h->∃o,h.cF I=az o/\nR o)
  {gc:aB}{bY:ak V}(hl:bY.aq=N)(hP:∀i v,i<N->P i v->∃u,bY[i]?=az u/\RV c ω u v)(hR:m9 c n env A ω.kf)
  {B:St->Prop}
  {i:Nat}{s:aZ}(h:LoopAt c aN ω I T i σ s)(hi:i<=N)
  (oX:∀u,bY[i]?=az u->AT c n env gc u (λz9 eB=>B eB) (λz9=>cM) σ)
  {Qn:aH aI->aZ->Prop}{E':aI->aZ->Prop}
  (hd:i=N->∀s',(∃fj,Le ω fj/\fj.s=s'/\Sat c aN σ fj)->Qn none s')
  (hb:∀v s',i<N->cZ (dB bU j5) A (mX gc (.ref I) v) (λz9 s₁=>cZ (dB bU j5) A (assign gc env v) (λz9 BB=>∃fL,LoopAt c aN ω I T (i+1) fL BB/\B fL) E' s₁) E' s'->Qn (az v) s'):
  cZ (dB bU j5) A (pyNext (.ref I)) Qn E' s:=by
 revert W Hu ho hl hP hR h hi oX hd hb
 revert c n env σ ω A I fp N P T gc bY B i s Qn E'
 intros c n env σ ω A I fp N P T gc bY B i s Qn E'
 intro W Hu ho hl hP hR h hi oX hd hb
 refine x27 h λfj o l jd S hk h0 st hg=>?_;clear h;obtain rfl:=jd
 rcases qx i N with lM|Z5
 ·refine W.item i _ _ _ lM st λv h' tk p Z6 hs=>?_
  refine gg (ho _ _ Z6) λo' Bp hq=>?_
  refine gg (hP i v lM p) λu hu r=>?_
  have S':=S.Nz (o':=o') hk (λx o hx e=>hs x o (by simpa using hx) e) Bp tk
  refine hb v _ lM ?_
  -- Zw owned tuple
  have hgo:∀(s:aZ)(Q:qY->aZ->Prop)(E:aI->aZ->Prop),aP.cF I=az o'->Q () s->cZ (dB bU j5) A (mX gc (.ref I) v) Q E s:=by
   intro s Q E hs q
   have key:cZ (dB bU j5) A (do
     let(.ref r,.ref a):=(aI.ref I,v)|return
     let o <-load r
     match o.cls,o.f9 with
     |.dg n,.pJ vs=>
      if["enumerate","zip","dict_itemiterator","dict_reverseitemiterator","odict_iterator","itertools.zip_longest","itertools.pairwise"].jG n&&vs[0]?==az (rawInt a)then
       rule "for.unpacks-the-owned-tuple"
       updateField r 0 .none
     |_,_=>gB ():Sem qY) Q E s:=by
    cases v with
    |ref a=>
     refine aK (wpAny_load hs ?_)
     unfold nR at hq
     generalize o'.cls=cl at hq⊢
     generalize o'.f9=dt at hq⊢
     cases cl with
     |dg n=>cases dt with
      |pJ vs=>
       have hq:(_:aM)=false:=hq
       dsimp only
       rw[hq,aM.false_and,aY aM.bK]
       exact bw q
      |_=>exact bw q
     |_=>exact bw q
    |_=>exact bw q
   have pq:cZ (dB bU j5) A (gB ()) Q E s:=bw q
   exact aB.casesOn (motive_1:=λt=>cZ (dB bU j5) A (mX t (.ref I) v) Q E s) gc (by intros;exact pq) (by intros;exact pq) (by intros;exact pq) (by intros;exact pq) (by intros;exact pq) (by intros;exact pq) (by intros;exact pq) (by intros;exact pq) (by intros;exact pq) (by intros;exact pq) (by intros;exact pq) (by intros;exact pq) (by intros;exact pq) (by intros;exact pq) (by intros;exact pq) (by intros;exact pq) (by intros;exact pq) (by intros;exact pq) (by intros;exact pq) (by intros;exact pq) (by intros;exact pq) (by intros;exact pq) (by intros;exact pq) (by intros;exact pq) (by intros;exact key) (by intros;exact key) (by intros;exact pq)
  refine hgo _ _ _ Bp ?_
  refine aW (oX u hu A {fj with s:={fj.s with d8:=h',nA:=tk},k:=g8 ω.k I o'} [v] (show m9 c n env A fj.kf from l.kf▸hR) S' (.br (r.eW l.sub) .nil)) ?_ λz9 z9 p=>p.no
  refine d9.all λz9 z9 bL dj l₂ fV z9 hB=>?_
  have hkI:dj.k I=az o':=by rw[l₂.k];exact iQ
  refine⟨bL,⟨dj,o',⟨l.sub.trans l₂.sub,l₂.iD.trans l.iD,l₂.jE.trans l.jE,l₂.os.trans l.os,l₂.kf.trans l.kf⟩,rfl,fV,l₂.k,h0,W.rO _ _ _ Z6 λb hb o e=>?_,fV.kk _ _ hkI⟩,hB⟩
  rcases Hu b hb with rfl|⟨ob,HP⟩
  ·rw[Bp]at e;cases e;exact fV.kk _ _ hkI
  ·have e1:=S'.gr b ob (l.sub.hg _ _ HP)
   rw[e]at e1;cases e1
   exact fV.gr b _ (l₂.sub.hg _ _ (l.sub.hg _ _ HP))
 ·have UP:i=N:=dU hi Z5
  subst UP
  refine W.done _ _ _ st λh' tk hs=>?_
  refine hd rfl _ ?_
  exact LoopAt.out (T:=T) (i:=i) ⟨fj,o,l,rfl,S,hk,h0,st,hg⟩ λx o hx e=>hs x o (by simpa using hx) e
end
section
variable{c:Cx}{n:Nat}{env:Env}{X:St->Prop}{σ:St}{pos:Pos}{ω:Wd}{sc:Scope}{rest:List Stmt}{Q:Fl->St->Prop}
def WI(c:Cx)(n:Nat)(env:Env)(e:aB)(Q:ak V->St->Prop)(X:St->Prop)(σ:St):Prop:=W c n env (eval e env) (λω bY rv=>zR c ω rv bY) Q X σ
inductive vR:V->ak V->Prop
 |aR {l}:vR (.aR l) l
 |tup {l}:vR (.tup l) l
 |str {x:Str}:vR (.str x) (x.au.map λk=>.str ⟨#[k]⟩)
theorem vR.it{L:aQ}{v:V}{bY:ak V}{rv:aI}(h:vR v bY)(hS:Sat c L σ ω)(r:RV c ω v rv):zR c ω rv bY:=by
 cases h with
 |aR=>exact BL hS r
 |tup=>exact K4 hS r
 |str=>exact K5 hS r
theorem zS{e:aB}{Q:ak V->St->Prop}(h:WE c n env e (λv fL=>∃bY,vR v bY/\Q bY fL) X σ):WI c n env e Q X σ:=λA ω hR hS=>by
 refine aW (h A ω hR hS) ?_ λz9 z9 x=>x
 intro rv s₁ Bf
 refine gC λG hG=>?_
 obtain⟨v,bx,ω₁,l₁,uM,cW,r,bY,hi,d7⟩:=Bf
 refine hG ?_
 exact⟨bY,bx,ω₁,l₁,uM,cW,hi.it cW r,d7⟩
theorem sG{gZ:aB}(h:qm gZ=true)(x:aI):foldedSetIterable gZ env x=gB x:=by
 cases gZ<;>first|rfl|cases h
theorem stepK{i k N:Nat}(e:i+k=N)(h:i<N):k - 1<k/\i+1+(k - 1)=N:=by
 cases k with
 |lO=>exact cO h (e▸cQ _)
 |kU k=>exact⟨dY _,(Nat.sZ i 1 k).trans e⟩
theorem Rv{A:dR}{t:aB}{I:aI}{dO:ak iW}{At:Nat->St->aZ->Prop}{J:Nat->St->Prop}{Z:Nat->Fl->St->Prop}{N:Nat}{s:aZ}{R:rI->aZ->Prop}(hR:m9 c n env A ω.kf)
  (go:∀i σ s Qn E',i<=N->J i σ->At i σ s->(i=N->∀s',(∃fj,Le ω fj/\fj.s=s'/\Sat c aN σ fj)->Qn none s')->(∀v s',i<N->cZ (dB bU j5) A (mX t I v) (λz9 s₁=>cZ (dB bU j5) A (assign t env v) (λz9 BB=>∃fL,At (i+1) fL BB/\WS c n env dO (Z i) (λz9=>cM) fL) E' s₁) E' s'->Qn (az v) s')->cZ (dB bU j5) A (pyNext I) Qn E' s)
  (re:∀i σ s,At i σ s->∃dj,dj.s=s/\dj.kf=ω.kf/\Sat c aN σ dj/\∀eB gw,Le dj gw->Sat c aN eB gw->At i eB gw.s/\∃k,Le ω {gw with k:=k}/\Sat c aN eB {gw with k:=k})
  (hz:∀i f σ,Z i f σ->f=.next\/f=.rF->J (i+1) σ)(h0:J 0 σ)(hA:At 0 σ s)
  (fin:∀σ fj,Le ω fj->Sat c aN σ fj->J N σ->R (.ok .next) fj.s)
  (brk:∀i σ fj,Le ω fj->Sat c aN σ fj->Z i .brk σ->R (.ok .next) fj.s)
  (ret:∀i v rv σ fj,Le ω fj->Sat c aN σ fj->RV c fj v rv->Z i (.ret v) σ->R (.ok (.ret rv)) fj.s):
  uz (dB bU j5) A (.forLoop t I dO [] env) R s:=by
 revert hR go re hz h0 hA fin brk ret
 revert c n env σ ω A t I dO At J Z N s R
 intros c n env σ ω A t I dO At J Z N s R
 intro hR go re hz h0 hA fin brk ret
 refine codeAny_forLoop_any (λk s=>∃i σ,i+k=N/\J i σ/\At i σ s) (λk s h=>?_) N ⟨0,σ,dD _,h0,hA⟩
 refine oH h λi fL e hJ hA=>?_;clear h
 refine go i fL s _ _ (e▸cu _ _) hJ hA (λhi s' h=>?_) λv s' lM h'=>?_
 ·refine uE h λfj l' ig S'=>?_;clear h;obtain rfl:=ig
  exact q9 (fin fL fj l' S' (hi▸hJ))
 refine aW h' (λz9 s₁ d7=>aW d7 (λz9 BB i6=>?_) λz9 z9 x=>x) λz9 z9 x=>x
 refine gg i6 λbL Z7 hB=>?_;clear i6
 refine E6 (re _ _ _ Z7) λdj bG wO fV st=>?_;obtain rfl:=bG
 refine aW (hB A dj (wO▸hR) fV) ?_ λz9 z9 p=>p.no
 refine d9.all λf fl eB gw jT lB rf qM=>?_
 refine iU (st eB gw jT lB) λZ8 iZ=>?_;refine gg iZ λZ9 pD pR=>?_;clear iZ
 haveI q:=stepK e lM
 cases rf with
 |next=>exact⟨_,q.1,_,_,q.2,hz i _ _ qM (.inl rfl),Z8⟩
 |rF=>exact⟨_,q.1,_,_,q.2,hz i _ _ qM (.inr rfl),Z8⟩
 |brk=>exact brk i _ {gw with k:=Z9} pD pR qM
 |ret r=>exact ret i _ _ _ {gw with k:=Z9} pD pR r qM
def ad5(c:Cx)(n:Nat)(env:Env)(aU:ak iW)(Q:Fl->St->Prop)(X:St->Prop)(J:Nat->St->Prop)(i:Nat)(fl:Fl)(eH:St):Prop:=match fl with|.next=>J (i+1) eH|.rF=>J (i+1) eH|.brk=>WS c n env aU Q X eH|.ret v=>Q (.ret v) eH
theorem LoopAt.re{A:dR}{L I:aQ}{fp:ak aQ}{N i:Nat}{s:aZ}{P:Nat->aI->Prop}{T:Nat->c8->Prop}(W:Walks bU j5 A I fp [I] N P T)(Hu:ND ω I fp)(h:LoopAt c L ω I T i σ s):
  ∃dj,dj.s=s/\dj.kf=ω.kf/\Sat c L σ dj/\∀eB gw,Le dj gw->Sat c L eB gw->LoopAt c L ω I T i eB gw.s/\∃k,Le ω {gw with k:=k}/\Sat c L eB {gw with k:=k}:=by
 revert W Hu h
 revert c σ ω A L I fp N i s P T
 intros c σ ω A L I fp N i s P T
 intro W Hu h
 refine gC λG hG=>?_
 refine x27 h λdj rC l₂ jd fV aaa UQ aab aac=>?_;clear h;obtain rfl:=jd
 refine hG ⟨dj,rfl,l₂.kf,fV,λeB gw jT lB=>?_⟩
 have lk:Y7 ω gw:=⟨l₂.sub.trans jT.sub,jT.iD.trans l₂.iD,jT.jE.trans l₂.jE,jT.os.trans l₂.os,jT.kf.trans l₂.kf⟩
 have hk:=jT.k.trans aaa
 have kI:gw.aP.cF I=az rC:=lB.kk _ _ ((congrFun hk I).trans iQ)
 refine⟨⟨gw,rC,lk,rfl,lB,hk,UQ,W.rO _ _ _ aab λb hb o e=>?_,kI⟩,ω.k,⟨lk.sub,lk.iD,lk.jE,lk.os,rfl,lk.kf⟩,lB.D4 (h':=gw.aP) hk UQ (λz9 z9 z9 e=>e) gw.eV⟩
 rcases Hu b hb with rfl|⟨ob,HP⟩
 ·exact kI.trans (aac.symm.trans e)
 ·exact(lB.gr b _ (lk.sub.hg _ _ HP)).trans ((fV.gr b ob (l₂.sub.hg _ _ HP)).symm.trans e)
theorem NF{gc gZ:aB}{dO:ak iW}(qp:qm gZ=true)
  (h:WI c n env gZ (λbY bx=>∃J:Nat->St->Prop,J 0 bx/\(∀i bL u,bY[i]?=az u->J i bL->AT c n env gc u (λz9 eB=>WS c n env dO (λfl eH=>match fl with|.next=>J (i+1) eH|.rF=>J (i+1) eH|.brk=>WS c n env aU Q X eH|.ret v=>Q (.ret v) eH) (λz9=>cM) eB) (λz9=>cM) bL)/\∀bL,J bY.aq bL->WS c n env aU Q X bL) X σ):
  WS c n env (.For gc gZ dO [] pos::aU) Q X σ:=by
 revert qp h
 revert c n env X σ pos aU Q gc gZ dO
 intros c n env X σ pos aU Q gc gZ dO
 intro qp h
 intros A ω
 intro hR hS
 refine mO hR (wpAny_For (aW (h A ω hR hS) ?_ λz9 z9 x=>x) (sG qp))
 refine d9.all λrv bY bx ω₁ l₁ cW it aad=>?_
 refine uE aad λJ Rw oX fin=>?_;clear aad
 refine it.it A _ _ hR.room.jm λo fp P T hf hW hT Hu ho hP=>?_
 haveI k0:ω₁.k ω₁.s.aC=none:=by
  cases e:ω₁.k ω₁.s.aC with
  |none=>rfl
  |az o=>exact cO (c8.iu (cW.kk _ _ e)) (cQ _)
 haveI start:LoopAt c aN ω₁ ω₁.s.aC T 0 bx {ω₁.s with d8:=ω₁.aP.jg o}:=⟨{ω₁ with s:={ω₁.s with d8:=ω₁.aP.jg o},k:=g8 ω₁.k ω₁.s.aC o},o,⟨.sI,rfl,rfl,rfl,rfl⟩,rfl,cW.KW o hf,rfl,k0,hT,c8.fB _ hf⟩
 haveI qD:m9 c n env A ω₁.kf:=hR.le l₁
 haveI hw:=hW A hR.room.jm
 exact Rv (Z:=ad5 c n env aU Q X J) qD (λi fL s' Qn E' hi hJ hl hd hb=>hl.go hw Hu ho rfl hP qD hi (λu hu=>oX i fL u hu hJ) hd hb) (λi fL s' h=>h.re hw Hu) (λi f fL h e=>by rcases e with rfl|rfl<;>exact h) Rw start (λfL fj l' S' hJ=>⟨fL,fj,l₁.trans l',rfl,S',fin fL hJ⟩) (λi fL fj l' S' h=>⟨fL,fj,l₁.trans l',rfl,S',h⟩) λi v rv fL fj l' S' r h=>⟨.ret v,fL,fj,l₁.trans l',rfl,S',.ret r,h⟩
end
section
variable{c:Cx}{n:Nat}{env:Env}{X:St->Prop}{σ:St}{pos:Pos}{ω:Wd}{sc:Scope}{rest:List Stmt}
set_option tactic.hygienic true in
theorem Sat.enter{L:aQ}(S:Sat c L σ ω){x:Str}{m:Str->aH aI}{ob:Obj}{h':c8}(hn:h'.Ns ω.s.aC m)(hs:c8.nJ ω.s.aC (ω.aP.jg ob) h')(t:Nat):
  Sat c ω.s.aC ⟨[(x,none)],jx,gJ⟩ {ω with s:={ω.s with d8:=h',nA:=t},m:=m,kf:=eY L ω}:=by
 revert S hn hs
 revert c σ ω L x m ob h' t
 intros c σ ω L x m ob h' t
 intro S hn hs
 have up:∀y o,ω.aP.cF y=az o->h'.cF y=az o:=λy o e=>hs.ug y o (gY (c8.iu e)) (bQ _ e)
 have gC:ω.g ω.s.aC=none:=by
  cases q:ω.g ω.s.aC with
  |none=>rfl
  |az o'=>exact cO (c8.iu (S.gr _ _ q)) (cQ _)
 have kC:ω.k ω.s.aC=none:=by
  cases q:ω.k ω.s.aC with
  |none=>rfl
  |az o'=>exact cO (c8.iu (S.kk _ _ q)) (cQ _)
 have kfC:eY L ω ω.s.aC=none:=by
  unfold eY
  rw[aY (jK qX.lt)]
  cases q:ω.kf ω.s.aC with
  |none=>rfl
  |az m=>exact cO (S.nf _ _ q).lt (cQ _)
 refine⟨hn,λy o e=>up y o (S.gr y o e),iG,⟨aA sO (fP qX.lt),S.high.2⟩,λy v m=>by simp at m,by simp,S.tT.mK λy _ o e=>up y o e,S.tW.mK λy _ o e=>up y o e,?_,?_,λy o e=>up y o (S.kk y o e),?_,?_,?_,?_,S.dk⟩
 ·exact ak.cT.mpr ⟨λh=>cQ _ (S.lt (.cI _ h)),(ak.cT.mp gD).2⟩
 ·intro y hy
  rcases ak.bB hy with rfl|hy
  ·exact gC
  ·exact jk y (.cI _ hy)
 ·intro y hy
  rcases ak.bB hy with rfl|hy
  ·exact kC
  ·exact kN y (.cI _ hy)
 ·intro y m' e
  change eY L ω y=az m' at e
  unfold eY at e
  split at e
  ·rename_i h;subst h;cases e;exact qX.kh up
  ·exact(S.nf y m' e).kh up
 ·intro y hy
  rcases ak.bB hy with rfl|hy
  ·exact kfC
  ·show eY L ω y=none
   unfold eY
   rw[aY (by rintro rfl;exact S.neL hy rfl)]
   exact S.qC y (.cI _ hy)
 ·intro y m' e
  change eY L ω y=az m' at e
  unfold eY at e
  split at e
  ·rename_i h;subst h;exact⟨kN _ (.dw _),jk _ (.dw _)⟩
  ·exact S.oJ y m' e
theorem Sat.exit{C L:aQ}{m₀:Str->aH aI}{kf₀:aQ->aH (Str->aH aI)}{loc₀:ak (Str×aH V)}(S:Sat c C σ ω)(wO:ω.kf=λx=>if x=L then az m₀ else kf₀ x)(QL:kf₀ L=none)(ha:gV.nO.dM<=L)
  (yr:∀x v,(x,az v)∈loc₀->∃rv,m₀ x=az rv/\Rel aL ω.g ω.a ω.b v rv)(hnd:(loc₀.map (·.1)).iT){HQ:c8}(hs:c8.nJ C ω.aP HQ)(t:Nat):
  Sat c L ⟨loc₀,jx,gJ⟩ {ω with s:={ω.s with d8:=HQ,nA:=t},m:=m₀,kf:=kf₀}:=by
 revert S wO QL ha yr hnd hs
 revert c σ ω C L m₀ kf₀ loc₀ HQ t
 intros c σ ω C L m₀ kf₀ loc₀ HQ t
 intro S wO QL ha yr hnd hs
 have kL:ω.kf L=az m₀:=by rw[wO];exact bJ rfl
 have NG:∀x,x≠L->kf₀ x=ω.kf x:=λx hx=>by rw[wO];exact(aY hx).symm
 have V6:∀x∈C::(ω.a++ω.b),x≠L:=λx hx=>by rintro rfl;exact Lake.nn (S.qC x hx) kL
 have up:∀y o,y≠C->ω.aP.cF y=az o->HQ.cF y=az o:=λy o hy e=>hs.ug y o hy e
 haveI gC:=jk _ (.dw _)
 haveI kC:=kN _ (.dw _)
 haveI kfC:=S.qC _ (.dw _)
 have Fv:∀x m,kf₀ x=az m->x≠L:=λx m e=>by rintro rfl;exact Lake.nn (QL) e
 refine⟨(S.nf L m₀ kL).qu hs (V6 C (.dw _)).symm,λy o e=>up y o (by rintro rfl;exact Lake.nn (gC) e) (S.gr y o e),iG,⟨ha,S.high.2⟩,yr,hnd,S.tT.mK λy hy o e=>up y o (by rintro rfl;exact S.neL (ak.bA _ hy) rfl) e,S.tW.mK λy hy o e=>up y o (by rintro rfl;exact S.neL (ak.bg _ hy) rfl) e,?_,?_,λy o e=>up y o (by rintro rfl;exact Lake.nn (kC) e) (S.kk y o e),?_,?_,?_,?_,S.dk⟩
 ·exact ak.cT.mpr ⟨λh=>V6 L (.cI _ h) rfl,(ak.cT.mp gD).2⟩
 ·intro y hy
  rcases ak.bB hy with rfl|hy
  ·exact(S.oJ _ _ kL).2
  ·exact jk y (.cI _ hy)
 ·intro y hy
  rcases ak.bB hy with rfl|hy
  ·exact(S.oJ _ _ kL).1
  ·exact kN y (.cI _ hy)
 ·intro y m' e
  have e1:ω.kf y=az m':=(NG y (Fv y m' e)).symm.trans e
  exact(S.nf y m' e1).qu hs (by rintro rfl;exact Lake.nn (kfC) e1)
 ·intro y hy
  rcases ak.bB hy with rfl|hy
  ·exact QL
  ·exact(NG y (V6 y (.cI _ hy))).trans (S.qC y (.cI _ hy))
 ·intro y m' e
  exact S.oJ y m' ((NG y (Fv y m' e)).symm.trans e)
end
section
variable{c:Cx}{n:Nat}{env:Env}{X:St->Prop}{σ:St}{pos:Pos}{ω:Wd}{sc:Scope}{rest:List Stmt}
abbrev WF(c:Cx)(n:Nat)(env:Env)(ifs:ak aB)(Q:aM->St->Prop)(X:St->Prop)(σ:St):Prop:=
 W c n env (forIn ifs true λc r=>if r=true then do let ok <-isTrue c env (eval c env);gB (mY ok)else gB (mY r)) (λz9 a b=>a=b) Q X σ
theorem D5{Q:aM->St->Prop}(h:Q true σ):WF c n env [] Q X σ:=λA ω hR hS=>wpAny_tests_nil (done hS rfl h)
theorem V7{Q:aM->St->Prop}{t:aB}(h:WT c n env t Q X σ):WF c n env [t] Q X σ:=λA ω hR hS=>wpAny_tests_one (h A ω hR hS)
def rX(bD:gO)(x:Str):aM:=bD.kY.all (λy=>y.2!=.free&&y.2!=.lI&&(y.2!=.local||bD.bW y.1==az .local))&&bD.bW x==az .local&&bD.su==.ng
theorem m9.comp{A:dR}{C:aQ}{bD:gO}(h:m9 c n env A ω.kf):m9 c n (compEnv bD C env) A (eY aN ω):=by
 revert h
 revert c n env ω A C bD
 intros c n env ω A C bD
 intro h
 refine⟨h.room,?_,λe=>by cases e⟩
 refine gg h.fm λl hA ho=>?_
 refine⟨l,hA,λe he=>?_⟩
 refine gC λG hG=>?_
 refine iU (ho e he) λh1 iZ=>?_;refine uE iZ λL h2 h3 h4=>?_;clear iZ
 refine hG ?_
 refine⟨h1,L,h2,h3,.inr ?_⟩
 by_cases hq:L=aN
 ·exact⟨ω.m,by unfold eY;rw[bJ hq]⟩
 ·rcases h4 with h4|⟨m,h4⟩
  ·exact cO h4 hq
  ·exact⟨m,by unfold eY;rw[aY hq];exact h4⟩
theorem Sat.Rx{L:aQ}(S:Sat c L σ ω){x:Str}:Sat c L ⟨[(x,none)],jx,gJ⟩ ω:=
 ⟨qX,S.gr,iG,S.high,λy v m=>by simp at m,by simp,S.tT,S.tW,gD,jk,S.kk,kN,S.nf,S.qC,S.oJ,S.dk⟩
theorem Ax{k:c7}{x y:aQ}{o p:Obj}(h:x≠y):g8 (g8 k x o) y p=g8 (g8 k y p) x o:=by
 funext z
 unfold g8
 by_cases h1:z=y
 ·rw[bJ h1,aY (h1▸h.symm),bJ h1]
 ·rw[aY h1]
  by_cases h2:z=x
  ·rw[bJ h2,bJ h2]
  ·rw[aY h2,aY h2,aY h1]
theorem vo{A:dR}{E:aI->aZ->Prop}{s:aZ}{l:aQ}{CO:dX aI}{nn:Nat}{x:aI}{Q:aI->aZ->Prop}(hl:aP.cF l=az {cls:=.dg "list",f9:=.seq CO nn})(yW:CO.dM<=fu)
  (hQ:∀h' BN,h'.cF l=az {cls:=.dg "list",f9:=.seq (CO.jg x) BN}->c8.nJ l aP h'->Q .none {s with d8:=h'}):
  cZ (dB bU j5) A (call (.cj "list.append") [.ref l,x]) Q E s:=
 call_meets slot_list_append (show s.sY (.ref l) "list" from⟨_,hl,rfl⟩) entry_list_append (args_list_append _ _) (nY.list_append l CO nn x yW) ⟨hl,hQ _ _ (IsL.uh hl _) (c8.nJ.uh ..)⟩
theorem fK.append{P:dN}{g:c7}{a b:ak aQ}{l l':ak V}{r r':ak aI}(h:fK P g a b l r)(h':fK P g a b l' r'):fK P g a b (l++l') (r++r'):=
 fK.ind (M:=λl r=>fK P g a b (l++l') (r++r')) h' (λz9 z9 z9 z9 x z9 ih=>.br x ih) h
theorem NH{I:aQ}{v:aI}{o':Obj}{s:aZ}{Q:qY->aZ->Prop}{A:dR}{E:aI->aZ->Prop}{a:ak aB}{k:Nat}{tp:Pos}(hq:nR o')(hs:aP.cF I=az o')(q:Q () s):cZ (dB bU j5) A (mX (.sW a k tp) (.ref I) v) Q E s:=by
 show cZ (dB bU j5) A (do
     let(.ref r,.ref a):=(aI.ref I,v)|return
     let o <-load r
     match o.cls,o.f9 with
     |.dg n,.pJ vs=>
      if["enumerate","zip","dict_itemiterator","dict_reverseitemiterator","odict_iterator","itertools.zip_longest","itertools.pairwise"].jG n&&vs[0]?==az (rawInt a)then
       rule "for.unpacks-the-owned-tuple"
       updateField r 0 .none
     |_,_=>gB ():Sem qY) Q E s
 cases v with
 |ref a=>
  refine aK (wpAny_load hs ?_)
  unfold nR at hq
  generalize o'.cls=cl at hq⊢
  generalize o'.f9=dt at hq⊢
  cases cl with
  |dg n=>cases dt with
   |pJ vs=>
    haveI hq:(_:aM)=false:=hq
    dsimp only
    rw[hq,aM.false_and,aY aM.bK]
    exact bw q
   |_=>exact bw q
  |_=>exact bw q
 |_=>exact bw q
theorem Sat.NJ{L:aQ}(S:Sat c L σ ω){lc:ak (Str×aH V)}(h0:∀y v,(y,az v)∉lc)(nd:(lc.map (·.1)).iT):Sat c L ⟨lc,jx,gJ⟩ ω:=
 ⟨qX,S.gr,iG,S.high,λy v m=>cO m (h0 y v),nd,S.tT,S.tW,gD,jk,S.kk,kN,S.nf,S.qC,S.oJ,S.dk⟩
def CX(bD sc:gO):gO:={bD with kY:=bD.kY.map λp=>if(p.2==.free&&sc.su==.ng&&sc.bW p.1==az .lI)=true then(p.1,.lI)else p}
theorem Br{bD:gO}(he:fU env sc):relabel bD env=CX bD sc:=by
 unfold relabel CX
 unfold Env.kindOf
 rw[he.bD]
def D6(bD:gO)(x y:Str):aM:=bD.kY.all (λp=>p.2!=.lI&&((p.2!=.local||bD.bW p.1==az .local)&&(p.2!=.free||p.1==y)))&&bD.bW x==az .local&&bD.su==.ng
def HR(y:Str)(ca:aQ)(kY:ak (Str×NameKind))(acc:ak (Str×aQ)):ak (Str×aQ):=kY.foldl (λa p=>if(p.2==.free)=true then(p.1,ca)::a else a) acc
theorem HS{bD:gO}{y:Str}{ca:aQ}(hc:mZ.eF y=az ca)(hf:∀p∈bD.kY,p.2=.free->p.1=y):closureFor bD env=gB (HR y ca bD.kY []):=by
 revert hc hf
 revert env bD y ca
 intros env bD y ca
 intro hc hf
 unfold closureFor
 haveI key:∀(kY:ak (Str×NameKind))(acc:ak (Str×aQ)),(∀p∈kY,p.2=.free->p.1=y)->(forIn kY acc λp r=>match p with
   |(name,su)=>if(su==.free)=true then(do let a <-cellOf env name;gB (mY ((name,a)::r)))else gB (mY r):Sem (ak (Str×aQ)))=gB (HR y ca kY acc):=by
  intro kY
  induction kY with
  |nil=>intro acc _;rfl
  |br p kY ih=>
   intro acc h
   obtain⟨nm,kd⟩:=p
   rw[ak.forIn_cons]
   show((if(kd==.free)=true then(do let a <-cellOf env nm;gB (mY ((nm,a)::acc)))else gB (mY acc))>>=_)=_
   cases hk:(kd==.free)with
   |true=>
    rw[bJ rfl]
    haveI e:nm=y:=h _ (.dw _) (cL hk)
    haveI e2:cellOf env nm=gB ca:=by unfold cellOf;rw[e,hc]
    rw[e2]
    refine(ih ((nm,ca)::acc) λq m=>h q (.cI _ m)).trans ?_
    show _=(gB (HR y ca kY (if(kd==.free)=true then _ else _)):Sem _)
    rw[hk];rfl
   |false=>
    rw[aY aM.bK]
    refine(ih acc λq m=>h q (.cI _ m)).trans ?_
    show _=(gB (HR y ca kY (if(kd==.free)=true then _ else _)):Sem _)
    rw[hk];rfl
 exact(bM (·>>=λs=>gB s) (key bD.kY [] hf)).trans rfl
theorem m9.aae{A:dR}{C:aQ}{bD:gO}{cl:ak (Str×aQ)}(h:m9 c n env A ω.kf):m9 c n (compEnvC bD cl C env) A (eY aN ω):=by
 have:=h.comp (C:=C) (bD:=bD)
 exact⟨this.room,this.fm,λe=>by cases e⟩
theorem zB{A:dR}{R:rI->aZ->Prop}{s:aZ}{elt gc gZ:aB}{ifs:ak aB}{bD:gO}{it acc:aI}(I:Nat->aZ->Prop)
  (oX:∀n s,I n s->cZ (dB bU j5) A (pyNext it) (λr s₁=>match r with
   |none=>R (.ok .next) s₁
   |az v=>cZ (dB bU j5) A (mX gc it v) (λz9 s₁=>cZ (dB bU j5) A (assign gc env v) (λz9 BB=>
     cZ (dB bU j5) A (forIn ifs true λc r=>if r=true then do let ok <-isTrue c env (eval c env);gB (mY ok)else gB (mY r)) (λok KY=>
      if ok=true then cZ (dB bU j5) A (eval elt env) (λx Ry=>
       cZ (dB bU j5) A (call (.cj "list.append") [acc,x]) (λz9 aaf=>∃m,m<n/\I m aaf) (λz9 z9=>cM) Ry) (λz9 z9=>cM) KY
      else ∃m,m<n/\I m KY) (λz9 z9=>cM) BB) (λz9 z9=>cM) s₁) (λz9 z9=>cM) s₁) (λz9 z9=>cM) s)
  (n:Nat)(h:I n s):
  uz (dB bU j5) A (.compLoop (.lq elt [⟨gc,gZ,ifs,0⟩] bD pos) 0 it acc env) R s:=by
 revert oX h
 revert c env pos A R s elt gc gZ ifs bD it acc I n
 intros c env pos A R s elt gc gZ ifs bD it acc I n
 intro oX h
 refine codeAny_loop rfl I (λn s hI=>?_) n h
 show cZ _ A ((compTurn (.lq elt [⟨gc,gZ,ifs,0⟩] bD pos) 0 it acc env).onRaise (λx=>do noteFrame x env;theTreesLotGoes x)) _ _ s
 refine wpAny_noted ?_
 rw[compTurn_list]
 haveI no:∀{P:aI->aZ->Prop},∀e s,cM->P e s:=λz9 z9 h=>h.g9
 refine aK (iw (aK (aW (oX n s hI) (λr s₁ d7=>?_) no)))
 clear oX hI
 cases r with
 |none=>exact bw d7
 |az v=>
  refine aK (aW d7 (λz9 BB i6=>aK (aW i6 (λz9 KY qM=>aK (aW qM (λok Ry vJ=>?_) no)) no)) no)
  cases ok with
  |false=>exact bw ⟨rfl,vJ⟩
  |true=>exact aK (aK (aW vJ (λx aaf DX=>aK (aW DX (λz9 ahG Fp=>bw (bw ⟨rfl,Fp⟩)) no)) no))
def NK(c:Cx)(C:aQ)(k8:Wd)(I D:aQ)(lc:ak (Str×aH V))(T:Nat->c8->Prop)(J:Nat->ak V->ak AO->Prop)(T₀:ak AO)(i:Nat)(s:aZ):Prop:=
 ∃(ω:Wd)(oI:Obj)(ys:ak V)(CY:ak aI)(nn:Nat)(W:ak AO),Y7 k8 ω/\ω.s=s/\Sat c C ⟨lc,T₀,W⟩ ω/\ω.k=g8 (g8 k8.k D {cls:=.dg "list",f9:=.seq CY.aJ nn}) I oI/\T i aP/\E9 c ω ys CY/\ys.aq<=i/\J i ys W
theorem K6{elt gc gZ:aB}{ifs:ak aB}{bD:gO}{A:dR}{I D C:aQ}{fp:ak aQ}{bY:ak V}{P:Nat->aI->Prop}{T:Nat->c8->Prop}{lc:ak (Str×aH V)}
  (W:Walks bU j5 A I fp [I] bY.aq P T)(Hu:ND ω I fp)(ho:∀i h,T i h->∃o,h.cF I=az o/\nR o)(hP:∀i v,i<bY.aq->P i v->∃u,bY[i]?=az u/\RV c ω u v)
  (hgo:∀{o:Obj}{v:aI}{s:aZ}{Q:qY->aZ->Prop}{E:aI->aZ->Prop},nR o->aP.cF I=az o->Q () s->cZ (dB bU j5) A (mX gc (.ref I) v) Q E s)
  (hC:aN=C)(hR:m9 c n env A ω.kf)(UR:D≠I)(hI0:ω.k I=none)(jW:bY.aq<=10000)(JE:∀y v,(y,az v)∉lc)(hnd:(lc.map (·.1)).iT)
  {J:Nat->ak V->ak AO->Prop}{T₀:ak AO}
  (oX:∀i ys W u,bY[i]?=az u->J i ys W->AT c n env gc u (λz9 bL=>WF c n env ifs (λok eB=>if ok then WE c n env elt (λv eH=>eH.T=T₀/\J (i+1) (ys++[v]) eH.W) (λz9=>cM) eB else eB.T=T₀/\J (i+1) ys eB.W) (λz9=>cM) bL) (λz9=>cM) ⟨lc,T₀,W⟩)
  {s:aZ}(h:NK c C ω I D lc T J T₀ 0 s){R:rI->aZ->Prop}
  (fin:∀(fj:Wd)(ys:ak V)(CY:ak aI)(nn:Nat)(W:ak AO),Y7 ω fj->Sat c C ⟨lc,T₀,W⟩ fj->fj.k=g8 ω.k D {cls:=.dg "list",f9:=.seq CY.aJ nn}->E9 c fj ys CY->J bY.aq ys W->R (.ok .next) fj.s):
  uz (dB bU j5) A (.compLoop (.lq elt [⟨gc,gZ,ifs,0⟩] bD pos) 0 (.ref I) (.ref D) env) R s:=by
 revert W Hu ho hP hgo hC hR UR hI0 jW JE hnd oX h fin
 revert c n env pos ω elt gc gZ ifs bD A I D C fp bY P T lc J T₀ s R
 intros c n env pos ω elt gc gZ ifs bD A I
 intros D C fp bY P T lc J T₀ s R
 intro W Hu ho hP hgo hC hR UR hI0 jW JE hnd oX h fin
 refine zB (λk s=>∃i,i+k=bY.aq/\NK c C ω I D lc T J T₀ i s) ?_ bY.aq ⟨0,dD _,h⟩
 clear h
 intro k s Bf
 refine gC λG hG=>?_
 refine gg Bf λi US iZ=>?_;clear Bf;refine x63 iZ λω₁ oI ys CY nn aag l₁ ad8 NL=>?_;clear iZ;obtain rfl:=ad8;refine x06 NL λcW UT st rs hle hJ=>?_;clear NL
 refine hG ?_
 clear hG G
 subst hC
 rcases qx i bY.aq with lM|Z5
 ·clear fin
  refine W.item i _ _ _ lM st λv h' tk p Z6 hs=>?_
  refine gg (ho _ _ Z6) λo' Bp hq=>?_
  refine gg (hP i v lM p) λu hu r=>?_
  clear ho hP p
  have fV:=cW.Nz (o':=o') UT (λx o hx e=>hs x o (by simpa using hx) e) Bp tk
  clear hs cW
  refine hgo hq Bp ?_
  clear hgo hq
  refine aW (oX i ys aag u hu hJ A {ω₁ with s:={ω₁.s with d8:=h',nA:=tk},k:=g8 (g8 ω.k D {cls:=.dg "list",f9:=.seq CY.aJ nn}) I o'} [v] (show m9 c n env A ω₁.kf from l₁.kf▸hR) fV (.br (r.eW l₁.sub) .nil)) ?_ λz9 z9 p=>p.no
  clear oX r hu hJ
  refine d9.all λz9 z9 eB gw jT lB z9 hw=>?_
  have Fw:m9 c n env A gw.kf:=(jT.kf.trans l₁.kf)▸hR
  refine aW (hw A gw Fw lB) ?_ λz9 z9 p=>p.no
  clear hw lB
  refine d9.all λok ok' eH jD pD pR ad9 vJ=>?_
  obtain rfl:=ad9
  have Rz:=jT.trans pD
  have key:∀(mR:Wd)(oN:St)(ys':ak V)(RA:ak aI)(BN:Nat),Y7 jD mR->Sat c aN oN mR->mR.k=g8 (g8 ω.k D {cls:=.dg "list",f9:=.seq RA.aJ BN}) I o'->E9 c mR ys' RA->ys'.aq<=i+1->oN.T=T₀->J (i+1) ys' oN.W->
    ∃m,m<k/\∃i,i+m=bY.aq/\NK c aN ω I D lc T J T₀ i mR.s:=by
   intro mR oN ys' RA BN pX tu Fx JF aai hT NN
   have aaj:mR.aP.cF I=az o':=tu.kk _ _ (by rw[Fx];exact iQ)
   have q:=stepK US lM
   refine⟨k - 1,q.1,i+1,q.2,mR,o',ys',RA,BN,oN.W,⟨l₁.sub.trans (Rz.sub.trans pX.sub),pX.iD.trans (Rz.iD.trans l₁.iD),pX.jE.trans (Rz.jE.trans l₁.jE),pX.os.trans (Rz.os.trans l₁.os),pX.kf.trans (Rz.kf.trans l₁.kf)⟩,rfl,hT▸tu.NJ JE hnd,Fx,?_,JF,aai,NN⟩
   refine W.rO _ _ _ Z6 λb hb o e=>?_
   rcases Hu b hb with rfl|⟨ob,HP⟩
   ·rw[Bp]at e;cases e;exact aaj
   ·have e1:=fV.gr b ob (l₁.sub.hg _ _ HP)
    rw[e]at e1;cases e1
    exact tu.gr b _ (pX.sub.hg _ _ (Rz.sub.hg _ _ (l₁.sub.hg _ _ HP)))
  have UU:jD.k=g8 (g8 ω.k D {cls:=.dg "list",f9:=.seq CY.aJ nn}) I o':=Rz.k
  cases ok' with
  |false=>
   rw[aY aM.bK]at vJ⊢
   exact key jD eH ys CY nn ⟨.sI,rfl,rfl,rfl,rfl⟩ pR UU (rs.eW Rz.sub) (fR hle) vJ.1 vJ.2
  |true=>
   rw[bJ rfl]at vJ⊢
   refine aW (vJ A jD ((pD.kf)▸Fw) pR) ?_ λz9 z9 p=>p.no
   clear vJ pR
   refine d9.all λrv v' oN mR pX tu V5 aak=>?_
   refine iU aak λhT NN=>?_;clear aak
   have Fx:mR.k=g8 (g8 ω.k I o') D {cls:=.dg "list",f9:=.seq CY.aJ nn}:=by rw[pX.k,UU];exact Ax UR
   have kD:mR.aP.cF D=az {cls:=.dg "list",f9:=.seq CY.aJ nn}:=tu.kk _ _ (by rw[Fx];exact iQ)
   have JF:E9 c mR ys CY:=rs.eW (Rz.sub.trans pX.sub)
   have yW:CY.aJ.dM<=fu:=by
    rw[ak.bZ,E9.len JF];exact aA hle (aA (fP lM) (aA jW (by rw[kK];decide)))
   refine vo kD yW λFp BN hd aal=>?_
   have Aw:=tu.Nz (I:=D) (h':=Fp) (k₀:=g8 ω.k I o') (o':={cls:=.dg "list",f9:=.seq (CY++[rv]).aJ BN}) Fx (λx o hx e=>aal.ug x o hx e) (by simpa using hd) mR.eV
   refine key {mR with s:={mR.s with d8:=Fp,nA:=mR.eV},k:=g8 (g8 ω.k I o') D {cls:=.dg "list",f9:=.seq (CY++[rv]).aJ BN}} oN (ys++[v']) (CY++[rv]) BN ⟨pX.sub,pX.iD,pX.jE,pX.os,pX.kf⟩ Aw ?_ (JF.append (.br V5 .nil)) (by rw[ak.aX];exact dZ hle) hT NN
   exact(Ax UR).symm
 ·have UP:i=bY.aq:=dU (US▸cu _ _) Z5
  subst UP
  refine W.done _ _ _ st λh' tk hs=>?_
  have fV:=cW.D4 (h':=h') UT (by unfold g8;rw[aY UR.symm];exact hI0) (λx o hx e=>hs x o (by simpa using hx) e) tk
  exact fin {ω₁ with s:={ω₁.s with d8:=h',nA:=tk},k:=g8 ω.k D {cls:=.dg "list",f9:=.seq CY.aJ nn}} ys CY nn aag ⟨l₁.sub,l₁.iD,l₁.jE,l₁.os,l₁.kf⟩ fV rfl rs hJ
theorem BO{elt gc gZ:aB}{ifs:ak aB}{bD:gO}{cl:ak (Str×aQ)}{lc:ak (Str×aH V)}{x:Str}{A:dR}{ω₁:Wd}{rv:aI}{bY:ak V}{Q:aI->aZ->Prop}{E:aI->aZ->Prop}{J:Nat->ak V->ak AO->Prop}
  (cW:Sat c aN σ ω₁)(qD:m9 c n env A ω₁.kf)(it:zR c ω₁ rv bY)(jW:bY.aq<=10000)(uI:∀p∈bD.kY,p.2≠.lI)(qN:bD.su=.ng)(JE:∀y v,(y,az v)∉lc)(hnd:(lc.map (·.1)).iT)
  (hgo:∀{I:aQ}{o:Obj}{v:aI}{s:aZ}{Q:qY->aZ->Prop}{E:aI->aZ->Prop},nR o->aP.cF I=az o->Q () s->cZ (dB bU j5) A (mX gc (.ref I) v) Q E s)
  (Rw:J 0 [] gJ)
  (oX:∀C i ys W u,bY[i]?=az u->J i ys W->AT c n (compEnvC bD cl C env) gc u (λz9 bL=>WF c n (compEnvC bD cl C env) ifs (λok eB=>if ok then WE c n (compEnvC bD cl C env) elt (λv eH=>eH.T=jx/\J (i+1) (ys++[v]) eH.W) (λz9=>cM) eB else eB.T=jx/\J (i+1) ys eB.W) (λz9=>cM) bL) (λz9=>cM) ⟨lc,jx,W⟩)
  (fin:∀vm ys W D,Le ω₁ vm->vm.m=ω₁.m->Sat c aN ⟨rE,jx,W⟩ vm->ω₁.s.aC<D->RV c vm (.aR ys) (.ref D)->J bY.aq ys W->Q (.ref D) vm.s):
  cZ (dB bU j5) A (pyIter rv) (λit BB=>cZ (dB bU j5) A (newList []) (λacc KY=>cZ (dB bU j5) A (newFunctionEnv bD env.lE cl [] env.qual none .none (az env)) (λnq Ry=>
    uz (dB bU j5) A (.compStart (.lq elt [⟨gc,gZ,ifs,0⟩] bD pos) 0 it acc {nq with bD:=relabel bD env}) (compPost (dB bU j5) A E none Q acc nq.locals) Ry) E KY) E BB) E ω₁.s:=by
 revert cW qD it jW uI qN JE hnd hgo Rw oX fin
 revert c n env σ pos elt gc gZ ifs bD cl lc x A ω₁ rv bY Q E J
 intros c n env σ pos elt gc gZ ifs bD cl lc x A ω₁ rv bY Q E J
 intro cW qD it jW uI qN JE hnd hgo Rw oX fin
 refine it.it A _ _ qD.room.jm λo fp P T hf hW hT Hu ho hP=>?_
 refine pO (hd:=by size_fits) (wpAny_newFunctionEnv uI (by intro y hy;simp at hy) (λd7 V8 NO=>?_) qN)
 haveI k0:∀x,ω₁.s.aC<=x->ω₁.k x=none:=λx hx=>by
  cases e:ω₁.k x with
  |none=>rfl
  |az o=>exact cO (c8.iu (cW.kk _ _ e)) (yR hx)
 haveI hz:(ω₁.aP.jg o).nO.dM=ω₁.s.aC+1:=c8.qy ..
 haveI pR:=(((cW.KW o hf).KW ({cls:=.dg "list",bO:=none,f9:=.seq ([]:ak aI).aJ}) rfl).enter (x:=x) V8 NO (ω₁.eV+([]:ak (Str×aI)).aq)).NJ JE hnd
 haveI UR:(ω₁.aP.jg o).nO.dM≠ω₁.s.aC:=by rw[hz];exact Nat.succ_ne_self _
 haveI kL:ω₁.kf aN=none:=cW.qC _ (.dw _)
 haveI hk1:=k0 (ω₁.aP.jg o).nO.dM (by rw[hz];exact xy _)
 haveI UW:T 0 d7:=(hW A qD.room.jm).rO _ _ _ hT λb hb o' e=>NO.ug b o' (by
   have:=c8.iu e
   rw[c8.qy];exact gY (gn this)) (bQ _ (bQ _ e))
 haveI loop:uz (dB bU j5) A (.compLoop (.lq elt [⟨gc,gZ,ifs,0⟩] bD pos) 0 (.ref ω₁.s.aC) (.ref (ω₁.aP.jg o).nO.dM) (compEnvC bD cl ((ω₁.aP.jg o).jg ({cls:=.dg "list",bO:=none,f9:=.seq ([]:ak aI).aJ})).nO.dM env))
   (compPost (dB bU j5) A E none Q (.ref (ω₁.aP.jg o).nO.dM) ((ω₁.aP.jg o).jg ({cls:=.dg "list",bO:=none,f9:=.seq ([]:ak aI).aJ})).nO.dM) {ω₁.s with d8:=d7,nA:=ω₁.eV+([]:ak (Str×aI)).aq}:=by
  refine K6 (ω:={ω₁ with kf:=eY aN ω₁}) (hW A qD.room.jm) Hu ho hP hgo rfl qD.aae UR (k0 _ (bz _)) jW JE hnd (oX _) ?_ ?_
  ·refine⟨_,o,[],[],0,gJ,?_,rfl,pR,?_,UW,.nil,bz _,Rw⟩
   ·exact⟨.sI,rfl,rfl,rfl,rfl⟩
   ·exact Ax UR.symm
  rintro fj ys CY nn W lk S' hk rs hJ
  refine⟨_,S'.ns,λh' Fo=>?_⟩
  haveI tu:=S'.exit (L:=aN) (m₀:=ω₁.m) (kf₀:=ω₁.kf) (loc₀:=rE) lk.kf kL cW.above (λy v m=>(cW.loc y v m).imp λrv q=>⟨q.1,q.2.eW lk.sub⟩) cW.nd Fo fj.eV
  haveI kD:h'.cF (ω₁.aP.jg o).nO.dM=az {cls:=.dg "list",f9:=.seq CY.aJ nn}:=tu.kk _ _ (by show fj.k _=_;rw[hk];exact iQ)
  refine iU (tu.BF (k₀:=ω₁.k) (o':={cls:=.dg "list",f9:=.seq CY.aJ nn}) hk hk1 (c8.nJ.sI _ _) kD fj.eV) λAw NP=>?_
  refine fin _ ys W _ ?_ ?_ Aw (jQ (dY _) hz.symm) (.aR iQ (rs.eW NP)) hJ
  ·exact⟨lk.sub.trans NP,lk.iD,lk.jE,lk.os,rfl,rfl⟩
  ·rfl
 exact codeAny_compStart_list loop ((hW A qD.room.jm).self 0 _ _ _ UW loop)
theorem JG{bD sc:gO}(hf:∀y∈bD.kY,y.2≠.free):CX bD sc=bD:=by
 unfold CX
 have:bD.kY.map (λp=>if(p.2==.free&&sc.su==.ng&&sc.bW p.1==az .lI)=true then(p.1,.lI)else p)=bD.kY:=
  (ak.wB λp m=>aY (by rw[eK (hf p m)];exact aM.bK)).trans (ak.map_id' _)
 rw[this]
end
section
variable{c:Cx}{n:Nat}{env:Env}{X:St->Prop}{σ:St}{pos:Pos}{ω:Wd}{sc:Scope}{rest:List Stmt}
theorem rX.free{bD:gO}{x:Str}(h:rX bD x=true):(∀y∈bD.kY,y.2≠.free)/\(∀y∈bD.kY,y.2≠.lI)/\(∀y∈bD.kY,y.2=.local->bD.bW y.1=az .local)/\(bD.bW x==az .local)=true/\bD.su=.ng:=by
 unfold rX at h
 simp only[aM.bN,ak.rP,nD,ne_eq,aM.lJ,iX]at h
 refine iU h λfY h3=>?_;clear h;refine iU fY λh1 h2=>?_;clear fY
 refine⟨λy hy=>(h1 y hy).1.1,λy hy=>(h1 y hy).1.2,λy hy e=>(h1 y hy).2.resolve_left λq=>q e,by simpa using h2,h3⟩
theorem HU{elt gZ:aB}{x:Str}{px:Pos}{ifs:ak aB}{bD:gO}{Q:V->St->Prop}(he:fU env sc)(qp:qm gZ=true)(An:rX bD x=true)
  (h:WI c n env gZ (λbY bx=>bY.aq<=10000/\∃J:Nat->ak V->ak AO->Prop,J 0 [] bx.W/\
   (∀nq,fU nq bD->∀i ys W u,bY[i]?=az u->J i ys W->WF c n nq ifs (λok eB=>if ok then WE c n nq elt (λv eH=>eH.T=bx.T/\J (i+1) (ys++[v]) eH.W) (λz9=>cM) eB else eB.T=bx.T/\J (i+1) ys eB.W) (λz9=>cM) ⟨[(x,az u)],bx.T,W⟩)/\
   ∀ys W,J bY.aq ys W->Q (.aR ys) ⟨bx.loc,bx.T,W⟩) X σ):
  WE c n env (.lq elt [⟨.mQ x px,gZ,ifs,0⟩] bD pos) Q X σ:=by
 revert he qp An h
 revert c n env X σ pos sc elt gZ x px ifs bD Q
 intros c n env X σ pos sc elt gZ x px ifs bD Q
 intro he qp An h
 intros A ω
 intro hR hS
 refine YZ (rX.free An) λBP uI zC hx qN=>?_
 rw[eval_ListComp]
 refine xT (use:=none) rfl (sG qp) (closureFor_none BP) qN zC (aW (h A ω hR hS) ?_ λz9 z9 x=>x)
 clear h
 refine d9.all λrv bY bx ω₁ l₁ cW it NQ=>?_
 refine iU NQ λjW iZ=>?_;clear NQ;refine uE iZ λJ Rw oX fin=>?_;clear iZ
 haveI V9:∀C,fU (compEnvC bD [] C env) bD:=λC=>⟨(Br he).trans (JG BP),qN,he.lE,he.j9⟩
 refine BO (x:=x) (lc:=[(x,none)]) cW (hR.le l₁) it jW uI qN (λy v m=>by cases ak.bR m) (ak.cT.mpr ⟨nofun,ak.nodup_nil⟩) (λz9 z9 q=>bw q) Rw (λC i ys W u hu hJ=>D3 (V9 C) hx ⟨_,.dw,oX _ (V9 C) i ys W u hu hJ⟩) ?_
 exact λvm ys W D zm z9 Aw z9 r hJ=>⟨.aR ys,_,vm,l₁.trans zm,rfl,Aw,r,fin ys W hJ⟩
end
section
variable{c:Cx}{n:Nat}{env:Env}{X:St->Prop}{σ:St}{pos:Pos}{ω:Wd}{sc:Scope}{Q:V->St->Prop}
theorem HV{α β:Type}{f:ak aI->Sem α}{a:V}{rel:Wd->β->α->Prop}{Q:β->St->Prop}
  (h:∀A ω ra,m9 c n env A ω.kf->Sat c aN σ ω->RV c ω a ra->cZ (dB bU j5) A (f [ra]) (d9 c aN rel ω Q) (oK c env A ω X) ω.s):WO c n env f [a] rel Q X σ:=λA ω kO hR hS hr=>by
 refine gg hr.one λra bG r1=>?_;obtain rfl:=bG;exact h A ω ra hR hS r1
theorem tX{α β:Type}{f:ak aI->Sem α}{a b:V}{rel:Wd->β->α->Prop}{Q:β->St->Prop}
  (h:∀A ω ra rb,m9 c n env A ω.kf->Sat c aN σ ω->RV c ω a ra->RV c ω b rb->cZ (dB bU j5) A (f [ra,rb]) (d9 c aN rel ω Q) (oK c env A ω X) ω.s):WO c n env f [a,b] rel Q X σ:=λA ω kO hR hS hr=>by
 refine oH hr.two λra rb ig r1 r2=>?_;obtain rfl:=ig;exact h A ω ra rb hR hS r1 r2
theorem wo3{α β:Type}{f:ak aI->Sem α}{a b d:V}{rel:Wd->β->α->Prop}{Q:β->St->Prop}
  (h:∀A ω ra rb rd,m9 c n env A ω.kf->Sat c aN σ ω->RV c ω a ra->RV c ω b rb->RV c ω d rd->cZ (dB bU j5) A (f [ra,rb,rd]) (d9 c aN rel ω Q) (oK c env A ω X) ω.s):WO c n env f [a,b,d] rel Q X σ:=λA ω kO hR hS hr=>by
 refine E3 hr.three λra rb rd jd r1 r2 r3=>?_;obtain rfl:=jd;exact h A ω ra rb rd hR hS r1 r2 r3
section
variable{a b:Int}
theorem bv_add(h:Q (.int (a+b)) σ):BV c n env .Add (.int a) (.int b) Q X σ:=tX λz9 z9 z9 z9 z9 hS r1 r2=>by(first|obtain rfl:=r1.inv|(refine eO r1.inv λfY bG=>?_;obtain rfl:=bG)|cases r1);(first|obtain rfl:=r2.inv|(refine eO r2.inv λfY bG=>?_;obtain rfl:=bG)|cases r2);exact add_int (kP hS .int h)
theorem Wa(h:Q (.int (a - b)) σ):BV c n env .Sub (.int a) (.int b) Q X σ:=tX λz9 z9 z9 z9 z9 hS r1 r2=>by(first|obtain rfl:=r1.inv|(refine eO r1.inv λfY bG=>?_;obtain rfl:=bG)|cases r1);(first|obtain rfl:=r2.inv|(refine eO r2.inv λfY bG=>?_;obtain rfl:=bG)|cases r2);exact sub_int (kP hS .int h)
theorem Wb(hm:IntMulOk a b)(h:Q (.int (a * b)) σ):BV c n env .Mult (.int a) (.int b) Q X σ:=tX λz9 z9 z9 z9 z9 hS r1 r2=>by(first|obtain rfl:=r1.inv|obtain⟨_,rfl⟩:=r1.inv|cases r1);(first|obtain rfl:=r2.inv|obtain⟨_,rfl⟩:=r2.inv|cases r2);exact mul_int (kP hS .int h) hm
theorem Wc(hb:b≠0)(hd:dI.u5 a b=false)(h:Q (.int (a.xU b)) σ):BV c n env .FloorDiv (.int a) (.int b) Q X σ:=tX λz9 z9 z9 z9 z9 hS r1 r2=>by(first|obtain rfl:=r1.inv|(refine eO r1.inv λfY bG=>?_;obtain rfl:=bG)|cases r1);(first|obtain rfl:=r2.inv|(refine eO r2.inv λfY bG=>?_;obtain rfl:=bG)|cases r2);exact floordiv_int hb (kP hS .int h) (.inl hd)
theorem We(hb:b≠0)(h:Q (.int (a.um b)) σ):BV c n env .Mod (.int a) (.int b) Q X σ:=tX λz9 z9 z9 z9 z9 hS r1 r2=>by(first|obtain rfl:=r1.inv|(refine eO r1.inv λfY bG=>?_;obtain rfl:=bG)|cases r1);(first|obtain rfl:=r2.inv|(refine eO r2.inv λfY bG=>?_;obtain rfl:=bG)|cases r2);exact mod_int' hb (kP hS .int h)
theorem Wf(h:Q (.int (-a)) σ):UV c n env .USub (.int a) Q X σ:=HV λz9 z9 z9 z9 hS r1=>by(first|obtain rfl:=r1.inv|(refine eO r1.inv λfY bG=>?_;obtain rfl:=bG)|cases r1);exact neg_int (kP hS .int h)
theorem Dr(h:Q (.bF (a==b)) σ):KV c n env .Eq (.int a) (.int b) Q X σ:=tX λz9 z9 z9 z9 z9 hS r1 r2=>by(first|obtain rfl:=r1.inv|(refine eO r1.inv λfY bG=>?_;obtain rfl:=bG)|cases r1);(first|obtain rfl:=r2.inv|(refine eO r2.inv λfY bG=>?_;obtain rfl:=bG)|cases r2);exact eq_int (done hS .bF h)
theorem K7(h:Q (.bF (a !=b)) σ):KV c n env .NotEq (.int a) (.int b) Q X σ:=tX λz9 z9 z9 z9 z9 hS r1 r2=>by(first|obtain rfl:=r1.inv|(refine eO r1.inv λfY bG=>?_;obtain rfl:=bG)|cases r1);(first|obtain rfl:=r2.inv|(refine eO r2.inv λfY bG=>?_;obtain rfl:=bG)|cases r2);exact ne_int (done hS .bF h)
theorem K8(h:Q (.bF (decide (a<b))) σ):KV c n env .Lt (.int a) (.int b) Q X σ:=tX λz9 z9 z9 z9 z9 hS r1 r2=>by(first|obtain rfl:=r1.inv|(refine eO r1.inv λfY bG=>?_;obtain rfl:=bG)|cases r1);(first|obtain rfl:=r2.inv|(refine eO r2.inv λfY bG=>?_;obtain rfl:=bG)|cases r2);exact lt_int (done hS .bF h)
theorem K9(h:Q (.bF (decide (a<=b))) σ):KV c n env .LtE (.int a) (.int b) Q X σ:=tX λz9 z9 z9 z9 z9 hS r1 r2=>by(first|obtain rfl:=r1.inv|(refine eO r1.inv λfY bG=>?_;obtain rfl:=bG)|cases r1);(first|obtain rfl:=r2.inv|(refine eO r2.inv λfY bG=>?_;obtain rfl:=bG)|cases r2);exact le_int (done hS .bF h)
theorem Ds(h:Q (.bF (decide (a>b))) σ):KV c n env .Gt (.int a) (.int b) Q X σ:=tX λz9 z9 z9 z9 z9 hS r1 r2=>by(first|obtain rfl:=r1.inv|(refine eO r1.inv λfY bG=>?_;obtain rfl:=bG)|cases r1);(first|obtain rfl:=r2.inv|(refine eO r2.inv λfY bG=>?_;obtain rfl:=bG)|cases r2);exact gt_int (done hS .bF h)
theorem La(h:Q (.bF (decide (a>=b))) σ):KV c n env .GtE (.int a) (.int b) Q X σ:=tX λz9 z9 z9 z9 z9 hS r1 r2=>by(first|obtain rfl:=r1.inv|(refine eO r1.inv λfY bG=>?_;obtain rfl:=bG)|cases r1);(first|obtain rfl:=r2.inv|(refine eO r2.inv λfY bG=>?_;obtain rfl:=bG)|cases r2);exact ge_int (done hS .bF h)
end
section
variable{x y:Str}
theorem HW(hz:x.aq+y.aq<=fu)(h:Q (.str (x++y)) σ):BV c n env .Add (.str x) (.str y) Q X σ:=tX λz9 z9 z9 z9 z9 hS r1 r2=>by(first|obtain rfl:=r1.inv|(refine eO r1.inv λfY bG=>?_;obtain rfl:=bG)|cases r1);(first|obtain rfl:=r2.inv|(refine eO r2.inv λfY bG=>?_;obtain rfl:=bG)|cases r2);exact add_str (λt' tk=>kP hS .str h) hz
theorem Dt(h:Q (.bF (x==y)) σ):KV c n env .Eq (.str x) (.str y) Q X σ:=tX λz9 z9 z9 z9 z9 hS r1 r2=>by(first|obtain rfl:=r1.inv|(refine eO r1.inv λfY bG=>?_;obtain rfl:=bG)|cases r1);(first|obtain rfl:=r2.inv|(refine eO r2.inv λfY bG=>?_;obtain rfl:=bG)|cases r2);exact eq_str (done hS .bF h)
theorem Lb(h:Q (.bF (x !=y)) σ):KV c n env .NotEq (.str x) (.str y) Q X σ:=tX λz9 z9 z9 z9 z9 hS r1 r2=>by(first|obtain rfl:=r1.inv|(refine eO r1.inv λfY bG=>?_;obtain rfl:=bG)|cases r1);(first|obtain rfl:=r2.inv|(refine eO r2.inv λfY bG=>?_;obtain rfl:=bG)|cases r2);exact ne_str (done hS .bF h)
theorem Lc(h:Q (.bF (decide (x.au<y.au))) σ):KV c n env .Lt (.str x) (.str y) Q X σ:=tX λz9 z9 z9 z9 z9 hS r1 r2=>by(first|obtain rfl:=r1.inv|(refine eO r1.inv λfY bG=>?_;obtain rfl:=bG)|cases r1);(first|obtain rfl:=r2.inv|(refine eO r2.inv λfY bG=>?_;obtain rfl:=bG)|cases r2);exact lt_str (done hS .bF h)
theorem Ld(h:Q (.bF (!(decide (y.au<x.au)))) σ):KV c n env .LtE (.str x) (.str y) Q X σ:=tX λz9 z9 z9 z9 z9 hS r1 r2=>by(first|obtain rfl:=r1.inv|(refine eO r1.inv λfY bG=>?_;obtain rfl:=bG)|cases r1);(first|obtain rfl:=r2.inv|(refine eO r2.inv λfY bG=>?_;obtain rfl:=bG)|cases r2);exact P.le_str (done hS .bF h)
theorem Lf(h:Q (.bF (Txt.jG x y)) σ):KV c n env .In (.str y) (.str x) Q X σ:=tX λz9 z9 z9 z9 z9 hS r1 r2=>by(first|obtain rfl:=r1.inv|(refine eO r1.inv λfY bG=>?_;obtain rfl:=bG)|cases r1);(first|obtain rfl:=r2.inv|(refine eO r2.inv λfY bG=>?_;obtain rfl:=bG)|cases r2);exact P.in_str (done hS .bF h)
theorem Fy(h:Q (.bF false) σ):KV c n env .Eq .none (.str y) Q X σ:=tX λz9 z9 z9 z9 z9 hS r1 r2=>by(first|obtain rfl:=r1.inv|obtain⟨_,rfl⟩:=r1.inv|cases r1);(first|obtain rfl:=r2.inv|(refine eO r2.inv λfY bG=>?_;obtain rfl:=bG)|cases r2);exact EqNone.eq_none_str (done hS .bF h)
theorem Fz(h:Q (.bF false) σ):KV c n env .Eq (.str y) .none Q X σ:=tX λz9 z9 z9 z9 z9 hS r1 r2=>by(first|obtain rfl:=r1.inv|(refine eO r1.inv λfY bG=>?_;obtain rfl:=bG)|cases r1);(first|obtain rfl:=r2.inv|obtain⟨_,rfl⟩:=r2.inv|cases r2);exact EqNone.eq_str_none (done hS .bF h)
theorem NR(h:Q (.bF true) σ):KV c n env .NotEq .none (.str y) Q X σ:=tX λz9 z9 z9 z9 z9 hS r1 r2=>by(first|obtain rfl:=r1.inv|obtain⟨_,rfl⟩:=r1.inv|cases r1);(first|obtain rfl:=r2.inv|(refine eO r2.inv λfY bG=>?_;obtain rfl:=bG)|cases r2);exact EqNone.ne_none_str (done hS .bF h)
theorem NS(h:Q (.bF true) σ):KV c n env .NotEq (.str y) .none Q X σ:=tX λz9 z9 z9 z9 z9 hS r1 r2=>by(first|obtain rfl:=r1.inv|(refine eO r1.inv λfY bG=>?_;obtain rfl:=bG)|cases r1);(first|obtain rfl:=r2.inv|obtain⟨_,rfl⟩:=r2.inv|cases r2);exact EqNone.ne_str_none (done hS .bF h)
theorem FA(h:Q (.bF true) σ):KV c n env .Eq .none .none Q X σ:=tX λz9 z9 z9 z9 z9 hS r1 r2=>by(first|obtain rfl:=r1.inv|obtain⟨_,rfl⟩:=r1.inv|cases r1);(first|obtain rfl:=r2.inv|obtain⟨_,rfl⟩:=r2.inv|cases r2);exact EqNone.eq_none_none (done hS .bF h)
end
theorem HX{p q:aM}(h:Q (.bF (p==q)) σ):KV c n env .Eq (.bF p) (.bF q) Q X σ:=tX λz9 z9 z9 z9 z9 hS r1 r2=>by(first|obtain rfl:=r1.inv|obtain⟨_,rfl⟩:=r1.inv|cases r1);(first|obtain rfl:=r2.inv|obtain⟨_,rfl⟩:=r2.inv|cases r2);exact eq_bool (done hS .bF h)
def BQ:V->aM
 |.st _=>true
 |_=>false
def qO:V->aM
 |.none=>true
 |_=>false
theorem BR{P:dN}{g:c7}{a b:ak aQ}{v:V}{rv:aI}(h:Rel P g a b v rv)(k:BQ v=false)(k':qO v=false):rv≠.none:=by
 cases h<;>first|(cases k;done)|(cases k';done)|(intro e;cases e)
theorem HY{v:V}(k:BQ v=false)(h:Q (.bF (qO v)) σ):KV c n env .Is v .none Q X σ:=tX λz9 z9 z9 z9 z9 hS r1 r2=>by
 (first|obtain rfl:=r2.inv|obtain⟨_,rfl⟩:=r2.inv|cases r2)
 cases hv:qO v with
 |true=>
  cases v<;>first|(cases hv;done)|skip
  (first|obtain rfl:=r1.inv|obtain⟨_,rfl⟩:=r1.inv|cases r1)
  exact wpAny_is_self rfl (done hS .bF h)
 |false=>
  rw[hv]at h
  exact is_none_ne (BR r1 k hv) (done hS .bF h)
theorem zp{v:V}(k:BQ v=false)(h:Q (.bF (!qO v)) σ):KV c n env .IsNot v .none Q X σ:=tX λz9 z9 z9 z9 z9 hS r1 r2=>by
 (first|obtain rfl:=r2.inv|obtain⟨_,rfl⟩:=r2.inv|cases r2)
 cases hv:qO v with
 |true=>
  cases v<;>first|(cases hv;done)|skip
  (first|obtain rfl:=r1.inv|obtain⟨_,rfl⟩:=r1.inv|cases r1)
  exact wpAny_isNot_self rfl (done hS .bF h)
 |false=>
  rw[hv]at h
  exact isnot_none_ne (BR r1 k hv) (done hS .bF h)
theorem nX{b:aM}{Q:aM->St->Prop}(h:Q b σ):TV c n env (.bF b) Q X σ:=HV λz9 z9 z9 z9 hS r1=>by(first|obtain rfl:=r1.inv|obtain⟨_,rfl⟩:=r1.inv|cases r1);exact wpAny_truthy_bool (done hS rfl h)
theorem RB{Q:aM->St->Prop}(h:Q false σ):TV c n env .none Q X σ:=HV λz9 z9 z9 z9 hS r1=>by(first|obtain rfl:=r1.inv|obtain⟨_,rfl⟩:=r1.inv|cases r1);exact truthy_none (done hS rfl h)
theorem Wg{a:Int}{Q:aM->St->Prop}(h:Q (a !=0) σ):TV c n env (.int a) Q X σ:=HV λz9 z9 z9 z9 hS r1=>by(first|obtain rfl:=r1.inv|(refine eO r1.inv λfY bG=>?_;obtain rfl:=bG)|cases r1);exact truthy_int (done hS rfl h)
theorem Wh{x:Str}{Q:aM->St->Prop}(hz:x.aq<=10000)(h:Q ((x.aq:Int)!=0) σ):TV c n env (.str x) Q X σ:=HV λz9 z9 z9 z9 hS r1=>by(first|obtain rfl:=r1.inv|(refine eO r1.inv λfY bG=>?_;obtain rfl:=bG)|cases r1);exact P.truthy_str (Zv hz) (kP hS rfl h)
inductive qq(σ:St):V->ak V->Prop
 |aR {l}:qq σ (.aR l) l
 |lo {i l}:jx[i]?=az (.aR l)->qq σ (.lo i) l
 |ob {i l}:gJ[i]?=az (.aR l)->qq σ (.ob i) l
theorem qq.at{L:aQ}{v:V}{l:ak V}{rv:aI}(k:qq σ v l)(S:Sat c L σ ω)(r:RV c ω v rv):∃x xs nn,rv=.ref x/\ω.aP.cF x=az {cls:=.dg "list",f9:=.seq (ak.aJ xs) nn}/\E9 c ω l xs:=by
 revert k S r
 revert c σ ω L v l rv
 intros c σ ω L v l rv
 intro k S r
 cases k with
 |aR=>(refine xJ fQ λfY bG ig jd hg rs=>?_;obtain rfl:=jd);exact⟨_,_,_,rfl,S.gr _ _ hg,rs⟩
 |lo h=>
  refine gg fQ λfY bG hi=>?_;obtain rfl:=bG
  refine oH (S.tT.2 _ _ h) λx ob e1 e2 r=>?_
  rw[hi]at e1;cases e1
  cases r with|aR r=>exact⟨_,_,_,rfl,e2,r⟩
 |ob h=>
  refine gg fQ λfY bG hi=>?_;obtain rfl:=bG
  refine oH (S.tW.2 _ _ h) λx ob e1 e2 r=>?_
  rw[hi]at e1;cases e1
  cases r with|aR r=>exact⟨_,_,_,rfl,e2,r.eW ⟨λz9 z9 h=>h,λz9 z9 h=>(Lake.nn rfl h),λz9 z9 h=>h⟩⟩
theorem Lg{h:c8}{x:aQ}{xs:ak aI}{nn:Nat}(e:h.cF x=az {cls:=.dg "list",f9:=.seq (ak.aJ xs) nn}):h.IsList x xs.aJ:=⟨_,e,rfl,nn,rfl⟩
theorem RC{v:V}{l:ak V}{Q:aM->St->Prop}(k:qq σ v l)(hz:l.aq<=10000)(h:Q (!l.qt) σ):TV c n env v Q X σ:=HV λz9 z9 z9 z9 hS r1=>by
 refine xJ (k.at hS r1) λx xs nn jd e rs=>?_;obtain rfl:=jd
 have hl:=iJ rs
 refine wpAny_truthy_list (Lg e) (by rw[ak.bZ,hl];exact DO hz) ?_
 have:(!xs.aJ.qt)=!l.qt:=by
  cases xs<;>cases l<;>first|rfl|(simp at hl)
 rw[this]
 exact kP hS rfl h
end
theorem fK.Wi{P:dN}{g:c7}{b:ak aQ}{v:ak V}{rv:ak aI}(h:fK P g [] b v rv):V.gW v=true:=@fK.rec P g [] b (λv z9 z9=>v.j7=true) (λv z9 z9=>V.gW v=true) (λv z9 z9=>V.w6 v=true) rfl rfl rfl rfl rfl (λz9=>rfl) (λh=>by simp at h) (λz9 z9=>rfl) (λz9 z9 ih=>ih) (λz9 z9 ih=>ih) (λz9 z9 z9 z9 ih=>ih) (λz9 z9 ih=>ih) rfl (λz9 z9 i1 i2=>by rw[V.gW,i1,i2];rfl) rfl (λz9 z9 i1 i2=>by rw[V.w6,i1,i2];rfl) _ _ h
theorem zT{l l':ak V}(h:V.gW l=true)(h':V.gW l'=true):V.gW (l++l')=true:=by
 induction l with
 |nil=>exact h'
 |br v l ih=>
  haveI h:(v.j7&&V.gW l)=true:=h
  show(v.j7&&V.gW (l++l'))=true
  rw[(mz h).1,ih (mz h).2];rfl
theorem Ay{l:ak V}:V.gW l=true↔∀v∈l,v.j7=true:=by
 induction l with
 |nil=>exact⟨λz9 z9 h=>(by cases h),λz9=>rfl⟩
 |br v l ih=>
  show(v.j7&&V.gW l)=true↔_
  rw[aM.bN,ih]
  exact⟨λh w hw=>(ak.bB hw).g9 (λe=>e▸h.1) (h.2 w),λh=>⟨h v (.dw _),λw hw=>h w (.cI _ hw)⟩⟩
def FD:V->aM
 |.ob _=>true
 |_=>false
section
variable{c:Cx}{n:Nat}{env:Env}{X:St->Prop}{σ:St}{pos:Pos}{ω:Wd}{sc:Scope}{Q:V->St->Prop}
inductive CZ(σ:St):V->ak V->(ak V->St)->Prop
 |lo {i l}:jx[i]?=az (.aR l)->CZ σ (.lo i) l (λl'=>{σ with T:=jx.set i (.aR l')})
 |ob {i l}:gJ[i]?=az (.aR l)->CZ σ (.ob i) l (λl'=>{σ with W:=gJ.set i (.aR l')})
theorem CZ.at{L:aQ}{v:V}{l:ak V}{f:ak V->St}{rv:aI}(k:CZ σ v l f)(S:Sat c L σ ω)(r:RV c ω v rv):
  ∃x xs nn,rv=.ref x/\ω.aP.cF x=az {cls:=.dg "list",f9:=.seq (ak.aJ xs) nn}/\E9 c ω l xs/\(FD v=true->V.gW l=true)/\
   ∀(h':c8)(l':ak V)(Wj:ak aI)(BN t:Nat),c8.nJ x ω.aP h'->h'.cF x=az {cls:=.dg "list",f9:=.seq (ak.aJ Wj) BN}->E9 c ω l' Wj->(FD v=true->V.gW l'=true)->
    Sat c L (f l') {ω with s:={ω.s with d8:=h',nA:=t}}/\Le ω {ω with s:={ω.s with d8:=h',nA:=t}}:=by
 revert k S r
 revert c σ ω L v l f rv
 intros c σ ω L v l f rv
 intro k S r
 cases k with
 |lo h=>
  refine gg fQ λfY bG hi=>?_;obtain rfl:=bG
  refine gC λG hG=>?_
  refine oH (S.tT.2 _ _ h) λx ob e1 e2 r=>?_
  cases aH.az.inj (hi.symm.trans e1)
  cases r with
  |aR r=>
   refine hG ?_
   refine⟨_,_,_,rfl,e2,r,λh=>(by cases h),λh' l' Wj BN t hs hg rs z9=>?_⟩
   exact S.VL hi (qX.qu hs (S.neL (ak.bA _ (ak.cg hi)))) (λy o hy z9 e=>hs.ug y o hy e) hg (.aR rs) t
 |ob h=>
  refine gg fQ λfY bG hi=>?_;obtain rfl:=bG
  refine gC λG hG=>?_
  refine oH (S.tW.2 _ _ h) λx ob e1 e2 r=>?_
  cases aH.az.inj (hi.symm.trans e1)
  cases r with
  |aR r=>
   refine hG ?_
   refine⟨_,_,_,rfl,e2,r.eW ⟨λz9 z9 h=>h,λz9 z9 h=>(Lake.nn rfl h),λz9 z9 h=>h⟩,λz9=>r.Wi,λh' l' Wj BN t hs hg rs hn=>?_⟩
   exact S.Rd hi (qX.qu hs (S.neL (ak.bg _ (ak.cg hi)))) (λy o hy z9 e=>hs.ug y o hy e) hg (.aR (rs.j7 (hn rfl))) t
theorem BS{M:Model}{A:dR}{E:aI->aZ->Prop}{s:aZ}{x:aQ}{xs:dX aI}{nn:Nat}{name:Str}{id:u9}{pl:Sem aM}{Q:aI×ak aI->aZ->Prop}(ho:aP.cF x=az {cls:=.dg "list",f9:=.seq xs nn})
  (hl:wz (.dg "list") name=gB (az (.cj id)))(ht:typeOf (.cj id)=gB (.dg "method_descriptor"))(h:Q (.cj id,[.ref x]) s):cZ M A (getMethod (.ref x) name pl) Q E s:=by
 revert ho hl ht h
 revert M A E s x xs nn name id pl Q
 intros M A E s x xs nn name id pl Q
 intro ho hl ht h
 haveI hT:s.sY (.ref x) "list":=⟨_,ho,rfl⟩
 unfold getMethod
 refine aK (rm hT list_getattribute ?_)
 show cZ M A (if(Manifest.canonical "list.__getattribute__"!="object.__getattribute__")=true then _ else _) Q E s
 rw[canon_list_getattribute,aY aM.bK]
 refine aK (rm hT list_getattr_none ?_)
 refine aK (rm hT hl ?_)
 refine aK (wpAny_of_eq ht ?_)
 refine aK (wpAny_load ho ?_)
 exact aK (wpAny_rule (bw h))
theorem Lh{Q:V->ak V->St->Prop}{v:V}{l:ak V}(k:qq σ v l)(h:Q (.st (.cj "list.append")) [v] σ):GM c n env "append" v Q X σ:=λpl=>HV λz9 z9 z9 z9 hS r1=>by
 refine xJ (k.at hS r1) λx xs nn jd e rs=>?_;obtain rfl:=jd
 exact getMethod_list_append e rfl rfl (done (b:=(V.st (.cj "list.append"),[v])) hS ⟨.st,.br r1 .nil⟩ h)
theorem Wk{Q:V->ak V->St->Prop}{v:V}{l:ak V}(k:qq σ v l)(h:Q (.st (.cj "list.pop")) [v] σ):GM c n env "pop" v Q X σ:=λpl=>HV λz9 z9 z9 z9 hS r1=>by
 refine xJ (k.at hS r1) λx xs nn jd e rs=>?_;obtain rfl:=jd
 exact BS e F.slot_list_pop.eF F.type_list_pop (done (b:=(V.st (.cj "list.pop"),[v])) hS ⟨.st,.br r1 .nil⟩ h)
theorem Az{v x:V}{l:ak V}{f:ak V->St}(k:CZ σ v l f)(hn:(!FD v||x.j7)=true)(hz:l.aq<=10000)(h:Q .none (f (l++[x]))):CV c n env (.st (.cj "list.append")) [v,x] Q X σ:=λA ω kO hR hS hr=>by
 refine E3 hr.three λrf rv rx jd r0 r1 r2=>?_;obtain rfl:=jd
 (first|obtain rfl:=r0.inv|obtain⟨_,rfl⟩:=r0.inv|cases r0)
 refine KI (k.at hS r1) λa xs nn jd e rs no put=>?_;obtain rfl:=jd
 have hl:=iJ rs
 refine vo e (by rw[ak.bZ,kK];exact(aF λhn=>Lake.n3 [_,_] 1 (.a (.n 16777216) (.n 1)) (.v 1) 1 (.v 0) (.n 10000) 1 (.v 1) (.v 0) rfl hn hz (aO hl))) λh' BN e' hs=>?_
 refine iU (put h' (l++[x]) (xs++[rx]) BN ω.eV hs (by simpa using e') (rs.append (.br r2 .nil)) λho=>by
  refine zT (no ho) ?_
  rw[ho]at hn
  have:x.j7=true:=by simpa using hn
  rw[V.gW,this];rfl) λS' l'=>?_
 exact⟨.none,_,_,l',rfl,S',.none,h⟩
theorem C0{A:dR}{E:aI->aZ->Prop}{s:aZ}{l:aQ}{CO:dX aI}{nn:Nat}{y:aI}{Q:aI->aZ->Prop}(hl:aP.cF l=az {cls:=.dg "list",f9:=.seq CO nn})(hy:CO[CO.dM - 1]?=az y)(yW:CO.dM<=fu)
  (hQ:∀h' BN,h'.cF l=az {cls:=.dg "list",f9:=.seq (CO.oB (CO.dM - 1)) BN}->c8.nJ l aP h'->Q y {s with d8:=h'}):cZ (dB bU j5) A (call (.cj "list.pop") [.ref l]) Q E s:=
 call_meets F.slot_list_pop (show s.sY (.ref l) "list" from⟨_,hl,rfl⟩) F.entry_list_pop (F.args_list_pop_1 _) (MeetsSeq.list_pop_last l CO nn y hy yW) ⟨hl,hQ _ _ (IsL.uh hl _) (c8.nJ.uh ..)⟩
theorem Li{P:dN}{g:c7}{a b:ak aQ}{l:ak V}{v:V}{xs:ak aI}(h:fK P g a b (l++[v]) xs):∃ys y,xs=ys++[y]/\fK P g a b l ys/\Rel P g a b v y:=by
 induction l generalizing xs with
 |nil=>
  refine gg (fK.one (v:=v) h) λy bG r=>?_;obtain rfl:=bG
  exact⟨[],y,rfl,.nil,r⟩
 |br u l ih=>
  refine oH (fK.un (l:=l++[v]) h) λx t ig r rs=>?_;obtain rfl:=ig
  refine oH (ih rs) λys y ig h1 h2=>?_;obtain rfl:=ig
  exact⟨x::ys,y,rfl,.br r h1,h2⟩
theorem NT{v x:V}{l:ak V}{f:ak V->St}(k:CZ σ v (l++[x]) f)(hz:l.aq<=10000)(h:Q x (f l)):CV c n env (.st (.cj "list.pop")) [v] Q X σ:=λA ω kO hR hS hr=>by
 refine oH hr.two λrf rv ig r0 r1=>?_;obtain rfl:=ig
 (first|obtain rfl:=r0.inv|obtain⟨_,rfl⟩:=r0.inv|cases r0)
 refine KI (k.at hS r1) λa xs nn jd e rs no put=>?_;obtain rfl:=jd
 refine oH (Li rs) λys y ig AA ry=>?_;obtain rfl:=ig
 have hl:=iJ AA
 refine C0 (y:=y) e (by simp) (by simp only[ak.bZ,ak.aX,ak.kM,ak.length_nil,kK];exact(aF λhn=>Lake.n3 [_,_] 1 (.a (.n 16777216) (.n 1)) (.a (.v 1) (.a (.n 0) (.n 1))) 1 (.v 0) (.n 10000) 1 (.v 1) (.v 0) rfl hn hz (aO hl))) λh' BN e' hs=>?_
 have e2:(ys++[y]).aJ.oB ((ys++[y]).aJ.dM - 1)=ys.aJ:=by
  unfold dX.oB
  rw[dif_pos (by simp)]
  apply dX.ext'
  simp[ak.eraseIdx_append_of_length_le]
 rw[e2]at e'
 refine iU (put h' l ys BN ω.eV hs e' AA λho=>by
  have:=no ho
  rw[Ay]at this⊢
  exact λv hv=>this v (ak.bA _ hv)) λS' l'=>?_
 exact⟨x,_,_,l',rfl,S',ry.eW l'.sub,h⟩
theorem HZ{x:Str}(hz:x.aq<=10000)(h:Q (.int x.aq) σ):CV c n env (.st (.cj "len")) [.str x] Q X σ:=tX λz9 z9 z9 z9 z9 hS r0 r1=>by
 (first|obtain rfl:=r0.inv|obtain⟨_,rfl⟩:=r0.inv|cases r0);(first|obtain rfl:=r1.inv|(refine eO r1.inv λfY bG=>?_;obtain rfl:=bG)|cases r1)
 exact dh (Zv hz) (kP hS .int h)
theorem FE{v:V}{l:ak V}(k:qq σ v l)(hz:l.aq<=10000)(h:Q (.int l.aq) σ):CV c n env (.st (.cj "len")) [v] Q X σ:=tX λz9 z9 z9 z9 z9 hS r0 r1=>by
 (first|obtain rfl:=r0.inv|obtain⟨_,rfl⟩:=r0.inv|cases r0)
 refine xJ (k.at hS r1) λx xs nn jd e rs=>?_;obtain rfl:=jd
 have hl:=iJ rs
 refine call_len_list (Lg e) (by rw[ak.bZ,hl];exact DO hz) ?_
 rw[ak.bZ,hl]
 exact kP hS .int h
theorem AB{P:dN}{g:c7}{a b:ak aQ}{l:ak V}{rl:ak aI}{i:Nat}{v:V}(h:fK P g a b l rl):l[i]?=az v->∃rv,rl[i]?=az rv/\Rel P g a b v rv:=
 fK.ind (M:=λl rl=>∀i:Nat,l[i]?=az v->∃rv,rl[i]?=az rv/\Rel P g a b v rv) (λz9 e=>by cases e) (λz9 z9 z9 z9 r z9 ih i e=>by
  cases i with
  |lO=>exact aH.az.inj e▸⟨_,rfl,r⟩
  |kU i=>exact ih i e) h i
theorem JH{k:Int}{n:Nat}(hk:0<=k)(h:k.gR<n)(hz:n<=10000):k<2^63:=by
 refine eO (nP hk) λm bG=>?_;obtain rfl:=bG
 exact Int.wC (dF.mpr (bh h hz)) (by decide)
theorem JI{v x:V}{l:ak V}{k:Int}(h0:qq σ v l)(hk:0<=k)(hx:l[k.gR]?=az x)(hz:l.aq<=10000)(h:Q x σ):IV c n env v (.int k) Q X σ:=tX λz9 z9 z9 z9 z9 hS r1 r2=>by
 (first|obtain rfl:=r2.inv|(refine eO r2.inv λfY bG=>?_;obtain rfl:=bG)|cases r2)
 refine xJ (h0.at hS r1) λa xs nn jd e rs=>?_;obtain rfl:=jd
 refine gg (AB rs hx) λrv e' r=>?_
 have lM:=(ak.cz hx).1
 exact wpAny_getItem_list (Lg e) hk (JH hk lM hz) (by simpa using e') (done hS r h)
theorem FF{v x:V}{l:ak V}{k:Int}(h0:qq σ v l)(hk:k<0)(Dq:-(l.aq:Int)<=k)(hx:l[(k+l.aq).gR]?=az x)(hz:l.aq<=10000)(h:Q x σ):IV c n env v (.int k) Q X σ:=tX λz9 z9 z9 z9 z9 hS r1 r2=>by
 (first|obtain rfl:=r2.inv|(refine eO r2.inv λfY bG=>?_;obtain rfl:=bG)|cases r2)
 refine xJ (h0.at hS r1) λa xs nn jd e rs=>?_;obtain rfl:=jd
 refine gg (AB rs hx) λrv e' r=>?_
 haveI hl:=iJ rs
 refine wpAny_getItem_list_neg (Lg e) hk (by rw[ak.bZ,hl];exact Dq) (qz (Int.neg_le_neg (Int.le_of_lt (DO hz))) Dq) ?_ (done hS r h)
 rw[ak.bZ,hl]
 simpa using e'
theorem aam{k:Int}{len:Nat}(h0:0<=k)(h1:k<len):seqIndex? k len=az k.gR:=by
 show(if(decide (0<=if k<0 then k+len else k)&&decide ((if k<0 then k+len else k)<len))=true then az (if k<0 then k+len else k).gR else none)=_
 rw[aY (Int.fG h0),cN h0,cN h1]
 rfl
theorem Wl{x:V}{l:ak V}{k:Int}(hk:0<=k)(hx:l[k.gR]?=az x)(hz:l.aq<=10000)(h:Q x σ):IV c n env (.tup l) (.int k) Q X σ:=tX λz9 z9 z9 z9 z9 hS r1 r2=>by
 (first|obtain rfl:=r2.inv|(refine eO r2.inv λfY bG=>?_;obtain rfl:=bG)|cases r2)
 refine xJ r1.inv λfY bG ig jd hg rs=>?_;obtain rfl:=jd
 refine gg (AB rs hx) λrv e' r=>?_
 haveI lM:=(ak.cz hx).1
 haveI hl:=iJ rs
 refine getItem_tuple (bY:=ak.aJ _) ⟨_,hS.gr _ _ hg,rfl,_,rfl⟩ (qz (by decide) hk) (JH hk lM hz) (j:=k.gR) ?_ (by simpa using e') (done hS r h)
 haveI Wm:k<((ak.aJ _).dM:Int):=Int.lt_of_lt_of_le ((Int.toNat_lt hk).mp lM) (fO.mpr (aO hl.symm))
 exact aam hk Wm
theorem Wn{x:Str}{k:Int}{j cp:Nat}(hj:seqIndex? k x.aq=az j)(hx:x.cps[j]?=az cp)(hk:(decide (k< -2^63)||decide (k>=2^63))=false)(h:Q (.str ⟨#[cp]⟩) σ):IV c n env (.str x) (.int k) Q X σ:=tX λz9 z9 z9 z9 z9 hS r1 r2=>by
 (first|obtain rfl:=r1.inv|(refine eO r1.inv λfY bG=>?_;obtain rfl:=bG)|cases r1);(first|obtain rfl:=r2.inv|(refine eO r2.inv λfY bG=>?_;obtain rfl:=bG)|cases r2)
 exact getItem_str hk (by rw[hj];exact hx) (kP hS .str h)
end
def sl{α:Type}(l:ak α)(lo hi:aH Int):ak α:=(l.fX (lo.g9 0 (jI l.aq))).eL (hi.g9 l.aq (jI l.aq) - lo.g9 0 (jI l.aq))
theorem m7(n a:Nat):jI n ((a:Nat):Int)=min a n:=by
 unfold jI
 rw[aY (Int.fG (cH a))]
 rcases Nat.le_total a n with h|h
 ·rw[Int.min_eq_left (fO.mpr h),aV h];exact bM Int.gR (Int.s6 (cH a))
 ·rw[Int.min_eq_right (fO.mpr h),kW h];exact bM Int.gR (Int.s6 (cH n))
theorem RD(n:Nat)(i:Int):jI n i<=n:=fO.mp (by rw[clipAt_cast];exact Int.max_le.mpr ⟨cH _,Int.min_le_right _ _⟩)
theorem FG{n k:Nat}(h:k<=n)(h0:0<k):jI n (-(k:Int))=n - k:=by
 unfold jI
 rw[bJ (Int.neg_neg_of_pos (Int.natCast_pos.mpr h0)),Int.add_comm,<-wD,<-Int.ofNat_sub h,Int.min_eq_left (fO.mpr (lK n k))]
 exact bM Int.gR (Int.s6 (cH _))
theorem BU{α:Type}(l:ak α)(lo hi:aH Int):(sl l lo hi).aq<=l.aq:=by
 unfold sl;rw[ak.eX,ak.gX];exact(aF λhn=>Lake.n3 [_,_,_] 1 (.a (.v 0) (.n 1)) (.v 1) 1 (.v 1) (.v 2) 1 (.v 2) (.v 0) rfl hn (iL _ _) (lK _ _))
theorem RE(xs:ak aI)(lo hi:aH Int):slicePick xs.aJ lo hi none=(sl xs lo hi).aJ:=by
 rw[slicePick_plain]
 unfold sl
 rw[ak.bZ]
theorem Wo(x:Str)(lo hi:aH Int):(dI.vD lo hi 1 x.aq).filterMap (x.cps[·]?)=sl x.au lo hi:=by
 revert x lo hi
 intros x lo hi
 haveI e:dI.vD lo hi 1 x.aq=sliceRange ((lo.g9 0 (jI x.aq):Nat):Int) ((hi.g9 x.aq (jI x.aq):Nat):Int) 1:=by
  cases lo<;>cases hi<;>simp[dI.vD,clipAt_cast]
 rw[e,sliceRange_one,pick_run]
 unfold sl
 rw[show x.au.aq=x.aq from by simp[Str.aq]]
def w7(x:Str)(lo hi:aH Int):Str:=⟨(sl x.au lo hi).aJ⟩
section
variable{c:Cx}{n:Nat}{env:Env}{X:St->Prop}{σ:St}{pos:Pos}{ω:Wd}{sc:Scope}{Q:V->St->Prop}
theorem Lj{P:dN}{g:c7}{a b:ak aQ}{l:ak V}{rl:ak aI}(k:Nat)(h:fK P g a b l rl):fK P g a b (l.fX k) (rl.fX k):=by
 induction k generalizing l rl with
 |lO=>exact h
 |kU k ih=>cases h with
  |nil=>exact .nil
  |br _ rs=>exact ih rs
theorem Lk{P:dN}{g:c7}{a b:ak aQ}{l:ak V}{rl:ak aI}(k:Nat)(h:fK P g a b l rl):fK P g a b (l.eL k) (rl.eL k):=by
 induction k generalizing l rl with
 |lO=>show fK P g a b [] [];exact .nil
 |kU k ih=>cases h with
  |nil=>exact .nil
  |br r rs=>exact .br r (ih rs)
theorem RH{P:dN}{g:c7}{a b:ak aQ}{l:ak V}{rl:ak aI}(lo hi:aH Int)(h:fK P g a b l rl):fK P g a b (sl l lo hi) (sl rl lo hi):=by
 unfold sl
 rw[iJ h]
 exact Lk _ (Lj _ h)
abbrev WP(c:Cx)(n:Nat)(env:Env)(e:aH aB)(Q:aH Int->St->Prop)(X:St->Prop)(σ:St):Prop:=W c n env (evalPart e env) (λz9 o rv=>IsPart rv o) Q X σ
theorem RI{Q:aH Int->St->Prop}(h:Q none σ):WP c n env none Q X σ:=λA ω z9 hS=>wpAny_evalPart_none (done hS .none h)
theorem RJ{Q:aH Int->St->Prop}{e:aB}(h:WE c n env e (λv fL=>∃i,v=.int i/\Q (az i) fL) X σ):WP c n env (az e) Q X σ:=λA ω hR hS=>by
 refine wpAny_evalPart_some (aW (h A ω hR hS) ?_ λz9 z9 x=>x)
 rintro rv s₁ ⟨v,bx,ω₁,l₁,uM,cW,r,i,rfl,d7⟩
 (first|obtain rfl:=fQ|(refine eO fQ λfY bG=>?_;obtain rfl:=bG)|cases r)
 exact⟨az i,bx,ω₁,l₁,uM,cW,.int _ _,d7⟩
inductive Ll(σ:St)(lo hi:aH Int):V->V->Prop
 |str {x:Str}:x.aq<=10000->Ll σ lo hi (.str x) (.str (w7 x lo hi))
 |aR {v l}:qq σ v l->l.aq<=10000->Ll σ lo hi v (.aR (sl l lo hi))
theorem H6{lo hi:aH aB}{sp:Pos}{o i:aI}:∃ops,subscripted (.Slice lo hi none sp) false o i=operate ops (getItem o i):=tB
theorem NU{rv:aI}{o:aH Int}(h:IsPart rv o):∃q:aH (Int×Tok),rv=partValue q/\q.map (·.1)=o:=by
 cases h with
 |none=>exact⟨none,rfl,rfl⟩
 |int i t=>exact⟨az (i,t),rfl,rfl⟩
theorem JJ(x:Str):x.au.aq=x.aq:=dX.iM
set_option tactic.hygienic true in
theorem NV{x:Str}{Lm Ln:aH (Int×Tok)}{lo hi:aH Int}(Y8:Lm.map (·.1)=lo)(Y9:Ln.map (·.1)=hi)(hE:(rQ x Lm Ln none).filterMap (x.cps[·]?)=sl x.au lo hi):
  w7 x lo hi=if((none:aH (Int×Tok)).map (·.1)).xV 1==1&&(rQ x Lm Ln none).aq==x.aq then x else⟨((rQ x Lm Ln none).filterMap (x.cps[·]?)).aJ⟩:=by
 revert Y8 Y9 hE
 revert x Lm Ln lo hi
 intros x Lm Ln lo hi
 intro Y8 Y9 hE
 rw[hE]
 split
 ·rename_i hc
  have hc:(rQ x Lm Ln none).aq=x.aq:=iX.mp hc
  have e2:rQ x Lm Ln none=(ak.tO (hi.g9 x.aq (jI x.aq) - lo.g9 0 (jI x.aq))).map (lo.g9 0 (jI x.aq)+·):=by
   unfold rQ
   rw[Y8,Y9,<-sliceRange_one]
   cases lo<;>cases hi<;>simp[dI.vD,clipAt_cast]
  rw[e2,ak.bT,ak.length_range]at hc
  have h1:(hi.g9 x.aq (jI x.aq))<=x.aq:=by
   cases hi with
   |none=>exact bz _
   |az i=>exact RD _ i
  have jW:(sl x.au lo hi).aq=x.au.aq:=by
   unfold sl
   rw[ak.eX,ak.gX,JJ,aV (Nat.sub_le_sub_right h1 _)]
   exact hc
  unfold w7
  have hs:ak.Sublist (sl x.au lo hi) x.au:=(ak.take_sublist _ _).trans (ak.drop_sublist _ _)
  rw[hs.eq_of_length jW]
 ·rfl
theorem JK{fJ:aB}{lower upper:aH aB}{sp:Pos}
  (h:WE c n env fJ (λo bx=>WP c n env lower (λlo bL=>WP c n env upper (λhi eB=>∃r,Ll eB lo hi o r/\Q r eB) X bL) X bx) X σ):WE c n env (.l8 fJ (.Slice lower upper none sp) pos) Q X σ:=by
 revert h
 revert c n env X σ pos Q fJ lower upper sp
 intros c n env X σ pos Q fJ lower upper sp
 intro h
 intros A ω
 intro hR hS
 refine Subscript_ (aW (h A ω hR hS) ?_ λz9 z9 x=>x)
 refine d9.all λro o bx ω₁ l₁ cW lQ d7=>?_
 refine wpAny_Slice ?_
 refine n8 l₁ (d7 A ω₁ (hR.le l₁) cW) ?_
 refine d9.all λrlo lo bL dj l₂ fV plo i6=>?_
 haveI oM:=l₁.trans l₂
 refine n8 oM (i6 A dj (hR.le oM) fV) ?_
 refine d9.all λrhi hi eB gw jT lB phi aan=>?_
 refine gg aan λr k qM=>?_;clear aan
 haveI zy:=oM.trans jT
 refine wpAny_evalPart_none ?_
 haveI UX:=lQ.eW (l₂.trans jT).sub
 refine iU (lB.jg ({cls:=.dg "slice",f9:=.pJ #[rlo,rhi,.none]}) rfl gw.eV) λpR pD=>?_
 haveI Be:=zy.trans pD
 refine eO (H6 (lo:=lower) (hi:=upper) (sp:=sp) (o:=ro) (i:=.ref gw.s.aC)) λops aao=>?_
 cases k with
 |@str x hz=>
  refine eO UX.inv λt₀ bG=>?_;obtain rfl:=bG
  refine gg (NU plo) λLm bG Y8=>?_;obtain rfl:=bG
  refine gg (NU phi) λLn bG Y9=>?_;obtain rfl:=bG
  refine tail_any (typeIs_str _ _ _) F.slot_str_getitem.eF (wpAny_getItem_str_slice (l:=Lm) (u:=Ln) (st:=none) ⟨_,c8.fB _ rfl,rfl,rfl⟩ rfl ?_) aao
  haveI hE:(rQ x Lm Ln none).filterMap (x.cps[·]?)=sl x.au lo hi:=by
   unfold rQ
   rw[Y8,Y9];exact Wo x lo hi
  haveI hL:=NV Y8 Y9 hE
  unfold sliceMade
  refine post_val_or_str ?_
  rw[<-hL]
  refine⟨?_,λt' k=>?_⟩
  ·show(sl x.au lo hi).aJ.dM<=_
   exact aA (aA (BU x.au lo hi) (aO (JJ x))) (aA hz (by rw[kK];decide))
  ·haveI q:d9 c aN (RV c) {gw with s:={gw.s with d8:=gw.aP.jg ({cls:=.dg "slice",f9:=.pJ #[partValue Lm,partValue Ln,.none]}),nA:=gw.eV},g:=g8 gw.g gw.s.aC ({cls:=.dg "slice",f9:=.pJ #[partValue Lm,partValue Ln,.none]})} Q (.str (w7 x lo hi) t') _:=kP (k:=k) pR .str qM
   exact q.le Be
 |@aR _ l k hz=>
  refine xJ (k.at lB UX) λa xs nn jd e rs=>?_;obtain rfl:=jd
  haveI hl:=iJ rs
  haveI e':=bQ ({cls:=.dg "slice",f9:=.pJ #[rlo,rhi,.none]}:Obj) e
  refine tail_any (wR e' rfl) F.slot_list_getitem.eF (wpAny_getItem_list_slice (Lg e') ⟨_,c8.fB _ rfl,rfl,rfl⟩ plo phi .none (by simp) ?_ (by rw[ak.bZ,kK];exact(aF λhn=>Lake.n3 [_,_] 1 (.a (.n 16777216) (.n 1)) (.v 1) 1 (.v 0) (.n 10000) 1 (.v 1) (.v 0) rfl hn hz (aO hl)))) aao
  rw[RE]
  refine iU (pR.jg ({cls:=.dg "list",f9:=.seq (sl xs lo hi).aJ}) rfl gw.eV) λtu pX=>?_
  exact⟨.aR (sl l lo hi),eB,_,Be.trans pX,rfl,tu,.aR (bJ rfl) (RH lo hi (rs.eW (pD.trans pX).sub)),qM⟩
end
end HL.Lake
namespace HL.Lake
open PySem PySem.W PySem.Calls PyProof.Rows
open PySem PySem.W PySem.Calls PyProof.Rows PySem.NumText
def jN(hex:aM)(k:Nat):aM:=(48<=k&&k<=57)||(hex&&((97<=k&&k<=102)||(65<=k&&k<=70)))
def figVal(k:Nat):Nat:=if k<=57 then k - 48 else if k<=70 then k - 55 else k - 87
def ji(hex:aM):Nat:=if hex then 16 else 10
def kH(hex:aM)(cs:ak Nat):Nat:=cs.foldl (λacc k=>acc * ji hex+figVal k) 0
theorem AD{hex:aM}{k:Nat}(h:jN hex k=true):(48<=k/\k<=57)\/(hex=true/\((97<=k/\k<=102)\/(65<=k/\k<=70))):=by
 unfold jN at h
 simpa [aM.lJ,aM.bN,cA]using h
theorem H7{hex:aM}{k:Nat}(h:jN hex k=true):48<=k:=(AD h).g9 (·.1) λr=>r.2.g9 (λq=>aA (by decide) q.1) λq=>aA (by decide) q.1
theorem H8{hex:aM}{k:Nat}(h:jN hex k=true):k<128:=(AD h).g9 (λr=>b9 r.2 (by decide)) λr=>r.2.g9 (λq=>b9 q.2 (by decide)) λq=>b9 q.2 (by decide)
theorem RK:[true,false].all (λhex=>(ak.tO 128).all λk=>!jN hex k||(!(k==95)&&(digit? k==az (figVal k)&&decide (figVal k<ji hex))))=true:=by decide+dK
theorem FH{hex:aM}{k:Nat}(h:jN hex k=true)(ds:dX Nat)(b:aM):step (ji hex) (ds,b) k=az (ds.jg (figVal k),true):=by
 revert h
 revert hex k ds b
 intros hex k ds b
 intro h
 have t:=ak.bV (ak.bV RK hex (by cases hex<;>decide)) k (ak.k7 (H8 h))
 rw[h]at t
 have t:(!(k==95)&&(digit? k==az (figVal k)&&decide (figVal k<ji hex)))=true:=t
 unfold NumText.step
 rw[aY (λe=>by rw[e]at t;cases t),cL (mz (mz t).2).1]
 exact bJ (bX (mz (mz t).2).2)
theorem Lo{hex:aM}(cs:ak Nat):∀ds:dX Nat,(∀k∈cs,jN hex k=true)->cs.foldlM (step (ji hex)) (ds,true)=az ((ds.nu++p9 figVal).aJ,true):=by
 induction cs with
 |nil=>intro ds _;show az (ds,true)=az ((ds.nu++[]).aJ,true);rw[ak.eu]
 |br k cs ih=>
  intro ds h
  rw[ak.foldlM_cons,FH (h k (.dw _))]
  refine(ih _ λd hd=>h d (.cI _ hd)).trans ?_
  rw[dX.toList_push,ak.cV];rfl
theorem Lp{hex:aM}{cs:ak Nat}(h:∀k∈cs,jN hex k=true)(pU:cs≠[]):digits? (ji hex) cs=az (p9 figVal).aJ:=by
 cases cs with
 |nil=>exact cO rfl pU
 |br k cs=>
  unfold digits?
  rw[ak.foldlM_cons,FH (h k (.dw _))]
  show(cs.foldlM (step (ji hex)) ((#[]:dX Nat).jg (figVal k),true)).bind _=_
  rw[Lo cs _ λd hd=>h d (.cI _ hd)]
  simp
def pfQ(c:Nat):aH Nat:=if(c==120||c==88)=true then az 16 else if(c==111||c==79)=true then az 8 else if(c==98||c==66)=true then az 2 else none
theorem aap{cs:ak Nat}{p:Nat}(hp:prefix? cs=az p):∃c r,cs=48::c::r/\pfQ c=az p:=by
 revert hp
 revert cs p
 intros cs p
 intro hp
 unfold prefix? at hp
 split at hp
 ·exact⟨_,_,rfl,hp⟩
 ·cases hp
theorem NW:[true,false].all (λhex=>(ak.tO 128).all λk=>!jN hex k||(!blank k&&(pfQ k).all λp=>!(ji hex==0||ji hex==p)))=true:=by decide+dK
theorem aaq{hex:aM}{k:Nat}(h:jN hex k=true):(!blank k&&(pfQ k).all λp=>!(ji hex==0||ji hex==p))=true:=by
 haveI t:=ak.bV (ak.bV NW hex (by cases hex<;>decide)) k (ak.k7 (H8 h))
 rw[h]at t
 exact t
theorem Lq{hex:aM}{k:Nat}(h:jN hex k=true):blank k=false:=(aM.oE _).mp (mz (aaq h)).1
theorem BW{hex:aM}{cs:ak Nat}(h:∀k∈cs,jN hex k=true):cs.dropWhile blank=cs:=by
 cases cs with
 |nil=>rfl
 |br k cs=>rw[ak.dropWhile_cons,Lq (h k (.dw _))];rfl
theorem Lr{hex:aM}{cs:ak Nat}(h:∀k∈cs,jN hex k=true):sign cs=(false,cs):=by
 unfold sign
 split
 ·exact cO (H7 (h 45 (.dw _))) (by decide)
 ·exact cO (H7 (h 43 (.dw _))) (by decide)
 ·rfl
set_option tactic.hygienic true in
theorem H9{hex:aM}{cs:ak Nat}(h:∀k∈cs,jN hex k=true):based (ji hex) cs=(ji hex,false,cs):=by
 revert h
 revert hex cs
 intros hex cs
 intro h
 unfold based
 split
 ·rename_i p hp
  refine Ht (aap hp) λc r ig hq=>?_;obtain rfl:=ig
  haveI t:=(mz (aaq (h c (.cI _ (.dw _))))).2
  rw[hq]at t
  exact aY (aM.eq_false_iff.mp ((aM.oE _).mp t))
 ·cases hex<;>rfl
theorem Ls{hex:aM}{cs:ak Nat}(h:∀k∈cs,jN hex k=true)(pU:cs≠[])(hl:cs.aq<=640):(int_private%"readNumeral") 0 (ji hex) cs=(int_private%"Numeral.value") (kH hex cs):=by
 refine(readNumeral_eq 0 (ji hex) cs).trans ?_
 rw[BW h,Lr h]
 simp only[H9 h]
 haveI hr:(cs.sU.dropWhile blank).sU=cs:=by
  rw[BW (hex:=hex) (λk hk=>h k (ak.mem_reverse.mp hk)),ak.reverse_reverse]
 rw[hr,Lp h pU]
 unfold judge
 haveI e1:¬(![2,4,8,16,32].jG (ji hex)&&(0:Nat)!=0&&decide ((p9 figVal).aJ.dM>0))=true:=by simp
 haveI e2:¬((ji hex)==10&&decide ((p9 figVal).aJ.dM>6000))=true:=by
  rw[cK (by simp;exact(aF λhn=>Lake.n2 [_] 1 (.a (.n 6000) (.n 1)) (.v 0) 1 (.v 0) (.n 640) rfl hn hl)),aM.uo];exact aM.bK
 dsimp only
 rw[aY e1,aY e2]
 haveI e3:(p9 figVal).aJ.foldl (λacc d=>acc * ji hex+d) 0=kH hex cs:=by
  unfold kH
  simp[ak.foldl_map]
 rw[e3]
 rfl
theorem NX{M:Model}{A:dR}{E:aI->aZ->Prop}{s:aZ}{Q:aI->aZ->Prop}{v:aI}{text:ak Nat}{n:Int}{yJ:Nat}
  (hs:(text.jX (·!=0)).aq<=640)(hr:(int_private%"readNumeral") 0 yJ (text.jX (·!=0))=(int_private%"Numeral.value") n)
  (ha:((text.jX (·!=0)).aq==text.aq)=true)(h:Q (.int n eV) {s with nA:=eV+1}):
  cZ M A ((int_private%"intFromText") v text yJ) Q E s:=by
 revert hs hr ha h
 revert M A E s Q v text n yJ
 intros M A E s Q v text n yJ
 intro hs hr ha h
 obtain⟨hp,g,d,tk,os⟩:=s
 repeat(any_goals (first
  |assumption
  |(with_reducible refine wpAny_ite_true (cN hs) ?_)
  |(with_reducible refine wpAny_ite_true (cN ha) ?_)
  |wp_step))
 all_goals(try rw[hr])
 all_goals(try dsimp only)
 repeat(any_goals (first
  |assumption
  |(with_reducible refine wpAny_ite_true (cN hs) ?_)
  |(with_reducible refine wpAny_ite_true (cN ha) ?_)
  |wp_step))
structure aeb(p:Prop):Prop where
 out:p
theorem BX{hex:aM}{cs:ak Nat}(h:∀k∈cs,jN hex k=true):cs.jX (·!=0)=cs:=by
 induction cs with
 |nil=>rfl
 |br k cs ih=>
  rw[ak.kT (p:=(·!=0)) (nD.mpr (jK (bh (by decide) (H7 (h k (.dw _)))))),ih λd hd=>h d (.cI _ hd)]
set_option maxHeartbeats 4000000 in
theorem BY{hex:aM}{x:Str}{u v:Tok}(hf:∀k∈x.au,jN hex k=true)(pU:x.au≠[])(hl:x.aq<=640):Gives (dI.«int.__new__» ⟨[.dg "int",.str x u,.int (ji hex:Nat) v],[]⟩) (.int (kH hex x.au)):=by
 revert hf pU hl
 revert hex x u v
 intros hex x u v
 intro hf pU hl
 exact .of_wp λM A E s Q h=>by
  obtain⟨hp,g,d,tk,os⟩:=s
  haveI f1:=F.conv_sub_int
  haveI f2:=F.madeHere_int
  haveI f6:typeOf (.str x u)=gB (.dg "str"):=rfl
  haveI aar:x.cps.all (·<128)=true:=by
   rw[<-dX.all_toList]
   rw[ak.rP]
   intro k hk
   exact cN (H8 (hf k hk))
  haveI ht:numTextOf x=x.au:=bJ aar
  haveI JM:numSeenOf x=x.au:=by unfold numSeenOf;rw[ht];exact BX hf
  haveI hs:(numSeenOf x).aq<=640:=by rw[JM];simpa [Str.aq]using hl
  haveI hr:(int_private%"readNumeral") 0 (ji hex) (numSeenOf x)=(int_private%"Numeral.value") (kH hex x.au)/\((numSeenOf x).aq==(numTextOf x).aq)=true:=by
   refine⟨?_,by rw[JM,ht];simp⟩
   rw[JM]
   exact Ls hf pU (by simpa [Str.aq]using hl)
  haveI hk:=aeb.mk (And.intro hs hr)
  clear hs hr hl hf pU aar ht JM
  cases hex<;>simp only[ji,if_true,aM.false_eq_true,if_false]at hk⊢<;>
  ·repeat(any_goals (first
    |assumption
    |((with_reducible show cZ _ _ ((int_private%"intFromText") _ _ _) _ _ _);refine NX hk.out.1 hk.out.2.1 hk.out.2.2 ?_)
    |wp_step))
   all_goals first|exact⟨_,rfl,h⟩|skip
theorem BZ(a b:aI):checkTypeCall "int" ⟨[a,b],[]⟩=gB ():=by kernel_rfl
theorem args_object_init_3(obj a b:aI):argsOk "object.__init__" ⟨[obj,a,b],[]⟩:=by unfold argsOk;kernel_rfl
theorem C1(a b:aI):checkBuiltinCall "int.__new__" ⟨[.dg "int",a,b],[]⟩=gB ():=by kernel_rfl
theorem C2{lg:uw}{w:World}{A:dR}{E:aI->aZ->Prop}{s:aZ}{Q:aI->aZ->Prop}{hex:aM}{x:Str}{u v:Tok}(hf:∀k∈x.au,jN hex k=true)(pU:x.au≠[])(hl:x.aq<=640)(h:Q (.int (kH hex x.au) eV) {s with nA:=eV+1}):
  cZ (dB lg w) A (call (.dg "int") [.str x u,.int (ji hex:Nat) v]) Q E s:=
 callType_new F.called_int F.newNe_int (BZ _ _) (C1 _ _) (λobj=>args_object_init_3 obj _ _) F.entry_int_new (BY hf pU hl).meets (show(Made.int _).post _ s from⟨rfl,h⟩)
section
variable{c:Cx}{n:Nat}{env:Env}{X:St->Prop}{σ:St}{Q:V->St->Prop}
theorem Wq{hex:aM}{x:Str}{b:Int}(hb:b=(ji hex:Nat))(hf:∀k∈x.au,jN hex k=true)(pU:x.au≠[])(hl:x.aq<=640)(h:Q (.int (kH hex x.au)) σ):CV c n env (.st (.dg "int")) [.str x,.int b] Q X σ:=by
 revert hb hf pU hl h
 revert c n env X σ Q hex x b
 intros c n env X σ Q hex x b
 intro hb hf pU hl h
 intros A ω kO
 intro hR hS hr
 subst hb
 refine E3 hr.three λr0 r1 r2 jd q0 q1 q2=>?_;obtain rfl:=jd
 (first|obtain rfl:=q0.inv|obtain⟨_,rfl⟩:=q0.inv|cases q0);(first|obtain rfl:=q1.inv|(refine eO q1.inv λfY bG=>?_;obtain rfl:=bG)|cases q1);(first|obtain rfl:=q2.inv|(refine eO q2.inv λfY bG=>?_;obtain rfl:=bG)|cases q2)
 exact C2 hf pU hl (kP hS .int h)
end
end HL.Lake
namespace HL.Lake
open PySem PySem.W PySem.Calls PyProof.Rows
open PySem.Builtin PySem.Builtin.Str
theorem subAt_one(x:Str)(k i:Nat):subAt x ⟨#[k]⟩ i=true↔x.au[i]?=az k:=by
 revert x k i
 intros x k i
 unfold subAt
 rw[iX]
 haveI e:(x.cps.extract i (i+(⟨#[k]⟩:Str).aq)).nu=(x.au.fX i).eL 1:=by
  rw[dX.toList_extract]
  simp[ak.extract_eq_take_drop,Str.aq]
 constructor
 ·intro h
  rw[h]at e
  haveI e2:[k]=(x.au.fX i).eL 1:=e
  have:=bM ak.head? e2
  cases hd:x.au.fX i with
  |nil=>rw[hd]at this;cases this
  |br a r=>
   rw[hd]at this
   cases this
   have:=bM ak.head? hd
   rw[ak.head?_drop]at this
   exact this
 ·intro h
  apply dX.ext'
  rw[e]
  haveI lM:=(ak.cz h).1
  rw[ak.jY lM]
  refine eO (ak.cz h) λfY h2=>?_
  rw[h2];rfl
def cntIn(k:Nat)(l:ak Nat):Nat:=(l.rJ (·==k)).aq
theorem RL{k:Nat}{l:ak Nat}:cntIn k (k::l)=cntIn k l+1:=by unfold cntIn;rw[ak.filter_cons_of_pos (p:=(·==k)) (cU k)];rfl
theorem take_cons{l:ak Nat}{i hi:Nat}(h:i<hi)(h2:i<l.aq):(l.eL hi).fX i=l[i]::(l.eL hi).fX (i+1):=by
 rw[ak.jY (by rw[ak.eX];exact Nat.lt_min.mpr ⟨h,h2⟩),ak.getElem_take]
theorem B3{l:ak Nat}{i hi:Nat}(h:hi<=i):(l.eL hi).fX i=[]:=ak.drop_eq_nil_of_le (by rw[ak.eX];exact aA (oZ _ _) h)
theorem FI(x:Str)(k hi limit:Nat)(RM:hi<=x.aq)(m:Nat):∀(i:Nat)(st:dX Nat×Nat),st.2<=i->st.1.dM+m<=limit->i+m=hi+1->(forIn (m:=Id) (ak.range' i m) st (xA.occBody x ⟨#[k]⟩ hi limit)).run.fst.dM=st.1.dM+cntIn k ((x.au.eL hi).fX i):=by
 revert RM
 revert x k hi limit m
 intros x k hi limit m
 intro RM
 induction m with
 |lO=>
  intro i st _ _ h
  rw[B3 (i:=i) (Nat.le_of_succ_le (aO h.symm))];rfl
 |kU m ih=>
  intro i st hf hl h
  rw[ak.range'_succ,ak.forIn_cons]
  unfold xA.occBody
  haveI jW:x.au.aq=x.aq:=dX.iM
  haveI h':i+1+m=hi+1:=(iK i m).trans h
  haveI hl':st.1.dM+1+m<=limit:=aA (aO (iK _ m)) hl
  by_cases hc:i<hi/\x.au[i]?=az k
  ·haveI hc':(((st.fst.dM<limit/\st.snd<=i)/\i+(⟨#[k]⟩:Str).aq<=hi)/\subAt x ⟨#[k]⟩ i=true):=⟨⟨⟨bh (nM (cD m)) hl,hf⟩,hc.1⟩,(subAt_one x k i).mpr hc.2⟩
   rw[bJ hc']
   refine eO (ak.cz hc.2) λq1 q2=>?_
   rw[take_cons hc.1 q1,q2,RL]
   refine(ih (i+1) _ (bz _) (by rw[dX.qy];exact hl') h').trans ?_
   rw[dX.qy,dJ,eZ 1]
  ·haveI hc':¬(((st.fst.dM<limit/\st.snd<=i)/\i+(⟨#[k]⟩:Str).aq<=hi)/\subAt x ⟨#[k]⟩ i=true):=λq=>hc ⟨q.1.2,(subAt_one x k i).mp q.2⟩
   rw[aY hc']
   refine(ih (i+1) _ (fR hf) (aA (dz (xy _) m) hl') h').trans (bM _ ?_)
   by_cases hi':i<hi
   ·haveI q1:i<x.au.aq:=bh hi' (jW▸RM)
    rw[take_cons hi' q1]
    unfold cntIn
    rw[ak.filter_cons_of_neg (p:=(·==k)) (by rw[iX];exact λq=>hc ⟨hi',by rw[ak.bk q1,q]⟩)]
   ·rw[B3 (aF hi'),B3 (fR (aF hi'))]
theorem RN(x:Str)(k hi:Nat)(RM:hi<=x.aq):(u6 x ⟨#[k]⟩ 0 hi (x.aq+1)).aq=cntIn k (x.au.eL hi):=by
 rw[xA.occ_eq]
 have:=FI x k hi (x.aq+1) RM (hi+1) 0 (#[],0) (bz _) (by simp;exact(aF λhn=>Lake.n2 [_,_] 1 (.a (.v 1) (.n 1)) (.v 0) 1 (.v 0) (.v 1) rfl hn RM)) (by exact(dU (aF λhn=>Lake.n1 [_] (.a (.a (.v 0) (.n 1)) (.n 1)) (.a (.n 0) (.a (.v 0) (.n 1))) rfl hn) (aF λhn=>Lake.n1 [_] (.a (.a (.n 0) (.a (.v 0) (.n 1))) (.n 1)) (.a (.v 0) (.n 1)) rfl hn)))
 simp only[vU,dX.iM]
 rw[this]
 simp
def kQ(k:Nat):ak Nat->aH Nat
 |[]=>none
 |a::l=>match kQ k l with
  |az i=>az (i+1)
  |none=>if a=k then az 0 else none
def B4(k:Nat)(l:ak Nat)(o:aH Nat):Prop:=match o with|none=>∀i:Nat,l[i]?≠az k|az i=>l[i]?=az k/\∀j:Nat,i<j->l[j]?≠az k
theorem FJ(k:Nat)(l:ak Nat):B4 k l (kQ k l):=by
 induction l with
 |nil=>exact λi h=>nomatch h
 |br a l ih=>
  show B4 k (a::l) (match kQ k l with|az i=>az (i+1)|none=>if a=k then az 0 else none)
  revert ih
  cases kQ k l with
  |az i=>
   intro ih
   refine⟨ih.1,λj hj=>?_⟩
   cases j with
   |lO=>exact cO hj (lH _)
   |kU j=>exact ih.2 j (lU hj)
  |none=>
   intro ih
   show B4 k (a::l) (if a=k then az 0 else none)
   by_cases e:a=k
   ·rw[bJ e]
    refine⟨bM az e,λj hj=>?_⟩
    cases j with
    |lO=>exact cO hj (lH _)
    |kU j=>exact ih j
   ·rw[aY e]
    intro i
    cases i with
    |lO=>exact λh=>e (aH.az.inj h)
    |kU i=>exact ih i
theorem NY(x:Str)(k hi:Nat)(RM:hi<=x.aq):wF x ⟨#[k]⟩ 0 hi=kQ k (x.au.eL hi):=by
 revert RM
 revert x k hi
 intros x k hi
 intro RM
 have hAt:∀i,xA.At x ⟨#[k]⟩ hi i↔(x.au.eL hi)[i]?=az k:=λi=>by
  rw[ak.getElem?_take]
  constructor
  ·intro h
   have h1:i+1<=hi:=h.1
   rw[bJ (by exact(cP λhn=>Lake.n2 [_,_] 1 (.v 0) (.v 1) 1 (.a (.v 1) (.n 1)) (.v 0) rfl hn h1))];exact(subAt_one x k i).mp h.2
  ·intro h
   split at h
   ·exact⟨by show i+1<=hi;exact(aF λhn=>Lake.n2 [_,_] 1 (.a (.v 0) (.n 1)) (.a (.v 1) (.n 1)) 1 (.a (.v 1) (.n 1)) (.v 0) rfl hn ‹i<hi›),(subAt_one x k i).mpr h⟩
   ·cases h
 have h1:=xA.last_run x ⟨#[k]⟩ hi (ak.range' 0 (hi+1 - 0)) [] none (by intro i hi;cases hi) (by intro i hi;cases hi) ak.pairwise_lt_range'
 rw[<-xA.last_eq,ak.jw]at h1
 have h2:=FJ k (x.au.eL hi)
 have n9:∀i,(x.au.eL hi)[i]?=az k->i∈ak.range' 0 (hi+1 - 0):=λi h=>by
  have:=(ak.cz h).1
  rw[ak.eX]at this
  simp;exact(cP λhn=>Lake.n3 [_,_,_] 1 (.a (.v 0) (.n 1)) (.v 1) 1 (.a (.v 1) (.n 1)) (.v 2) 1 (.v 2) (.v 0) rfl hn this (oZ _ _))
 cases e1:wF x ⟨#[k]⟩ 0 hi with
 |none=>
  rw[e1]at h1
  cases e2:kQ k (x.au.eL hi)with
  |none=>rfl
  |az i=>rw[e2]at h2;exact cO ((hAt i).mpr h2.1) (h1 i (n9 i h2.1))
 |az a=>
  rw[e1]at h1
  have ha:=(hAt a).mp h1.1
  cases e2:kQ k (x.au.eL hi)with
  |none=>rw[e2]at h2;exact cO ha (h2 a)
  |az i=>
   rw[e2]at h2
   rcases Nat.lt_trichotomy a i with h|h|h
   ·exact cO ((hAt i).mpr h2.1) (h1.2 i (n9 i h2.1) h)
   ·rw[h]
   ·exact cO ha (h2.2 a h)
theorem D7(x y:Str)(off:Nat)(t u v w:Tok)(ho:off<=x.aq):Gives («str.count» ⟨[.str x t,.str y u,.int 0 v,.int off w],[]⟩) (.int (u6 x y 0 off (x.aq+1)).aq):=by
 show Gives (retInt (u6 x y (max 0 (if(0:Int)<0 then(0:Int)+x.aq else 0)).gR (min (max 0 (if(off:Int)<0 then(off:Int)+x.aq else off)).gR x.aq) (x.aq+1)).aq) _
 haveI e1:(max 0 (if(0:Int)<0 then(0:Int)+x.aq else 0)).gR=0:=by simp
 haveI e2:min (max 0 (if(off:Int)<0 then(off:Int)+x.aq else off)).gR x.aq=off:=by
  rw[aY (Int.fG (cH off)),Int.s6 (cH off)];exact aV ho
 rw[e1,e2]
 exact .of_eq rfl
theorem D8(x y:Str)(off:Nat)(t u v w:Tok)(ho:off<=x.aq):Gives («str.rfind» ⟨[.str x t,.str y u,.int 0 v,.int off w],[]⟩) (.int (match wF x y 0 off with|az i=>(i:Int)|none=>-1)):=by
 show Gives (match wF x y (max 0 (if(0:Int)<0 then(0:Int)+x.aq else 0)).gR (min (max 0 (if(off:Int)<0 then(off:Int)+x.aq else off)).gR x.aq)with|az i=>retInt i|none=>(do rule "str.rfind.not-found";retInt (-1))) _
 haveI e1:(max 0 (if(0:Int)<0 then(0:Int)+x.aq else 0)).gR=0:=by simp
 haveI e2:min (max 0 (if(off:Int)<0 then(off:Int)+x.aq else off)).gR x.aq=off:=by
  rw[aY (Int.fG (cH off)),Int.s6 (cH off)];exact aV ho
 rw[e1,e2]
 cases wF x y 0 off with
 |none=>exact .rule (.of_eq rfl)
 |az i=>exact .of_eq rfl
theorem zD(x y z:Str)(t u v:Tok)(h:u6 x y 0 x.aq (x.aq+1)=[]):Gives («str.replace» ⟨[.str x t,.str y u,.str z v],[]⟩) (.val (.str x t)):=by
 show Gives (if(u6 x y 0 x.aq (x.aq+1)).qt||(y.aq==0&&z.aq==0)then(do rule "str.replace.nothing";ret (<-strUnchanged (.str x t) x))else _) _
 rw[h]
 exact .rule (.of_eq rfl)
section
variable{c:Cx}{n:Nat}{env:Env}{X:St->Prop}{σ:St}{pos:Pos}{ω:Wd}{sc:Scope}{Q:V->St->Prop}
section
variable{x:Str}{Q:V->List V->St->Prop}
theorem RO(h:Q (.st (.cj "str.join")) [.str x] σ):GM c n env "join" (.str x) Q X σ:=λpl=>HV λz9 z9 z9 z9 hS r1=>by
 (first|obtain rfl:=r1.inv|(refine eO r1.inv λfY bG=>?_;obtain rfl:=bG)|cases r1);exact GM.join (done (b:=(V.st (.cj "str.join"),[V.str x])) hS ⟨.st,.br .str .nil⟩ h)
theorem NZ(h:Q (.st (.cj "str.count")) [.str x] σ):GM c n env "count" (.str x) Q X σ:=λpl=>HV λz9 z9 z9 z9 hS r1=>by
 (first|obtain rfl:=r1.inv|(refine eO r1.inv λfY bG=>?_;obtain rfl:=bG)|cases r1);exact GM.count (done (b:=(V.st (.cj "str.count"),[V.str x])) hS ⟨.st,.br .str .nil⟩ h)
theorem N1(h:Q (.st (.cj "str.rfind")) [.str x] σ):GM c n env "rfind" (.str x) Q X σ:=λpl=>HV λz9 z9 z9 z9 hS r1=>by
 (first|obtain rfl:=r1.inv|(refine eO r1.inv λfY bG=>?_;obtain rfl:=bG)|cases r1);exact GM.rfind (done (b:=(V.st (.cj "str.rfind"),[V.str x])) hS ⟨.st,.br .str .nil⟩ h)
theorem Ia(h:Q (.st (.cj "str.replace")) [.str x] σ):GM c n env "replace" (.str x) Q X σ:=λpl=>HV λz9 z9 z9 z9 hS r1=>by
 (first|obtain rfl:=r1.inv|(refine eO r1.inv λfY bG=>?_;obtain rfl:=bG)|cases r1);exact GM.replace (done (b:=(V.st (.cj "str.replace"),[V.str x])) hS ⟨.st,.br .str .nil⟩ h)
theorem C3(h:Q (.st (.cj "str.startswith")) [.str x] σ):GM c n env "startswith" (.str x) Q X σ:=λpl=>HV λz9 z9 z9 z9 hS r1=>by
 (first|obtain rfl:=r1.inv|(refine eO r1.inv λfY bG=>?_;obtain rfl:=bG)|cases r1);exact GM.startswith (done (b:=(V.st (.cj "str.startswith"),[V.str x])) hS ⟨.st,.br .str .nil⟩ h)
end
theorem fK.strs{P:dN}{g:c7}{a b:ak aQ}{ys:ak Str}{xs:ak aI}(h:fK P g a b (ys.map V.str) xs):StrsAre xs ys:=by
 induction ys generalizing xs with
 |nil=>cases h;exact .nil
 |br y ys ih=>
  refine oH (fK.un (v:=.str y) (l:=ys.map V.str) h) λx t ig r rs=>?_;obtain rfl:=ig
  refine eO fQ λfY bG=>?_;obtain rfl:=bG
  exact .br _ _ (ih rs)
theorem JN{sep:Str}{v:V}{ys:ak Str}(k:qq σ v (ys.map V.str))(hs:sep.aq<=16)(hw:(ys.map (·.aq)).sum+ys.aq<=1048576)(h:Q (.str (Txt.join sep ys)) σ):CV c n env (.st (.cj "str.join")) [.str sep,v] Q X σ:=λA ω kO hR hS hr=>by
 refine E3 hr.three λr0 r1 r2 jd q0 q1 q2=>?_;obtain rfl:=jd
 (first|obtain rfl:=q0.inv|obtain⟨_,rfl⟩:=q0.inv|cases q0);(first|obtain rfl:=q1.inv|(refine eO q1.inv λfY bG=>?_;obtain rfl:=bG)|cases q1)
 refine xJ (k.at hS q2) λa xs nn jd e rs=>?_;obtain rfl:=jd
 exact join_listW (bY:=ak.aJ xs) (Lg e) rs.strs hs hw λt' k=>kP hS .str h
theorem hr4{P:dN}{g:c7}{a b:ak aQ}{v w z y:V}{kO:ak aI}(h:fK P g a b [v,w,z,y] kO):∃rv rw rz ry,kO=[rv,rw,rz,ry]/\Rel P g a b v rv/\Rel P g a b w rw/\Rel P g a b z rz/\Rel P g a b y ry:=by
 revert h
 revert P g a b v w z y kO
 intros P g a b v w z y kO
 intro h
 cases h with|br r t=>(refine xJ t.three λrw rz ry jd r' Rg=>?_;obtain rfl:=jd);exact⟨_,rw,rz,ry,rfl,r,r',Rg⟩
theorem hr5{P:dN}{g:c7}{a b:ak aQ}{v w z y u:V}{kO:ak aI}(h:fK P g a b [v,w,z,y,u] kO):∃rv rw rz ry ru,kO=[rv,rw,rz,ry,ru]/\Rel P g a b v rv/\Rel P g a b w rw/\Rel P g a b z rz/\Rel P g a b y ry/\Rel P g a b u ru:=by
 revert h
 revert P g a b v w z y u kO
 intros P g a b v w z y u kO
 intro h
 cases h with|br r t=>(refine x43 (hr4 t) λrw rz ry ru zw r' Rg=>?_;obtain rfl:=zw);exact⟨_,rw,rz,ry,ru,rfl,r,r',Rg⟩
theorem Lu{x:Str}{k:Nat}{off:Int}(h0:0<=off)(ho:off<=x.aq)(h:Q (.int (cntIn k (x.au.eL off.gR))) σ):CV c n env (.st (.cj "str.count")) [.str x,.str ⟨#[k]⟩,.int 0,.int off] Q X σ:=λA ω kO hR hS hr=>by
 refine x54 (hr5 hr) λr0 r1 r2 r3 r4 MN q0 q1 iZ=>?_;obtain rfl:=MN;refine zN iZ λq2 q3 q4=>?_;clear iZ
 (first|obtain rfl:=q0.inv|obtain⟨_,rfl⟩:=q0.inv|cases q0);(first|obtain rfl:=q1.inv|(refine eO q1.inv λfY bG=>?_;obtain rfl:=bG)|cases q1);(first|obtain rfl:=q2.inv|(refine eO q2.inv λfY bG=>?_;obtain rfl:=bG)|cases q2);(first|obtain rfl:=q3.inv|(refine eO q3.inv λfY bG=>?_;obtain rfl:=bG)|cases q3);(first|obtain rfl:=q4.inv|(refine eO q4.inv λfY bG=>?_;obtain rfl:=bG)|cases q4)
 refine eO (nP h0) λm bG=>?_;obtain rfl:=bG
 refine call_gives F.slot_str_count (typeIs_str _ _ _) F.entry_str_count (F.args_str_count_4 _ _ _ _) (D7 x ⟨#[k]⟩ m _ _ _ _ (by exact(aF λhn=>Lake.n2 [_,_] 1 (.a (.v 1) (.n 1)) (.v 0) 1 (.v 0) (.v 1) rfl hn ((fO (m:=m) (n:=x.aq)).mp ho)))) ?_
 rw[RN x k m (by exact(aF λhn=>Lake.n2 [_,_] 1 (.a (.v 1) (.n 1)) (.v 0) 1 (.v 0) (.v 1) rfl hn ((fO (m:=m) (n:=x.aq)).mp ho)))]
 exact kP hS .int h
theorem Lw{x:Str}{k:Nat}{off:Int}(h0:0<=off)(ho:off<=x.aq)(h:Q (.int (match kQ k (x.au.eL off.gR)with|az i=>(i:Int)|none=>-1)) σ):CV c n env (.st (.cj "str.rfind")) [.str x,.str ⟨#[k]⟩,.int 0,.int off] Q X σ:=λA ω kO hR hS hr=>by
 refine x54 (hr5 hr) λr0 r1 r2 r3 r4 MN q0 q1 iZ=>?_;obtain rfl:=MN;refine zN iZ λq2 q3 q4=>?_;clear iZ
 (first|obtain rfl:=q0.inv|obtain⟨_,rfl⟩:=q0.inv|cases q0);(first|obtain rfl:=q1.inv|(refine eO q1.inv λfY bG=>?_;obtain rfl:=bG)|cases q1);(first|obtain rfl:=q2.inv|(refine eO q2.inv λfY bG=>?_;obtain rfl:=bG)|cases q2);(first|obtain rfl:=q3.inv|(refine eO q3.inv λfY bG=>?_;obtain rfl:=bG)|cases q3);(first|obtain rfl:=q4.inv|(refine eO q4.inv λfY bG=>?_;obtain rfl:=bG)|cases q4)
 refine eO (nP h0) λm bG=>?_;obtain rfl:=bG
 refine call_gives F.slot_str_rfind (typeIs_str _ _ _) F.entry_str_rfind (F.args_str_rfind_4 _ _ _ _) (D8 x ⟨#[k]⟩ m _ _ _ _ (by exact(aF λhn=>Lake.n2 [_,_] 1 (.a (.v 1) (.n 1)) (.v 0) 1 (.v 0) (.v 1) rfl hn ((fO (m:=m) (n:=x.aq)).mp ho)))) ?_
 rw[NY x k m (by exact(aF λhn=>Lake.n2 [_,_] 1 (.a (.v 1) (.n 1)) (.v 0) 1 (.v 0) (.v 1) rfl hn ((fO (m:=m) (n:=x.aq)).mp ho)))]
 exact kP hS .int h
theorem Bg{x y z:Str}(hn:u6 x y 0 x.aq (x.aq+1)=[])(h:Q (.str x) σ):CV c n env (.st (.cj "str.replace")) [.str x,.str y,.str z] Q X σ:=λA ω kO hR hS hr=>by
 refine MX (hr4 hr) λr0 r1 r2 r3 zw q0 q1 q2 q3=>?_;obtain rfl:=zw
 (first|obtain rfl:=q0.inv|obtain⟨_,rfl⟩:=q0.inv|cases q0);(first|obtain rfl:=q1.inv|(refine eO q1.inv λfY bG=>?_;obtain rfl:=bG)|cases q1);(first|obtain rfl:=q2.inv|(refine eO q2.inv λfY bG=>?_;obtain rfl:=bG)|cases q2);(first|obtain rfl:=q3.inv|(refine eO q3.inv λfY bG=>?_;obtain rfl:=bG)|cases q3)
 exact call_gives F.slot_str_replace (typeIs_str _ _ _) F.entry_str_replace (F.args_str_replace_3 _ _ _) (zD x y z _ _ _ hn) (done hS .str h)
theorem C4{x y:Str}(h:Q (.bF (qb x y)) σ):CV c n env (.st (.cj "str.startswith")) [.str x,.str y] Q X σ:=λA ω kO hR hS hr=>by
 refine E3 hr.three λr0 r1 r2 jd q0 q1 q2=>?_;obtain rfl:=jd
 (first|obtain rfl:=q0.inv|obtain⟨_,rfl⟩:=q0.inv|cases q0);(first|obtain rfl:=q1.inv|(refine eO q1.inv λfY bG=>?_;obtain rfl:=bG)|cases q1);(first|obtain rfl:=q2.inv|(refine eO q2.inv λfY bG=>?_;obtain rfl:=bG)|cases q2)
 exact SC.startswith (done hS .bF h)
theorem Wr{k:Nat}(h:Q (.int k) σ):CV c n env (.st (.cj "ord")) [.str ⟨#[k]⟩] Q X σ:=tX λz9 z9 z9 z9 z9 hS r0 r1=>by
 (first|obtain rfl:=r0.inv|obtain⟨_,rfl⟩:=r0.inv|cases r0);(first|obtain rfl:=r1.inv|obtain⟨_,rfl⟩:=r1.inv|cases r1);exact P.ord_of_char (kP hS .int h)
theorem Ws{i:Int}(hi:(decide (i<0)||decide (i>1114111))=false)(h:Q (.str ⟨#[i.gR]⟩) σ):CV c n env (.st (.cj "chr")) [.int i] Q X σ:=tX λz9 z9 z9 z9 z9 hS r0 r1=>by
 (first|obtain rfl:=r0.inv|obtain⟨_,rfl⟩:=r0.inv|cases r0);(first|obtain rfl:=r1.inv|(refine eO r1.inv λfY bG=>?_;obtain rfl:=bG)|cases r1);exact P.chr_of_int hi (kP hS .str h)
theorem Wt{a b:Int}(h:Q (.int (if b>a then b else a)) σ):CV c n env (.st (.cj "max")) [.int a,.int b] Q X σ:=λA ω kO hR hS hr=>by
 refine E3 hr.three λr0 r1 r2 jd q0 q1 q2=>?_;obtain rfl:=jd
 (first|obtain rfl:=q0.inv|obtain⟨_,rfl⟩:=q0.inv|cases q0);(first|obtain rfl:=q1.inv|(refine eO q1.inv λfY bG=>?_;obtain rfl:=bG)|cases q1);(first|obtain rfl:=q2.inv|(refine eO q2.inv λfY bG=>?_;obtain rfl:=bG)|cases q2)
 refine max_two_ints hR.room.jm λh' tk hk=>?_
 refine iU (hS.ext hk tk) λS' l'=>?_
 refine⟨_,_,_,l',rfl,S',?_,h⟩
 split<;>exact .int
theorem Ib{i:Int}(h:Q (.bF false) σ):CV c n env (.st (.cj "isinstance")) [.int i,.st (.dg "bool")] Q X σ:=λA ω kO hR hS hr=>by
 refine E3 hr.three λr0 r1 r2 jd q0 q1 q2=>?_;obtain rfl:=jd
 (first|obtain rfl:=q0.inv|obtain⟨_,rfl⟩:=q0.inv|cases q0);(first|obtain rfl:=q1.inv|(refine eO q1.inv λfY bG=>?_;obtain rfl:=bG)|cases q1);(first|obtain rfl:=q2.inv|obtain⟨_,rfl⟩:=q2.inv|cases q2)
 exact IsiPair.int_bool (kP hS .bF h)
theorem FL{b:aM}(h:Q (.bF true) σ):CV c n env (.st (.cj "isinstance")) [.bF b,.st (.dg "bool")] Q X σ:=λA ω kO hR hS hr=>by
 refine E3 hr.three λr0 r1 r2 jd q0 q1 q2=>?_;obtain rfl:=jd
 (first|obtain rfl:=q0.inv|obtain⟨_,rfl⟩:=q0.inv|cases q0);(first|obtain rfl:=q1.inv|obtain⟨_,rfl⟩:=q1.inv|cases q1);(first|obtain rfl:=q2.inv|obtain⟨_,rfl⟩:=q2.inv|cases q2)
 exact IsiPair.bool_bool (done hS .bF h)
theorem Lx{a b:aB}{np:Pos}(he:fU env sc)(hk:(sc.bW (aj "range")==az i7)=true)(hg:nsIn gM iB "range"=az none)(hs:mD [a,b]=true){Q:ak V->St->Prop}
  (h:WE c n env a (λv bx=>WE c n env b (λw bL=>∃i j:Int,∃N:Nat,v=.int i/\w=.int j/\dI.ni i j 1=true/\dI.jL i j 1=N/\Q ((ak.tO N).map λk=>.int (i+(k:Nat) * 1)) bL) X bx) X σ):WI c n env (.Call (.mQ "range" np) [a,b] [] pos) Q X σ:=by
 revert he hk hg hs h
 revert c n env X σ pos sc a b np Q
 intros c n env X σ pos sc a b np Q
 intro he hk hg hs h
 intros A ω
 intro hR hS
 rw[As rfl]
 refine aK (aW ((yS (Q:=λv fL=>v=.st (.dg "range")/\fL=σ) (X:=X) he hk (by decide) hg (by decide+dK) (by decide) ⟨rfl,rfl⟩) A ω hR hS) ?_ λz9 z9 x=>x)
 refine d9.all λrf v bx ω₁ l₁ cW r N3=>?_
 refine iU N3 λfY bG=>?_;clear N3;obtain rfl:=fY;obtain rfl:=bG
 (first|obtain rfl:=fQ|obtain⟨_,rfl⟩:=fQ|cases r)
 refine callWith_of (P:=λh=>∃k,(k=Keeper.rO\/k=wk\/k=sV)/\Looks (dB bU j5) h (keeperOf (.dg "range")) k) (by rw[uK hs];rfl) (λz9 h=>h) ?_
 refine ql hs ?_
 haveI hw:WL c n env pos [a,b] (λvs bL=>∃i j:Int,∃N:Nat,vs=[.int i,.int j]/\dI.ni i j 1=true/\dI.jL i j 1=N/\Q ((ak.tO N).map λk=>.int (i+(k:Nat) * 1)) bL) X bx:=by
  simp only[mD,ak.all_cons,ak.all_nil,aM.and_true,aM.bN]at hs
  refine wQ hs.1 λA ω hR hS=>aW (h A ω hR hS) ?_ λz9 z9 x=>x
  rintro rv s ⟨v,fL,fj,l,e,S,r,hw⟩
  refine⟨v,fL,fj,l,e,S,r,?_⟩
  refine wQ hs.2 λA ω hR hS=>aW (hw A ω hR hS) ?_ λz9 z9 x=>x
  intro rv s K3
  obtain⟨w,fL,fj,l,e,S,r,i,j,N,rfl,rfl,h1,h2,h3⟩:=K3
  exact⟨_,fL,fj,l,e,S,r,uJ ⟨i,j,N,rfl,h1,h2,h3⟩⟩
 refine n8 l₁ (hw A ω₁ (hR.le l₁) cW) ?_
 refine d9.all λkO vs bL dj l₂ fV rs N4=>?_
 refine E3 N4 λi j N jd h1 h2 h3=>?_;clear N4;obtain rfl:=jd
 refine oH rs.two λr1 r2 ig q1 q2=>?_;obtain rfl:=ig
 (first|obtain rfl:=q1.inv|(refine eO q1.inv λfY bG=>?_;obtain rfl:=bG)|cases q1);(first|obtain rfl:=q2.inv|(refine eO q2.inv λfY bG=>?_;obtain rfl:=bG)|cases q2)
 refine⟨⟨.machine,.inr (.inl rfl),Looks.now⟩,?_⟩
 refine call_range_2 ?_
 obtain⟨lB,jT⟩:=fV.jg ({cls:=.dg "range",f9:=.pJ #[.int i _,.int j _,.int 1 dj.eV]}) rfl (dj.eV+1)
 exact⟨_,bL,_,(l₁.trans l₂).trans jT,rfl,lB,A1 rfl (c8.fB _ rfl) h1 h2,h3⟩
end
end HL.Lake
namespace HL.Lake
open PySem PySem.W PySem.Calls PyProof.Rows
section
variable{c:Cx}{n:Nat}{env:Env}{X:St->Prop}{σ:St}{pos:Pos}{ω:Wd}{sc:Scope}{Q:V->St->Prop}
theorem Ly{P:dN}{g:c7}{a b:ak aQ}(hP:P=aL){l:ak (Str×V)}{es:ak gh}(h:kE P g a b l es):∃kvs,Pairs (jq bU j5) es kvs/\jC P g a b l kvs/\∀e∈es,∃k,aI.isStrOf k e.key=true/\e.hash=hashStr j5 k:=by
 refine kE.ind (M:=λl es=>∃kvs,Pairs (jq bU j5) es kvs/\jC P g a b l kvs/\∀e∈es,∃k,aI.isStrOf k e.key=true/\e.hash=hashStr j5 k) ⟨[],.nil,rfl,λz9 h=>(by cases h)⟩ (λk v t rv l rl hv hr ih=>?_) h
 refine uE ih λkvs h1 h2 h3=>?_;clear ih
 refine⟨(k,rv)::kvs,.br (cU k) rfl h1,.br ⟨rfl,hv⟩ h2,λe he=>?_⟩
 rcases ak.bB he with rfl|he
 ·exact⟨k,cU k,by subst hP;rfl⟩
 ·exact h3 e he
theorem rY{P:dN}{g:c7}{a b:ak aQ}{h:c8}{d:aQ}{l:ak (Str×V)}{es:ak gh}{nn:Nat}(hP:P=aL)(e:h.cF d=az (lR es nn))(r:kE P g a b l es)(nd:(fM (·.1)).iT):
  ∃kvs,h.wu (jq bU j5) d kvs/\jC P g a b l kvs:=by
 refine uE (Ly (c:=c) hP r) λkvs h1 h2 h3=>?_
 refine⟨kvs,⟨_,es.aJ,nn,e,⟨rfl,rfl,rfl⟩,rfl,λx hx=>h3 x (by simpa using hx),by simpa using h1,by rw[h2.nB];exact nd⟩,h2⟩
inductive AE(σ:St):V->ak (Str×V)->Prop
 |bO {l}:AE σ (.bO l) l
 |lo {i l}:jx[i]?=az (.bO l)->AE σ (.lo i) l
 |ob {i l}:gJ[i]?=az (.bO l)->AE σ (.ob i) l
theorem AE.at{L:aQ}{v:V}{l:ak (Str×V)}{rv:aI}(k:AE σ v l)(S:Sat c L σ ω)(r:RV c ω v rv):∃x es nn,rv=.ref x/\1<x/\ω.aP.cF x=az (lR es nn)/\kE aL ω.g ω.a ω.b l es/\(fM (·.1)).iT:=by
 revert k S r
 revert c σ ω L v l rv
 intros c σ ω L v l rv
 intro k S r
 cases k with
 |bO=>(refine KI fQ λfY bG ig jd hg q rs nd=>?_;obtain rfl:=jd);exact⟨_,_,_,rfl,q,S.gr _ _ hg,rs,nd⟩
 |lo h=>
  refine gg fQ λfY bG hi=>?_;obtain rfl:=bG
  refine oH (S.tT.2 _ _ h) λx ob e1 e2 r=>?_
  rw[hi]at e1;cases e1
  cases r with|bO r nd=>exact⟨_,_,_,rfl,S.high.2 _ (ak.bA _ (ak.cg hi)),e2,r,nd⟩
 |ob h=>
  refine gg fQ λfY bG hi=>?_;obtain rfl:=bG
  refine oH (S.tW.2 _ _ h) λx ob e1 e2 r=>?_
  rw[hi]at e1;cases e1
  cases r with|bO r nd=>exact⟨_,_,_,rfl,S.high.2 _ (ak.bg _ (ak.cg hi)),e2,r.eW ⟨λz9 z9 h=>h,λz9 z9 h=>(Lake.nn rfl h),λz9 z9 h=>h⟩,nd⟩
theorem JO{x:aQ}(h:1<x):(x==wG)=false:=beq_eq_false_iff_ne.mpr (jK h)
theorem AE.of{L:aQ}{v:V}{l:ak (Str×V)}{rv:aI}(k:AE σ v l)(S:Sat c L σ ω)(r:RV c ω v rv):∃x kvs,rv=.ref x/\(x==wG)=false/\ω.aP.wu (jq bU j5) x kvs/\jC aL ω.g ω.a ω.b l kvs/\(fM (·.1)).iT:=by
 refine KI (k.at S r) λx es nn jd hx e rd nd=>?_;obtain rfl:=jd
 refine gg (rY rfl e rd nd) λkvs h1 h2=>?_
 exact⟨x,kvs,rfl,JO hx,h1,h2,nd⟩
theorem jC.at{P:dN}{g:c7}{a b:ak aQ}{l:ak (Str×V)}{kvs:ak (Str×aI)}{x:Str}{v:V}(h:jC P g a b l kvs)(nd:(fM (·.1)).iT)(m:(x,v)∈l):∃rv,rA kvs x=az rv/\Rel P g a b v rv:=by
 induction h using jC.ind with
 |nil=>cases m
 |@br k u rv l rl hv hr ih=>
  rcases ak.bB m with e|m
  ·cases e
   exact⟨rv,by simp[rA],hv⟩
  ·refine gg (ih (ak.cT.mp nd).2 m) λY6 e r=>?_
   have hk:k≠x:=λe=>(ak.cT.mp nd).1 (ak.xq ⟨_,m,e.symm⟩)
   exact⟨Y6,by simpa [rA,hk]using e,r⟩
theorem jC.no{P:dN}{g:c7}{a b:ak aQ}{l:ak (Str×V)}{kvs:ak (Str×aI)}{x:Str}(h:jC P g a b l kvs)(m:x∉fM (·.1)):rA kvs x=none:=by
 induction h using jC.ind with
 |nil=>exact rfl
 |@br k u rv l rl hv hr ih=>
  haveI hk:k≠x:=λe=>m (e▸ak.mem_cons_self)
  simpa [rA,hk]using ih λq=>m (ak.mem_cons_of_mem _ q)
theorem Bs{v u:V}{l:ak (Str×V)}{x:Str}(k:AE σ v l)(hm:(x,u)∈l)(h:Q u σ):IV c n env v (.str x) Q X σ:=tX λz9 z9 z9 z9 z9 hS r1 r2=>by
 (first|obtain rfl:=r2.inv|(refine eO r2.inv λfY bG=>?_;obtain rfl:=bG)|cases r2)
 refine x25 (k.of hS r1) λa kvs ig hs hd rk nd=>?_;obtain rfl:=ig
 refine gg (rk.at nd hm) λrv e r=>?_
 exact wpAny_getItem_of (knd:=jq bU j5) (by simp[nY.jq,aI.isStrOf]) hd.mapOf e (kP hS r h)
theorem Ic{v:V}{l:ak (Str×V)}{x:Str}(k:AE σ v l)(h:Q (.bF (decide (x∈fM (·.1)))) σ):KV c n env .In (.str x) v Q X σ:=tX λz9 z9 z9 z9 z9 hS r2 r1=>by
 (first|obtain rfl:=r2.inv|(refine eO r2.inv λfY bG=>?_;obtain rfl:=bG)|cases r2)
 refine x25 (k.of hS r1) λa kvs ig hs hd rk nd=>?_;obtain rfl:=ig
 refine wpAny_in_of (knd:=jq bU j5) (k:=x) (by simp[nY.jq,aI.isStrOf]) hs hd.mapOf ?_
 have:(rA kvs x).sJ=decide (x∈fM (·.1)):=by
  by_cases hm:x∈fM (·.1)
  ·refine gg (ak.jt hm) λfY hp ig=>?_;obtain⟨y,u⟩:=fY;obtain rfl:=ig
   refine gg (rk.at nd hp) λrv e ig=>?_
   rw[e];simp[hm]
  ·rw[rk.no hm];simp[hm]
 rw[this]
 exact kP hS .bF h
theorem RP{v:V}{l:ak (Str×V)}{Q:aM->St->Prop}(k:AE σ v l)(hz:l.aq<=10000)(h:Q (!l.qt) σ):TV c n env v Q X σ:=HV λz9 z9 z9 z9 hS r1=>by
 refine x25 (k.of hS r1) λa kvs ig hs hd rk nd=>?_;obtain rfl:=ig
 have hl:kvs.aq=l.aq:=by have:=bM ak.aq rk.nB;rwa [ak.bT,ak.bT]at this
 refine wpAny_truthy_dict hs hd (DO (hl▸hz)) ?_
 have:(!kvs.qt)=!l.qt:=by cases kvs<;>cases l<;>first|rfl|cases hl
 rw[this]
 exact kP hS rfl h
theorem FN{v w:V}{l l':ak V}(k:qq σ v l)(k':qq σ w l')(hz:l.aq+l'.aq<=10000)(h:Q (.aR (l++l')) σ):BV c n env .Add v w Q X σ:=tX λz9 z9 z9 z9 z9 hS r1 r2=>by
 refine xJ (k.at hS r1) λa xs nn jd e rs=>?_;obtain rfl:=jd
 refine xJ (k'.at hS r2) λb ys mm jd e' AA=>?_;obtain rfl:=jd
 haveI h1:=iJ rs
 haveI h2:=iJ AA
 refine P.add_list e e' ?_ (by rw[ak.bZ,ak.bZ,kK];exact(aF λhn=>Lake.n4 [_,_,_,_] 1 (.a (.n 16777216) (.n 1)) (.a (.v 2) (.v 3)) 1 (.a (.v 0) (.v 1)) (.n 10000) 1 (.v 2) (.v 0) 1 (.v 3) (.v 1) rfl hn hz (aO h1) (aO h2)))
 obtain⟨S',Fe⟩:=hS.jg ({cls:=.dg "list",f9:=.seq (xs.aJ++ys.aJ)}) rfl _
 refine⟨.aR (l++l'),σ,_,Fe,rfl,S',.aR (xs:=xs++ys) (n:=0) ?_ ((rs.append AA).eW Fe.sub),h⟩
 show g8 _ _ _ _=_
 rw[ak.wH]at *
 exact iQ
end
def B5:aI->aM
 |.none|.bF _|.int .. |.str ..=>true
 |_=>false
def jU:V->aM
 |.none|.bF _|.int _|.str _=>true
 |_=>false
def rf:aI->aI->aM
 |.none,.none=>true
 |.bF a,.bF b=>a==b
 |.bF a,.int b _=>(if a then 1 else 0)==b
 |.int a _,.bF b=>a==(if b then 1 else 0)
 |.int a _,.int b _=>a==b
 |.str a _,.str b _=>a==b
 |_,_=>false
def vf:V->V->aM
 |.none,.none=>true
 |.bF a,.bF b=>a==b
 |.bF a,.int b=>(if a then 1 else 0)==b
 |.int a,.bF b=>a==(if b then 1 else 0)
 |.int a,.int b=>a==b
 |.str a,.str b=>a==b
 |_,_=>false
theorem Du{A:dR}{s:aZ}{y x:aI}(hy:B5 y=true)(hx:B5 x=true):gf A s y x (rf y x):=by
 cases y<;>first|(cases hy;done)|skip
 all_goals(cases x<;>first|(cases hx;done)|skip)
 ·exact gf.eG _
 ·exact gf.none_bool _
 ·exact gf.none_int _ _
 ·exact gf.none_str _ _
 ·exact gf.bool_none _
 ·exact gf.bool_bool _ _
 ·exact gf.bool_int _ _ _
 ·exact gf.bool_str _ _ _
 ·exact gf.int_none _ _
 ·exact gf.int_bool _ _ _
 ·exact gf.int_int _ _ _ _
 ·exact gf.int_str _ _ _ _
 ·exact gf.str_none _ _
 ·exact gf.str_bool _ _ _
 ·exact gf.str_int _ _ _ _
 ·exact gf.str_str _ _ _ _
theorem Rel.flat{P:dN}{g:c7}{a b:ak aQ}{v:V}{rv:aI}(h:Rel P g a b v rv)(k:jU v=true):B5 rv=true:=by
 cases h<;>first|rfl|cases k
def QM:aI->V
 |.none=>.none
 |.bF b=>.bF b
 |.int i _=>.int i
 |.str x _=>.str x
 |v=>.st v
theorem Wu(v w:aI):rf v w=vf (QM v) (QM w):=by
 cases v<;>cases w<;>rfl
theorem Rel.QM{P:dN}{g:c7}{a b:ak aQ}{v:V}{rv:aI}(h:Rel P g a b v rv)(k:jU v=true):QM rv=v:=by
 have i:=h.inv
 cases v with
 |none=>exact bM Lake.QM i
 |bF _=>exact bM Lake.QM i
 |int _=>exact i.g9 λz9 i=>bM Lake.QM i
 |str _=>exact i.g9 λz9 i=>bM Lake.QM i
 |_=>cases k
theorem Rel.aat{P:dN}{g:c7}{a b:ak aQ}{v w:V}{rv rw:aI}(h:Rel P g a b v rv)(h':Rel P g a b w rw)(k:jU v=true)(k':jU w=true):rf rv rw=vf v w:=
 (Wu rv rw).trans (congr (bM vf (h.QM k)) (h'.QM k'))
section
variable{c:Cx}{n:Nat}{env:Env}{X:St->Prop}{σ:St}{pos:Pos}{ω:Wd}{sc:Scope}{Q:V->St->Prop}
theorem Dv{P:dN}{g:c7}{a b:ak aQ}{x:V}{rx:aI}(hx:Rel P g a b x rx)(kx:jU x=true){l:ak V}{xs:ak aI}(h:fK P g a b l xs):yM jU=true->(∀y∈xs,B5 y=true)/\xs.any (λy=>rf y rx)=l.any λy=>vf y x:=by
 refine fK.ind (M:=λl xs=>yM jU=true->(∀y∈xs,B5 y=true)/\xs.any (λy=>rf y rx)=l.any λy=>vf y x) (λz9=>⟨λz9 h=>(by cases h),rfl⟩) (λv rv l rl r z9 ih h=>?_) h
 haveI h':=(aM.bN _ _).mp h
 haveI q:=ih h'.2
 refine⟨λy hy=>?_,by rw[ak.any_cons,ak.any_cons,q.2,r.aat hx h'.1 kx]⟩
 rcases ak.bB hy with rfl|hy
 ·exact r.flat h'.1
 ·exact q.1 y hy
theorem AF{x:V}{l:ak V}(hl:yM jU=true)(hx:jU x=true)(h:Q (.bF (l.any λy=>vf y x)) σ):KV c n env .In x (.tup l) Q X σ:=tX λz9 z9 z9 z9 z9 hS r1 r2=>by
 refine xJ r2.inv λfY bG ig jd hg rs=>?_;obtain rfl:=jd
 refine iU (Dv r1 hx rs hl) λq1 q2=>?_
 refine SeqAt.in_tupleAt (bY:=ak.aJ _) (λy=>rf y _) ⟨_,hS.gr _ _ hg,rfl,_,rfl⟩ (λy hy=>Du (q1 y (ak.mem_toArray.mp hy)) (r1.flat hx)) ?_
 rw[ak.any_toArray,q2]
 exact done hS .bF h
theorem zU{x:V}{l:ak V}(hl:yM jU=true)(hx:jU x=true)(h:Q (.bF (!l.any λy=>vf y x)) σ):KV c n env .NotIn x (.tup l) Q X σ:=tX λz9 z9 z9 z9 z9 hS r1 r2=>by
 refine xJ r2.inv λfY bG ig jd hg rs=>?_;obtain rfl:=jd
 refine iU (Dv r1 hx rs hl) λq1 q2=>?_
 refine SeqAt.notIn_tupleAt (bY:=ak.aJ _) (λy=>rf y _) ⟨_,hS.gr _ _ hg,rfl,_,rfl⟩ (λy hy=>Du (q1 y (ak.mem_toArray.mp hy)) (r1.flat hx)) ?_
 rw[ak.any_toArray,q2]
 exact done hS .bF h
def N5:V->aM
 |.none|.str _=>true
 |_=>false
theorem N6{x y:V}(hx:N5 x=true)(hy:N5 y=true)(h:Q (.bF (vf x y)) σ):KV c n env .Eq x y Q X σ:=by
 cases x<;>first|(cases hx;done)|skip
 all_goals(cases y<;>first|(cases hy;done)|skip)
 ·exact FA h
 ·exact Fy h
 ·exact Fz h
 ·exact Dt h
end
section
variable{c:Cx}{n:Nat}{env:Env}{X:St->Prop}{σ:St}{pos:Pos}{ω:Wd}{sc:Scope}{Q:V->St->Prop}
theorem Sat.UY{L d:aQ}{o ob:Obj}{ao:AO}{k₀:c7}{h':c8}(S:Sat c L σ ω)(hk:ω.k=g8 k₀ d o)(h0:k₀ d=none)(hs:c8.nJ d ω.aP h')(hd:h'.cF d=az ob)(r:zg aL ω.g [] ω.b ao ob)(h1:1<d)(t:Nat):
  Sat c L {σ with W:=gJ++[ao]} {ω with s:={ω.s with d8:=h',nA:=t},k:=k₀,b:=ω.b++[d]}/\Sub ω.g ω.g ω.a ω.a ω.b (ω.b++[d])/\(ω.b++[d])[gJ.aq]?=az d:=by
 revert S hk h0 hs hd r h1
 revert c σ ω L d o ob ao k₀ h' t
 intros c σ ω L d o ob ao k₀ h' t
 intro S hk h0 hs hd r h1
 have kd:ω.k d=az o:=by rw[hk];exact iQ
 have pU:∀x,x≠d->ω.k x=k₀ x:=λx hx=>by rw[hk];unfold g8;rw[aY hx]
 have gd:ω.g d=none:=S.dk d o kd
 have n9:∀x∈L::(ω.a++ω.b),x≠d:=λx hx=>by rintro rfl;exact Lake.nn (kN x hx) kd
 have wO:∀x m,ω.kf x=az m->x≠d:=λx m e=>by rintro rfl;exact Lake.nn ((S.oJ x m e).1) kd
 have hb:∀(i:Nat)(x:aQ),ω.b[i]?=az x->(ω.b++[d])[i]?=az x:=λi x e=>by
  rw[ak.jh (ak.cz e).1];exact e
 have Fo:∀{a:ak aQ},Sub ω.g ω.g a a ω.b (ω.b++[d]):=λ{a}=>⟨λz9 z9 h=>h,λz9 z9 h=>h,hb⟩
 have aau:(ω.b++[d])[gJ.aq]?=az d:=by rw[<-S.tW.1];simp
 have RQ:∀x∈L::(ω.a++(ω.b++[d])),x∈L::(ω.a++ω.b)\/x=d:=λx hx=>by
  simp only[ak.mem_cons,ak.mem_append,ak.nZ,oW]at hx⊢
  rcases hx with h|h|h|h
  ·exact .inl (.inl h)
  ·exact .inl (.inr (.inl h))
  ·exact .inl (.inr (.inr h))
  ·exact .inr h
 refine⟨⟨qX.qu hs (n9 L (.dw _)),λx tV e=>(hs.2 x (by rintro rfl;exact Lake.nn (gd) e)).trans (S.gr x tV e),iG,⟨sO,λx hx=>?_⟩,λx v m=>?_,S.nd,?_,?_,?_,λx hx=>?_,λx tV e=>?_,λx hx=>?_,λx m e=>(S.nf x m e).qu hs (wO x m e),λx hx=>?_,λx m e=>⟨(pU x (wO x m e)).symm.trans (S.oJ x m e).1,(S.oJ x m e).2⟩,λx tV e=>?_⟩,Fo,aau⟩
 ·rcases RQ x (.cI _ hx)with h|h
  ·rcases ak.bB h with h|h
   ·rw[h];exact bh (kj c.big) sO
   ·exact S.high.2 x h
  ·rw[h];exact h1
 ·refine gg (sS x v m) λrv e r=>?_
  exact⟨rv,e,r.eW Fo⟩
 ·exact S.tT.kh Fo λx hx=>hs.2 x (n9 x (.cI _ (ak.bA _ hx)))
 ·refine⟨by simp[S.tW.1],λi o' e=>?_⟩
  by_cases hi:i<gJ.aq
  ·rw[ak.jh hi]at e
   refine oH (S.tW.2 i o' e) λx E4 e1 e2 r'=>?_
   exact⟨x,E4,hb _ _ e1,(hs.2 x (n9 x (.cI _ (ak.bg _ (ak.cg e1))))).trans e2,r'.eW Fo⟩
  ·rw[ak.jy (aF hi)]at e
   have h0:i - gJ.aq=0:=by
    cases hk:i - gJ.aq with
    |lO=>rfl
    |kU j=>rw[hk]at e;simp at e
   rw[h0]at e
   cases e
   have hi':i=gJ.aq:=by exact(dU (aF λhn=>Lake.n3 [_,_,_] 1 (.a (.v 0) (.n 1)) (.v 1) 1 (.v 2) (.n 0) 1 (.v 1) (.a (.v 2) (.v 0)) rfl hn (aO h0) (Lake.Ra _ _)) (aF λhn=>Lake.n2 [_,_] 1 (.a (.v 1) (.n 1)) (.v 0) 1 (.v 0) (.v 1) rfl hn (aF hi)))
   subst hi'
   exact⟨d,ob,aau,hd,r.eW Fo⟩
 ·have hp:(L::(ω.a++(ω.b++[d]))).Perm (d::L::(ω.a++ω.b)):=by
   have:L::(ω.a++(ω.b++[d]))=(L::(ω.a++ω.b))++[d]:=by simp
   rw[this]
   exact ak.perm_append_comm
  exact hp.nodup_iff.mpr (ak.cT.mpr ⟨λh=>n9 d h rfl,gD⟩)
 ·rcases RQ x hx with h|h
  ·exact jk x h
  ·rw[h];exact gd
 ·have hx:x≠d:=by rintro rfl;have e':k₀ x=az tV:=e;exact Lake.nn (h0) e'
  exact(hs.2 x hx).trans (S.kk x tV ((pU x hx).trans e))
 ·rcases RQ x hx with h|h
  ·exact(pU x (n9 x h)).symm.trans (kN x h)
  ·rw[h];exact h0
 ·rcases RQ x hx with h|h
  ·exact S.qC x h
  ·rw[h]
   cases q:ω.kf d with
   |none=>rfl
   |az m=>exact cO rfl (wO d m q)
 ·have hx:x≠d:=by rintro rfl;have e':k₀ x=az tV:=e;exact Lake.nn (h0) e'
  exact S.dk x tV ((pU x hx).trans e)
theorem Sat.D9{L:aQ}(S:Sat c L σ ω):1<ω.s.aC:=bh (kj c.big) (aA sO (fP qX.lt))
theorem Sat.aav{L:aQ}(S:Sat c L σ ω):ω.k ω.s.aC=none:=by
 cases e:ω.k ω.s.aC with
 |none=>rfl
 |az o'=>exact cO (c8.iu (S.kk _ _ e)) (cQ _)
theorem Sat.UZ{L:aQ}{ob:Obj}{ao:AO}(S:Sat c L σ ω)(r:zg aL ω.g [] ω.b ao ob)(hf:ob.isFreed=false):
  Sat c L {σ with W:=gJ++[ao]} {ω with s:={ω.s with d8:=ω.aP.jg ob},b:=ω.b++[ω.s.aC]}/\Le ω {ω with s:={ω.s with d8:=ω.aP.jg ob},b:=ω.b++[ω.s.aC]}/\(ω.b++[ω.s.aC])[gJ.aq]?=az ω.s.aC:=by
 refine zN ((S.KW ob hf).UY (h':=ω.aP.jg ob) rfl S.aav (c8.nJ.sI _ _) (c8.fB _ hf) r S.D9 ω.eV) λS' s' i=>?_
 exact⟨S',⟨s',rfl,rfl,rfl,rfl,rfl⟩,i⟩
theorem RU{es:ak aB}(h:WL c n env pos es (λvs fL=>vs.aq<=4096/\V.gW vs=true/\Q (.ob fL.W.aq) {fL with W:=fL.W++[.aR vs]}) X σ):WE c n env (.ak es pos) Q X σ:=λA ω hR hS=>by
 refine List_ (aW (h A ω hR hS) ?_ λz9 z9 x=>x)
 refine d9.all λkO vs bx ω₁ l₁ cW rs aaw=>?_
 refine zN aaw λhl hn d7=>?_;clear aaw
 refine pO ?_ ?_
 ·refine zN (cW.UZ (ob:={cls:=.dg "list",f9:=.seq kO.aJ}) (.aR (rs.j7 hn)) rfl) λS' l' i=>?_
  exact⟨_,_,_,l₁.trans l',rfl,S',.ob i,d7⟩
 ·show kO.aJ.dM<=fu
  rw[ak.bZ,rs.len,kK];exact(aF λhn=>Lake.n2 [_] 1 (.a (.n 16777216) (.n 1)) (.v 0) 1 (.v 0) (.n 4096) rfl hn hl)
theorem RW{ks:ak (aH aB)}{vs:ak aB}(DV:ks.all (·.sJ)=true)(hl:ks.aq=vs.aq)(h0:ks≠[])(jW:ks.aq<=15)
  (h:WD c n env pos ks vs (λps fL=>∃l,sX ps=az l/\(fM (·.1)).iT/\l.aq<=4096/\V.w6 l=true/\Q (.ob fL.W.aq) {fL with W:=fL.W++[.bO l]}) X σ):WE c n env (.Dict ks vs pos) Q X σ:=by
 revert DV hl h0 jW h
 revert c n env X σ pos Q ks vs
 intros c n env X σ pos Q ks vs
 intro DV hl h0 jW h
 intros A ω
 intro hR hS
 refine wpAny_Dict_any DV hl h0 jW ?_
 haveI Nj:=hS.KW {cls:=.dg "dict",f9:=.bO #[]} rfl
 haveI ZY:=hS.aav
 haveI hkk:∀x o,ω.k x=az o->g8 ω.k ω.s.aC {cls:=.dg "dict",f9:=.bO #[]} x=az o:=(uF (a:=[]) (b:=[]) ZY).hg
 let ω₁:Wd:={ω with s:={ω.s with d8:=ω.aP.jg {cls:=.dg "dict",f9:=.bO #[]}},k:=g8 ω.k ω.s.aC {cls:=.dg "dict",f9:=.bO #[]}}
 refine aW (h A ω₁ hR Nj) ?_ λe s' x=>x.BF hkk ⟨.sI,rfl,rfl,rfl,rfl,rfl⟩
 refine d9.all λrps ps bx dj l₂ fV rp aax=>?_
 refine Hz aax λl hsp hnd hln QN i6=>?_;clear aax
 refine gg (vZ hsp rp) λkvs hc VY=>?_
 haveI kd:dj.k ω.s.aC=az {cls:=.dg "dict",f9:=.bO #[]}:=by rw[l₂.k];exact iQ
 haveI K1:dj.aP.wu (nY.jq bU j5) ω.s.aC []:=⟨_,#[],0,fV.kk _ _ kd,⟨rfl,rfl,rfl⟩,rfl,λe he=>by simp at he,.nil,.nil⟩
 haveI hm:merged [] kvs=kvs:=by rw[BG (by simpa [VY.nB]using hnd)];rfl
 haveI Nk:kvs.aq<=fu:=by
  haveI e1:=bM ak.aq VY.nB
  simp only[ak.bT]at e1
  exact Y0 (e1▸aA hln (aD rfl))
 refine wpAny_storeAll (knd:=nY.jq bU j5) rps kvs [] _ _ hc K1 (by simpa using Nk) λh' hD hs=>?_
 rw[hm]at hD
 refine Ht (uL rfl hD VY) λes ep hg hr=>?_
 refine zN (fV.UY (ao:=.bO l) l₂.k ZY hs hg (.bO (hr.j7 QN) hnd) hS.D9 (dj.eV+rps.aq)) λlB JB i=>?_
 exact⟨.ob bx.W.aq,_,{dj with s:={dj.s with d8:=h',nA:=dj.eV+rps.aq},k:=ω.k,b:=dj.b++[ω.s.aC]},⟨l₂.sub.trans JB,l₂.iD,l₂.jE,l₂.os,rfl,l₂.kf⟩,rfl,lB,.ob i,i6⟩
end
theorem Lz(C:aQ)(r:ak aI)(kw:ak (Str×aI)):(Code.cj "type.__call__" ⟨.ref C::r,kw⟩).weight=1:=by kernel_rfl
theorem N7(a:Args):(Code.cj "type.__call__" a).cUnits=1:=by kernel_rfl
theorem RX(a:Args):(Code.cj "type.__call__" a).envs=[]:=by kernel_rfl
theorem zV{A:dR}(C:aQ)(r:ak aI)(kw:ak (Str×aI)):(A.under (.cj "type.__call__" ⟨.ref C::r,kw⟩)).frames=jF:=by
 show pushEnvs (Code.cj "type.__call__" ⟨.ref C::r,kw⟩).envs jF=_
 rw[RX];rfl
theorem xM.under{n:Nat}{A:dR}(h:xM (n+1) A)(C:aQ)(r:ak aI)(kw:ak (Str×aI)):xM n (A.under (.cj "type.__call__" ⟨.ref C::r,kw⟩)):=by
 refine⟨?_,?_,h.jm⟩
 ·have:=h.yK
  show A.yK+(Code.cj "type.__call__" ⟨.ref C::r,kw⟩).weight+_<_
  rw[Lz];exact(cP λhn=>Lake.n2 [_,_] 1 (.n 600) (.a (.a (.v 0) (.n 1)) (.m 10 (.v 1))) 1 (.a (.a (.v 0) (.m 10 (.a (.v 1) (.n 1)))) (.n 1)) (.n 600) rfl hn this)
 ·have:=h.units
  show nI+(Code.cj "type.__call__" ⟨.ref C::r,kw⟩).cUnits+_<_
  rw[N7];exact(cP λhn=>Lake.n2 [_,_] 1 (.n 9000) (.a (.a (.v 0) (.n 1)) (.m 50 (.v 1))) 1 (.a (.a (.v 0) (.m 50 (.a (.v 1) (.n 1)))) (.n 1)) (.n 9000) rfl hn this)
section
variable{c:Cx}{n:Nat}{env:Env}{X:St->Prop}{σ:St}{pos:Pos}{ω:Wd}{sc:Scope}{Q:V->St->Prop}
theorem N8{C fI:aQ}{vs:ak V}(hm:makesIn gM C=true)(hi:rG gM (.ref C) "__init__"=az (az (.ref fI)))(hf:typeIn gM (.ref fI)=az (.dg "function"))(hv:V.gW vs=true)
  (h:gj c n (.ref fI) (.cR C gJ.aq::vs) [] (λv W'=>v=.none/\Q (.cR C gJ.aq) {σ with W:=W'}) (λW'=>X {σ with W:=W'}) (gJ++[.bO []])):CV c (n+1) env (.st (.ref C)) vs Q X σ:=by
 revert hm hi hf hv h
 revert c n env X σ Q C fI vs
 intros c n env X σ Q C fI vs
 intro hm hi hf hv h
 intros A ω kO
 intro hR hS hr
 cases hr with
 |@br _ rf _ kO r rs=>
  (first|obtain rfl:=fQ|obtain⟨_,rfl⟩:=fQ|cases r)
  refine gC λG hG=>?_
  refine zN (hS.UZ (ob:=emptyDict) (ao:=.bO []) (.bO (es:=[]) (n:=0) .nil .nil) rfl) λcW l₁ aay=>?_
  refine iU (cW.jg (instObj C ω.s.aC) rfl ω.eV) λfV l₂=>?_
  refine hG ?_
  haveI yW:(ω.aP.jg emptyDict).nO.dM=ω.s.aC+1:=c8.qy ..
  haveI oM:=l₁.trans l₂
  refine rH (make_core (makes_of hS.X hm) (looks_findIn hS.X hi) (λself=>bind_fn hS.X self hf) (.inl rfl) ?_)
  generalize NB:A.under (.cj "type.__call__" ⟨.ref C::kO,[]⟩)=A'
  haveI qD:xM n A':=NB▸hR.room.under C kO []
  haveI UI:∃l,A'.frames=az l/\zO c (eY aN ω) l:=by
   rw[<-NB,zV];exact hR.outs rfl
  haveI U0:Rel aL (g8 ω.g (ω.aP.jg emptyDict).nO.dM (instObj C ω.s.aC)) [] (ω.b++[ω.s.aC]) (.cR C gJ.aq) (.ref (ω.s.aC+1)):=
   .cR aay (by rw[<-yW];exact iQ)
  refine codeAny_mono (h A' _ _ _ _ _ _ [] qD UI fV.ZG (.br U0 ((rs.j7 hv).eW ⟨oM.sub.hg,λz9 z9 h=>h,oM.sub.hb⟩)) .nil) λrv s' z=>?_
  haveI back:=yV (c:=c) (env:=env) (σ:={σ with W:=gJ++[.bO []]}) (Q:=λv fL=>v=.none/\Q (.cR C gJ.aq) fL) (X:=X) (A:=A') fV z
  rcases rv with e|(_|_|_|v)
  ·obtain⟨fL,fj,l',rfl,S',hx,q⟩:=back
   refine⟨fL,fj,oM.trans l',rfl,S',?_,q⟩
   refine gC λG hG=>?_
   rcases hx with⟨l,e1,e2⟩|e2
   ·refine hG ?_
    exact .inl ⟨l,by rw[<-e1,<-NB,zV],e2⟩
   ·refine hG ?_
    exact .inr e2
  ·exact back
  ·exact back
  ·exact back
  ·obtain⟨u,fL,fj,l',rfl,S',r,rfl,q⟩:=back
   (first|obtain rfl:=fQ|obtain⟨_,rfl⟩:=fQ|cases r)
   refine⟨rfl,⟨_,fL,fj,oM.trans l',rfl,S',?_,q⟩⟩
   exact(U0.eW ⟨λz9 z9 h=>h,λz9 z9 h=>(Lake.nn rfl h),λz9 z9 h=>h⟩).eW l'.sub
end
structure FO:Prop where
 ends:"LookupError.__new__".endsWith ".__new__"=true
 owner:"LookupError.__new__".dropRight 8="LookupError"
 entry:entryFor table "LookupError.__new__"=az dI.«BaseException.__new__»
 sub:isSubtype (.dg "KeyError") (.dg "LookupError")=gB true
 notAttr:isSubtype (.dg "KeyError") (.dg "AttributeError")=gB false
 notName:isSubtype (.dg "KeyError") (.dg "NameError")=gB false
 made:Bind.madeHere "BaseException.__new__" (.dg "KeyError")=gB ()
theorem Wv:FO where
 ends:=by decide+dK
 owner:=by decide+dK
 entry:=entryFor_alias (id':="BaseException.__new__") (by rw[xB];kernel_rfl) (by first|rfl|decide+dK) (by decide+dK) (by rw[xB];kernel_rfl)
 sub:=by rw[qe];kernel_rfl
 notAttr:=by rw[qe];kernel_rfl
 notName:=by rw[qe];kernel_rfl
 made:=by kernel_rfl
structure Ea:Prop where
 sub:isSubtype (.dg "KeyError") (.dg "KeyError")=gB true
 notType:(aI.dg "KeyError"==aI.dg "type")=false
 canMake:((Manifest.find? "KeyError").bind λx=>ak.findSome? (λt=>(Manifest.find? t).bind λb=>
  if b.noNew=true then az true else if(b.attrs.any λx=>x.fst=="__new__")=true then az false else none) x.mro).xV false=false
 noVector:∀args,checkTypeCall "KeyError" args=gB ()
 mro:∃m,mroOf (.dg "KeyError")=gB m/\m.qt=false
 madeBy:Bind.madeBy (.dg "KeyError")=gB (az "LookupError.__new__")
 quiet:"LookupError.__new__".startsWith "lifetime."=false
 newOk:∀aU,checkBuiltinCall "LookupError.__new__" ⟨.dg "KeyError"::aU,[]⟩=gB ()
 init:Slot "KeyError" "__init__" "KeyError.__init__"
 initEntry:entryFor table "KeyError.__init__"=az dI.«BaseException.__init__»
 initSplit:splitId "KeyError.__init__"=az ("KeyError","__init__")
 initKind:builtinKind "KeyError.__init__"=az .slot
 initRow:Manifest.signature? "KeyError.__init__"=az ⟨.positional,"*","KeyError",.self,[⟨"args",.varPos,false⟩]⟩
 noStar:("KeyError"!="*")=true
theorem mV:Ea where
 sub:=by rw[qe];kernel_rfl
 notType:=by decide+dK
 canMake:=by kernel_rfl
 noVector:=λargs=>by kernel_rfl
 mro:=⟨[.dg "KeyError",.dg "LookupError",.dg "Exception",.dg "BaseException",.dg "object"],by rw[mroOf_type];kernel_rfl,rfl⟩
 madeBy:=by kernel_rfl
 quiet:=by decide+dK
 newOk:=λaU=>by kernel_rfl
 init:=.of (owner:="KeyError") (n:="__init__") (by rw[vd,pK];kernel_rfl) (by decide+dK) (by decide+dK) (by decide+dK)
  (by first|exact .inl (by decide+dK)|exact .inr (by decide+dK)) (by rw[qe];kernel_rfl)
 initEntry:=entryFor_alias (id':="BaseException.__init__") (by rw[xB];kernel_rfl) (by first|rfl|decide+dK) (by decide+dK) (by rw[xB];kernel_rfl)
 initSplit:=by kernel_rfl
 initKind:=by kernel_rfl
 initRow:=by kernel_rfl
 noStar:=by decide+dK
section
variable{prog:Program}{w:World}{A:Around}{R:Result->Shared->Prop}
theorem Bh{aU:ak aI}{hp:c8}{g:dX fZ}{d:Drawn}{tk:Nat}{os:OsState}
  (h:R (.ok (.ret (.ref (hp.nO.dM+1)))) ⟨(hp.jg {cls:=.dg "tuple",f9:=.seq aU.aJ}).jg
   {cls:=.dg "KeyError",f9:=.pJ #[.ref hp.nO.dM,.none,.none,.none,.bF false,.none]},g,d,tk,os⟩)
  (zW:aU.aq<=fu):
  uz (dB lg w) A (.cj "LookupError.__new__" ⟨.dg "KeyError"::aU,[]⟩) R ⟨hp,g,d,tk,os⟩:=by
 obtain⟨af8,Ww,Wx,Bb,hna,hnn,aaz⟩:=Wv
 refine codeAny_builtinAt Wx ?_
 unfold dI.«BaseException.__new__»
 refine nY.wpAt_bind ?_
 show nY.wpAt _ _ _ (stack>>=_) _ _ _
 refine nY.wpAt_bind (nY.wpAt_stack λp below=>nY.wpAt_of_wpAny ?_)
 wp_walk
 refine nY.wpAt_of_wpAny ?_
 rw[Ww]
 wp_walk
 show R _ _
 rw[c8.qy]
 exact h
theorem B6{M:Model}{self:aI}{aU:ak aI}{E:aI->aZ->Prop}{Q:qY->aZ->Prop}
  {hp:c8}{g:dX fZ}{d:Drawn}{tk:Nat}{os:OsState}(hT:aZ.sY ⟨hp,g,d,tk,os⟩ self "KeyError")(h:Q () ⟨hp,g,d,tk,os⟩):
  cZ M A (checkBuiltinCall "KeyError.__init__" ⟨self::aU,[]⟩) Q E ⟨hp,g,d,tk,os⟩:=by
 haveI Bb:=mV.sub
 haveI aee:=mV.noStar
 simp only[checkBuiltinCall,mV.initKind,mV.initSplit,mV.initRow]
 wp_walk
 refine wpAny_onRaise ?_
 rw[show ∀(a b:u9)(n:Nat),Bind.check ⟨.positional,"*","KeyError",.self,[⟨"args",.varPos,false⟩]⟩ a b n (ak.map (λx=>x.fst) ({pos:=self::aU}:Args).kw)=gB () from
  λa b n=>check_star_args _ _ _ _ _ _]
 exact bw h
set_option maxHeartbeats 0 in
theorem C5{aU:ak aI}{E:aI->aZ->Prop}{Q:Fin->aZ->Prop}
  {hp:c8}{g:dX fZ}{d:Drawn}{tk:Nat}{os:OsState}
  (h:∀h' e,c8.MadeExc hp h' e "KeyError" aU->Q (.done (.ret (.ref e))) ⟨h',g,d,tk,os⟩)(zW:aU.aq<=fu):
  cZ (dB lg w) A (dI.«type.__call__» ⟨.dg "KeyError"::aU,[]⟩) Q E ⟨hp,g,d,tk,os⟩:=by
 haveI hnt:=mV.notType
 haveI ahJ:=mV.canMake
 haveI ahK:=mV.noVector ⟨aU,[]⟩
 refine gg mV.mro λm ahL pU=>?_
 haveI aaz:=mV.madeBy
 wp_walk
 refine codeAny_call_builtin_code (Code.quiet_builtin _ mV.quiet) (wpAny_of_eq (mV.newOk aU) ?_)
 refine Bh ?_ zW
 show cZ _ _ _ _ _ _
 haveI RY:((hp.jg {cls:=.dg "tuple",f9:=.seq aU.aJ}).jg
   {cls:=.dg "KeyError",f9:=.pJ #[.ref hp.nO.dM,.none,.none,.none,.bF false,.none]}).cF (hp.nO.dM+1)=az
   {cls:=.dg "KeyError",f9:=.pJ #[.ref hp.nO.dM,.none,.none,.none,.bF false,.none]}:=by heap_get
 refine aK (wpAny_isInstance ⟨_,RY,rfl⟩ mV.sub ?_)
 wp_step
 refine aK (cY (wpAny_callSpecial?_slot ⟨_,RY,rfl⟩ mV.init (rH (codeAny_call_builtin mV.init.plain mV.initEntry (B6 ⟨_,RY,rfl⟩ ?_)))))
 wp_walk
 refine h _ _ ⟨λb o hb=>?_,c8.get?_none_of_le (xy _),hp.nO.dM+2,?_,c8.get?_none_of_le (by exact(aF λhn=>Lake.n1 [_] (.a (.a (.v 0) (.n 2)) (.n 1)) (.v 0) rfl hn)),?_⟩
 ·rw[c8.get?_update_other _ _ (jK (gn (c8.iu hb)))]
  exact bQ _ (bQ _ (bQ _ hb))
 ·rw[c8.get?_update_self _ (bQ _ RY) rfl]
  simp only[c8.qy]
  rfl
 ·rw[c8.get?_update_other _ _ (show hp.nO.dM+1≠hp.nO.dM+2 by exact(λhn=>Lake.n1 [_] (.a (.v 0) (.n 2)) (.a (.v 0) (.n 1)) rfl (aO (Eq.symm hn))))]
  exact c8.get?_push_at (by simp only[c8.qy]) rfl
theorem N9{aU:ak aI}{E:aI->aZ->Prop}{Q:aI->aZ->Prop}{s:aZ}
  (h:∀h' e,c8.MadeExc aP h' e "KeyError" aU->Q (.ref e) {s with d8:=h'})(zW:aU.aq<=fu):
  cZ (dB lg w) A (call (.dg "KeyError") aU) Q E s:=by
 obtain⟨hp,g,d,tk,os⟩:=s
 refine rH (codeAny_of_tree ?_)
 show cZ _ _ (again (.cj "type.__call__" ⟨.dg "KeyError"::aU,[]⟩)) _ _ _
 exact bw ⟨Code.quiet_builtin _ (by decide+dK),o7 nY.entry_typeCall (C5 (λh' e hm=>h h' e hm) zW)⟩
end
theorem zX:ExcRaiseFacts "KeyError" where
 isExc:=by rw[qe];kernel_rfl
 plainMeta:=by kernel_rfl
theorem Oa:isSubtype (.dg "KeyError") (.dg "KeyError")=gB true:=by rw[qe];kernel_rfl
section
variable{c:Cx}{n:Nat}{env:Env}{X:St->Prop}{σ:St}{pos:Pos}{ω:Wd}{sc:Scope}{rest:List Stmt}{Q:Fl->St->Prop}
theorem FP{np LA:Pos}{LB:aB}(he:fU env sc)(hk:(sc.bW (aj "KeyError")==az i7)=true)(hg:nsIn gM iB (aj "KeyError")=az none)(hs:notStar LB=true)
  (h:WE c n env LB (λz9 fL=>X fL) X σ):WS c n env (.Raise (az (.Call (.mQ "KeyError" np) [LB] [] LA)) none pos::aU) Q X σ:=by
 revert he hk hg hs h
 revert c n env X σ pos sc aU Q np LA LB
 intros c n env X σ pos sc aU Q np LA LB
 intro he hk hg hs h
 intros A ω
 intro hR hS
 refine mO hR (wpAny_Raise_made zX hR.room.jm (wpAny_Call_ofName ?_))
 refine aW ((yS (Q:=λv fL=>v=.st (.dg "KeyError")/\fL=σ) (X:=X) he hk (by decide) hg (by decide+dK) (by decide) ⟨rfl,rfl⟩) A ω hR hS) ?_ λz9 z9 x=>x
 refine d9.all λrf v bx ω₁ l₁ cW r aaA=>?_
 refine iU aaA λfY bG=>?_;clear aaA;obtain rfl:=fY;obtain rfl:=bG
 (first|obtain rfl:=fQ|obtain⟨_,rfl⟩:=fQ|cases r)
 refine callWith_excType (uK (by simp[mD,hs])) (ql (by simp[mD,hs]) ?_)
 haveI hw:WL c n env LA [LB] (λvs fL=>vs.aq=1/\X fL) X bx:=wQ hs λA ω hR hS=>aW (h A ω hR hS) (λrv s⟨v,fL,fj,l,e,S,r,q⟩=>⟨v,fL,fj,l,e,S,r,uJ ⟨rfl,q⟩⟩) λz9 z9 x=>x
 refine n8 l₁ (hw A ω₁ (hR.le l₁) cW) ?_
 refine d9.all λkO vs bL dj l₂ fV rs aaB=>?_
 refine iU aaB λhl hX=>?_;clear aaB
 haveI jW:=iJ rs
 refine N9 (λh' e hx=>?_) (by show([]++kO).aq<=_;rw[ak.jw,jW,hl,kK];exact(aF λhn=>Lake.n1 [] (.a (.n 16777216) (.n 1)) (.n 1) rfl hn))
 rw[ak.jw]at hx
 refine uE hx.there λt ht ig jd=>?_
 refine⟨e,t,rfl,ht,?_⟩
 haveI kp:∀x o,Known dj x o->dj.aP.cF x=az o:=λx o k=>by
  rcases k with k|k|⟨_,k⟩
  ·exact fV.gr x o k
  ·exact fV.kk x o k
  ·exact k
 refine iU (fV.ext (h':=h') hx.kh dj.eV) λlB jT=>?_
 haveI zy:=(l₁.trans l₂).trans jT
 refine⟨bL,_,zy,rfl,lB,.inr ⟨e,kO,dj.aP,rfl,⟨hx.kh,hx.new,hx.there⟩,λx o q=>fV.gr x o (fV.yJ x o q),λx o k=>?_,fV.nf,dj.m,fV.ns⟩,hX⟩
 rcases k with k|k|⟨k1,k2⟩
 ·exact fV.gr x o k
 ·exact fV.kk x o k
 ·-- adF lay in a table lies there as it did
  haveI inT:∀(ι:ak aQ)(T:ak AO){P g a b},Tab P g a b dj.aP ι T->x∈ι->dj.aP.cF x=az o:=by
   intro ι T P g a b t AG
   refine eO (ak.mJ AG) λi iZ=>?_;refine eO iZ λhi ex=>?_;clear iZ
   haveI hi':i<T.aq:=t.1▸hi
   refine oH (t.2 i T[i] (by simp[hi'])) λy ob ey hy zw=>?_
   rw[ak.bk hi,ex]at ey
   cases ey
   have:=hx.kh x ob hy
   haveI k2':h'.cF x=az o:=k2
   rw[k2']at this;cases this;exact hy
  rcases ak.cJ k1 with k1|k1
  ·exact inT _ _ fV.tT k1
  ·exact inT _ _ fV.tW k1
end
section
variable{M:Model}{A:Around}{E:Value->Shared->Prop}{s:Shared}
theorem FQ{yJ h:c8}{env:Env}{fD:ak Env}{L e:aQ}{cls:aI}{args:ak aI}{Q:qY->aZ->Prop}
  (xN:jF=az (env::fD))(hf:env.rO=az L)(hkb:yJ.StaysIn h)(hl:h.FunFrames yJ (env::fD))(hx:c8.MadeExcOf h aP e cls args)
  (hQ:∀h' t,c8.HeldW yJ (env::fD) e cls (.ref t) L h'->aP.UpToSlots h'->Q () {s with d8:=h'}):cZ M A (noteFrame (.ref e) env) Q E s:=by
 refine uE hx.there λt he htn ht=>?_
 have fresh:∀b,h.cF b=none->yJ.cF b=none:=λb hb=>by
  cases hq:yJ.cF b with
  |none=>rfl
  |az o'=>have:=hkb b o' hq;exact Lake.nn (hb) this
 unfold noteFrame
 simp only[hf]
 refine aK (wpAny_field he rfl rfl ?_)
 show cZ M A (if(aI.none !=aI.none)=true then _ else _) Q E s
 rw[aY (by decide)]
 exact wpAny_entryW xN (hl.of_keeps λb o hb z9=>⟨o,hx.kh b o hb,rfl⟩) hf he (λb o hb=>hx.kh b o (hkb b o hb)) (fresh e hx.new) rfl (by simp) rfl λh' q=>hQ h' t ⟨q.1,fresh e hx.new,q.2.1,q.2.2.1⟩ q.2.2.2
end
section
variable{c:Cx}{n:Nat}{env:Env}{X:St->Prop}{σ:St}{pos:Pos}{ω:Wd}{sc:Scope}{rest:List Stmt}{Q:Fl->St->Prop}
theorem Sat.fly{L:aQ}(S:Sat c L σ ω){h':c8}(kp:∀x o,Known ω x o->h'.cF x=az o)(VR:ω.aP.UpToSlots h'):Sat c L σ {ω with s:={ω.s with d8:=h'}}/\Le ω {ω with s:={ω.s with d8:=h'}}:=
 ⟨⟨VR.ns qX,λx o e=>kp x o (.inl e),iG,S.high,sS,S.nd,S.tT.mK λx hx o e=>kp x o (.inr (.inr ⟨ak.bA _ hx,e⟩)),S.tW.mK λx hx o e=>kp x o (.inr (.inr ⟨ak.bg _ hx,e⟩)),gD,jk,λx o e=>kp x o (.inr (.inl e)),kN,λx m e=>VR.ns (S.nf x m e),S.qC,S.oJ,S.dk⟩,⟨.sI,rfl,rfl,rfl,rfl,rfl⟩⟩
theorem LD{A:dR}{fD:ak Env}{e:aI}{E:aI->aZ->Prop}{Qk:qY->aZ->Prop}(he:fU env sc)(hns:qL env)(xN:jF=az (env::fD))(ho:zO c ω.kf fD)(S:Sat c aN σ ω)(hx:Exc c env A ω e)
  (h:∀(ea:aQ)(a0:aI)(B h':c8),e=.ref ea->c8.HeldW B (env::fD) ea (.dg "KeyError") a0 aN h'->ω.aP.UpToSlots h'->(∀x o,gV.cF x=az o->B.cF x=az o)->(∀x o,Known ω x o->B.cF x=az o)->Qk () {ω.s with d8:=h'}):
  cZ (dB bU j5) A (noteFrame e env) Qk E ω.s:=by
 revert he hns xN ho S hx h
 revert c env σ ω sc A fD e E Qk
 intros c env σ ω sc A fD e E Qk
 intro he hns xN ho S hx h
 have Oc:env.rO=az aN:=hns.1
 refine gC λG hG=>?_
 rcases hx with⟨l,hl,ea,a0,B,rfl,QK,M7,KP⟩|⟨ea,vs,h1,rfl,hx,ZK,h1K,h1f,m1,ZL⟩
 ·refine hG ?_
  rw[xN]at hl;cases hl
  exact wpAny_looks_onW xN Oc QK λh' k1 k2=>h ea a0 B h' rfl k1 k2 M7 KP
 ·refine hG ?_
  have n9:∀x∈mL (env::fD),x=aN\/∃m,ω.kf x=az m:=λx hx=>by
   refine gg (ak.pg.mp hx) λe' he' KQ=>?_
   rcases ak.bB he' with rfl|he'
   ·rw[Oc]at KQ;cases KQ;exact .inl rfl
   ·refine gC λG hG=>?_
    refine iU (ho e' he') λfY iZ=>?_;refine oH iZ λL' m VS hm Fi=>?_;clear iZ
    refine hG ?_
    rw[KQ]at VS;cases VS;exact .inr ⟨m,hm⟩
  haveI M7:∀x o,gV.cF x=az o->(hideAll h1 (mL (env::fD))).cF x=az o:=λx o q=>hideAll_get _ (ZK x o q) λhm=>by
   rcases n9 x hm with rfl|⟨m,hm⟩
   ·exact cO (c8.iu q) (yR sO)
   ·have:=(S.oJ x m hm).2;rw[iG x o q]at this;cases this
  haveI KP:∀x o,Known ω x o->(hideAll h1 (mL (env::fD))).cF x=az o:=λx o k=>hideAll_get _ (h1K x o k) λhm=>by
   rcases n9 x hm with rfl|⟨m,hm⟩
   ·rcases k with k|k|⟨k,_⟩
    ·exact Lake.nn (jk _ (.dw _)) k
    ·exact Lake.nn (kN _ (.dw _)) k
    ·exact S.neL k rfl
   ·rcases k with k|k|⟨k,_⟩
    ·exact Lake.nn ((S.oJ x m hm).2) k
    ·exact Lake.nn ((S.oJ x m hm).1) k
    ·exact Lake.nn (S.qC x (.cI _ k)) hm
  haveI hff:h1.FunFrames (hideAll h1 (mL (env::fD))) (env::fD):=by
   refine⟨by rw[he.bD,he.su];decide,?_,?_⟩
   ·refine gC λG hG=>?_
    refine xJ ZL λob es ep ho hd MN=>?_;clear ZL
    refine hG ?_
    exact⟨aN,ob,Oc,hideAll_none _ (ak.pg.mpr ⟨env,.dw _,Oc⟩),ho,λvs q=>by rw[hd]at q;(first|obtain rfl:=q.inv|obtain⟨_,rfl⟩:=q.inv|cases q)⟩
   ·have:∀l:ak Env,(∀e'∈l,e'∈fD)->h1.FunFrames (hideAll h1 (mL (env::fD))) l:=by
     intro l
     induction l with
     |nil=>intro _;trivial
     |br e' l ih=>
      intro hl
      refine gC λG hG=>?_
      refine iU (ho e' (hl e' (.dw _))) λhk iZ=>?_;refine oH iZ λL' m hf hm Fi=>?_;clear iZ
      refine xJ (h1f L' m hm) λob es ep ho hd MN=>?_
      refine hG ?_
      exact⟨hk,⟨L',ob,hf,hideAll_none _ (ak.pg.mpr ⟨e',.cI _ (hl e' (.dw _)),hf⟩),ho,λvs q=>by rw[hd]at q;(first|obtain rfl:=q.inv|obtain⟨_,rfl⟩:=q.inv|cases q)⟩,ih λz hz=>hl z (.cI _ hz)⟩
    exact this fD λz9 h=>h
  exact FQ xN Oc (λb o q=>of_hideAll _ q) hff hx λh' t k1 k2=>h ea _ _ h' rfl k1 k2 M7 KP
theorem LH{dO:ak iW}{x:Str}{np tp hp ap:Pos}{k:Nat}{cp:Pos}(he:fU env sc)(hf:qL env)(hk:(sc.bW (aj "KeyError")==az i7)=true)(hg:nsIn gM iB (aj "KeyError")=az none)
  (hx:(sc.bW x==az .local)=true)
  (h:WS c n env dO (λfl fL=>match fl with|.next=>WS c n env aU Q X fL|.brk=>Q .brk fL|.rF=>Q .rF fL|.ret v=>Q (.ret v) fL) (λfL=>∃l',tU x .none fL.loc l'/\WS c n env aU Q X {fL with loc:=l'}) σ):
  WS c n env (.Try dO [.uA (az (.mQ "KeyError" np)) none [.wA [.mQ x tp] (.yN .none k cp) ap] hp] [] [] pos::aU) Q X σ:=by
 revert he hf hk hg hx h
 revert c n env X σ pos sc aU Q dO x np tp hp ap k cp
 intros c n env X σ pos sc aU Q dO x np tp hp ap k cp
 intro he hf hk hg hx h
 intros A ω
 intro hR hS
 refine mO hR (wpAny_Try_except (aW (h A ω hR hS) ?_ ?_))
 ·refine d9.all λf fl bx ω₁ l₁ cW rf d7=>?_
  cases rf with
  |next=>exact q9 ⟨bx,ω₁,l₁,rfl,cW,d7⟩
  |brk=>exact⟨.brk,bx,ω₁,l₁,rfl,cW,.brk,d7⟩
  |rF=>exact⟨.rF,bx,ω₁,l₁,rfl,cW,.rF,d7⟩
  |ret r=>exact⟨.ret _,bx,ω₁,l₁,rfl,cW,.ret r,d7⟩
 ·rintro e s₁ ⟨bx,ω₁,l₁,rfl,cW,hex,l',Bj,d7⟩
  refine gg ((hR.le l₁).hd hf.2) λfD xN ho=>?_
  refine LD he hf xN ho cW hex λea a0 B h2 hea aaD VR M7 KP=>?_
  subst hea
  refine wpAny_landsW aaD λh3 RZ aef=>?_
  haveI aaE:ω₁.aP.UpToSlots h3:=VR.trans aef
  refine iU (cW.fly (h':=h3) (λx o kn=>RZ.1 x o (KP x o kn)) aaE) λlB jT=>?_
  refine gg RZ.there λob HP aeg=>?_
  haveI kk:∀x o,gV.cF x=az o->h3.cF x=az o:=λx o q=>RZ.1 x o (M7 x o q)
  haveI hn:h3.Ns env.lE c.mg:=by rw[he.lE];exact c.g.kh kk
  haveI KL:h3.Ns env.j9 c.mb:=by rw[he.j9];exact c.b.kh kk
  refine wpAny_handleBy_builtin (X:="KeyError") (T:="KeyError") (b:=true) kr_isExc_KeyError kr_notTuple_KeyError Oa ?_
  refine wj he.ym (xr hk) (Calls.loadGlobal_builtin hn (mg_none_of c.X c.g hg) KL ((c.bi (aj "KeyError") (by decide)).trans (by decide+dK:vQ (aj "KeyError")=az (.dg "KeyError"))) ?_) (by decide)
  refine⟨rfl,⟨ob,HP,aeg⟩,?_⟩
  rw[bJ rfl]
  refine lands_againW RZ λh4 aeh aei=>?_
  refine iU (cW.fly (h':=h4) (λx o kn=>aeh.1 x o (KP x o kn)) (aaE.trans aei)) λpR pD=>?_
  refine wpAny_execs_cons (wpAny_Assign_Name ?_ (kZ rfl))
  rw[xQ]
  refine bw ?_
  refine zA (c:=c) (ω:={ω₁ with s:={ω₁.s with d8:=h4}}) he hx pR .none Bj λmR pX tu=>?_
  exact q9 ⟨_,mR,(l₁.trans pD).trans pX,rfl,tu,d7⟩
end
section
variable{c:Cx}{n:Nat}{env:Env}{X:St->Prop}{σ:St}{pos:Pos}{ω:Wd}{sc:Scope}{Q:V->St->Prop}
theorem Ie{a b:Int}(h:Q (.int (a+b)) σ):PV c n env .Add (.int a) (.int b) Q X σ:=tX λz9 z9 z9 z9 z9 hS r1 r2=>by(first|obtain rfl:=r1.inv|(refine eO r1.inv λfY bG=>?_;obtain rfl:=bG)|cases r1);(first|obtain rfl:=r2.inv|(refine eO r2.inv λfY bG=>?_;obtain rfl:=bG)|cases r2);exact PyProof.Rows.iadd_int (kP hS .int h)
theorem Ig{a b:Int}(h:Q (.int (a - b)) σ):PV c n env .Sub (.int a) (.int b) Q X σ:=tX λz9 z9 z9 z9 z9 hS r1 r2=>by(first|obtain rfl:=r1.inv|obtain⟨_,rfl⟩:=r1.inv|cases r1);(first|obtain rfl:=r2.inv|obtain⟨_,rfl⟩:=r2.inv|cases r2);exact PyProof.Rows.isub_int (kP hS .int h)
theorem B7{x y:Str}(hz:x.aq+y.aq<=fu)(h:Q (.str (x++y)) σ):PV c n env .Add (.str x) (.str y) Q X σ:=tX λz9 z9 z9 z9 z9 hS r1 r2=>by(first|obtain rfl:=r1.inv|(refine eO r1.inv λfY bG=>?_;obtain rfl:=bG)|cases r1);(first|obtain rfl:=r2.inv|(refine eO r2.inv λfY bG=>?_;obtain rfl:=bG)|cases r2);exact PyProof.Rows.iadd_str (λt' tk=>kP hS .str h) hz
theorem FT{P:dN}{g:c7}{a b:ak aQ}{l:ak V}{rl:ak aI}(i:Nat){v:V}{rv:aI}(hl:fK P g a b l rl)(h:Rel P g a b v rv):fK P g a b (l.set i v) (rl.set i rv):=
 fK.ind (M:=λl rl=>∀i:Nat,fK P g a b (l.set i v) (rl.set i rv)) (λz9=>.nil) (λz9 z9 z9 z9 r rs ih i=>match i with
  |0=>.br h rs
  |i+1=>.br r (ih i)) hl i
end
theorem zE{lg:uw}{w:World}{A:dR}{E:aI->aZ->Prop}{s:aZ}{l:aQ}{bY:dX aI}{nn:Nat}{k:Int}{t:Tok}{v:aI}{Q:qY->aZ->Prop}(ho:aP.cF l=az {cls:=.dg "list",f9:=.seq bY nn})
  (h0:0<=k)(R0:k<2^63)(hn:k<bY.dM)
  (hQ:Q () {s with d8:=aP.uh l (Obj.mapSeq (·.qZ k.gR v))}):cZ (dB lg w) A (setItem (.ref l) (.int k t) v) Q E s:=by
 revert ho h0 R0 hn hQ
 revert lg w A E s l bY nn k t v Q
 intros lg w A E s l bY nn k t v Q
 intro ho h0 R0 hn hQ
 haveI hl:aP.IsList l bY:=⟨_,ho,rfl,nn,rfl⟩
 unfold setItem
 try with_reducible refine cY ?_
 first|refine aK (bw ?_)|skip
 refine aK (wpAny_sequenceKey hl.vg (by decide) ?_)
 refine aK (wpAny_callSpecial?_slot (name:=aj "__setitem__") hl.vg xC
  (wpAny_call_entry xC hl.vg entry_list_setitem ?_ (args_list_setitem _ _ _)))
 show cZ _ _ (dI.ak.listSubscript? (.int k t)>>=_) _ _ s
 refine aK (wpAny_listSubscript_int (fitsIndex_of h0 R0) ?_)
 clear R0
 obtain⟨j,rfl⟩:=nP h0
 haveI hj:j<bY.dM:=dF.mp hn
 haveI AG:bY[j]?=az bY[j]:=dX.bk hj
 show cZ _ _ ((seqItemAt l j>>=λr=>gB (r.map (j,·)))>>=_) _ _ s
 refine aK (aK (wpAny_seqItemAt ho rfl (bw ?_)))
 rw[AG]
 show cZ _ _ (setSeqItemAt l j v>>=_) _ _ s
 refine aK (wpAny_setSeqItemAt ho rfl ?_)
 first
  |exact aK (bw (bw ⟨.none,rfl,bw hQ⟩))
  |exact bw ⟨.none,rfl,bw hQ⟩
section
variable{c:Cx}{n:Nat}{env:Env}{X:St->Prop}{σ:St}{pos:Pos}{ω:Wd}{sc:Scope}
theorem Eb{Q:qY->St->Prop}{v x:V}{l:ak V}{f:ak V->St}{k:Int}(m:CZ σ v l f)(h0:0<=k)(hn:k<l.aq)(hz:l.aq<=10000)(QN:(!FD v||x.j7)=true)(h:Q () (f (l.set k.gR x))):SI c n env v (.int k) x Q X σ:=wo3 λA ω rv ri rx hR hS r1 r2 r3=>by
 (first|obtain rfl:=r2.inv|(refine eO r2.inv λfY bG=>?_;obtain rfl:=bG)|cases r2)
 refine KI (m.at hS r1) λa xs nn jd e rs no put=>?_;obtain rfl:=jd
 haveI hl:=iJ rs
 refine zE e h0 (Int.wC hn (DO hz)) (by rw[ak.bZ,hl];exact hn) ?_
 haveI e':=IsL.uh e (·.qZ k.gR rx)
 refine iU (put _ (l.set k.gR x) (xs.set k.gR rx) (if(xs.aJ.qZ k.gR rx).dM==xs.aJ.dM then nn else nn+1) ω.eV (c8.nJ.uh ..) (by rw[e',ak.setIfInBounds_toArray]) (FT _ rs r3) λho=>by
  haveI h1:=no ho
  rw[ho]at QN
  haveI h2:x.j7=true:=by simpa using QN
  rw[Ay]at h1⊢
  intro u hu
  rcases ak.mem_or_eq_of_mem_set hu with q|q
  ·exact h1 u q
  ·rw[q];exact h2) λS' l'=>?_
 exact⟨(),_,_,l',rfl,S',trivial,h⟩
end
section
variable{c:Cx}{A:Around}{s:Shared}
abbrev MT(c:Cx)(t:Sem Fin)(A:dR)(R:rI->aZ->Prop)(s:aZ):Prop:=
 cZ (dB bU j5) tQ t (λfin s'=>match fin with|.done f=>R (.ok f) s'|.again c'=>c'.quiet=true/\uz (dB bU j5) A c' R s') (λe s'=>R (.error e) s') s
def Ih(c:Cx)(A:dR)(s:aZ)(y x:aI):Prop:=∀(E:aI->aZ->Prop)(Q:aM->aZ->Prop),Q true s->cZ (dB bU j5) A (eqBool y x) Q E s
theorem Ii{y x:aI}(h:gf A s y x true):Ih c A s y x:=λE Q q=>h bU j5 E Q q
theorem LJ(l b:aQ)(bY j6:dX aI)(n n2:Nat)(yW:bY.dM=j6.dM)(k:Nat):
  ∀(i:Nat)(A:dR)(R:rI->aZ->Prop)(s:aZ),bY.dM - i=k->aP.cF l=az {cls:=.dg "list",f9:=.seq bY n}->aP.cF b=az {cls:=.dg "list",f9:=.seq j6 n2}->
   (∀j(h1:j<bY.dM)(h2:j<j6.dM),Ih c tQ s bY[j] j6[j])->R (.ok (.ret (.bF true))) s->MT c (dI.«list.__eq__.loop» ⟨[.ref l,.ref b,rawInt i,rawInt 2],[]⟩) A R s:=by
 induction k with
 |lO=>
  intro i A R s hk hl hb he h
  obtain⟨hp,g,d,tk,os⟩:=s
  unfold MT
  wp_walk using gq hl,gq hb
  have QO:bY[((i:Nat):Int).gR]?=none:=dX.l9 (tR hk)
  have MP:j6[((i:Nat):Int).gR]?=none:=dX.l9 (yW▸tR hk)
  rw[QO,MP]
  wp_walk using gq hl,gq hb
  show R (.ok (.ret (.bF (bY.dM==j6.dM)))) _
  rw[yW,cU]
  exact h
 |kU k ih=>
  intro i A R s hk hl hb he h
  obtain⟨hp,g,d,tk,os⟩:=s
  unfold MT
  wp_walk using gq hl,gq hb
  have lM:i<bY.dM:=Nat.sub_pos_iff_lt.mp (hk▸cD k)
  have Od:i<j6.dM:=yW▸lM
  have QO:bY[((i:Nat):Int).gR]?=az bY[i]:=dX.bk lM
  have MP:j6[((i:Nat):Int).gR]?=az j6[i]:=dX.bk Od
  have hc:((i:Int)+1)=((i+1:Nat):Int):=by push_cast;rfl
  rw[QO,MP]
  refine aK (he i lM Od _ _ ?_)
  wp_walk
  rw[hc]
  exact⟨uB i8 _,o7 rR (by
   rw[dR.uC i8 _]
   exact ih (i+1) A R _ (by rw[qg,hk];rfl) hl hb he h)⟩
theorem LK(l b:aQ)(bY j6:dX aI)(n n2:Nat)(yW:bY.dM=j6.dM)(k:Nat):
  ∀(i:Nat)(A:dR)(R:rI->aZ->Prop)(s:aZ),bY.dM - i=k->aP.cF l=az {cls:=.dg "list",f9:=.seq bY n}->aP.cF b=az {cls:=.dg "list",f9:=.seq j6 n2}->
   (∀j(h1:j<bY.dM)(h2:j<j6.dM),Ih c tQ s bY[j] j6[j])->R (.ok (.ret (.bF false))) s->MT c (dI.«list.__eq__.loop» ⟨[.ref l,.ref b,rawInt i,rawInt 3],[]⟩) A R s:=by
 induction k with
 |lO=>
  intro i A R s hk hl hb he h
  obtain⟨hp,g,d,tk,os⟩:=s
  unfold MT
  wp_walk using gq hl,gq hb
  have QO:bY[((i:Nat):Int).gR]?=none:=dX.l9 (tR hk)
  have MP:j6[((i:Nat):Int).gR]?=none:=dX.l9 (yW▸tR hk)
  rw[QO,MP]
  wp_walk using gq hl,gq hb
  show R (.ok (.ret (.bF (bY.dM !=j6.dM)))) _
  rw[yW,s7]
  exact h
 |kU k ih=>
  intro i A R s hk hl hb he h
  obtain⟨hp,g,d,tk,os⟩:=s
  unfold MT
  wp_walk using gq hl,gq hb
  have lM:i<bY.dM:=Nat.sub_pos_iff_lt.mp (hk▸cD k)
  have Od:i<j6.dM:=yW▸lM
  have QO:bY[((i:Nat):Int).gR]?=az bY[i]:=dX.bk lM
  have MP:j6[((i:Nat):Int).gR]?=az j6[i]:=dX.bk Od
  have hc:((i:Int)+1)=((i+1:Nat):Int):=by push_cast;rfl
  rw[QO,MP]
  refine aK (he i lM Od _ _ ?_)
  wp_walk
  rw[hc]
  exact⟨uB i8 _,o7 rR (by
   rw[dR.uC i8 _]
   exact ih (i+1) A R _ (by rw[qg,hk];rfl) hl hb he h)⟩
theorem call_MT{T:u9}{name:Str}{id:u9}{B:dI}{self:aI}{aU:ak aI}{Q E:aI->aZ->Prop}(slot:Slot T name id)(hT:s.sY self T)
  (entry:entryFor table id=az B)(args:argsOk id ⟨self::aU,[]⟩)(g:MT c (B ⟨self::aU,[]⟩) A (wants Q E) s):
  cZ (dB bU j5) A (call (.cj id) (self::aU)) Q E s:=
 rH (codeAny_call_builtin slot.plain entry (slot.check _ _ _ _ _ _ _ _ hT args g))
section
variable{l b:Addr}{items j6:Array Value}{n n2:Nat}{Q E:Value->Shared->Prop}(hl:s.heap.get? l=some {cls:=.type "list",data:=.seq items n})(hb:s.heap.get? b=some {cls:=.type "list",data:=.seq j6 n2})(yW:items.size=j6.size)(hu:A.units<cLine)
 (he:∀j(h1:j<items.size)(h2:j<j6.size),Ih c A.in1 s items[j] j6[j])
include hl hb yW hu he
theorem Oe(h:Q (.bF true) s):cZ (dB bU j5) A (richCompare .Eq (.ref l) (.ref b)) Q E s:=by
 refine vV (op:=.Eq) ⟨_,hl,rfl⟩ ⟨_,hb,rfl⟩ F.slot_list_eq (call_MT F.slot_list_eq ⟨_,hl,rfl⟩ F.entry_list_eq (F.args_list_eq_2 _ _) ?_) hu
 obtain⟨hp,g,d,tk,os⟩:=s
 have f3:=AutoSeq1.sub_list_list
 have pU:¬(bY.dM !=j6.dM)=true:=by rw[yW,s7];exact aM.bK
 show MT c _ A _ _
 unfold MT
 wp_walk using gq hl,gq hb
 exact⟨uB i8 _,o7 rR (by
  rw[dR.uC i8 _]
  exact LJ l b bY j6 n n2 yW _ 0 A _ _ rfl hl hb he ⟨(λx=>(by cases x)),h⟩)⟩
theorem Of(h:Q (.bF false) s):cZ (dB bU j5) A (richCompare .NotEq (.ref l) (.ref b)) Q E s:=by
 refine vV (op:=.NotEq) ⟨_,hl,rfl⟩ ⟨_,hb,rfl⟩ F.slot_list_ne (call_MT F.slot_list_ne ⟨_,hl,rfl⟩ F.entry_list_ne (F.args_list_ne_2 _ _) ?_) hu
 obtain⟨hp,g,d,tk,os⟩:=s
 have f3:=AutoSeq1.sub_list_list
 have pU:¬(bY.dM !=j6.dM)=true:=by rw[yW,s7];exact aM.bK
 show MT c _ A _ _
 unfold MT
 wp_walk using gq hl,gq hb
 exact⟨uB i8 _,o7 rR (by
  rw[dR.uC i8 _]
  exact LK l b bY j6 n n2 yW _ 0 A _ _ rfl hl hb he ⟨(λx=>nomatch x),h⟩)⟩
end
theorem Ih.eG(v:aI):Ih c A s v v:=Ii (gf.eG v)
theorem Ih.of_rc{l b:aQ}(h:l≠b->∀(E Q:aI->aZ->Prop),Q (.bF true) s->cZ (dB bU j5) A (richCompare .Eq (.ref l) (.ref b)) Q E s):Ih c A s (.ref l) (.ref b):=by
 by_cases e:l=b
 ·subst e;exact .eG _
 ·intro E Q q
  unfold eqBool
  refine cY ?_
  refine wpAny_ite_split (λRi=>cO (by have:=cL Ri;injection this) e) (λz9=>?_)
  exact aK (h e E _ (wpAny_truthy_bool q))
end
section
variable{c:Cx}{A:Around}{s:Shared}
def xd(c:Cx)(A:dR)(s:aZ)(kb l:ak (Str×aI)):Prop:=∀p∈l,∃y,rA kb p.1=az y/\Ih c A s p.2 y
theorem xd.nil{kb:ak (Str×aI)}:xd c A s kb []:=λz9 h=>by cases h
theorem xd.hit{kb:ak (Str×aI)}{k:Str}{v y:aI}{r:ak (Str×aI)}(h:rA kb k=az y)(e:Ih c A s v y)(t:xd c A s kb r):xd c A s kb ((k,v)::r):=λp m=>(ak.bB m).g9 (λq=>q▸⟨y,h,e⟩) (t p)
theorem xd.inv{kb:ak (Str×aI)}{k:Str}{v:aI}{r:ak (Str×aI)}(h:xd c A s kb ((k,v)::r)):∃y,rA kb k=az y/\Ih c A s v y/\xd c A s kb r:=(h _ (.dw _)).imp λz9 q=>⟨q.1,q.2,λp m=>h p (.cI _ m)⟩
theorem Ij{nm:u9}{a b:aQ}{ka kb:ak (Str×aI)}{E:aI->aZ->Prop}{Q:aM->aZ->Prop}(ha:(a==wG)=false)(hb:(b==wG)=false)
  (da:aP.wu (nY.jq bU j5) a ka)(db:aP.wu (nY.jq bU j5) b kb)(jW:ka.aq=kb.aq)(hits:xd c A s kb ka)(h:Q true s):
  cZ (dB bU j5) A (dI.Dict.samePairs nm a b) Q E s:=by
 revert ha hb da db jW hits h
 revert c A s nm a b ka kb E Q
 intros c A s nm a b ka kb E Q
 intro ha hb da db jW hits h
 refine gC λG hG=>?_
 refine x36 da λoa es ep hoa zw hda hka hpa ζ8=>?_;clear da
 refine x36 db λob Og ep' HP zw hdb hkb hpb ζ8=>?_;clear db
 refine hG ?_
 have Za:ka.aq=es.dM:=by rw[<-hpa.aq];exact dX.iM
 have hlb:kb.aq=Og.dM:=by rw[<-hpb.aq];exact dX.iM
 have U6:∀k,findBy (nY.jq bU j5).is Og k=rA kb k:=λk=>by
  rw[<-hpb.find k]
  clear hlb hpb hkb hdb HP
  obtain⟨l⟩:=Og
  simp[findBy]
 haveI yW:es.dM=Og.dM:=by rw[<-Za,<-hlb,jW]
 unfold dI.Dict.samePairs dI.Dict.showsAll
 rw[aY (show ¬(a==wG)=true by rw[ha];exact aM.bK),aY (show ¬(b==wG)=true by rw[hb];exact aM.bK)]
 refine aK (bw (aK (bw ?_)))
 refine aK (xD hoa hda ?_)
 dsimp only
 refine aK (xD HP hdb ?_)
 rw[aY (by rw[yW,s7];exact aM.bK)]
 refine aK (wpAny_dictEpoch hoa hda ?_)
 refine aK ?_
 rw[Std.Legacy.Range.forIn_eq_forIn_range']
 rw[show Std.Legacy.Range.dM _=es.dM from Nat.div_one _]
 refine wpAny_forIn_list _
  (λaU q s'=>s'=s/\q=(none,())/\∃i,aU=ak.range' i (es.dM - i)/\i<=es.dM/\xd c A s kb (ka.fX i))
  _ ?_ ?_ _ _ ⟨rfl,rfl,0,rfl,bC _,hits⟩
 ·intro x aU q s' Bf
  refine gC λG hG=>?_
  refine zN Bf λfY bG iZ=>?_;clear Bf;obtain rfl:=fY;obtain rfl:=bG;refine uE iZ λi hr hi hpre=>?_;clear iZ
  have lM:i<es.dM:=by
   rcases qx i es.dM with h|h
   ·exact h
   ·rw[Nat.sub_eq_zero_of_le h]at hr;cases hr
  obtain⟨rfl,zW⟩:x=i/\aU=ak.range' (i+1) (es.dM - (i+1)):=by
   have e:es.dM - i=(es.dM - (i+1))+1:=by rw[qg,wJ (xE lM)]
   rw[e,ak.range'_succ]at hr
   injection hr with h1 h2
   exact⟨h1,h2⟩
  refine hG ?_
  refine aK (xD hoa hda ?_)
  rw[dX.bk lM]
  have aaF:x<ka.aq:=by rw[Za];exact lM
  refine gC λG hG=>?_
  obtain⟨k,v,Zb⟩:∃k v,ka[x]=(k,v):=⟨_,_,rfl⟩
  haveI aaG:ka.fX x=(k,v)::ka.fX (x+1):=by rw[<-Zb];exact ak.jY aaF
  refine iU (hpa.cF (i:=x) (e:=es[x]) (k:=k) (v:=v) (by rw[dX.getElem?_toList];exact dX.bk lM) (by rw[ak.bk aaF,Zb])) λOh aaH=>?_
  refine gg (hka es[x] (dX.getElem_mem lM)) λk' Dq hh=>?_
  haveI ekk:k'=k:=(nY.jq bU j5).inj _ _ _ Dq Oh
  rw[ekk]at hh
  rw[aaG]at hpre
  refine uE hpre.inv λy hy he hrr=>?_
  refine hG ?_
  show cZ _ _ (qw [es[x].key,es[x].val] _>>=_) _ _ _
  rw[hh]
  refine aK (cY (aK (wpAny_dictFind_of Oh HP hdb hkb ?_)))
  cases hj:Og.findIdx? λe=>(nY.jq bU j5).is k e.key with
  |none=>
   haveI hn:rA kb k=none:=by rw[<-U6 k,findBy_of_findIdx?,hj]
   rw[hn]at hy;cases hy
  |az j=>
   refine gC λG hG=>?_
   refine gg (dX.findIdx?_eq_some_iff_getElem.mp hj) λaaI bG ig=>?_
   refine hG ?_
   haveI hv':rA kb k=az Og[j].val:=by
    rw[<-U6 k,findBy_of_findIdx?,hj]
    show(Og[j]?).map _=_
    rw[dX.bk aaI];rfl
   refine aK (xD HP hdb ?_)
   rw[dX.bk aaI]
   haveI ey:Og[j].val=y:=aH.az.inj (hv'.symm.trans hy)
   rw[<-ey,<-aaH]at he
   refine cY (he _ _ ?_)
   show cZ _ _ (if(!true)=true then _ else _) _ _ _
   rw[aY (by decide)]
   refine aK (wpAny_dictEpoch hoa hda ?_)
   rw[aY (by rw[s7];exact aM.bK)]
   exact bw ⟨rfl,rfl,x+1,zW,lM,hrr⟩
 ·rintro q s' ⟨rfl,rfl,i,hr,hi,hpre⟩
  exact bw h
section
variable{a b:Addr}{ka kb:List (Str×Value)}{Q E:Value->Shared->Prop}(ha:(a==sysModules)=false)(hb:(b==sysModules)=false)(da:s.heap.DictOf (PySem.strKind c.prog c.w) a ka)(db:s.heap.DictOf (PySem.strKind c.prog c.w) b kb)(hlen:ka.length=kb.length)(hu:A.units<cLine)(hits:xd c A.in1 s kb ka)
include ha hb da db hlen hu hits
theorem Oi(h:Q (.bF true) s):cZ (dB bU j5) A (richCompare .Eq (.ref a) (.ref b)) Q E s:=by
 refine vV (op:=.Eq) da.vg db.vg nY.F.slot_dict_eq (wpAny_call_entry nY.F.slot_dict_eq da.vg nY.F.entry_dict_eq ?_ (nY.F.args_dict_eq_2 _ _)) hu
 show cZ _ _ (dI.Dict.dictSlotArgs "__eq__" ⟨[.ref a,.ref b],[]⟩>>=_) _ _ s
 refine aK ?_
 unfold dI.Dict.dictSlotArgs
 refine aK (wpAny_notOrdered_dict da.vg ?_)
 show cZ _ _ (gB (aI.ref a,aI.ref b)) _ _ s
 refine bw ?_
 refine aK (wpAny_isInstance (T:="dict") db.vg nY.F.sub_dict_dict ?_)
 rw[aY (show ¬(!true)=true by decide)]
 refine aK (bw (aK (bw ?_)))
 refine aK (Ij ha hb da db jW hits ?_)
 exact bw ⟨_,rfl,(λx=>by cases x),h⟩
end
end
mutual
noncomputable def V.pure:V->Bool
 |.none=>true
 |.bool _=>true
 |.int _=>true
 |.str _=>true
 |.list l=>V.qF l
 |.dict l=>V.B8 l
 |_=>false
noncomputable def V.qF:List V->Bool
 |[]=>true
 |v::r=>v.pure&&V.qF r
noncomputable def V.B8:List (Str×V)->Bool
 |[]=>true
 |(_,v)::r=>v.pure&&V.B8 r
end
mutual
noncomputable def V.dep:V->Nat
 |.list l=>V.depL l+1
 |.dict l=>V.depD l+1
 |_=>0
noncomputable def V.depL:List V->Nat
 |[]=>0
 |v::r=>max v.dep (V.depL r)
noncomputable def V.depD:List (Str×V)->Nat
 |[]=>0
 |(_,v)::r=>max v.dep (V.depD r)
end
abbrev hp(h:c8):c7:=λx=>h.cF x
def RcT(c:Cx)(A:dR)(s:aZ)(rv ru:aI):Prop:=∀(E Q:aI->aZ->Prop),Q (.bF true) s->cZ (dB bU j5) A (richCompare .Eq rv ru) Q E s
def EqM(c:Cx)(s:aZ)(d:V):Prop:=∀(A:dR)(rv ru:aI),d.gB=true->nI+d.dep<cLine->Rel aL (hp aP) [] [] d rv->Rel aL (hp aP) [] [] d ru->Ih c A s rv ru/\∀l,d=.aR l->RcT c A s rv ru
def ael(c:Cx)(s:aZ)(l:ak V):Prop:=∀(A:dR)(xs ys:ak aI),V.qF l=true->nI+V.depL l<cLine->fK aL (hp aP) [] [] l xs->fK aL (hp aP) [] [] l ys->∀(j:Nat)(h1:j<xs.aq)(h2:j<ys.aq),Ih c A s xs[j] ys[j]
def aem(c:Cx)(s:aZ)(l:ak (Str×V)):Prop:=∀(A:dR)(whole:ak (Str×V))(kvs U7:ak (Str×aI)),V.B8 l=true->nI+V.depD l<cLine->jC aL (hp aP) [] [] l kvs->jC aL (hp aP) [] [] whole U7->(whole.map (·.1)).iT->(∀p∈l,p∈whole)->xd c A s U7 kvs
theorem eqV{c:Cx}{s:aZ}(d:V):EqM c s d:=by
 revert c s d
 intros c s d
 have sm:∀{A d rv},(∀l,d≠V.aR l)->Ih c A s rv rv/\∀l,d=.aR l->RcT c A s rv rv:=λh=>⟨.eG _,λl e=>(h l e).g9⟩
 have no:∀{d:V},d.gB=false->EqM c s d:=λh z9 z9 z9 e=>by rw[h]at e;cases e
 have w1:∀{A:dR}{k:Nat},nI+(k+1)<cLine->tQ.units+k<cLine:=λ{A k}h=>(Nat.sZ nI 1 k).symm▸h
 have w2:∀{A:dR}{a b:Nat},nI+max a b<cLine->nI+a<cLine/\nI+b<cLine:=λh=>⟨b9 (bH (Nat.le_max_left _ _) _) h,b9 (bH (Nat.le_max_right _ _) _) h⟩
 refine V.rec (motive_1:=EqM c s) (motive_2:=ael c s) (motive_3:=aem c s) (motive_4:=λp=>EqM c s p.2) ?_ (λz9=>?_) (λi=>?_) (λx=>?_) (λz9=>no rfl) (λz9=>no rfl) (λz9=>no rfl) (λz9 z9=>no rfl) (λz9 z9=>no rfl) (λl ih=>?_) (λl ih=>?_) (λz9 z9 z9=>no rfl) ?_ (λv l i1 i2=>?_) ?_ (λp l i1 i2=>?_) (λz9 z9 h=>h) d
 ·intro A rv ru _ _ r r'
  obtain rfl:=fQ
  obtain rfl:=r'.inv
  exact sm nofun
 ·intro A rv ru _ _ r r'
  obtain rfl:=fQ
  obtain rfl:=r'.inv
  exact sm nofun
 ·intro A rv ru _ _ r r'
  obtain⟨t,rfl⟩:=fQ
  obtain⟨u,rfl⟩:=r'.inv
  have:=gf.int_int (A:=A) (s:=s) i t i u
  rw[cU]at this
  exact⟨Ii this,nofun⟩
 ·intro A rv ru _ _ r r'
  obtain⟨t,rfl⟩:=fQ
  obtain⟨u,rfl⟩:=r'.inv
  have:=gf.str_str (A:=A) (s:=s) x t x u
  rw[cU]at this
  exact⟨Ii this,nofun⟩
 ·intro A rv ru Bj hd r r'
  obtain⟨x,xs,k,rfl,hg,rs⟩:=fQ
  obtain⟨y,ys,k',rfl,Wy,AA⟩:=r'.inv
  have h:=ih tQ xs ys Bj (w1 hd) rs AA
  have rc:RcT c A s (.ref x) (.ref y):=λz9 z9 q=>Oe hg Wy ((iJ rs).trans (iJ AA).symm) (b9 (cu _ _) hd) (λj j1 j2=>h j j1 j2) q
  exact⟨.of_rc λz9=>rc,λz9 z9=>rc⟩
 ·intro A rv ru Bj hd r r'
  obtain⟨x,es,k,rfl,hg,hx,rs,nd⟩:=fQ
  obtain⟨y,Og,k',rfl,Wy,hy,AA,Rh⟩:=r'.inv
  obtain⟨kvs,d1,k1⟩:=rY (c:=c) rfl hg rs nd
  obtain⟨U7,d2,k2⟩:=rY (c:=c) rfl Wy AA Rh
  have h:kvs.aq=U7.aq:=by have:=bM ak.aq (k1.nB.trans k2.nB.symm);rwa [ak.bT,ak.bT]at this
  exact⟨.of_rc λz9 z9 z9 q=>Oi (JO hx) (JO hy) d1 d2 h (b9 (cu _ _) hd) (ih tQ l kvs U7 Bj (w1 hd) k1 k2 Rh λz9 h=>h) q,nofun⟩
 ·intro A xs ys _ _ r _ j h1
  cases r
  exact cO h1 (lH _)
 ·intro A xs ys Bj hd r r' j h1 h2
  cases r with
  |br r rs=>cases r' with
   |br r' AA=>cases j with
    |lO=>exact(i1 A _ _ (mz Bj).1 (w2 hd).1 r r').1
    |kU j=>exact i2 A _ _ (mz Bj).2 (w2 hd).2 rs AA j (lU h1) (lU h2)
 ·intro A whole kvs U7 _ _ r _ _ _
  obtain rfl:=(r:kvs=[])
  exact .nil
 ·intro A whole kvs U7 Bj hd r h nd n9
  obtain⟨q,kvs,rfl,r,rs⟩:=(r:∃y t,kvs=y::t/\(p.1=y.1/\Rel aL (hp aP) [] [] p.2 y.2)/\jC aL (hp aP) [] [] l t)
  obtain⟨k,u⟩:=p
  obtain⟨_,v⟩:=q
  obtain⟨rfl,r⟩:=r
  obtain⟨ru,e,r'⟩:=h.at nd (n9 _ (.dw _))
  exact .hit e (i1 A _ _ (mz Bj).1 (w2 hd).1 r r').1 (i2 A whole _ U7 (mz Bj).2 (w2 hd).2 rs h nd λp hp=>n9 p (.cI _ hp))
theorem xF{P:dN}{g g':c7}{a b:ak aQ}(h:∀x o,g x=az o->g' x=az o){v:V}{rv:aI}(hp:v.gB=true)(hr:Rel P g a b v rv):Rel P g' [] [] v rv:=@Rel.rec P g a b (λv rv z9=>v.gB=true->Rel P g' [] [] v rv) (λv rv z9=>V.qF v=true->fK P g' [] [] v rv) (λv rv z9=>V.B8 v=true->kE P g' [] [] v rv) (λz9=>.none) (λz9=>.bF) (λz9=>.int) (λz9=>.str) (λe=>cO (show false=true from e) aM.bK) (λz9 e=>cO (show false=true from e) aM.bK) (λz9 e=>cO (show false=true from e) aM.bK) (λz9 z9 e=>cO (show false=true from e) aM.bK) (λz9 z9 z9 e=>cO (show false=true from e) aM.bK) (λhg z9 ih e=>.aR (h _ _ hg) (ih e)) (λhg q z9 n ih e=>.bO (h _ _ hg) q (ih e) n) (λz9 z9 z9 e=>cO (show false=true from e) aM.bK) (λz9=>.nil) (λz9 z9 i1 i2 e=>.br (i1 (mz e).1) (i2 (mz e).2)) (λz9=>.nil) (λz9 z9 i1 i2 e=>.br (i1 (mz e).1) (i2 (mz e).2)) _ _ hr hp
theorem V.Ik{P:dN}{g g':c7}{a b:ak aQ}(h:∀x o,g x=az o->g' x=az o){v:ak V}{rv:ak aI}(hp:V.qF v=true)(hr:fK P g a b v rv):fK P g' [] [] v rv:=fK.ind (M:=λv rv=>V.qF v=true->fK P g' [] [] v rv) (λz9=>.nil) (λz9 z9 z9 z9 r z9 ih e=>.br (xF h (mz e).1 r) (ih (mz e).2)) hr hp
theorem Dw{P:dN}{h:c8}{g:c7}{ls:ak Int}:∀{vs:ak aI},WellAll P h vs (ofPys (rK PyData.int))->fK P g [] [] (rK p8) vs:=by
 revert P h g ls
 intros P h g ls
 induction ls with
 |nil=>intro _ h;cases(h:WellAll P _ _ []);exact .nil
 |br i ls ih=>
  intro _ h
  cases(h:WellAll P _ _ (ofPy (.int i)::ofPys (rK PyData.int)))with
  |br a b=>cases(a:Well P _ _ (.int i));exact .br .int (ih b)
theorem gj.up{c:Cx}{k n:Nat}{f:aI}{vs:ak V}{kw:ak (Str×V)}{Q:V->ak AO->Prop}{X:ak AO->Prop}{W:ak AO}(h:gj c k f vs kw Q X W)(hk:k<=n):gj c n f vs kw Q X W:=
 λA s b g k' kf kO BC hR=>h A s b g k' kf kO BC (hR.eW hk)
theorem B9(g:fZ)(r:ak fZ):BA (g::r)=g::BA r\/BA (g::r)=[]/\BA r=[]/\g=.oV:=by
 show Zx g (BA r)=_\/Zx g (BA r)=[]/\_
 cases BA r with
 |br a b=>exact .inl rfl
 |nil=>cases g with
  |oV=>exact .inr ⟨rfl,rfl,rfl⟩
  |_=>exact .inl rfl
theorem Dy(l:ak fZ):∃f,l=BA l++f/\∀y∈f,y=.oV:=by
 induction l with
 |nil=>exact⟨[],rfl,λz9 h=>nomatch h⟩
 |br g r ih=>
  refine gg ih λf h1 h2=>?_;clear ih
  rcases B9 g r with h|⟨h,h',rfl⟩
  ·exact⟨f,by rw[h];exact bM _ h1,h2⟩
  ·rw[h',ak.jw]at h1
   exact⟨.oV::r,by rw[h];rfl,λy hy=>(ak.bB hy).g9 id λhy=>h2 y (h1▸hy)⟩
theorem R1{l:ak fZ}(h:BA l=[]):∀x∈l,x.bare=true:=λx hx=>by
 refine gg (Dy l) λf h1 h2=>?_
 rw[h,ak.jw]at h1
 rw[h2 x (h1▸hx)];rfl
theorem Ca{a:dX fZ}(h:gk a=gk #[]):AllBare a:=λx hx=>R1 (h.trans rfl) x (dX.mem_toList_iff.mpr hx)
theorem acO{lg:uw}{w:World}{K:xP}{claim:ClaimW}{cl:Str->aH aQ}{Oj:ExcName->aH aI}{args:ak WData}{p:uw}{loose:ak Str}{mn:ExcName->aH aI}{s₁:aZ}{mg mb:Str->aH aI}{d7:c8}{fa a:aQ}{cd:aI}{name:Str}{sc:gO}{dO:ak iW}{ls:ak Int}{tk:Nat}{x:Str}{cG:ak Str}{E:aI->aZ->Prop}
  (KX:K.In s₁.d8)(T:Top p loose mn mg mb s₁.d8)(hg:s₁.iD=#[])(F:Fr s₁.d8 s₁.aC d7 (λy=>[(x,aI.ref a)].sU.eF y))(w1:Well w.params s₁.d8 (.ref a) (ofPy (.aR (rK .int))))
  (hk:sc.su=.ng)(hnd:([x]++cG).iT)
  (h:∀c:Cx,bU=lg->j5=w->gM=K->∀env,fU env sc->qL env->WS c 29 env dO (λfl z9=>fl=.ret (.bF true)) (λz9=>cM) ⟨Bc [(x,.aR (rK p8))] cG,[],[]⟩)
  (hn:∀cls,claim.raises args cls=false)(hp:claim.post args (.bF true) args=true):
  cZ (dB lg w) (callerA.deeper (envOf name sc s₁.aC fa cd)) (vC dO (envOf name sc s₁.aC fa cd)) (λf s'=>GoodWG claim cl Oj args s₁ (.ok (.ret (match f with|.ret v=>v|_=>.none))) s') E {s₁ with d8:=d7,nA:=tk}:=by
 let c:Cx:={lg:=lg,w:=w,K:=K,qJ:=s₁.d8,mg:=mg,mb:=mb,X:=KX,nl:=T.nolimit,g:=T.g,b:=T.b,bi:=T.j9,nd:=T.nodigits}
 let ω:Wd:={s:={s₁ with d8:=d7,nA:=tk},m:=λy=>[(x,aI.ref a)].sU.eF y,a:=[],b:=[],g:=λy=>s₁.d8.cF y,k:=λz9=>none,kf:=λz9=>none}
 haveI he:fU (envOf name sc s₁.aC fa cd) sc:=⟨rfl,hk,rfl,rfl⟩
 haveI hf:qL (envOf name sc s₁.aC fa cd):=⟨rfl,rfl⟩
 haveI Bk:s₁.d8.cF s₁.aC=none:=by
  cases q:s₁.d8.cF s₁.aC with
  |none=>rfl
  |az o=>exact cO (c8.iu q) (cQ _)
 haveI S:Sat c (envOf name sc s₁.aC fa cd).locals ⟨Bc [(x,.aR (rK p8))] cG,[],[]⟩ ω:=by
  refine⟨F.ns,λy o e=>F.gr y o e,λy o e=>e,⟨bz _,λy hy=>(by cases hy)⟩,?_,?_,⟨rfl,λi o e=>(by cases e)⟩,⟨rfl,λi o e=>(by cases e)⟩,ak.cT.mpr ⟨λh=>(by cases h),ak.nodup_nil⟩,λy hy=>(ak.bR hy)▸Bk,λz9 z9 e=>(by cases e),λz9 z9=>rfl,λz9 z9 e=>(by cases e),λz9 z9=>rfl,λz9 z9 e=>(by cases e),λz9 z9 e=>(by cases e)⟩
  ·intro y v m
   refine gC λG hG=>?_
   rcases ak.cJ m with m|m
   ·cases ak.bR m
    refine hG ⟨.ref a,ak.lookup_cons_self,?_⟩
    cases(w1:Well w.params _ _ (.aR (ofPys (rK .int))))with
    |aR e r=>exact .aR e (Dw r)
   ·refine gg (ak.jt m) λq hq e=>?_
    cases e
  ·show(ak.map _ (_++_)).iT
   rw[ak.ie,ak.pN,ak.pN]
   exact(ak.map_id cG).symm▸hnd
 haveI hR:m9 c 29 (envOf name sc s₁.aC fa cd) (callerA.deeper (envOf name sc s₁.aC fa cd)) ω.kf:=by
  refine⟨⟨show 1+claimMargin+1+10 * 29<600 by decide,show 4+3+50 * 29<9000 by decide,rfl⟩,⟨[envOf name sc s₁.aC fa cd],rfl,λe he'=>?_⟩,λz9=>⟨[],rfl,λz9 h=>nomatch h⟩⟩
  rw[ak.uy]at he'
  subst he'
  exact⟨by show sc.su≠_;rw[hk];decide,_,rfl,Bk,.inl rfl⟩
 refine aW (h c rfl rfl rfl _ he hf _ ω hR S) ?_ λz9 z9 p=>p.no
 refine d9.all λf fl fL fj l S' r Wz=>?_
 obtain rfl:=Wz
 cases r with
 |ret r=>
  (first|obtain rfl:=fQ|obtain⟨_,rfl⟩:=fQ|cases r)
  haveI q:GoodW claim cl Oj args s₁ (.ok (.ret (.bF true))) {fj.s with iD:=#[]}:=goodW_bool S'.fr rfl hn hp l.os
  exact⟨q.1,.of_keep q.2.1,q.2.2.1,Ca (l.iD.trans (bM gk hg))⟩
def Cb:ak Str->aM
 |[]=>true
 |x::r=>!r.jG x&&Cb r
theorem nodupB_iff:∀{l:ak Str},Cb l=true->l.iT
 |[],_=>.nil
 |x::r,h=>by
  simp only[Cb,aM.bN,aM.oE]at h
  refine ak.cT.mpr ⟨λm=>?_,nodupB_iff h.2⟩
  rw[ak.contains_iff_mem.mpr m]at h
  cases h.1
def WA(fd:kR)(ks cG:ak Str):aM:=
 fd.lE==iB&&fd.j9==wg&&fd.bD.su==.ng&&!fd.bD.xu&&!fd.bD.isGenerator&&Cb (ks++cG)&&ks.all (λx=>fd.bD.bW x==az .local)&&fd.bD.kY.all (λx=>x.2!=.lI)
section
variable{c:Cx}{n:Nat}{X:List AO->Prop}{Q:V->List AO->Prop}
theorem Ol{f:aQ}{fd:kR}{dO:ak iW}{vs:ak V}{kw bs:ak (Str×V)}{ks cG:ak Str}{Ar:ak AO}(hl:∃o,gM.eF f=az o/\o.f9=.w4 fd)(hb:fd.dO=.stmts dO)(hks:bs.map (·.1)=ks)(Bt:WA fd ks cG=true)(FW:codeIn gM fd.code lZ=true)(Oo:xw c fd vs kw bs)
  (h:∀env,fU env fd.bD->qL env->WS c n env dO (VQ Q) (λσ=>X gJ) ⟨Bc bs cG,[],Ar⟩):gj c (n+1) (.ref f) vs kw Q X Ar:=by
 subst hks
 simp only[WA,aM.bN,iX,aM.oE,ak.rP,nD,ne_eq]at Bt
 refine gC λG hG=>?_
 refine iU Bt λfY h8=>?_;clear Bt;refine iU fY λFY h7=>?_;clear fY;refine iU FY λFZ h6=>?_;clear FY;refine iU FZ λCc h5=>?_;clear FZ;refine iU Cc λzY h4=>?_;clear Cc;refine iU zY λyt h3=>?_;clear zY;refine iU yt λh1 h2=>?_;clear yt
 refine hG ?_
 exact KR ⟨hl,hb,rfl,h1,h2,FW,h3,h4⟩ Oo (nodupB_iff h6) (λx hx=>h7 x hx) (λx hx=>h8 x hx) h h5
abbrev yu(c:Cx):ak (Str×V)->ak (Str×aI)->Prop:=F2 λp q=>p.1=q.1/\u0 c p.2 q.2
theorem yu.rel{l:ak (Str×V)}{rl:ak (Str×aI)}(h:yu c l rl){g:c7}{b:ak aQ}(hg:∀x o,gM.eF x=az o->g x=az o):jC aL g [] b l rl:=by
 induction h using F2.ind with
 |nil=>exact .nil
 |br a _ ih=>exact .br ⟨a.1,(a.2 g hg).eW ⟨λz9 z9 h=>h,λz9 z9 h=>h,λz9 z9 h=>(Lake.nn rfl h)⟩⟩ ih
variable{fd:FuncData}{v1 v2 v3 v4:V}{x1 x2 x3 x4:Str}{dl:List (Str×V)}{ds:List (Str×Value)}
theorem Ec(h:∀s:aZ,gM.In aP->xx s fd ⟨[],[]⟩ ds)(hs:yu c dl ds):xw c fd [] [] dl:=λs g b kO BC X hg hv hk=>by
 obtain rfl:=(hk:BC=[]);cases hv
 exact⟨_,h s X,hs.rel hg⟩
theorem gz(h:∀s:aZ,gM.In aP->∀a,xx s fd ⟨[a],[]⟩ ((x1,a)::ds))(hs:yu c dl ds):xw c fd [v1] [] ((x1,v1)::dl):=λs g b kO BC X hg hv hk=>by
 obtain rfl:=(hk:BC=[])
 refine gg hv.one λa bG r=>?_;obtain rfl:=bG
 exact⟨_,h s X a,.br ⟨rfl,r⟩ (hs.rel hg)⟩
theorem nU(h:∀s:aZ,gM.In aP->∀a b,xx s fd ⟨[a,b],[]⟩ ((x1,a)::(x2,b)::ds))(hs:yu c dl ds):xw c fd [v1,v2] [] ((x1,v1)::(x2,v2)::dl):=λs g b kO BC X hg hv hk=>by
 obtain rfl:=(hk:BC=[])
 refine oH hv.two λa b' ig r r'=>?_;obtain rfl:=ig
 exact⟨_,h s X a b',.br ⟨rfl,r⟩ (.br ⟨rfl,r'⟩ (hs.rel hg))⟩
theorem WB(h:∀s:aZ,gM.In aP->∀a b d,xx s fd ⟨[a,b,d],[]⟩ ((x1,a)::(x2,b)::(x3,d)::ds))(hs:yu c dl ds):xw c fd [v1,v2,v3] [] ((x1,v1)::(x2,v2)::(x3,v3)::dl):=λs g b kO BC X hg hv hk=>by
 obtain rfl:=(hk:BC=[])
 refine E3 hv.three λa b' d jd r r' Rg=>?_;obtain rfl:=jd
 exact⟨_,h s X a b' d,.br ⟨rfl,r⟩ (.br ⟨rfl,r'⟩ (.br ⟨rfl,Rg⟩ (hs.rel hg)))⟩
theorem WC(h:∀s:aZ,gM.In aP->∀a b d e,xx s fd ⟨[a,b,d,e],[]⟩ ((x1,a)::(x2,b)::(x3,d)::(x4,e)::ds))(hs:yu c dl ds):xw c fd [v1,v2,v3,v4] [] ((x1,v1)::(x2,v2)::(x3,v3)::(x4,v4)::dl):=λs g b kO BC X hg hv hk=>by
 obtain rfl:=(hk:BC=[])
 refine MX (hr4 hv) λa b' d e zw r r' Rg r3=>?_;obtain rfl:=zw
 exact⟨_,h s X a b' d e,.br ⟨rfl,r⟩ (.br ⟨rfl,r'⟩ (.br ⟨rfl,Rg⟩ (.br ⟨rfl,r3⟩ (hs.rel hg))))⟩
end
def vp(K:xP)(ty:u9)(a:aQ):aH (ak aI):=(K.eF a).bind λo=>match o with
 |⟨.dg t,none,.seq xs _,⟨[]⟩⟩=>bif t==ty then az xs.nu else none
 |_=>none
theorem AH{K:xP}{ty:u9}{a:aQ}{xs:ak aI}(h:vp K ty a=az xs):∃n,K.eF a=az {cls:=.dg ty,f9:=.seq xs.aJ n}:=by
 revert h
 revert K ty a xs
 intros K ty a xs
 intro h
 refine gg (aH.bind_eq_some_iff.mp h) λfY e h=>?_;obtain⟨cl,d,dt,⟨sl⟩⟩:=fY
 have no:∀{P:Prop},(none:aH (ak aI))=az xs->P:=λh=>nomatch h
 suffices q:∃n,(⟨cl,d,dt,⟨sl⟩⟩:Obj)={cls:=.dg ty,f9:=.seq xs.aJ n} from let⟨n,q⟩:=q;⟨n,e.trans (bM az q)⟩
 clear e
 revert h
 cases cl with
 |dg t=>cases d with
  |az _=>exact no
  |none=>cases dt with
   |seq ys n=>cases sl with
    |br _ _=>exact no
    |nil=>
     intro h
     refine iU (Rc h) λht h=>?_
     cases h
     cases iX.mp ht
     exact⟨n,rfl⟩
   |_=>exact no
 |_=>exact no
mutual
noncomputable def F0(K:Frag):V->Value->Bool
 |.none,rv=>match rv with|.none=>true|_=>false
 |.bool b,rv=>match rv with|.bool b'=>b==b'|_=>false
 |.int i,rv=>match rv with|.int j _=>i==j|_=>false
 |.str x,rv=>match rv with|.str y _=>x==y|_=>false
 |.tup l,rv=>match rv with|.ref a=>(match vp K "tuple" a with|some xs=>zF K l xs|none=>false)|_=>false
 |.list l,rv=>match rv with|.ref a=>(match vp K "list" a with|some xs=>zF K l xs|none=>false)|_=>false
 |_,_=>false
noncomputable def zF(K:Frag):List V->List Value->Bool
 |[],xs=>xs.isEmpty
 |v::l,xs=>match xs with|x::xs=>F0 K v x&&zF K l xs|[]=>false
end
mutual
theorem Dz{K:Frag}{P:Params}{g:c7}(hg:∀x o,K.lookup x=some o->g x=some o):∀(v:V)(rv:Value),F0 K v rv=true->Rel P g [] [] v rv
 |.none,rv,h=>by
  cases rv with
  |none=>exact .none
  |_=>exact absurd (show false=true from h) (by decide)
 |.bool b,rv,h=>by
  cases rv with
  |bool b'=>rw[beq_iff_eq.mp (show(b==b')=true from h)];exact .bool
  |_=>exact absurd (show false=true from h) (by decide)
 |.int i,rv,h=>by
  cases rv with
  |int j t=>rw[beq_iff_eq.mp (show(i==j)=true from h)];exact .int
  |_=>exact absurd (show false=true from h) (by decide)
 |.str x,rv,h=>by
  cases rv with
  |str y t=>rw[beq_iff_eq.mp (show(x==y)=true from h)];exact .str
  |_=>exact absurd (show false=true from h) (by decide)
 |.tup l,rv,h=>by
  cases rv with
  |ref a=>
   haveI h:(match vp K "tuple" a with|some xs=>zF K l xs|none=>false)=true:=h
   cases e:vp K "tuple" a with
   |none=>rw[e]at h;cases h
   |some xs=>
    rw[e]at h
    refine eO (AH e) λn e'=>?_
    exact .tup (hg _ _ e') (zG (P:=P) hg l xs h)
  |_=>exact absurd (show false=true from h) (by decide)
 |.list l,rv,h=>by
  cases rv with
  |ref a=>
   haveI h:(match vp K "list" a with|some xs=>zF K l xs|none=>false)=true:=h
   cases e:vp K "list" a with
   |none=>rw[e]at h;cases h
   |some xs=>
    rw[e]at h
    refine eO (AH e) λn e'=>?_
    exact .list (hg _ _ e') (zG (P:=P) hg l xs h)
  |_=>exact absurd (show false=true from h) (by decide)
 |.dict _,_,h=>absurd (show false=true from h) (by decide)
 |.st _,_,h=>absurd (show false=true from h) (by decide)
 |.ob _,_,h=>absurd (show false=true from h) (by decide)
 |.lo _,_,h=>absurd (show false=true from h) (by decide)
 |.inst _ _,_,h=>absurd (show false=true from h) (by decide)
 |.meth _ _,_,h=>absurd (show false=true from h) (by decide)
theorem zG{K:Frag}{P:Params}{g:c7}(hg:∀x o,K.lookup x=some o->g x=some o):∀(l:List V)(xs:List Value),zF K l xs=true->fK P g [] [] l xs
 |[],xs,h=>by
  rw[List.isEmpty_iff.mp (show xs.isEmpty=true from h)];exact .nil
 |v::l,[],h=>absurd (show false=true from h) (by decide)
 |v::l,x::xs,h=>by
  haveI h:(F0 K v x&&zF K l xs)=true:=h
  rw[Bool.and_eq_true]at h
  exact .cons (Dz hg v _ h.1) (zG hg l _ h.2)
end
theorem u0.of{c:Cx}{v:V}{rv:aI}(h:F0 gM v rv=true):u0 c v rv:=λz9 hg=>Dz hg v rv h
section
variable{c:Cx}{n:Nat}{env:Env}{X:St->Prop}{σ:St}{pos:Pos}{sc:Scope}
def PB(c:Cx)(n:Nat)(env:Env)(e:aB)(b:aM)(X:St->Prop)(σ:St):Prop:=∀Q:V->St->Prop,Q (.bF b) σ->WE c n env e Q X σ
def PE(c:Cx)(n:Nat)(env:Env)(e:aB)(v:V)(X:St->Prop)(σ:St):Prop:=∀Q:V->St->Prop,Q v σ->WE c n env e Q X σ
theorem aaJ{uM vI:aB}{aU:ak aB}{Il Oq:aM}(d7:PB c n env uM Il X σ)(i6:PB c n env (.ju .Or (vI::aU) pos) Oq X σ):PB c n env (.ju .Or (uM::vI::aU) pos) (Il||Oq) X σ:=λQ q=>by
 refine ZZ (d7 _ (nX ?_))
 cases Il with
 |true=>simpa using q
 |false=>exact i6 _ (by simpa using q)
theorem WG{uM vI:aB}{aU:ak aB}{Il Oq:aM}(d7:PB c n env uM Il X σ)(i6:PB c n env (.ju .And (vI::aU) pos) Oq X σ):PB c n env (.ju .And (uM::vI::aU) pos) (Il&&Oq) X σ:=λQ q=>by
 refine UN (d7 _ (nX ?_))
 cases Il with
 |false=>simpa using q
 |true=>exact i6 _ (by simpa using q)
def PL(c:Cx)(n:Nat)(env:Env)(pos:Pos)(es:ak aB)(vs:ak V)(X:St->Prop)(σ:St):Prop:=∀Q:ak V->St->Prop,Q vs σ->WL c n env pos es Q X σ
theorem WH:PL c n env pos [] [] X σ:=λQ q=>uJ q
theorem R2{e:aB}{es:ak aB}{v:V}{vs:ak V}(hs:notStar e=true)(d7:PE c n env e v X σ)(i6:PL c n env pos es vs X σ):PL c n env pos (e::es) (v::vs) X σ:=λQ q=>wQ hs (d7 _ (i6 _ q))
theorem WJ{es:ak aB}{vs:ak V}{k:Nat}(h:PL c n env pos es vs X σ)(hl:decide (vs.aq<=4096)=true):PE c n env (.sW es k pos) (.tup vs) X σ:=λQ q=>Ng (h _ ⟨bX hl,q⟩)
end
theorem F4{l:ak (Str×V)}{x:Str}(h:(fM (·.1)).jG x=false):x∉fM (·.1):=λm=>by rw[ak.contains_iff_mem.mpr m]at h;cases h
section
variable{c:Cx}{n:Nat}{env:Env}{X:St->Prop}{σ:St}{pos:Pos}{sc:Scope}
theorem Ot{e:aB}{lo hi:aH aB}{sp:Pos}{o r:V}{a b:aH Int}(h:PE c n env e o X σ)(d7:∀Q,Q a σ->WP c n env lo Q X σ)(i6:∀Q,Q b σ->WP c n env hi Q X σ)(hr:Ll σ a b o r):PE c n env (.l8 e (.Slice lo hi none sp) pos) r X σ:=λQ q=>JK (h _ (d7 _ (i6 _ ⟨r,hr,q⟩)))
end
theorem Ef{x:Str}{a b:aH Int}{m:Nat}(h:x.aq<=m):(w7 x a b).aq<=m:=by
 refine aA ?_ h
 have:=BU x.au a b
 simpa [w7,Str.aq]using this
def Gl(c:Cx)(x:Str)(v:V):Prop:=∃rv,nsIn gM iB x=az (az rv)/\u0 c v rv
theorem WK{c:Cx}{n:Nat}{env:Env}{sc:gO}{pos:Pos}{σ:St}{X:St->Prop}{Q:V->St->Prop}{x:Str}{v:V}(he:fU env sc)(hk:(sc.bW x==az .globalImplicit)=true)(hd:(x==("__debug__":Str))=false)(hg:Gl c x v)(h:Q v σ):WE c n env (.mQ x pos) Q X σ:=by
 refine gg hg λrv h1 h2=>?_;clear hg
 exact M1 he hk hd h1 h2 h
section
variable{c:Cx}{n:Nat}{env:Env}{σ:St}{X:St->Prop}{Q:V->St->Prop}
theorem F5{x y:Str}{off:Int}(hy:y=⟨#[10]⟩)(h0:0<=off)(ho:off<=x.aq)(h:Q (.int (cntIn 10 (x.au.eL off.gR))) σ):CV c n env (.st (.cj "str.count")) [.str x,.str y,.int 0,.int off] Q X σ:=by
 subst hy;exact Lu h0 ho h
theorem F6{x y:Str}{off:Int}(hy:y=⟨#[10]⟩)(h0:0<=off)(ho:off<=x.aq)(h:Q (.int (match kQ 10 (x.au.eL off.gR)with|az i=>(i:Int)|none=>-1)) σ):CV c n env (.st (.cj "str.rfind")) [.str x,.str y,.int 0,.int off] Q X σ:=by
 subst hy;exact Lw h0 ho h
end
end HL.Lake
namespace HL.Lake
open PySem PySem.W PySem.Calls PyProof.Rows
open PySem.Builtin PySem.Builtin.Str
theorem F7(x y:Str)(hi limit:Nat)(h:∀i,¬(i+y.aq<=hi/\subAt x y i=true))(m:Nat):∀(i:Nat)(st:dX Nat×Nat),(forIn (m:=Id) (ak.range' i m) st (xA.occBody x y hi limit)).run=st:=by
 induction m with
 |lO=>exact λz9 z9=>rfl
 |kU m ih=>
  intro i st
  rw[ak.range'_succ,ak.forIn_cons]
  unfold xA.occBody
  rw[aY (λq=>h i ⟨q.1.2,q.2⟩)]
  exact ih (i+1) _
theorem occ_none{x y:Str}{k:Nat}(hy:y.cps[0]?=az k)(hk:∀a∈x.au,a≠k):u6 x y 0 x.aq (x.aq+1)=[]:=by
 rw[xA.occ_eq]
 have:=F7 x y x.aq (x.aq+1) (λi q=>by
  have h2:=q.2
  unfold subAt at h2
  haveI e:x.cps.extract i (i+y.aq)=y.cps:=cL h2
  rw[<-e]at hy
  rw[dX.getElem?_extract]at hy
  split at hy
  ·refine eO (dX.cz hy) λlM he=>?_
   exact hk k (by rw[<-he];exact dX.mem_toList_iff.mpr (dX.getElem_mem ..)) rfl
  ·cases hy) (x.aq+1) 0 (#[],0)
 simp only[vU]
 rw[this]
section
variable{c:Cx}{n:Nat}{env:Env}{σ:St}{X:St->Prop}{Q:V->St->Prop}
theorem C6{x y z:Str}(hy:y.cps[0]?=az 13)(hk:∀a∈x.au,a≠13)(h:Q (.str x) σ):CV c n env (.st (.cj "str.replace")) [.str x,.str y,.str z] Q X σ:=Bg (occ_none hy hk) h
theorem JP{K:xP}{s:aZ}{fd:kR}{args:Args}{binds:ak (Str×aI)}{T:aQ}{xs:ak aI}{k:aH (dX aI)->Sem (ak (Str×aI))}(X:K.In aP)(hd:n6=.ref T)(ho:vp K "tuple" T=az xs)
  (d7:bindArgs fd args=seqItems? n6>>=k)(i6:k (az xs.aJ)=gB binds):xx s fd args binds:=by
 refine eO (AH ho) λn e=>?_
 exact binds_K X hd e rfl d7 i6
end
end HL.Lake
namespace HL.Lake
open PySem PySem.W PySem.Calls PyProof.Rows
section
variable{c:Cx}{n:Nat}{env:Env}{σ:St}{X:St->Prop}{Q:V->St->Prop}
theorem Ou{x C dx f:aQ}{es:ak gh}{k:Nat}{v:V}(h1:gM.eF x=az ⟨.ref C,az dx,.plain,#[]⟩)(h2:gM.eF dx=az (lR es k))(hs:rG gM (.ref C) "__contains__"=az (az (.ref f)))(hf:isFn gM (.ref f)=true)
  (h:CV c n env (.st (.ref f)) [.st (.ref x),v] (λr bx=>∃b,r=.bF b/\Q (.bF b) bx) X σ):KV c n env .In v (.st (.ref x)) Q X σ:=tX λA ω ra rb hR hS r1 r2=>by
 (first|obtain rfl:=r2.inv|obtain⟨_,rfl⟩:=r2.inv|cases r2)
 refine in_K hS.fr c.X (InstAt.of_K hS.X h1 h2) hs hf (aW (h A ω [.ref f,.ref x,ra] hR hS (.br .st (.br .st (.br r1 .nil)))) ?_ λz9 z9 x=>x)
 refine d9.all λrv v' fL fj l S' r' aaK=>?_
 refine gg aaK λb bG hq=>?_;clear aaK;obtain rfl:=bG
 (first|obtain rfl:=r'.inv|obtain⟨_,rfl⟩:=r'.inv|cases r')
 exact wpAny_truthy_bool ⟨_,fL,fj,l,rfl,S',.bF,hq⟩
def R3:V->Nat->aI
 |.str s,t=>.str s t
 |.int i,t=>.int i t
 |_,_=>.none
def R4:V->aM
 |.str _=>true
 |.int _=>true
 |_=>false
def mkE(P:dN)(L:ak (Str×Nat×V×Nat)):ak gh:=L.map λp=>⟨p6 P p.1,.str p.1 p.2.1,R3 p.2.2.1 p.2.2.2⟩
def Ov(L:ak (Str×Nat×V×Nat)):ak (Str×V):=L.map λp=>(p.1,p.2.2.1)
theorem Ow{P:dN}{g:c7}{a b:ak aQ}{L:ak (Str×Nat×V×Nat)}(h:L.all (λp=>R4 p.2.2.1)=true):kE P g a b (Ov L) (mkE P L):=by
 induction L with
 |nil=>exact .nil
 |br p L ih=>
  obtain⟨k,t,v,t'⟩:=p
  have h:(R4 v&&L.all (λp=>R4 p.2.2.1))=true:=h
  refine .br ?_ (ih (mz h).2)
  have h:=(mz h).1
  cases v with
  |str s=>exact .str
  |int i=>exact .int
  |_=>cases h
theorem u0.tab{a:aQ}{L:ak (Str×Nat×V×Nat)}{k:Nat}(h:gM.eF a=az (lR (mkE aL L) k))(h1:1<a)(hs:L.all (λp=>R4 p.2.2.1)=true)(nd:((Ov L).map (·.1)).iT):u0 c (.bO (Ov L)) (.ref a):=λg hg=>.bO (hg _ _ h) h1 (Ow hs) nd
end
section
variable{c:Cx}{n:Nat}{env:Env}{σ:St}{X:St->Prop}{Q:V->St->Prop}{pos:Pos}{rest:List Stmt}
def R5(L:ak (Int×Nat×Str×Nat)):ak gh:=L.map λp=>⟨hashInt p.1,.int p.1 p.2.1,.str p.2.2.1 p.2.2.2⟩
theorem WM{lg:uw}{w:World}(L:ak (Int×Nat×Str×Nat)):Pairs (intKind lg w) (R5 L) (L.map λp=>(p.1,aI.str p.2.2.1 p.2.2.2)):=by
 induction L with
 |nil=>exact .nil
 |br p L ih=>exact .br (e:=⟨hashInt p.1,.int p.1 p.2.1,.str p.2.2.1 p.2.2.2⟩) (kv:=(p.1,aI.str p.2.2.1 p.2.2.2)) (by simp[intKind,aI.isInt]) rfl ih
theorem U8{lg:uw}{w:World}{h:c8}{d:aQ}{L:ak (Int×Nat×Str×Nat)}{k:Nat}(e:h.cF d=az (lR (R5 L) k))(nd:(L.map (·.1)).iT):h.wu (intKind lg w) d (L.map λp=>(p.1,aI.str p.2.2.1 p.2.2.2)):=by
 refine⟨_,(R5 L).aJ,k,e,⟨rfl,rfl,rfl⟩,rfl,?_,WM L,by rw[ak.pN];exact nd⟩
 intro x hx
 refine gg (ak.jt (by simpa using hx:x∈R5 L)) λp bG ig=>?_;obtain rfl:=ig
 exact⟨p.1,by simp[intKind,aI.isInt],rfl⟩
theorem aaL:∀{L:ak (Int×Nat×Str×Nat)}{i:Int},rA (L.map λp=>(p.1,aI.str p.2.2.1 p.2.2.2)) i=(L.find? λp=>p.1=i).map λp=>aI.str p.2.2.1 p.2.2.2:=by
 intro L i
 unfold rA
 rw[ak.find?_map,aH.pN]
 rfl
theorem F8{a:aQ}{L:ak (Int×Nat×Str×Nat)}{k:Nat}{i:Int}(h0:gM.eF a=az (lR (R5 L) k))(ha:(a==wG)=false)(nd:(L.map (·.1)).iT)(h:Q (.bF (L.find? λp=>p.1=i).sJ) σ):KV c n env .In (.int i) (.st (.ref a)) Q X σ:=tX λA ω ra rb hR hS r1 r2=>by
 (first|obtain rfl:=r1.inv|(refine eO r1.inv λfY bG=>?_;obtain rfl:=bG)|cases r1)
 (first|obtain rfl:=r2.inv|obtain⟨_,rfl⟩:=r2.inv|cases r2)
 haveI e:ω.aP.cF a=az (lR (R5 L) k):=hS.X _ _ h0
 refine wpAny_in_of (knd:=intKind bU j5) (k:=i) (by simp[intKind,aI.isInt]) ha (U8 e nd).mapOf ?_
 rw[aaL,aH.isSome_map]
 exact kP hS .bF h
theorem Ox{a:aQ}{L:ak (Int×Nat×Str×Nat)}{k:Nat}{i:Int}{p:Int×Nat×Str×Nat}(h0:gM.eF a=az (lR (R5 L) k))(nd:(L.map (·.1)).iT)(hf:(L.find? λp=>p.1=i)=az p)(h:Q (.str p.2.2.1) σ):IV c n env (.st (.ref a)) (.int i) Q X σ:=tX λA ω ra rb hR hS r1 r2=>by
 (first|obtain rfl:=r1.inv|obtain⟨_,rfl⟩:=r1.inv|cases r1)
 (first|obtain rfl:=r2.inv|obtain⟨_,rfl⟩:=r2.inv|cases r2)
 haveI e:ω.aP.cF a=az (lR (R5 L) k):=hS.X _ _ h0
 exact wpAny_getItem_of (knd:=intKind bU j5) (k:=i) (by simp[intKind,aI.isInt]) (U8 e nd).mapOf (by rw[aaL,hf];rfl) (kP hS .str h)
theorem Oz{dO:ak iW}{qJ:uA}{hs:ak uA}{Q:Fl->St->Prop}
  (h:WS c n env dO (λfl fL=>match fl with|.next=>WS c n env aU Q X fL|fl=>Q fl fL) (λz9=>cM) σ):WS c n env (.Try dO (qJ::hs) [] [] pos::aU) Q X σ:=by
 revert h
 revert c n env σ X pos aU dO qJ hs Q
 intros c n env σ X pos aU dO qJ hs Q
 intro h
 intros A ω
 intro hR hS
 refine mO hR (wpAny_Try_except (aW (h A ω hR hS) ?_ ?_))
 ·refine d9.all λf fl bx ω₁ l₁ cW rf d7=>?_
  cases rf with
  |next=>exact q9 ⟨bx,ω₁,l₁,rfl,cW,d7⟩
  |brk=>exact⟨.brk,bx,ω₁,l₁,rfl,cW,.brk,d7⟩
  |rF=>exact⟨.rF,bx,ω₁,l₁,rfl,cW,.rF,d7⟩
  |ret r=>exact⟨.ret _,bx,ω₁,l₁,rfl,cW,.ret r,d7⟩
 ·rintro e s₁ ⟨bx,ω₁,l₁,rfl,cW,hex,hf⟩
  exact hf.g9
theorem JQ{Q:aM->St->Prop}{op:ju}{x:aB}(h:WT c n env x Q X σ):UM c n env op [x] Q X σ:=
 Bq (h.eW (λb σ hq=>by
  by_cases e:b=(op==.And)
  ·rw[bJ e];exact VX (e▸hq)
  ·rw[aY e];exact hq) λz9 h=>h)
def PT(c:Cx)(n:Nat)(env:Env)(e:aB)(b:aM)(X:St->Prop)(σ:St):Prop:=∀Q:aM->St->Prop,Q b σ->WT c n env e Q X σ
def Zc(c:Cx)(n:Nat)(env:Env)(op:ju)(l:ak aB)(b:aM)(X:St->Prop)(σ:St):Prop:=∀Q:aM->St->Prop,Q b σ->UM c n env op l Q X σ
theorem qP{op:ju}{l:ak aB}{b:aM}(h:Zc c n env op l b X σ):PT c n env (.ju op l pos) b X σ:=λQ q=>HN (h Q q)
theorem tY{op:ju}{x:aB}{b:aM}(h:PT c n env x b X σ):Zc c n env op [x] b X σ:=λQ q=>JQ (h Q q)
theorem Cd{x:aB}{l:ak aB}{a b:aM}(h:PT c n env x a X σ)(h2:Zc c n env .Or l b X σ):Zc c n env .Or (x::l) (a||b) X σ:=λQ q=>Bq (h _ (by
 (first|obtain rfl:=a.inv|obtain⟨_,rfl⟩:=a.inv|cases a)
 ·show(if _=_ then _ else _)
  rw[bJ (by rfl)]
  exact h2 Q q
 ·rw[aY (λe=>by cases e)];exact q))
theorem wV{x:aB}{l:ak aB}{a b:aM}(h:PT c n env x a X σ)(h2:Zc c n env .And l b X σ):Zc c n env .And (x::l) (a&&b) X σ:=λQ q=>Bq (h _ (by
 (first|obtain rfl:=a.inv|obtain⟨_,rfl⟩:=a.inv|cases a)
 ·rw[aY (λe=>by cases e)];exact q
 ·show(if _=_ then _ else _)
  rw[bJ (by rfl)]
  exact h2 Q q))
end
section
theorem Eg{d:Str}(h:d.aq=0):d=aj "":=by
 obtain⟨a⟩:=d
 have:a=#[]:=dX.eq_empty_of_size_eq_zero h
 rw[this]
 kernel_rfl
variable{c:Cx}{n:Nat}{env:Env}{σ:St}{X:St->Prop}
theorem LL{Q:V->St->Prop}{sc:gO}{f:aI}{vs:ak V}{P:V->ak AO->Prop}{k:Nat}(he:fU env sc)(hv:V.gW vs=true)(h:gj c k f vs [] P (λz9=>cM) gJ)(hk:q8 k n=true)(hq:∀v W',P v W'->Q v {σ with W:=W'}):CV c n env (.st f) vs Q X σ:=
 BE he hv ((h.up (aD hk)).eW hq λz9 x=>x.g9)
theorem F9{Q:V->St->Prop}{sc:gO}{f:aI}{self:V}{vs:ak V}{P:V->ak AO->Prop}{k:Nat}(he:fU env sc)(hv:V.gW (self::vs)=true)(h:gj c k f (self::vs) [] P (λz9=>cM) gJ)(hk:q8 k n=true)(hq:∀v W',P v W'->Q v {σ with W:=W'}):CV c n env (.meth f self) vs Q X σ:=
 HM he hv ((h.up (aD hk)).eW hq λz9 x=>x.g9)
theorem LO{Q:V->St->Prop}{C fI:aQ}{vs:ak V}{P:V->ak AO->Prop}{k:Nat}(hm:makesIn gM C=true)(hi:rG gM (.ref C) "__init__"=az (az (.ref fI)))(hf:typeIn gM (.ref fI)=az (.dg "function"))(hv:V.gW vs=true)
  (h:gj c k (.ref fI) (.cR C gJ.aq::vs) [] P (λz9=>cM) (gJ++[.bO []]))(hk:q8 k n=true)(hq:∀v W',P v W'->v=.none/\Q (.cR C gJ.aq) {σ with W:=W'}):CV c (n+1) env (.st (.ref C)) vs Q X σ:=
 N8 hm hi hf hv ((h.up (aD hk)).eW hq λz9 x=>x.g9)
theorem WN{Q:Fl->St->Prop}{st:iW}{aU:ak iW}(J:St->Prop)(h1:WS c n env [st] (λfl fL=>match fl with|.next=>J fL|fl=>Q fl fL) X σ)(h2:∀fL,J fL->WS c n env aU Q X fL):WS c n env (st::aU) Q X σ:=λA ω hR hS=>by
 rw[show vC (st::aU) env=_ from wU [st] aU]
 refine aK (aW (h1 A ω hR hS) ?_ λz9 z9 x=>x)
 refine d9.all λf fl bx ω₁ l₁ cW rf d7=>?_
 cases rf with
 |next=>exact n8 l₁ (h2 bx d7 A ω₁ (hR.le l₁) cW) λz9 z9 p=>yQ l₁
 |brk=>exact bw ⟨.brk,bx,ω₁,l₁,rfl,cW,.brk,d7⟩
 |rF=>exact bw ⟨.rF,bx,ω₁,l₁,rfl,cW,.rF,d7⟩
 |ret r=>exact bw ⟨.ret _,bx,ω₁,l₁,rfl,cW,.ret r,d7⟩
theorem R6{f:aI}{self:V}{Q:aM->St->Prop}(h:Q true σ):TV c n env (.meth f self) Q X σ:=HV λz9 z9 z9 z9 hS r1=>by
 refine oH r1.inv λfY bG ig hg r=>?_;obtain rfl:=ig
 have hT:=(⟨_,hS.gr _ _ hg,rfl⟩:aZ.sY _ (.ref _) "method")
 unfold truthy
 refine aK (wpAny_callSpecial?_none hT (by rw[vd,pK];kernel_rfl) ?_)
 refine aK (rm hT (r:=none) (by rw[vd,pK];kernel_rfl) ?_)
 exact bw (done hS rfl h)
end
section
variable{c:Cx}{n:Nat}{env:Env}{σ:St}{X:St->Prop}{pos:Pos}
theorem WQ{Q:V->St->Prop}{fJ slice:aB}{a:aQ}{es:ak gh}{k:Nat}(h0:gM.eF a=az (lR es k))(h:WE c n env fJ (λo bx=>o=.st (.ref a)/\WE c n env slice (λi bL=>IV c n env o i Q X bL) X bx) X σ):WE c n env (.l8 fJ slice pos) Q X σ:=by
 revert h0 h
 revert c n env σ X pos Q fJ slice a es k
 intros c n env σ X pos Q fJ slice a es k
 intro h0 h
 intros A ω
 intro hR hS
 refine Subscript_ (aW (h A ω hR hS) ?_ λz9 z9 x=>x)
 refine d9.all λro o bx ω₁ l₁ cW lQ aaM=>?_
 refine iU aaM λfY d7=>?_;clear aaM;obtain rfl:=fY
 refine n8 l₁ (d7 A ω₁ (hR.le l₁) cW) ?_
 refine d9.all λri i bL dj l₂ fV pC i6=>?_
 have oM:=l₁.trans l₂
 (first|obtain rfl:=lQ.inv|obtain⟨_,rfl⟩:=lQ.inv|cases lQ)
 have hT:dj.s.sY (.ref a) "dict":=wR (fV.X _ _ h0) rfl
 refine eO (tB (slice:=slice) (o:=.ref a) (i:=ri)) λops ho=>?_
 exact n8 oM (tail_any hT F.slot_dict_getitem.eF (i6 A dj [.ref a,ri] (hR.le oM) fV (.br .st (.br pC .nil))) ho) λz9 z9 p=>yQ oM
end
def JR(g:aB->aH V):ak aB->aH (ak V)
 |[]=>az []
 |e::r=>bif notStar e then(g e).bind λv=>(JR g r).map λvs=>v::vs else none
def aaN:Const->aH V
 |.str x=>az (.str x)
 |.int x=>az (.int x)
 |.bF x=>az (.bF x)
 |.none=>az .none
 |_=>none
set_option backward.match.sparseCases false in
def U9(g:aB->aH V)(e:aB):aH V:=match e with
 |.yN x _ _=>aaN x
 |.sW es _ _=>bif q8 es.aq 4096 then(JR g es).map .tup else none
 |.ak es _=>bif q8 es.aq 4096 then(JR g es).map .aR else none
 |_=>none
def R7:Nat->aB->aH V
 |0=>λz9=>none
 |f+1=>U9 (R7 f)
variable{c:Cx}{n:Nat}{env:Env}{σ:St}{X:St->Prop}{pos:Pos}
theorem Eh{g:aB->aH V}(hg:∀e v σ(Q:V->St->Prop),g e=az v->Q v σ->WE c n env e Q X σ){es:ak aB}:∀{vs:ak V}{σ:St}{Q:ak V->St->Prop},JR g es=az vs->vs.aq=es.aq/\(Q vs σ->WL c n env pos es Q X σ):=by
 induction es with
 |nil=>
  intro vs σ Q h
  cases h
  exact⟨rfl,uJ⟩
 |br e r ih=>
  intro vs σ Q h
  refine iU (Rc h) λhs h=>?_
  refine gg (aH.bind_eq_some_iff.mp h) λv hv h=>?_
  refine gg (aH.iH h) λws hw ig=>?_;obtain rfl:=ig
  exact⟨bM (·+1) (ih (σ:=σ) (Q:=λz9 z9=>True) hw).1,λhq=>wQ hs (hg e v σ _ hv ((ih hw).2 hq))⟩
set_option tactic.hygienic true in
theorem aaO(f:Nat):∀(e:aB)(v:V)(σ:St)(Q:V->St->Prop),R7 f e=az v->Q v σ->WE c n env e Q X σ:=by
 induction f with
 |lO=>exact λ_ _ _ _ h=>nomatch h
 |kU f ih=>
  intro e v σ Q h hq
  haveI no:none=az v->WE c n env e Q X σ:=λh=>nomatch h
  revert h no
  refine aB.casesOn (motive_1:=λe=>U9 (R7 f) e=az v->(none=az v->WE c n env e Q X σ)->WE c n env e Q X σ) e ?_ ?_ ?_ ?_ ?_ ?_ ?_ ?_ ?_ ?_ ?_ ?_ ?_ ?_ ?_ ?_ ?_ ?_ ?_ (λx _ _ h no=>?_) ?_ ?_ ?_ ?_ (λes p h _=>?_) (λes k p h _=>?_) ?_
  case refine_20=>cases x with
   |str=>cases h;exact UE hq
   |int=>cases h;exact UG hq
   |bF=>cases h;exact MZ hq
   |none=>cases h;exact M0 hq
   |_=>exact no h
  case refine_25=>
   refine iU (Rc h) λhl h=>?_
   refine gg (aH.iH h) λvs hv ig=>?_;obtain rfl:=ig
   exact JA ((Eh ih hv).2 ⟨(Eh (pos:=p) (σ:=σ) (Q:=λ_ _=>True) ih hv).1▸aD hl,hq⟩)
  case refine_26=>
   refine iU (Rc h) λhl h=>?_
   refine gg (aH.iH h) λvs hv ig=>?_;obtain rfl:=ig
   exact Ng ((Eh ih hv).2 ⟨(Eh (pos:=p) (σ:=σ) (Q:=λ_ _=>True) ih hv).1▸aD hl,hq⟩)
  all_goals(intros;rename_i h no;exact no h)
section
variable{c:Cx}{n:Nat}{env:Env}{X:St->Prop}{σ:St}{pos:Pos}{ω fj:Wd}{sc:Scope}{L:Addr}
def Wd.MQ(ω:Wd):Wd:={ω with a:=[],b:=[],g:=zj ω.g (ω.a++ω.b) ω.aP}
def Wd.Im(ω fj:Wd):Wd:={fj with a:=ω.a,b:=ω.b,g:=λx=>if x∈ω.a++ω.b then none else fj.g x}
theorem Sat.R8(S:Sat c L σ ω){x:aQ}{o:Obj}(h:ω.g x=az o):x∉ω.a++ω.b:=λm=>by
 rw[jk x (.cI _ m)]at h;cases h
theorem Sat.freeze(S:Sat c L σ ω):Sat c L ⟨[],[],[]⟩ ω.MQ:=by
 revert S
 revert c σ ω L
 intros c σ ω L
 intro S
 haveI hL:L∉ω.a++ω.b:=(ak.cT.mp gD).1
 haveI MR:∀x,x∉ω.a++ω.b->ω.MQ.g x=ω.g x:=λx hx=>aY hx
 haveI one:∀x∈L::(([]:ak aQ)++[]),x=L:=λx hx=>by simpa using hx
 refine⟨qX,λx o e=>?_,λx o e=>?_,⟨S.high.1,λx hx=>by cases hx⟩,λx v m=>(by cases m),ak.nodup_nil,⟨rfl,λi o e=>by cases e⟩,⟨rfl,λi o e=>by cases e⟩,by simp[Wd.MQ],λx hx=>?_,S.kk,λx hx=>?_,S.nf,λx hx=>?_,λx m e=>⟨(S.oJ x m e).1,?_⟩,λx o e=>?_⟩
 ·by_cases hx:x∈ω.a++ω.b
  ·have:ω.MQ.g x=ω.aP.cF x:=bJ hx
   exact this▸e
  ·rw[MR x hx]at e;exact S.gr x o e
 ·have:=iG x o e
  rw[MR x (S.R8 this)];exact this
 ·rw[one x hx,MR L hL];exact jk L (.dw _)
 ·rw[one x hx];exact kN L (.dw _)
 ·rw[one x hx];exact S.qC L (.dw _)
 ·haveI e':ω.kf x=az m:=e
  rw[MR x λhx=>by rw[S.qC x (.cI _ hx)]at e';cases e'];exact(S.oJ x m e').2
 ·haveI e':ω.k x=az o:=e
  rw[MR x λhx=>by rw[kN x (.cI _ hx)]at e';cases e'];exact S.dk x o e'
theorem OA{P:dN}{g:c7}{a b ι:ak aQ}{h:c8}{T:ak AO}(t:Tab P g a b h ι T){x:aQ}(hx:x∈ι):∃ob,h.cF x=az ob:=by
 refine gC λG hG=>?_
 refine eO (ak.mJ hx) λi iZ=>?_;refine eO iZ λhi e=>?_;clear iZ
 have hi':i<T.aq:=t.1▸hi
 refine oH (t.2 i T[i] (by simp[hi'])) λy ob ey ho zw=>?_
 refine hG ?_
 rw[ak.bk hi,e]at ey
 cases ey
 exact⟨ob,ho⟩
theorem Sat.Im{WR:ak (Str×aH V)}(S:Sat c L σ ω)(S':Sat c L ⟨WR,[],[]⟩ fj)(hg:∀x o,ω.MQ.g x=az o->fj.g x=az o)(hm:fj.m=ω.m)(hk:fj.k=ω.k)(wO:fj.kf=ω.kf):Sat c L σ (ω.Im fj)/\Sub ω.g (ω.Im fj).g ω.a ω.a ω.b ω.b:=by
 revert S S' hg hm hk wO
 revert c σ ω fj L WR
 intros c σ ω fj L WR
 intro S S' hg hm hk wO
 have MR:∀x,x∉ω.a++ω.b->(ω.Im fj).g x=fj.g x:=λx hx=>aY hx
 have gin:∀x,x∈ω.a++ω.b->(ω.Im fj).g x=none:=λx hx=>bJ hx
 have hs:Sub ω.g (ω.Im fj).g ω.a ω.a ω.b ω.b:=⟨λx o e=>by
  have hx:=S.R8 e
  rw[MR x hx]
  exact hg x o ((aY hx:ω.MQ.g x=ω.g x).trans e),λz9 z9 h=>h,λz9 z9 h=>h⟩
 have d8:∀x∈ω.a++ω.b,fj.aP.cF x=ω.aP.cF x:=λx hx=>by
  obtain⟨ob,ho⟩:∃ob,ω.aP.cF x=az ob:=by
   rcases ak.cJ hx with h|h
   ·exact OA S.tT h
   ·exact OA S.tW h
  rw[ho]
  exact S'.gr x ob (hg x ob ((bJ hx:ω.MQ.g x=ω.aP.cF x).trans ho))
 refine⟨⟨S'.ns,λx o e=>?_,λx o e=>?_,S.high,λx v m=>?_,S.nd,S.tT.kh hs λx hx=>d8 x (ak.bA _ hx),S.tW.kh ⟨hs.hg,λz9 z9 h=>h,hs.hb⟩ λx hx=>d8 x (ak.bg _ hx),gD,λx hx=>?_,S'.kk,λx hx=>?_,S'.nf,λx hx=>?_,λx m e=>⟨(S'.oJ x m e).1,?_⟩,λx o e=>?_⟩,hs⟩
 ·by_cases hx:x∈ω.a++ω.b
  ·rw[gin x hx]at e;cases e
  ·rw[MR x hx]at e;exact S'.gr x o e
 ·rw[MR x (S.R8 (iG x o e))];exact S'.yJ x o e
 ·refine gg (sS x v m) λrv e r=>?_
  exact⟨rv,by show fj.m x=_;rw[hm];exact e,r.eW hs⟩
 ·by_cases h:x∈ω.a++ω.b
  ·exact gin x h
  ·rcases ak.bB hx with rfl|hx
   ·rw[MR x h];exact S'.out x (.dw _)
   ·exact cO hx h
 ·show fj.k x=none;rw[hk];exact kN x hx
 ·show fj.kf x=none;rw[wO];exact S.qC x hx
 ·by_cases h:x∈ω.a++ω.b
  ·exact gin x h
  ·rw[MR x h];exact(S'.oJ x m e).2
 ·by_cases h:x∈ω.a++ω.b
  ·exact gin x h
  ·rw[MR x h];exact S'.dk x o e
end
theorem DA{P:dN}{g:c7}{α β:ak aQ}{a b:Int}{xs:ak aI}(h:fK P g α β [.int a,.int b] xs):∃t u,xs=[.int a t,.int b u]:=by
 revert h
 revert P g α β a b xs
 intros P g α β a b xs
 intro h
 cases h with
 |br p h=>
  cases h with
  |br q h=>
   cases h
   refine eO p.inv λt bG=>?_;obtain rfl:=bG
   refine eO q.inv λu bG=>?_;obtain rfl:=bG
   exact⟨t,u,rfl⟩
theorem LP{A:dR}{s:aZ}{a b:Int}{t u t' u':Tok}(j:Nat)(h1:j<#[aI.int a t,.int b u].dM)(h2:j<#[aI.int a t',.int b u'].dM):gf A s #[aI.int a t,.int b u][j] #[aI.int a t',.int b u'][j] true:=by
 cases j with
 |lO=>exact(cU a▸gf.int_int a t a t':gf A s (.int a t) (.int a t') true)
 |kU j=>cases j with
  |lO=>exact(cU b▸gf.int_int b u b u':gf A s (.int b u) (.int b u') true)
  |kU j=>exact cO h1 (Nat.fG (g7 2 j))
end HL.Lake
namespace HL.Lake
open PySem PySem.W PySem.Calls PyProof.Rows
set_option backward.match.sparseCases false
set_option genInjectivity false
abbrev Loc:=ak (Str×aH V)
abbrev Ob:=ak Prop
def Ob.all:Ob->Prop
 |[]=>True
 |p::r=>p/\Ob.all r
theorem Ob.app{a b:Ob}(h:Ob.all (a++b)):Ob.all a/\Ob.all b:=by
 induction a with
 |nil=>exact⟨trivial,h⟩
 |br x a ih=>
  haveI h:_/\Ob.all (a++b):=h
  exact⟨⟨h.1,(ih h.2).1⟩,(ih h.2).2⟩
structure qI where
 gl:ak (Str×V)
 bi:ak (Str×aI)
 own:ak (aQ×Str)
 ow2:ak (aQ×Str)
 st:ak (aQ×Str)
 mt:ak (aQ×Str×aQ)
 ca:ak (aQ×Str×V)
 sa:ak (aQ×Str×V)
 sm:ak (aQ×Str×aQ)
 kp:ak aQ
 kc:ak aQ
 pol:ak (Nat×Nat×Nat)
structure WU(c:Cx)(τ:qI):Prop where
 gl:∀p∈τ.gl,Gl c p.1 p.2
 bi:∀p∈τ.bi,nsIn gM iB p.1=az none/\vQ p.1=az p.2/\(p.1==("__name__":Str))=false
 own:∀p∈τ.own,AW gM p.1 p.2
 ow2:∀p∈τ.ow2,AW gM p.1 p.2/\rG gM (.ref p.1) p.2=az none
 st:∀p∈τ.st,Dl gM p.1 p.2
 mt:∀p∈τ.mt,DQ gM p.1 p.2.1 p.2.2
 ca:∀p∈τ.ca,∀(n:Nat)(env:Env)(Q:V->St->Prop)(X:St->Prop)(σ:St)(i:Nat)(l:ak (Str×V)),gJ[i]?=az (.bO l)->p.2.1∉fM (·.1)->Q p.2.2 σ->GA c n env p.2.1 (.cR p.1 i) Q X σ
 sa:∀p∈τ.sa,∀(n:Nat)(env:Env)(Q:V->St->Prop)(X:St->Prop)(σ:St),Q p.2.2 σ->GA c n env p.2.1 (.st (.ref p.1)) Q X σ
 sm:∀p∈τ.sm,∀(n:Nat)(env:Env)(Q:V->ak V->St->Prop)(X:St->Prop)(σ:St),Q (.st (.ref p.2.2)) [.st (.ref p.1)] σ->GM c n env p.2.1 (.st (.ref p.1)) Q X σ
 kp:∀a∈τ.kp,xR gM (.ref a)=true/\fnIn gM a=true
 kc:∀a∈τ.kc,xR gM (.ref a)=true
def Ga{β:Type}(x:Str):(l:ak (Str×β))->aH {v:β//(x,v)∈l}
 |[]=>none
 |(y,w)::r=>if h:(y==x)=true then az ⟨w,by rw[cL h];exact .dw _⟩
  else match Ga x r with
   |az ⟨v,m⟩=>az ⟨v,.cI _ m⟩
   |none=>none
def LQ{β:Type}(C:aQ)(x:Str):(l:ak (aQ×Str×β))->aH {v:β//(C,x,v)∈l}
 |[]=>none
 |(D,y,w)::r=>if h:(D==C&&y==x)=true then az ⟨w,by rw[aM.bN]at h;rw[cL h.1,cL h.2];exact .dw _⟩
  else match LQ C x r with
   |az ⟨v,m⟩=>az ⟨v,.cI _ m⟩
   |none=>none
def OB(x:Str):(l:Loc)->aH {v:V//(x,az v)∈l}
 |[]=>none
 |(y,w)::r=>if h:(y==x)=true then match w with
   |az v=>az ⟨v,by rw[cL h];exact .dw _⟩
   |none=>none
  else match OB x r with
   |az ⟨v,m⟩=>az ⟨v,.cI _ m⟩
   |none=>none
def Gb(x:Str)(v:V):(l:Loc)->aH {l':Loc//tU x v l l'}
 |[]=>none
 |(y,w)::r=>if h:(y==x)=true then az ⟨(y,az v)::r,by rw[cL h];exact .dw⟩
  else match Gb x v r with
   |az ⟨l',m⟩=>az ⟨(y,w)::l',.cI m⟩
   |none=>none
def Va(x:Str)(v:V):(l:ak (Str×V))->aH {l':ak (Str×V)//Jx x v l l'}
 |[]=>none
 |(y,w)::r=>if h:(y==x)=true then az ⟨(y,v)::r,by rw[cL h];exact .dw⟩
  else match Va x v r with
   |az ⟨l',m⟩=>az ⟨(y,w)::l',.cI m⟩
   |none=>none
def Hv:(W:ak AO)->(i:Nat)->aH {o:AO//W[i]?=az o}
 |[],_=>none
 |o::_,0=>az ⟨o,rfl⟩
 |_::r,i+1=>match Hv r i with
  |az ⟨o,h⟩=>az ⟨o,h⟩
  |none=>none
def A2(o:AO):(W:ak AO)->(i:Nat)->aH {W':ak AO//W'=W.set i o}
 |[],_=>none
 |_::r,0=>az ⟨o::r,rfl⟩
 |a::r,i+1=>match A2 o r i with
  |az ⟨W',h⟩=>az ⟨a::W',by rw[h];rfl⟩
  |none=>none
def Gd{α:Type}(b:ak α):(W:ak α)->{W':ak α//W'=W++b}
 |[]=>⟨b,rfl⟩
 |a::r=>match Gd b r with
  |⟨W',h⟩=>⟨a::W',by rw[h];rfl⟩
def lvF(l:Loc)(T W:ak AO):(v:V)->aH {xs:ak V//qq ⟨l,T,W⟩ v xs}
 |.aR xs=>az ⟨xs,.aR⟩
 |.lo i=>match Hv T i with
  |az ⟨.aR xs,h⟩=>az ⟨xs,.lo h⟩
  |_=>none
 |.ob i=>match Hv W i with
  |az ⟨.aR xs,h⟩=>az ⟨xs,.ob h⟩
  |_=>none
 |_=>none
def dvF(l:Loc)(T W:ak AO):(v:V)->aH {xs:ak (Str×V)//AE ⟨l,T,W⟩ v xs}
 |.bO xs=>az ⟨xs,.bO⟩
 |.lo i=>match Hv T i with
  |az ⟨.bO xs,h⟩=>az ⟨xs,.lo h⟩
  |_=>none
 |.ob i=>match Hv W i with
  |az ⟨.bO xs,h⟩=>az ⟨xs,.ob h⟩
  |_=>none
 |_=>none
structure Ct(c:Cx)(sc:gO)(τ:qI)where
 env:Env
 he:fU env sc
 ok:WU c τ
 X:St->Prop
 Q:Fl->St->Prop
section
variable{c:Cx}(n:Nat){sc:Scope}{τ:qI}(κ:Ct c sc τ)
def aaR(x:Str)(pos:Pos)(l:Loc)(T W:ak AO):aH {v:V//∀Q:V->St->Prop,Q v ⟨l,T,W⟩->WE c n κ.env (.mQ x pos) Q κ.X ⟨l,T,W⟩}:=
 if hd:(x==("__debug__":Str))=false then
  if h1:(sc.bW x==az .local)=true then match OB x l with
   |az ⟨v,m⟩=>az ⟨v,λz9 q=>DP κ.he m h1 hd q⟩
   |none=>none
  else if h2:(sc.bW x==az .globalImplicit)=true then match Ga x τ.gl with
   |az ⟨v,m⟩=>az ⟨v,λz9 q=>WK κ.he h2 hd (κ.ok.gl _ m) q⟩
   |none=>match Ga x τ.bi with
    |az ⟨v,m⟩=>az ⟨.st v,λz9 q=>yS κ.he h2 hd (κ.ok.bi _ m).1 (κ.ok.bi _ m).2.1 (κ.ok.bi _ m).2.2 q⟩
    |none=>none
  else none
 else none
theorem qG{x:Nat}(h:x<=10000):x<=fu:=Y0 h
def bvF(op:lP)(a b:V)(l:Loc)(T W:ak AO):aH {r:Ob×V//r.1.all->∀Q:V->St->Prop,Q r.2 ⟨l,T,W⟩->BV c n κ.env op a b Q κ.X ⟨l,T,W⟩}:=
 match a,b with
 |.int a,.int b=>match op with
  |.Add=>az ⟨([],.int (a+b)),λz9 z9 q=>bv_add q⟩
  |.Sub=>az ⟨([],.int (a - b)),λz9 z9 q=>Wa q⟩
  |.FloorDiv=>az ⟨([b≠0/\dI.u5 a b=false],.int (a.xU b)),λh z9 q=>Wc h.1.1 h.1.2 q⟩
  |.Mod=>az ⟨([b≠0],.int (a.um b)),λh z9 q=>We h.1 q⟩
  |.Mult=>az ⟨([IntMulOk a b],.int (a * b)),λh z9 q=>Wb h.1 q⟩
  |_=>none
 |.str x,.str y=>match op with
  |.Add=>az ⟨([x.aq+y.aq<=fu],.str (x++y)),λh z9 q=>HW h.1 q⟩
  |_=>none
 |_,_=>none
def WV(op:CmpOp)(a b:V)(l:Loc)(T W:ak AO):aH {r:aM//∀Q:V->St->Prop,Q (.bF r) ⟨l,T,W⟩->KV c n κ.env op a b Q κ.X ⟨l,T,W⟩}:=
 match op with
 |.Eq=>match a,b with
  |.int a,.int b=>az ⟨a==b,λz9 q=>Dr q⟩
  |.str a,.str b=>az ⟨a==b,λz9 q=>Dt q⟩
  |.none,.str _=>az ⟨false,λz9 q=>Fy q⟩
  |.str _,.none=>az ⟨false,λz9 q=>Fz q⟩
  |.none,.none=>az ⟨true,λz9 q=>FA q⟩
  |.bF a,.bF b=>az ⟨a==b,λz9 q=>HX q⟩
  |_,_=>none
 |.NotEq=>match a,b with
  |.int a,.int b=>az ⟨a !=b,λz9 q=>K7 q⟩
  |.str a,.str b=>az ⟨a !=b,λz9 q=>Lb q⟩
  |.none,.str _=>az ⟨true,λz9 q=>NR q⟩
  |.str _,.none=>az ⟨true,λz9 q=>NS q⟩
  |_,_=>none
 |.Lt=>match a,b with
  |.int a,.int b=>az ⟨decide (a<b),λz9 q=>K8 q⟩
  |.str a,.str b=>az ⟨decide (a.au<b.au),λz9 q=>Lc q⟩
  |_,_=>none
 |.LtE=>match a,b with
  |.int a,.int b=>az ⟨decide (a<=b),λz9 q=>K9 q⟩
  |.str a,.str b=>az ⟨!(decide (b.au<a.au)),λz9 q=>Ld q⟩
  |_,_=>none
 |.Gt=>match a,b with
  |.int a,.int b=>az ⟨decide (a>b),λz9 q=>Ds q⟩
  |_,_=>none
 |.GtE=>match a,b with
  |.int a,.int b=>az ⟨decide (a>=b),λz9 q=>La q⟩
  |_,_=>none
 |.Is=>match b with
  |.none=>if h:BQ a=false then az ⟨qO a,λz9 q=>HY h q⟩else none
  |_=>none
 |.IsNot=>match b with
  |.none=>if h:BQ a=false then az ⟨!qO a,λz9 q=>zp h q⟩else none
  |_=>none
 |.In=>match b with
  |.tup vs=>if h:vs.all jU=true then if h2:jU a=true then az ⟨vs.any λy=>vf y a,λz9 q=>AF h h2 q⟩else none else none
  |.str x=>match a with
   |.str y=>az ⟨Txt.jG x y,λz9 q=>Lf q⟩
   |_=>none
  |b=>match a with
   |.str x=>match dvF l T W b with
    |az ⟨xs,k⟩=>az ⟨decide (x∈xs.map (·.1)),λz9 q=>Ic k q⟩
    |none=>none
   |_=>none
 |.NotIn=>match b with
  |.tup vs=>if h:vs.all jU=true then if h2:jU a=true then az ⟨!vs.any λy=>vf y a,λz9 q=>zU h h2 q⟩else none else none
  |_=>none
def tvF(v:V)(l:Loc)(T W:ak AO):aH {r:Ob×aM//r.1.all->∀Q:aM->St->Prop,Q r.2 ⟨l,T,W⟩->TV c n κ.env v Q κ.X ⟨l,T,W⟩}:=
 match v with
 |.bF b=>az ⟨([],b),λz9 z9 q=>nX q⟩
 |.none=>az ⟨([],false),λz9 z9 q=>RB q⟩
 |.int a=>az ⟨([],a !=0),λz9 z9 q=>Wg q⟩
 |.str x=>az ⟨([x.aq<=10000],(x.aq:Int)!=0),λh z9 q=>Wh h.1 q⟩
 |.meth _ _=>az ⟨([],true),λz9 z9 q=>R6 q⟩
 |v=>match lvF l T W v with
  |az ⟨xs,k⟩=>az ⟨([xs.aq<=10000],!xs.qt),λh z9 q=>RC k h.1 q⟩
  |none=>match dvF l T W v with
   |az ⟨xs,k⟩=>az ⟨([xs.aq<=10000],!xs.qt),λh z9 q=>RP k h.1 q⟩
   |none=>none
def zo(n:Nat)(i:Int):Nat:=(if i<0 then i+n else i).gR
def uO(n:Nat)(i:Int):Prop:=(-(n:Int)<=i/\i<n)/\n<=10000
theorem tD{n k:Nat}:zo n (k:Int)=k:=by unfold zo;rw[aY (Int.fG (cH k))];rfl
theorem zZ{n:Nat}:zo n (-1)=n - 1:=by unfold zo;rw[bJ (by decide)];exact match n with|0=>rfl|n+1=>bM Int.gR (show(-1:Int)+((n:Int)+1)=n by rw[Int.add_comm,Int.add_neg_cancel_right])
theorem je{n k:Nat}(h:k<n)(hn:n<=10000):uO n (k:Int):=⟨⟨qz (Int.neg_nonpos_of_nonneg (cH n)) (cH k),dF.mpr h⟩,hn⟩
theorem iR{n:Nat}(h:0<n)(hn:n<=10000):uO n (-1):=⟨⟨Int.neg_le_neg (fO.mpr h),Int.lt_of_lt_of_le (by decide) (cH n)⟩,hn⟩
theorem uO.lt{n:Nat}{i:Int}(h:uO n i):zo n i<n/\seqIndex? i n=az (zo n i)/\(decide (i< -2^63)||decide (i>=2^63))=false:=by
 refine iU h λfY h3=>?_;clear h;refine iU fY λh1 h2=>?_;clear fY
 haveI hj:0<=(if i<0 then i+n else i)/\(if i<0 then i+n else i)<n:=by
  by_cases hi:i<0
  ·rw[bJ hi];exact⟨Int.add_left_neg (n:Int)▸Int.add_le_add_right h1 n,(Int.zero_add (n:Int)).subst (motive:=λz=>i+n<z) (Int.add_lt_add_right hi n)⟩
  ·rw[aY hi];exact⟨Int.rT hi,h2⟩
 refine⟨?_,?_,?_⟩
 ·exact(Int.toNat_lt hj.1).mpr hj.2
 ·show(if(decide (0<=(if i<0 then i+n else i))&&decide ((if i<0 then i+n else i)<(n:Int)))=true then az _ else none)=_
  rw[bJ (by rw[cN hj.1,cN hj.2];rfl)];rfl
 ·rw[cK (Int.fG (qz (Int.neg_le_neg (Int.le_of_lt (DO h3))) h1)),cK (Int.not_le.mpr (Int.wC h2 (DO h3)))];rfl
theorem LS{x:Str}{i:Int}{Q:V->St->Prop}{X:St->Prop}{σ:St}{env:Env}(h:uO x.aq i)(q:Q (.str ⟨#[x.au.xV (zo x.aq i) 0]⟩) σ):IV c n env (.str x) (.int i) Q X σ:=by
 refine zN h.lt λh1 h2 h3=>?_
 refine Wn h2 (cp:=x.au.xV (zo x.aq i) 0) ?_ h3 q
 haveI hl:zo x.aq i<x.au.aq:=by rw[dX.iM];exact h1
 rw[<-dX.getElem?_toList,ak.iY,ak.bk hl];rfl
theorem uP{v w:V}{xs:ak V}{i:Int}{Q:V->St->Prop}{X:St->Prop}{σ:St}{env:Env}(k:qq σ v xs)(h:uO xs.aq i)(m:xs[zo xs.aq i]?=az w)(q:Q w σ):IV c n env v (.int i) Q X σ:=by
 refine iU h λfY h3=>?_;clear h;refine iU fY λh1 h2=>?_;clear fY
 unfold zo at m
 by_cases h0:i<0
 ·rw[bJ h0]at m;exact FF k h0 h1 m h3 q
 ·rw[aY h0]at m;exact JI k (Int.rT h0) m h3 q
def OC:(xs:ak V)->(i:Nat)->aH {v:V//xs[i]?=az v}
 |[],_=>none
 |o::_,0=>az ⟨o,rfl⟩
 |_::r,i+1=>match OC r i with
  |az ⟨o,h⟩=>az ⟨o,h⟩
  |none=>none
def ivF(o i:V)(l:Loc)(T W:ak AO):aH {r:Ob×V//r.1.all->∀Q:V->St->Prop,Q r.2 ⟨l,T,W⟩->zz ⟨l,T,W⟩ o/\IV c n κ.env o i Q κ.X ⟨l,T,W⟩}:=
 match o,i with
 |.str x,.int i=>az ⟨([uO x.aq i],_),λh z9 q=>⟨.str,LS n h.1 q⟩⟩
 |.tup xs,.int i=>match OC xs i.gR with
  |az ⟨v,m⟩=>az ⟨([0<=i/\xs.aq<=10000],v),λh z9 q=>⟨.tup,Wl h.1.1 m h.1.2 q⟩⟩
  |none=>none
 |.bO xs,.str k=>match Ga k xs with
  |az ⟨v,m⟩=>az ⟨([],v),λz9 z9 q=>⟨.bO,Bs .bO m q⟩⟩
  |none=>none
 |.ob j,.str k=>match Hv W j with
  |az ⟨.bO xs,h⟩=>match Ga k xs with
   |az ⟨v,m⟩=>az ⟨([],v),λz9 z9 q=>⟨.ob h,Bs (.ob h) m q⟩⟩
   |none=>none
  |_=>none
 |.ob j,.int i=>match Hv W j with
  |az ⟨.aR xs,h⟩=>match OC xs (zo xs.aq i)with
   |az ⟨v,m⟩=>az ⟨([uO xs.aq i],v),λh' z9 q=>⟨.ob h,uP n (.ob h) h'.1 m q⟩⟩
   |none=>none
  |_=>none
 |.aR xs,.int i=>match OC xs (zo xs.aq i)with
  |az ⟨v,m⟩=>az ⟨([uO xs.aq i],v),λh z9 q=>⟨.aR,uP n .aR h.1 m q⟩⟩
  |none=>none
 |.lo j,.int i=>match Hv T j with
  |az ⟨.aR xs,h⟩=>match OC xs (zo xs.aq i)with
   |az ⟨v,m⟩=>az ⟨([uO xs.aq i],v),λh' z9 q=>⟨.lo h,uP n (.lo h) h'.1 m q⟩⟩
   |none=>none
  |_=>none
 |_,_=>none
def gaF(x:Str)(v:V)(l:Loc)(T W:ak AO):aH {r:V//∀Q:V->St->Prop,Q r ⟨l,T,W⟩->GA c n κ.env x v Q κ.X ⟨l,T,W⟩}:=
 match v with
 |.cR C i=>match Hv W i with
  |az ⟨.bO xs,hW⟩=>match Ga x xs with
   |az ⟨v,m⟩=>if hb:(τ.own.jG (C,x)&&uG v)=true then
     az ⟨v,λz9 q=>haveI hb:=(aM.bN _ _).mp hb;VM (κ.ok.own _ (ak.g6 hb.1)) hW m hb.2 q⟩
    else none
   |none=>if hc:(xs.map (·.1)).jG x=false then match LQ C x τ.mt with
     |az ⟨f,hm⟩=>az ⟨.meth (.ref f) (.cR C i),λz9 q=>M4 (κ.ok.mt _ hm) hW (F4 hc) q⟩
     |none=>match LQ C x τ.ca with
      |az ⟨v,hm⟩=>az ⟨v,λz9 q=>κ.ok.ca _ hm _ _ _ _ _ _ _ hW (F4 hc) q⟩
      |none=>none
    else none
  |_=>none
 |.st (.ref a)=>match LQ a x τ.sa with
  |az ⟨v,hm⟩=>az ⟨v,λz9 q=>κ.ok.sa _ hm _ _ _ _ _ q⟩
  |none=>none
 |_=>none
end
section
variable{c:Cx}(n:Nat){sc:Scope}{τ:qI}(κ:Ct c sc τ)(l:Loc)(T W:List AO)
abbrev PvE(e:aB):Type:=aH {r:Ob×V//r.1.all->PE c n κ.env e r.2 κ.X ⟨l,T,W⟩}
abbrev PvT(e:aB):Type:=aH {r:Ob×aM//r.1.all->PT c n κ.env e r.2 κ.X ⟨l,T,W⟩}
def pvL(pos:Pos)(ev:∀e,PvE n κ l T W e):(es:ak aB)->aH {r:Ob×ak V//r.1.all->PL c n κ.env pos es r.2 κ.X ⟨l,T,W⟩}
 |[]=>az ⟨([],[]),λz9=>WH⟩
 |e::es=>if hs:notStar e=true then match ev e with
  |az ⟨(o,v),h⟩=>match pvL pos ev es with
   |az ⟨(o',vs),h'⟩=>az ⟨(o++o',v::vs),λa=>R2 hs (h (Ob.app a).1) (h' (Ob.app a).2)⟩
   |none=>none
  |none=>none
  else none
def pvP(ev:∀e,PvE n κ l T W e):(e:aH aB)->aH {r:Ob×aH Int//r.1.all->∀Q:aH Int->St->Prop,Q r.2 ⟨l,T,W⟩->WP c n κ.env e Q κ.X ⟨l,T,W⟩}
 |none=>az ⟨([],none),λz9 z9 q=>RI q⟩
 |az e=>match ev e with
  |az ⟨(o,.int i),h⟩=>az ⟨(o,az i),λa z9 q=>RJ (h a _ ⟨i,rfl,q⟩)⟩
  |_=>none
def slF(a b:aH Int)(v:V):aH {r:Ob×V//r.1.all->Ll ⟨l,T,W⟩ a b v r.2}:=
 match v with
 |.str x=>az ⟨([x.aq<=10000],_),λh=>.str h.1⟩
 |v=>match lvF l T W v with
  |az ⟨xs,k⟩=>az ⟨([xs.aq<=10000],_),λh=>.aR k h.1⟩
  |none=>none
theorem OD{e a b:aB}{uN rC:CmpOp}{x y z:V}{r s:aM}{X:St->Prop}{σ:St}{env:Env}{pos:Pos}(hm:lastMarks [uN,rC] [a,b]=false)(h1:PE c n env e x X σ)(h2:PE c n env a y X σ)(h3:PE c n env b z X σ)(k1:∀Q:V->St->Prop,Q (.bF r) σ->KV c n env uN x y Q X σ)(k2:∀Q:V->St->Prop,Q (.bF s) σ->KV c n env rC y z Q X σ):PE c n env (.oA e [uN,rC] [a,b] pos) (.bF (r&&s)) X σ:=λQ q=>by
 refine Nl hm (h1 _ (h2 _ (k1 _ (nX ?_))))
 cases r with
 |false=>exact q
 |true=>exact h3 _ (k2 _ q)
theorem OE{e a b:aB}{uN rC:CmpOp}{x y z:V}{r s:aM}{X:St->Prop}{σ:St}{env:Env}{pos:Pos}(hm:lastMarks [uN,rC] [a,b]=false)(h1:PE c n env e x X σ)(h2:PE c n env a y X σ)(h3:PE c n env b z X σ)(k1:∀Q:V->St->Prop,Q (.bF r) σ->KV c n env uN x y Q X σ)(k2:∀Q:V->St->Prop,Q (.bF s) σ->KV c n env rC y z Q X σ):PT c n env (.oA e [uN,rC] [a,b] pos) (r&&s) X σ:=λQ q=>by
 refine Nn hm (h1 _ (h2 _ (k1 _ (nX ?_))))
 cases r with
 |false=>exact q
 |true=>exact h3 _ (k2 _ (nX q))
def yX(k:Nat):(e:aB)->PvE n κ l T W e:=Nat.rec (motive:=λz9=>(e:aB)->PvE n κ l T W e) (λz9=>none) (λz9 yX e=>match e with
  |.yN k _ _=>match k with
   |.int i=>az ⟨([],.int i),λz9 z9 q=>UG q⟩
   |.str i=>az ⟨([],.str i),λz9 z9 q=>UE q⟩
   |.bF i=>az ⟨([],.bF i),λz9 z9 q=>MZ q⟩
   |.none=>az ⟨([],.none),λz9 z9 q=>M0 q⟩
   |_=>none
  |.mQ x pos=>match aaR n κ x pos l T W with
   |az ⟨v,h⟩=>az ⟨([],v),λz9=>h⟩
   |none=>none
  |.BinOp a op b _=>match yX a with
   |az ⟨(o,x),h⟩=>match yX b with
    |az ⟨(o',y),h'⟩=>match bvF n κ op x y l T W with
     |az ⟨(tV,z),HQ⟩=>az ⟨(o++(o'++tV),z),λa z9 q=>UK (h (Ob.app a).1 _ (h' (Ob.app (Ob.app a).2).1 _ (HQ (Ob.app (Ob.app a).2).2 _ q)))⟩
     |none=>none
    |none=>none
   |none=>none
  |.UnaryOp .USub a _=>match yX a with
   |az ⟨(o,.int x),h⟩=>az ⟨(o,.int (-x)),λa z9 q=>adZ (h a _ (Wf q))⟩
   |_=>none
  |.oA a ops bs _=>match ops,bs with
   |[op],[b]=>if hm:jH op b=false then match yX a with
    |az ⟨(o,x),h⟩=>match yX b with
     |az ⟨(o',y),h'⟩=>match WV n κ op x y l T W with
      |az ⟨z,HQ⟩=>az ⟨(o++o',.bF z),λa z9 q=>Nc hm (h (Ob.app a).1 _ (h' (Ob.app a).2 _ (HQ _ q)))⟩
      |none=>none
     |none=>none
    |none=>none
    else none
   |[uN,rC],[b,d]=>if hm:lastMarks [uN,rC] [b,d]=false then match yX a with
    |az ⟨(o,x),h⟩=>match yX b with
     |az ⟨(o',y),h'⟩=>match yX d with
      |az ⟨(tV,z),HQ⟩=>match WV n κ uN x y l T W with
       |az ⟨r,k1⟩=>match WV n κ rC y z l T W with
        |az ⟨s,k2⟩=>az ⟨(o++(o'++tV),.bF (r&&s)),λa=>OD n hm (h (Ob.app a).1) (h' (Ob.app (Ob.app a).2).1) (HQ (Ob.app (Ob.app a).2).2) k1 k2⟩
        |none=>none
       |none=>none
      |none=>none
     |none=>none
    |none=>none
    else none
   |_,_=>none
  |.ju op es pos=>match es with
   |[e]=>match yX e with
    |az ⟨(o,v),h⟩=>az ⟨(o,v),λa z9 q=>DW (h a _ q)⟩
    |none=>none
   |e::vI::aU=>match yX e with
    |az ⟨(o,.bF a),h⟩=>match yX (.ju op (vI::aU) pos)with
     |az ⟨(o',.bF b),h'⟩=>match op with
      |.Or=>az ⟨(o++o',.bF (a||b)),λa=>aaJ (h (Ob.app a).1) (h' (Ob.app a).2)⟩
      |.And=>az ⟨(o++o',.bF (a&&b)),λa=>WG (h (Ob.app a).1) (h' (Ob.app a).2)⟩
     |_=>none
    |_=>none
   |_=>none
  |.mW o x _=>if hn:qK o=true then match yX o with
   |az ⟨(ob,v),h⟩=>match gaF n κ x v l T W with
    |az ⟨w,h'⟩=>az ⟨(ob,w),λa z9 q=>M6 hn (h a _ (h' _ q))⟩
    |none=>none
   |none=>none
   else none
  |.l8 o s _=>match yX o with
   |az ⟨(ob,v),h⟩=>match s with
    |.Slice lo hi none _=>match pvP n κ l T W (yX) lo with
     |az ⟨(o1,a),h1⟩=>match pvP n κ l T W (yX) hi with
      |az ⟨(o2,b),h2⟩=>match slF l T W a b v with
       |az ⟨(o3,r),h3⟩=>az ⟨(ob++(o1++(o2++o3)),r),λa=>haveI a1:=Ob.app a;haveI a2:=Ob.app a1.2;haveI a3:=Ob.app a2.2;Ot (h a1.1) (h1 a2.1) (h2 a3.1) (h3 a3.2)⟩
       |none=>none
      |none=>none
     |none=>none
    |s=>match yX s with
     |az ⟨(o1,i),h1⟩=>match ivF n κ v i l T W with
      |az ⟨(o2,r),h2⟩=>az ⟨(ob++(o1++o2),r),λa z9 q=>haveI a1:=Ob.app a;haveI a2:=Ob.app a1.2;JC (h a1.1 _ (h1 a2.1 _ (h2 a2.2 _ q)))⟩
      |none=>none
     |none=>none
   |none=>none
  |.sW es _ pos=>match pvL n κ l T W pos (yX) es with
   |az ⟨(o,vs),h⟩=>if hl:decide (vs.aq<=4096)=true then az ⟨(o,.tup vs),λa=>WJ (h a) hl⟩else none
   |none=>none
  |_=>none) k
def Vb(k:Nat):(e:aB)->PvT n κ l T W e:=Nat.rec (motive:=λz9=>(e:aB)->PvT n κ l T W e) (λz9=>none) (λf Vb e=>match e with
  |.UnaryOp .Not a _=>match Vb a with
   |az ⟨(o,b),h⟩=>az ⟨(o,!b),λa z9 q=>UL (h a _ q)⟩
   |none=>none
  |.ju op es pos=>match es with
   |[e]=>match Vb e with
    |az ⟨(o,v),h⟩=>az ⟨(o,v),λa=>qP (tY (h a))⟩
    |none=>none
   |e::vI::aU=>match Vb e with
    |az ⟨(o,a),h⟩=>match Vb (.ju op (vI::aU) pos)with
     |az ⟨(o',b),h'⟩=>match op with
      |.Or=>az ⟨(o++o',a||b),λa=>qP (Cd (h (Ob.app a).1) (h' (Ob.app a).2))⟩
      |.And=>az ⟨(o++o',a&&b),λa=>qP (wV (h (Ob.app a).1) (h' (Ob.app a).2))⟩
     |none=>none
    |none=>none
   |_=>none
  |.oA a ops bs _=>match ops,bs with
   |[op],[b]=>if hm:jH op b=false then match yX n κ l T W f a with
    |az ⟨(o,x),h⟩=>match yX n κ l T W f b with
     |az ⟨(o',y),h'⟩=>match WV n κ op x y l T W with
      |az ⟨z,HQ⟩=>az ⟨(o++o',z),λa z9 q=>AZ hm (h (Ob.app a).1 _ (h' (Ob.app a).2 _ (HQ _ (nX q))))⟩
      |none=>none
     |none=>none
    |none=>none
    else none
   |[uN,rC],[b,d]=>if hm:lastMarks [uN,rC] [b,d]=false then match yX n κ l T W f a with
    |az ⟨(o,x),h⟩=>match yX n κ l T W f b with
     |az ⟨(o',y),h'⟩=>match yX n κ l T W f d with
      |az ⟨(tV,z),HQ⟩=>match WV n κ uN x y l T W with
       |az ⟨r,k1⟩=>match WV n κ rC y z l T W with
        |az ⟨s,k2⟩=>az ⟨(o++(o'++tV),r&&s),λa=>OE n hm (h (Ob.app a).1) (h' (Ob.app (Ob.app a).2).1) (HQ (Ob.app (Ob.app a).2).2) k1 k2⟩
        |none=>none
       |none=>none
      |none=>none
     |none=>none
    |none=>none
    else none
   |_,_=>none
  |e=>if hp:vY e=true then match yX n κ l T W f e with
   |az ⟨(o,v),h⟩=>match tvF n κ v l T W with
    |az ⟨(o',b),h'⟩=>az ⟨(o++o',b),λa z9 q=>Jz hp (h (Ob.app a).1 _ (h' (Ob.app a).2 _ q))⟩
    |none=>none
   |none=>none
   else none) k
end
set_option genCtorIdx false in
inductive Fn
 |call (f:V)|tup|OF|OG|OH
set_option genCtorIdx false in
inductive Fr
 |WW (op:lP) (e:aB)|bin (op:lP) (a:V)
 |LU (op:CmpOp) (e:aB)|cmp (op:CmpOp) (a:V)
 |gF (x:Str)
 |R9 (e:aB)|Ge (o:V)
 |slc (lo hi:aH aB)
 |WX (args:ak aB) (pos:Pos)|meth (x:Str) (args:ak aB) (pos:Pos)
 |arg (g:Fn) (acc:ak V) (aU:ak aB) (pos:Pos)
 |dk (d:aM) (acc:ak (V×V)) (v:aB) (ks:ak (aH aB)) (vs:ak aB) (pos:Pos)
 |dv (d:aM) (acc:ak (V×V)) (a:V) (ks:ak (aH aB)) (vs:ak aB) (pos:Pos)
 |ret|exp (aU:ak iW)
 |asg (x:Str) (aU:ak iW)|WY (lD:ak aB) (aU:ak iW)
 |WZ (o:aB) (x:Str) (aU:ak iW)
 |aug (x:Str) (op:lP) (a:V) (aU:ak iW)
 |W0 (o:V) (x:Str) (op:lP) (a:V) (aU:ak iW)
 |OJ (i:aB) (op:lP) (e:aB) (aU:ak iW)|JS (o:V) (op:lP) (e:aB) (aU:ak iW)|Gf (o i:V) (op:lP) (a:V) (aU:ak iW)
 |Ei|W3|bl (op:ju) (aU:ak aB)
 |cond (a b aU:ak iW)|W4 (aU:ak iW)|ifx (a b:aB)
 |Sd (t:aB) (dO aU:ak iW)
 |W5 (b t:aB) (dO aU:ak iW)
 |Sg (a:V) (t:aB) (dO aU:ak iW)
 |wh (dO:ak iW)
 |bv (op:ju) (e:aB) (aU:ak aB) (pos:Pos)
set_option genCtorIdx false in
inductive M
 |ev (e:aB) (ks:ak Fr) (l:Loc) (T W:ak AO)
 |te (e:aB) (ks:ak Fr) (l:Loc) (T W:ak AO)
 |ts (op:ju) (es:ak aB) (ks:ak Fr) (l:Loc) (T W:ak AO)
 |rt (v:V) (ks:ak Fr) (l:Loc) (T W:ak AO)
 |ex (ss:ak iW) (l:Loc) (T W:ak AO)
 |cl (f:V) (vs:ak V) (ks:ak Fr) (l:Loc) (T W:ak AO)
 |al (g:Fn) (acc:ak V) (aU:ak aB) (pos:Pos) (ks:ak Fr) (l:Loc) (T W:ak AO)
 |dl (d:aM) (acc:ak (V×V)) (nB:ak (aH aB)) (vs:ak aB) (pos:Pos) (ks:ak Fr) (l:Loc) (T W:ak AO)
 |ft (t:aB) (v:V) (dO:ak iW) (l:Loc) (T W:ak AO)
 |ao (ts:ak aB) (vs:ak V) (aU:ak iW) (l:Loc) (T W:ak AO)
section
variable{c:Cx}(n:Nat){sc:Scope}{τ:qI}(κ:Ct c sc τ)
abbrev Ex(aU:ak iW)(σ:St):Prop:=WS c n κ.env aU κ.Q κ.X σ
def W6(K:V->St->Prop):Fn->ak V->St->Prop
 |.call f,vs,σ=>Kp c f/\CV c n κ.env f vs K κ.X σ
 |.tup,vs,σ=>vs.aq<=4096/\K (.tup vs) σ
 |.OF,vs,σ=>vs.aq<=4096/\K (.aR vs) σ
 |.OG,vs,σ=>vs.aq<=4096/\K (.lo jx.aq) {σ with T:=jx++[.aR vs]}
 |.OH,vs,σ=>vs.aq<=4096/\V.gW vs=true/\K (.ob gJ.aq) {σ with W:=gJ++[.aR vs]}
def W7(K:V->St->Prop)(d:aM)(ps:ak (V×V))(σ:St):Prop:=
 ∃l,sX ps=az l/\(fM (·.1)).iT/\l.aq<=4096/\(if d then V.w6 l=true/\K (.ob gJ.aq) {σ with W:=gJ++[.bO l]}else K (.bO l) σ)
def Io(bY:ak V)(t:aB)(dO aU:ak iW)(σ:St):Prop:=∃J:Nat->St->Prop,J 0 σ/\(∀i bL u,bY[i]?=az u->J i bL->AT c n κ.env t u (λz9 eB=>WS c n κ.env dO (λfl eH=>match fl with|.next=>J (i+1) eH|.rF=>J (i+1) eH|.brk=>Ex n κ aU eH|.ret v=>κ.Q (.ret v) eH) (λz9=>cM) eB) (λz9=>cM) bL)/\∀bL,J bY.aq bL->Ex n κ aU bL
def Ip(i:Int)(N:Nat):ak V:=(ak.tO N).map λk=>.int (i+(k:Nat) * 1)
def aaT(v w:V)(t:aB)(dO aU:ak iW)(σ:St):Prop:=∃i j:Int,∃N:Nat,v=.int i/\w=.int j/\dI.ni i j 1=true/\dI.jL i j 1=N/\Io n κ (Ip i N) t dO aU σ
def aaU(ov iv:V)(op:lP)(e:aB)(aU:ak iW)(σ:St):Prop:=IV c n κ.env ov iv (λold eB=>WE c n κ.env e (λv eH=>PV c n κ.env op old v (λnew oN=>SI c n κ.env ov iv new (λz9 A0=>Ex n κ aU A0) κ.X oN) κ.X eH) κ.X eB) κ.X σ
def aaV(K:V->St->Prop):Fr->V->St->Prop
 |.WW op e,a,σ=>WE c n κ.env e (λb fL=>BV c n κ.env op a b K κ.X fL) κ.X σ
 |.bin op a,b,σ=>BV c n κ.env op a b K κ.X σ
 |.LU op e,a,σ=>WE c n κ.env e (λb fL=>KV c n κ.env op a b K κ.X fL) κ.X σ
 |.cmp op a,b,σ=>KV c n κ.env op a b K κ.X σ
 |.gF x,v,σ=>GA c n κ.env x v K κ.X σ
 |.R9 e,o,σ=>WE c n κ.env e (λi fL=>zz fL o/\IV c n κ.env o i K κ.X fL) κ.X σ
 |.Ge o,i,σ=>zz σ o/\IV c n κ.env o i K κ.X σ
 |.slc lo hi,o,σ=>WP c n κ.env lo (λa bx=>WP c n κ.env hi (λb bL=>∃r,Ll bL a b o r/\K r bL) κ.X bx) κ.X σ
 |.WX args pos,f,σ=>WL c n κ.env pos args (λus fL=>Kp c f/\CV c n κ.env f us K κ.X fL) κ.X σ
 |.meth x args pos,v,σ=>GM c n κ.env x v (λf first bL=>WL c n κ.env pos args (λus fL=>Kp c f/\CV c n κ.env f (first++us) K κ.X fL) κ.X bL) κ.X σ
 |.arg g acc aU pos,v,σ=>WL c n κ.env pos aU (λus fL=>W6 n κ K g ((v::acc).rL us) fL) κ.X σ
 |.dk d acc v ks vs pos,a,σ=>WE c n κ.env v (λb bx=>WD c n κ.env pos ks vs (λps fL=>W7 K d (((a,b)::acc).rL ps) fL) κ.X bx) κ.X σ
 |.dv d acc a ks vs pos,b,σ=>WD c n κ.env pos ks vs (λps fL=>W7 K d (((a,b)::acc).rL ps) fL) κ.X σ
 |.ret,v,σ=>κ.Q (.ret v) σ
 |.exp aU,_,σ=>Ex n κ aU σ
 |.asg x aU,v,σ=>∃l',tU x v rE l'/\Ex n κ aU {σ with loc:=l'}
 |.WY lD aU,v,σ=>∃vs,v=.tup vs/\vs.aq=lD.aq/\Nt c n κ.env lD vs (λz9 bL=>Ex n κ aU bL) κ.X σ
 |.WZ o x aU,v,σ=>WE c n κ.env o (λov bL=>SA c n κ.env x ov v (λz9 eB=>Ex n κ aU eB) κ.X bL) κ.X σ
 |.aug x op a aU,w,σ=>PV c n κ.env op a w (λu bL=>∃l',tU x u bL.loc l'/\Ex n κ aU {bL with loc:=l'}) κ.X σ
 |.W0 o x op a aU,w,σ=>PV c n κ.env op a w (λu bL=>SA c n κ.env x o u (λz9 eB=>Ex n κ aU eB) κ.X bL) κ.X σ
 |.OJ i op e aU,ov,σ=>WE c n κ.env i (λiv bL=>aaU n κ ov iv op e aU bL) κ.X σ
 |.JS ov op e aU,iv,σ=>aaU n κ ov iv op e aU σ
 |.Gf ov iv op a aU,w,σ=>PV c n κ.env op a w (λu bL=>SI c n κ.env ov iv u (λz9 eB=>Ex n κ aU eB) κ.X bL) κ.X σ
 |.Ei,v,σ=>TV c n κ.env v (λb fL=>K (.bF b) fL) κ.X σ
 |.W3,v,σ=>∃b,v=.bF b/\K (.bF (!b)) σ
 |.bl op aU,v,σ=>∃b,v=.bF b/\if b=(op==.And)then UM c n κ.env op aU (λb fL=>K (.bF b) fL) κ.X σ else K (.bF b) σ
 |.cond a b aU,v,σ=>∃t,v=.bF t/\if t=true then Ex n κ (a++aU) σ else Ex n κ (b++aU) σ
 |.W4 aU,v,σ=>v=.bF true/\Ex n κ aU σ
 |.ifx a b,v,σ=>∃t,v=.bF t/\if t=true then WE c n κ.env a K κ.X σ else WE c n κ.env b K κ.X σ
 |.wh dO,v,σ=>∃t,v=.bF t/\if t=true then Ex n κ dO σ else κ.Q .brk σ
 |.Sd t dO aU,v,σ=>∃bY,vR v bY/\Io n κ bY t dO aU σ
 |.W5 b t dO aU,v,σ=>WE c n κ.env b (λw bL=>aaT n κ v w t dO aU bL) κ.X σ
 |.Sg a t dO aU,w,σ=>aaT n κ a w t dO aU σ
 |.bv op e aU pos,v,σ=>TV c n κ.env v (λb bL=>if b=(op==.And)then WE c n κ.env (.ju op (e::aU) pos) K κ.X bL else K v bL) κ.X σ
def Ce:ak Fr->V->St->Prop
 |[],_,_=>cM
 |f::ks,v,σ=>aaV n κ (Ce ks) f v σ
def Vd:M->Prop
 |.ev e ks l T W=>WE c n κ.env e (Ce n κ ks) κ.X ⟨l,T,W⟩
 |.te e ks l T W=>WT c n κ.env e (λb σ=>Ce n κ ks (.bF b) σ) κ.X ⟨l,T,W⟩
 |.ts op es ks l T W=>UM c n κ.env op es (λb σ=>Ce n κ ks (.bF b) σ) κ.X ⟨l,T,W⟩
 |.rt v ks l T W=>Ce n κ ks v ⟨l,T,W⟩
 |.ex ss l T W=>Ex n κ ss ⟨l,T,W⟩
 |.cl f vs ks l T W=>CV c n κ.env f vs (Ce n κ ks) κ.X ⟨l,T,W⟩
 |.al g acc aU pos ks l T W=>WL c n κ.env pos aU (λus σ=>W6 n κ (Ce n κ ks) g (acc.rL us) σ) κ.X ⟨l,T,W⟩
 |.dl d acc nB vs pos ks l T W=>WD c n κ.env pos nB vs (λps σ=>W7 (Ce n κ ks) d (acc.rL ps) σ) κ.X ⟨l,T,W⟩
 |.ft t v dO l T W=>AT c n κ.env t v (λz9 σ=>Ex n κ dO σ) κ.X ⟨l,T,W⟩
 |.ao ts vs aU l T W=>Nt c n κ.env ts vs (λz9 σ=>Ex n κ aU σ) κ.X ⟨l,T,W⟩
inductive Nx(m:M):Type
 |mk (o:Ob) (m':M) (h:o.all->Vd n κ m'->Vd n κ m):Nx m
end
section
variable{c:Cx}(n:Nat){sc:Scope}{τ:qI}(κ:Ct c sc τ)
theorem WO.eW{α β:Type}{c:Cx}{n:Nat}{env:Env}{f:ak aI->Sem α}{vs:ak V}{rel:Wd->β->α->Prop}{Q Q':β->St->Prop}{X:St->Prop}{σ:St}(h:WO c n env f vs rel Q X σ)(hQ:∀b σ,Q b σ->Q' b σ):WO c n env f vs rel Q' X σ:=λA ω kO a1 a2 a3=>
 aW (h A ω kO a1 a2 a3) (λ_ _⟨b,fL,fj,l,e,S,r,q⟩=>⟨b,fL,fj,l,e,S,r,hQ _ _ q⟩) λz9 z9 h=>h
def JT(pos:Pos):ak (Nat×Nat×Nat)->Nat
 |[]=>0
 |(a,b,k)::r=>if(a==pos.line&&b==pos.col)=true then k else JT pos r
def fnOf(k:Nat):Fn:=match k with
 |0=>.OF
 |1=>.OG
 |_=>.OH
theorem W8{g:Fn}{pos:Pos}{es:ak aB}{Q:V->St->Prop}{σ:St}(k:Nat)(hg:g=fnOf k)(h:WL c n κ.env pos es (λvs fL=>W6 n κ Q g vs fL) κ.X σ):WE c n κ.env (.ak es pos) Q κ.X σ:=by
 subst hg
 cases k with
 |lO=>exact JA h
 |kU k=>cases k with
  |lO=>exact Rl h
  |kU k=>exact RU h
def W9(o i:aB)(pos:Pos)(ks:ak Fr)(l:Loc)(T W:ak AO):aH (Nx n κ (.ev (.l8 o i pos) ks l T W)):=
 match i with
 |.Slice lo hi st _=>match st with
  |none=>az ⟨[],.ev o (.slc lo hi::ks) l T W,λz9 q=>JK q⟩
  |az _=>none
 |i=>az ⟨[],.ev o (.R9 i::ks) l T W,λz9 q=>JC q⟩
def Xa(f:aB)(args:ak aB)(pos:Pos)(ks:ak Fr)(l:Loc)(T W:ak AO):aH (Nx n κ (.ev (.Call f args [] pos) ks l T W)):=
 match f with
 |.mW o x ap=>if hc:(qK o&&(ap.endLine==pos.line&&(decide (args.aq<30)&&mD args)))=true then
   az ⟨[],.ev o (.meth x args pos::ks) l T W,λz9 q=>haveI a:=(aM.bN _ _).mp hc;haveI b:=(aM.bN _ _).mp a.2;haveI d:=(aM.bN _ _).mp b.2;VV a.1 b.1 d.1 d.2 q⟩else none
 |f=>if hc:(notAttr f&&mD args)=true then az ⟨[],.ev f (.WX args pos::ks) l T W,λz9 q=>haveI a:=(aM.bN _ _).mp hc;VU a.1 a.2 q⟩else none
def aaW(e:aB)(ks:ak Fr)(l:Loc)(T W:ak AO):aH (Nx n κ (.ev e ks l T W)):=
 match yX n κ l T W 12 e with
 |az ⟨(o,v),h⟩=>az ⟨o,.rt v ks l T W,λa q=>h a _ q⟩
 |none=>match e with
  |.BinOp a op b _=>az ⟨[],.ev a (.WW op b::ks) l T W,λz9 q=>UK q⟩
  |.oA a [op] [b] _=>if hm:jH op b=false then az ⟨[],.ev a (.LU op b::ks) l T W,λz9 q=>Nc hm q⟩else none
  |.mW o x _=>if hn:qK o=true then az ⟨[],.ev o (.gF x::ks) l T W,λz9 q=>M6 hn q⟩else none
  |.l8 o i pos=>W9 n κ o i pos ks l T W
  |.Call f args [] pos=>Xa n κ f args pos ks l T W
  |.sW es _ pos=>az ⟨[],.al .tup [] es pos ks l T W,λz9 q=>Ng q⟩
  |.ak es pos=>az ⟨[],.al (fnOf (JT pos τ.pol)) [] es pos ks l T W,λz9 q=>W8 n κ (JT pos τ.pol) rfl q⟩
  |.Dict kk vs pos=>if hc:(kk.all (·.sJ)&&(kk.aq==vs.aq&&(!kk.qt&&decide (kk.aq<=15))))=true then
    haveI a:=(aM.bN _ _).mp hc;haveI b:=(aM.bN _ _).mp a.2;haveI d:=(aM.bN _ _).mp b.2
    haveI h0:kk≠[]:=λe=>by rw[e]at d;exact cO d.1 (by decide)
    match JT pos τ.pol with
    |0=>az ⟨[],.dl false [] kk vs pos ks l T W,λz9 q=>Rn a.1 (cL b.1) h0 (bX d.2) q⟩
    |_=>az ⟨[],.dl true [] kk vs pos ks l T W,λz9 q=>RW a.1 (cL b.1) h0 (bX d.2) q⟩
   else none
  |.IfExp t a b _=>az ⟨[],.te t (.ifx a b::ks) l T W,λz9 q=>Ro (q.eW (λb σ h=>by obtain⟨t,e,h⟩:=h;cases e;exact h) λz9 h=>h)⟩
  |.ju op [e] _=>az ⟨[],.ev e ks l T W,λz9 q=>DW q⟩
  |.ju .And (e::vI::aU) pos=>az ⟨[],.ev e (.bv .And vI aU pos::ks) l T W,λz9 q=>UN q⟩
  |.ju .Or (e::vI::aU) pos=>az ⟨[],.ev e (.bv .Or vI aU pos::ks) l T W,λz9 q=>ZZ (q.eW (λv σ h=>WO.eW h (λb σ h=>by cases b<;>exact h)) λz9 h=>h)⟩
  |_=>none
def stepT(e:aB)(ks:ak Fr)(l:Loc)(T W:ak AO):aH (Nx n κ (.te e ks l T W)):=
 match Vb n κ l T W 12 e with
 |az ⟨(o,b),h⟩=>az ⟨o,.rt (.bF b) ks l T W,λa q=>h a _ q⟩
 |none=>match e with
  |.oA a [op] [b] _=>if hm:jH op b=false then az ⟨[],.ev a (.LU op b::.Ei::ks) l T W,λz9 q=>AZ hm q⟩else none
  |.UnaryOp .Not a _=>az ⟨[],.te a (.W3::ks) l T W,λz9 q=>UL (q.eW (λb σ h=>by obtain⟨t,e,h⟩:=h;cases e;exact h) λz9 h=>h)⟩
  |.ju op es _=>az ⟨[],.ts op es ks l T W,λz9 q=>HN q⟩
  |e=>if hp:vY e=true then az ⟨[],.ev e (.Ei::ks) l T W,λz9 q=>Jz hp q⟩else none
def aaX(op:ju)(es:ak aB)(ks:ak Fr)(l:Loc)(T W:ak AO):aH (Nx n κ (.ts op es ks l T W)):=
 match es with
 |[]=>none
 |[e]=>az ⟨[],.te e ks l T W,λz9 q=>JQ q⟩
 |e::aU=>az ⟨[],.te e (.bl op aU::ks) l T W,λz9 q=>Bq (q.eW (λb σ h=>by obtain⟨t,e,h⟩:=h;cases e;exact h) λz9 h=>h)⟩
end
section
variable{c:Cx}(n:Nat){sc:Scope}{τ:qI}(κ:Ct c sc τ)
def pvF(op:lP)(a b:V)(l:Loc)(T W:ak AO):aH {r:Ob×V//r.1.all->∀Q:V->St->Prop,Q r.2 ⟨l,T,W⟩->PV c n κ.env op a b Q κ.X ⟨l,T,W⟩}:=
 match op,a,b with
 |.Add,.int a,.int b=>az ⟨([],.int (a+b)),λz9 z9 q=>Ie q⟩
 |.Sub,.int a,.int b=>az ⟨([],.int (a - b)),λz9 z9 q=>Ig q⟩
 |.Add,.str x,.str y=>az ⟨([x.aq+y.aq<=fu],.str (x++y)),λh z9 q=>B7 h.1 q⟩
 |_,_,_=>none
def gmF(x:Str)(v:V)(l:Loc)(T W:ak AO):aH {r:V×ak V//∀Q:V->ak V->St->Prop,Q r.1 r.2 ⟨l,T,W⟩->GM c n κ.env x v Q κ.X ⟨l,T,W⟩}:=
 match v with
 |.cR C i=>match Hv W i with
  |az ⟨.bO xs,hW⟩=>match Ga x xs with
   |az ⟨v,m⟩=>if hb:(τ.ow2.jG (C,x)&&uG v)=true then
     az ⟨(v,[]),λz9 q=>haveI hb:=(aM.bN _ _).mp hb;haveI o:=κ.ok.ow2 _ (ak.g6 hb.1);VW o.1 o.2 hW m hb.2 q⟩
    else none
   |none=>if hc:(xs.map (·.1)).jG x=false then match LQ C x τ.mt with
     |az ⟨f,hm⟩=>az ⟨(.st (.ref f),[.cR C i]),λz9 q=>Jy (κ.ok.mt _ hm).1 hW (F4 hc) q⟩
     |none=>none
    else none
  |_=>none
 |.st (.ref a)=>match LQ a x τ.sm with
  |az ⟨f,hm⟩=>az ⟨(.st (.ref f),[.st (.ref a)]),λz9 q=>κ.ok.sm _ hm _ _ _ _ _ q⟩
  |none=>none
 |.str s=>
  if h:(x==aj "join")=true then az ⟨(.st (.cj "str.join"),[.str s]),λz9 q=>cL h▸RO q⟩
  else if h:(x==aj "startswith")=true then az ⟨(.st (.cj "str.startswith"),[.str s]),λz9 q=>cL h▸C3 q⟩
  else if h:(x==aj "count")=true then az ⟨(.st (.cj "str.count"),[.str s]),λz9 q=>cL h▸NZ q⟩
  else if h:(x==aj "rfind")=true then az ⟨(.st (.cj "str.rfind"),[.str s]),λz9 q=>cL h▸N1 q⟩
  else if h:(x==aj "replace")=true then az ⟨(.st (.cj "str.replace"),[.str s]),λz9 q=>cL h▸Ia q⟩
  else none
 |v=>match lvF l T W v with
  |az ⟨_,k⟩=>
   if h:(x==aj "append")=true then az ⟨(.st (.cj "list.append"),[v]),λz9 q=>cL h▸Lh k q⟩
   else if h:(x==aj "pop")=true then az ⟨(.st (.cj "list.pop"),[v]),λz9 q=>cL h▸Wk k q⟩
   else none
  |none=>none
def saF(x:Str)(o v:V)(l:Loc)(T W:ak AO):aH {W':ak AO//∀Q:qY->St->Prop,Q () ⟨l,T,W'⟩->SA c n κ.env x o v Q κ.X ⟨l,T,W⟩}:=
 match o with
 |.cR C i=>if hs:(τ.st.jG (C,x)&&v.j7)=true then match Hv W i with
  |az ⟨.bO xs,hW⟩=>if hz:decide (xs.aq<=999)=true then match Va x v xs with
   |az ⟨ys,hp⟩=>match A2 (.bO ys) W i with
    |az ⟨W',hw⟩=>az ⟨W',λz9 q=>haveI b:=(aM.bN _ _).mp hs;VZ (κ.ok.st _ (ak.g6 b.1)) hW hp (cN (fR (bX hz))) b.2 (hw▸q)⟩
    |none=>none
   |none=>if hc:(xs.map (·.1)).jG x=false then match Gd [(x,v)] xs with
    |⟨ys,hy⟩=>match A2 (.bO ys) W i with
     |az ⟨W',hw⟩=>az ⟨W',λz9 q=>haveI b:=(aM.bN _ _).mp hs;V0 (κ.ok.st _ (ak.g6 b.1)) hW (F4 hc) (cN (dZ (bX hz))) b.2 (hy▸hw▸q)⟩
     |none=>none
    else none
   else none
  |_=>none
  else none
 |_=>none
def OL(x:V):(xs:ak V)->(i:Nat)->aH {ys:ak V//ys=xs.set i x}
 |[],_=>none
 |_::r,0=>az ⟨x::r,rfl⟩
 |a::r,i+1=>match OL x r i with
  |az ⟨ys,h⟩=>az ⟨a::ys,by rw[h];rfl⟩
  |none=>none
def siF(o i x:V)(l:Loc)(T W:ak AO):aH {r:Ob×ak AO×ak AO//r.1.all->∀Q:qY->St->Prop,Q () ⟨l,r.2.1,r.2.2⟩->SI c n κ.env o i x Q κ.X ⟨l,T,W⟩}:=
 match o,i with
 |.ob j,.int k=>if hn:x.j7=true then match Hv W j with
  |az ⟨.aR xs,h⟩=>match OL x xs k.gR with
   |az ⟨ys,hy⟩=>match A2 (.aR ys) W j with
    |az ⟨W',hw⟩=>az ⟨([0<=k/\k<xs.aq/\xs.aq<=10000],T,W'),λa z9 q=>Eb (.ob h) a.1.1 a.1.2.1 a.1.2.2 hn (hy▸hw▸q)⟩
    |none=>none
   |none=>none
  |_=>none
  else none
 |.lo j,.int k=>match Hv T j with
  |az ⟨.aR xs,h⟩=>match OL x xs k.gR with
   |az ⟨ys,hy⟩=>match A2 (.aR ys) T j with
    |az ⟨T',hw⟩=>az ⟨([0<=k/\k<xs.aq/\xs.aq<=10000],T',W),λa z9 q=>Eb (.lo h) a.1.1 a.1.2.1 a.1.2.2 rfl (hy▸hw▸q)⟩
    |none=>none
   |none=>none
  |_=>none
 |_,_=>none
def kpF(f:V):aH (PLift (Kp c f)):=
 match f with
 |.st (.cj _)=>az ⟨.cj⟩
 |.st (.dg _)=>az ⟨.dg⟩
 |.st (.ref a)=>if h:τ.kp.jG a=true then az ⟨.ref (κ.ok.kp _ (ak.g6 h)).1⟩else if h:τ.kc.jG a=true then az ⟨.ref (κ.ok.kc _ (ak.g6 h))⟩else none
 |.meth (.ref a) _=>if h:τ.kp.jG a=true then az ⟨.meth (κ.ok.kp _ (ak.g6 h)).2⟩else none
 |_=>none
def Sh{α:Type}:(l:ak α)->{k:Nat//k=l.aq}
 |[]=>⟨0,rfl⟩
 |_::r=>match Sh r with
  |⟨k,h⟩=>⟨k+1,by rw[h];rfl⟩
def aaY(g:Fn)(acc:ak V)(aU:ak aB)(pos:Pos)(ks:ak Fr)(l:Loc)(T W:ak AO):aH (Nx n κ (.al g acc aU pos ks l T W)):=
 match aU with
 |e::aU=>if hs:notStar e=true then az ⟨[],.ev e (.arg g acc aU pos::ks) l T W,λz9 q=>wQ hs q⟩else none
 |[]=>match Gd [] (acc.rL [])with
  |⟨vs,hv⟩=>haveI hv:vs=acc.rL []:=hv.trans (ak.eu _)
   match g with
   |.call f=>match kpF κ f with
    |az ⟨k⟩=>az ⟨[],.cl f vs ks l T W,λz9 q=>uJ ⟨k,hv▸q⟩⟩
    |none=>none
   |.tup=>if hz:decide (vs.aq<=4096)=true then az ⟨[],.rt (.tup vs) ks l T W,λz9 q=>uJ (hv▸⟨bX hz,q⟩)⟩else none
   |.OF=>if hz:decide (vs.aq<=4096)=true then az ⟨[],.rt (.aR vs) ks l T W,λz9 q=>uJ (hv▸⟨bX hz,q⟩)⟩else none
   |.OG=>if hz:decide (vs.aq<=4096)=true then match Sh T,Gd [.aR vs] T with
    |⟨k,hk⟩,⟨T',hT⟩=>az ⟨[],.rt (.lo k) ks l T' W,λz9 q=>uJ (hv▸⟨bX hz,hk▸hT▸q⟩)⟩
    else none
   |.OH=>if hz:(decide (vs.aq<=4096)&&V.gW vs)=true then match Sh W,Gd [.aR vs] W with
    |⟨k,hk⟩,⟨W',hT⟩=>az ⟨[],.rt (.ob k) ks l T W',λz9 q=>haveI b:=(aM.bN _ _).mp hz;uJ (hv▸⟨bX b.1,b.2,hk▸hT▸q⟩)⟩
    else none
def spF:(ps:ak (V×V))->aH {l:ak (Str×V)//sX ps=az l}
 |[]=>az ⟨[],rfl⟩
 |(.str x,v)::r=>match spF r with
  |az ⟨l,h⟩=>az ⟨(x,v)::l,by show(sX _).map ((x,v)::·)=_;rw[h];rfl⟩
  |none=>none
 |_=>none
def aaZ(d:aM)(acc:ak (V×V))(nB:ak (aH aB))(vs:ak aB)(pos:Pos)(ks:ak Fr)(l:Loc)(T W:ak AO):aH (Nx n κ (.dl d acc nB vs pos ks l T W)):=
 match nB,vs with
 |az k::nB,v::vs=>az ⟨[],.ev k (.dk d acc v nB vs pos::ks) l T W,λz9 q=>Rm q⟩
 |[],vs=>match spF (acc.rL [])with
  |az ⟨es,he⟩=>if hz:(Cb (es.map (·.1))&&decide (es.aq<=4096))=true then match d with
   |false=>az ⟨[],.rt (.bO es) ks l T W,λz9 q=>haveI b:=(aM.bN _ _).mp hz;Nh ⟨es,he,nodupB_iff b.1,bX b.2,q⟩⟩
   |true=>if hn:V.w6 es=true then match Sh W,Gd [.bO es] W with
    |⟨k,hk⟩,⟨W',hT⟩=>az ⟨[],.rt (.ob k) ks l T W',λz9 q=>haveI b:=(aM.bN _ _).mp hz;Nh ⟨es,he,nodupB_iff b.1,bX b.2,hn,hk▸hT▸q⟩⟩
    else none
   else none
  |none=>none
 |_,_=>none
def aa0(ts:ak aB)(vs:ak V)(aU:ak iW)(l:Loc)(T W:ak AO):aH (Nx n κ (.ao ts vs aU l T W)):=
 match ts,vs with
 |[],[]=>az ⟨[],.ex aU l T W,λz9 q=>Nu q⟩
 |.mQ x _::ts,v::vs=>if hk:(sc.bW x==az .local)=true then match Gb x v l with
  |az ⟨l',p⟩=>az ⟨[],.ao ts vs aU l' T W,λz9 q=>DZ κ.he hk ⟨l',p,q⟩⟩
  |none=>none
  else none
 |.mW o x _::ts,v::vs=>match yX n κ l T W 3 o with
  |az ⟨(ob,ov),h⟩=>match saF n κ x ov v l T W with
   |az ⟨W',h'⟩=>az ⟨ob,.ao ts vs aU l T W',λa q=>Rq (h a _ (h' _ q))⟩
   |none=>none
  |none=>none
 |_,_=>none
end
section
variable{c:Cx}(n:Nat){sc:Scope}{τ:qI}(κ:Ct c sc τ)
def aa1(v:V)(f:Fr)(ks:ak Fr)(l:Loc)(T W:ak AO):aH (Nx n κ (.rt v (f::ks) l T W)):=
 match f with
 |.WW op e=>az ⟨[],.ev e (.bin op v::ks) l T W,λz9 q=>q⟩
 |.bin op a=>match bvF n κ op a v l T W with
  |az ⟨(o,r),h⟩=>az ⟨o,.rt r ks l T W,λa q=>h a _ q⟩
  |none=>none
 |.LU op e=>az ⟨[],.ev e (.cmp op v::ks) l T W,λz9 q=>q⟩
 |.cmp op a=>match WV n κ op a v l T W with
  |az ⟨r,h⟩=>az ⟨[],.rt (.bF r) ks l T W,λz9 q=>h _ q⟩
  |none=>none
 |.gF x=>match gaF n κ x v l T W with
  |az ⟨r,h⟩=>az ⟨[],.rt r ks l T W,λz9 q=>h _ q⟩
  |none=>none
 |.R9 e=>az ⟨[],.ev e (.Ge v::ks) l T W,λz9 q=>q⟩
 |.Ge o=>match ivF n κ o v l T W with
  |az ⟨(ob,r),h⟩=>az ⟨ob,.rt r ks l T W,λa q=>h a _ q⟩
  |none=>none
 |.slc lo hi=>match pvP n κ l T W (yX n κ l T W 12) lo with
  |az ⟨(o1,a),h1⟩=>match pvP n κ l T W (yX n κ l T W 12) hi with
   |az ⟨(o2,b),h2⟩=>match slF l T W a b v with
    |az ⟨(o3,r),h3⟩=>az ⟨o1++(o2++o3),.rt r ks l T W,λa q=>haveI a1:=Ob.app a;haveI a2:=Ob.app a1.2;h1 a1.1 _ (h2 a2.1 _ ⟨r,h3 a2.2,q⟩)⟩
    |none=>none
   |none=>none
  |none=>none
 |.WX args pos=>az ⟨[],.al (.call v) [] args pos ks l T W,λz9 q=>q⟩
 |.meth x args pos=>match gmF n κ x v l T W with
  |az ⟨(f,[]),h⟩=>az ⟨[],.al (.call f) [] args pos ks l T W,λz9 q=>h (λf first bL=>WL c n κ.env pos args (λus fL=>Kp c f/\CV c n κ.env f (first++us) (Ce n κ ks) κ.X fL) κ.X bL) q⟩
  |az ⟨(f,[a]),h⟩=>az ⟨[],.al (.call f) [a] args pos ks l T W,λz9 q=>h (λf first bL=>WL c n κ.env pos args (λus fL=>Kp c f/\CV c n κ.env f (first++us) (Ce n κ ks) κ.X fL) κ.X bL) q⟩
  |_=>none
 |.arg g acc aU pos=>az ⟨[],.al g (v::acc) aU pos ks l T W,λz9 q=>q⟩
 |.dk d acc e kk vs pos=>az ⟨[],.ev e (.dv d acc v kk vs pos::ks) l T W,λz9 q=>q⟩
 |.dv d acc a kk vs pos=>az ⟨[],.dl d ((a,v)::acc) kk vs pos ks l T W,λz9 q=>q⟩
 |.exp aU=>az ⟨[],.ex aU l T W,λz9 q=>q⟩
 |.asg x aU=>match Gb x v l with
  |az ⟨l',p⟩=>az ⟨[],.ex aU l' T W,λz9 q=>⟨l',p,q⟩⟩
  |none=>none
 |.WY lD aU=>match v with
  |.tup vs=>if hl:(vs.aq==lD.aq)=true then az ⟨[],.ao lD vs aU l T W,λz9 q=>⟨vs,rfl,cL hl,q⟩⟩else none
  |_=>none
 |.WZ o x aU=>match yX n κ l T W 12 o with
  |az ⟨(ob,ov),h⟩=>match saF n κ x ov v l T W with
   |az ⟨W',h'⟩=>az ⟨ob,.ex aU l T W',λa q=>h a _ (h' _ q)⟩
   |none=>none
  |none=>none
 |.aug x op a aU=>match pvF n κ op a v l T W with
  |az ⟨(ob,r),h⟩=>match Gb x r l with
   |az ⟨l',p⟩=>az ⟨ob,.ex aU l' T W,λa q=>h a _ ⟨l',p,q⟩⟩
   |none=>none
  |none=>none
 |.W0 o x op a aU=>match pvF n κ op a v l T W with
  |az ⟨(ob,r),h⟩=>match saF n κ x o r l T W with
   |az ⟨W',h'⟩=>az ⟨ob,.ex aU l T W',λa q=>h a _ (h' _ q)⟩
   |none=>none
  |none=>none
 |.OJ i op e aU=>az ⟨[],.ev i [.JS v op e aU] l T W,λz9 q=>q⟩
 |.JS ov op e aU=>match ivF n κ ov v l T W with
  |az ⟨(ob,old),h⟩=>az ⟨ob,.ev e [.Gf ov v op old aU] l T W,λa q=>(h a _ q).2⟩
  |none=>none
 |.Gf ov iv op a aU=>match pvF n κ op a v l T W with
  |az ⟨(ob,r),h⟩=>match siF n κ ov iv r l T W with
   |az ⟨(E4,T',W'),h'⟩=>az ⟨ob++E4,.ex aU l T' W',λa q=>h (Ob.app a).1 _ (h' (Ob.app a).2 _ q)⟩
   |none=>none
  |none=>none
 |.Ei=>match tvF n κ v l T W with
  |az ⟨(ob,b),h⟩=>az ⟨ob,.rt (.bF b) ks l T W,λa q=>h a _ q⟩
  |none=>none
 |.W3=>match v with
  |.bF b=>az ⟨[],.rt (.bF (!b)) ks l T W,λz9 q=>⟨b,rfl,q⟩⟩
  |_=>none
 |.bl op aU=>match v with
  |.bF true=>match op with
   |.And=>az ⟨[],.ts .And aU ks l T W,λz9 q=>⟨true,rfl,q⟩⟩
   |.Or=>az ⟨[],.rt (.bF true) ks l T W,λz9 q=>⟨true,rfl,q⟩⟩
  |.bF false=>match op with
   |.And=>az ⟨[],.rt (.bF false) ks l T W,λz9 q=>⟨false,rfl,q⟩⟩
   |.Or=>az ⟨[],.ts .Or aU ks l T W,λz9 q=>⟨false,rfl,q⟩⟩
  |_=>none
 |.cond a b aU=>match v with
  |.bF true=>match Gd aU a with
   |⟨ss,h⟩=>az ⟨[],.ex ss l T W,λz9 q=>⟨true,rfl,h▸q⟩⟩
  |.bF false=>match Gd aU b with
   |⟨ss,h⟩=>az ⟨[],.ex ss l T W,λz9 q=>⟨false,rfl,h▸q⟩⟩
  |_=>none
 |.wh dO=>match v with
  |.bF true=>az ⟨[],.ex dO l T W,λz9 q=>⟨true,rfl,q⟩⟩
  |_=>none
 |.W4 aU=>match v with
  |.bF true=>az ⟨[],.ex aU l T W,λz9 q=>⟨rfl,q⟩⟩
  |_=>none
 |.ifx a b=>match v with
  |.bF true=>az ⟨[],.ev a ks l T W,λz9 q=>⟨true,rfl,q⟩⟩
  |.bF false=>az ⟨[],.ev b ks l T W,λz9 q=>⟨false,rfl,q⟩⟩
  |_=>none
 |.W5 b t dO aU=>az ⟨[],.ev b [.Sg v t dO aU] l T W,λz9 q=>q⟩
 |.ret|.bv .. |.Sd .. |.Sg ..=>none
def So:aB->aM
 |.Call (.mQ x _) _ _ _=>x==aj "range"||x==aj "enumerate"
 |_=>false
def aet:(e:aB)->aH {r:(Str×Pos)×aB×aB×Pos//e=.Call (.mQ r.1.1 r.1.2) [r.2.1,r.2.2.1] [] r.2.2.2}
 |.Call (.mQ x p) [a,b] [] p'=>az ⟨((x,p),a,b,p'),rfl⟩
 |_=>none
def Xb(t gZ:aB)(dO aU:ak iW)(pos:Pos)(l:Loc)(T W:ak AO):aH (Nx n κ (.ex (.For t gZ dO [] pos::aU) l T W)):=
 match aet gZ with
 |az r=>if hr:(r.1.1.1==aj "range"&&(mD [r.1.2.1,r.1.2.2.1]&&sc.bW (aj "range")==az i7))=true then match Ga (aj "range") τ.bi with
   |az ⟨_,m⟩=>az ⟨[],.ev r.1.2.1 [.W5 r.1.2.2.1 t dO aU] l T W,λz9 q=>haveI h:=(aM.bN _ _).mp hr;haveI h':=(aM.bN _ _).mp h.2;r.2.symm▸cL h.1▸NF rfl (Lx κ.he h'.2 (κ.ok.bi _ m).1 h'.1 q)⟩
   |none=>none
  else none
 |none=>if hs:(qm gZ&&!So gZ)=true then az ⟨[],.ev gZ [.Sd t dO aU] l T W,λz9 q=>haveI b:=(aM.bN _ _).mp hs;NF b.1 (zS q)⟩else none
def aa2(ss:ak iW)(l:Loc)(T W:ak AO):aH (Nx n κ (.ex ss l T W)):=
 match ss with
 |[]=>none
 |s::aU=>match s with
  |.Return (az e) _=>az ⟨[],.ev e [.ret] l T W,λz9 q=>Fq q⟩
  |.Return none _=>az ⟨[],.rt .none [.ret] l T W,λz9 q=>CW q⟩
  |.tG e _=>if hc:nW e=true then az ⟨[],.ev e [.exp aU] l T W,λz9 q=>V2 κ.he hc q⟩else none
  |.Pass _=>az ⟨[],.ex aU l T W,λz9 q=>V1 q⟩
  |.If t a b _=>az ⟨[],.te t [.cond a b aU] l T W,λz9 q=>ad1 (q.eW (λb σ h=>by obtain⟨t,e,h⟩:=h;cases e;exact h) λz9 h=>h)⟩
  |.For t gZ dO [] pos=>Xb n κ t gZ dO aU pos l T W
  |.Assert t none _=>az ⟨[],.te t [.W4 aU] l T W,λz9 q=>Ny (q.eW (λb σ h=>⟨V.bF.inj h.1,h.2⟩) λz9 h=>h)⟩
  |.wA [t] e _=>if hc:nW e=true then match t with
   |.mQ x _=>if hk:(sc.bW x==az .local)=true then az ⟨[],.ev e [.asg x aU] l T W,λz9 q=>Np κ.he hk hc q⟩else none
   |.mW o x _=>az ⟨[],.ev e [.WZ o x aU] l T W,λz9 q=>CU hc q⟩
   |.sW lD _ _=>if ht:(zQ e&&lD.all oO)=true then az ⟨[],.ev e [.WY lD aU] l T W,λz9 q=>haveI b:=(aM.bN _ _).mp ht;Rt hc b.1 b.2 q⟩else none
   |_=>none
   else none
  |.AugAssign t op e _=>match t with
   |.mQ x _=>if hk:(sc.bW x==az .local)=true then match OB x l with
    |az ⟨a,m⟩=>az ⟨[],.ev e [.aug x op a aU] l T W,λz9 q=>Z2 κ.he hk m q⟩
    |none=>none
    else none
   |.mW o x _=>match yX n κ l T W 6 o with
    |az ⟨(ob,ov),h⟩=>match gaF n κ x ov l T W with
     |az ⟨old,h'⟩=>az ⟨ob,.ev e [.W0 ov x op old aU] l T W,λa q=>HO (h a _ (h' _ q))⟩
     |none=>none
    |none=>none
   |.l8 o i _=>if hi:zP i=true then az ⟨[],.ev o [.OJ i op e aU] l T W,λz9 q=>K2 hi q⟩else none
   |_=>none
  |_=>none
def Vc:(xs:ak V)->aH {ys:ak Str//xs=ys.map V.str}
 |[]=>az ⟨[],rfl⟩
 |.str x::r=>match Vc r with
  |az ⟨ys,h⟩=>az ⟨x::ys,by rw[h];rfl⟩
  |none=>none
 |_=>none
def aa3:(xs:ak V)->aH {p:ak V×V//xs=p.1++[p.2]}
 |[]=>none
 |[a]=>az ⟨([],a),rfl⟩
 |a::r=>match aa3 r with
  |az ⟨(b,x),h⟩=>az ⟨(a::b,x),by rw[h];rfl⟩
  |none=>none
theorem Iq{x y:Str}{z off:Int}{X:St->Prop}{env:Env}{σ:St}{Q:V->St->Prop}(h:y=⟨#[10]⟩/\z=0/\0<=off/\off<=x.aq)(q:Q (.int (cntIn 10 (x.au.eL off.gR))) σ):CV c n env (.st (.cj "str.count")) [.str x,.str y,.int z,.int off] Q X σ:=h.2.1▸F5 h.1 h.2.2.1 h.2.2.2 q
theorem Ir{x y:Str}{z off:Int}{X:St->Prop}{env:Env}{σ:St}{Q:V->St->Prop}(h:y=⟨#[10]⟩/\z=0/\0<=off/\off<=x.aq)(q:Q (.int (match kQ 10 (x.au.eL off.gR)with|az i=>(i:Int)|none=>-1)) σ):CV c n env (.st (.cj "str.rfind")) [.str x,.str y,.int z,.int off] Q X σ:=h.2.1▸F6 h.1 h.2.2.1 h.2.2.2 q
def aa4(f:V)(vs:ak V)(ks:ak Fr)(l:Loc)(T W:ak AO):aH (Nx n κ (.cl f vs ks l T W)):=
 match f with
 |.st (.cj id)=>match vs with
  |[a]=>if h:id="list.pop" then match a with
    |.lo i=>match Hv T i with
     |az ⟨.aR xs,h0⟩=>match aa3 xs with
      |az ⟨(ys,y),hy⟩=>match A2 (.aR ys) T i with
       |az ⟨T',hT⟩=>az ⟨[ys.aq<=10000],.rt y ks l T' W,λo q=>h▸NT (.lo (hy▸h0)) o.1 (hT▸q)⟩
       |none=>none
      |none=>none
     |_=>none
    |_=>none
   else if h:id="len" then match a with
    |.str x=>az ⟨[x.aq<=10000],.rt (.int x.aq) ks l T W,λo q=>h▸HZ o.1 q⟩
    |a=>match lvF l T W a with
     |az ⟨xs,k⟩=>az ⟨[xs.aq<=10000],.rt (.int xs.aq) ks l T W,λo q=>h▸FE k o.1 q⟩
     |none=>none
   else if h:id="ord" then match a with
    |.str ⟨⟨[k]⟩⟩=>az ⟨[],.rt (.int k) ks l T W,λz9 q=>h▸Wr q⟩
    |_=>none
   else if h:id="chr" then match a with
    |.int i=>az ⟨[(decide (i<0)||decide (i>1114111))=false],.rt (.str ⟨#[i.gR]⟩) ks l T W,λo q=>h▸Ws o.1 q⟩
    |_=>none
   else none
  |[a,b]=>if h:id="list.append" then match a with
    |.lo i=>match Hv T i with
     |az ⟨.aR xs,h0⟩=>match A2 (.aR (xs++[b])) T i with
       |az ⟨T',hT⟩=>az ⟨[xs.aq<=10000],.rt .none ks l T' W,λo q=>h▸Az (.lo h0) rfl o.1 (hT▸q)⟩
       |none=>none
     |_=>none
    |.ob i=>if hn:b.j7=true then match Hv W i with
     |az ⟨.aR xs,h0⟩=>match A2 (.aR (xs++[b])) W i with
       |az ⟨W',hT⟩=>az ⟨[xs.aq<=10000],.rt .none ks l T W',λo q=>h▸Az (.ob h0) hn o.1 (hT▸q)⟩
       |none=>none
     |_=>none
     else none
    |_=>none
   else if h:id="max" then match a,b with
    |.int a,.int b=>az ⟨[],.rt (.int (if b>a then b else a)) ks l T W,λz9 q=>h▸Wt q⟩
    |_,_=>none
   else if h:id="str.join" then match a with
    |.str s=>match lvF l T W b with
     |az ⟨xs,k⟩=>match Vc xs with
      |az ⟨ys,hy⟩=>az ⟨[s.aq<=16/\(ys.map (·.aq)).sum+ys.aq<=1048576],.rt (.str (Txt.join s ys)) ks l T W,λo q=>h▸JN (hy▸k) o.1.1 o.1.2 q⟩
      |none=>none
     |none=>none
    |_=>none
   else if h:id="str.startswith" then match a,b with
    |.str a,.str b=>az ⟨[],.rt (.bF (qb a b)) ks l T W,λz9 q=>h▸C4 q⟩
    |_,_=>none
   else if h:id="isinstance" then match a,b with
    |.int a,.st (.dg t)=>if h2:t="bool" then az ⟨[],.rt (.bF false) ks l T W,λz9 q=>h▸h2▸Ib q⟩else none
    |.bF a,.st (.dg t)=>if h2:t="bool" then az ⟨[],.rt (.bF true) ks l T W,λz9 q=>h▸h2▸FL q⟩else none
    |_,_=>none
   else none
  |[.str x,.str y,.int z,.int o]=>if h:id="str.count" then az ⟨[y=⟨#[10]⟩/\z=0/\0<=o/\o<=x.aq],.rt (.int (cntIn 10 (x.au.eL o.gR))) ks l T W,λa q=>h▸Iq n a.1 q⟩
   else if h:id="str.rfind" then az ⟨[y=⟨#[10]⟩/\z=0/\0<=o/\o<=x.aq],.rt (.int (match kQ 10 (x.au.eL o.gR)with|az i=>(i:Int)|none=>-1)) ks l T W,λa q=>h▸Ir n a.1 q⟩
   else none
  |[.str x,.str y,.str z]=>if h:id="str.replace" then az ⟨[y.cps[0]?=az 13/\∀a∈x.au,a≠13],.rt (.str x) ks l T W,λa q=>h▸C6 a.1.1 a.1.2 q⟩else none
  |_=>none
 |_=>none
def aa5(t:aB)(v:V)(dO:ak iW)(l:Loc)(T W:ak AO):aH (Nx n κ (.ft t v dO l T W)):=
 match t with
 |.mQ x _=>if hk:(sc.bW x==az .local)=true then match Gb x v l with
  |az ⟨l',p⟩=>az ⟨[],.ex dO l' T W,λz9 q=>D3 κ.he hk ⟨l',p,q⟩⟩
  |none=>none
  else none
 |.sW lD _ _=>match v with
  |.tup vs=>if hl:(lD.all oO&&vs.aq==lD.aq)=true then az ⟨[],.ao lD vs dO l T W,λz9 q=>haveI b:=(aM.bN _ _).mp hl;NC b.1 (cL b.2) q⟩else none
  |_=>none
 |_=>none
def step(m:M):aH (Nx n κ m):=match m with
 |.ev e ks l T W=>aaW n κ e ks l T W
 |.te e ks l T W=>stepT n κ e ks l T W
 |.ts op es ks l T W=>aaX n κ op es ks l T W
 |.rt v (f::ks) l T W=>aa1 n κ v f ks l T W
 |.rt _ [] _ _ _=>none
 |.ex ss l T W=>aa2 n κ ss l T W
 |.cl f vs ks l T W=>aa4 n κ f vs ks l T W
 |.al g acc aU pos ks l T W=>aaY n κ g acc aU pos ks l T W
 |.dl d acc nB vs pos ks l T W=>aaZ n κ d acc nB vs pos ks l T W
 |.ao ts vs aU l T W=>aa0 n κ ts vs aU l T W
 |.ft t v dO l T W=>aa5 n κ t v dO l T W
def run:Nat->(m:M)->Nx n κ m
 |0,m=>⟨[],m,λz9 q=>q⟩
 |k+1,m=>match step n κ m with
  |none=>⟨[],m,λz9 q=>q⟩
  |az ⟨o,m',h⟩=>match run k m' with
   |⟨o',m'',h'⟩=>⟨o++o',m'',λa q=>h (Ob.app a).1 (h' (Ob.app a).2 q)⟩
def Nx.o{m:M}:Nx n κ m->Ob
 |⟨o,_,_⟩=>o
def Nx.m{m:M}:Nx n κ m->M
 |⟨_,m',_⟩=>m'
theorem Nx.h{m:M}(x:Nx n κ m)(a:x.o.all)(q:Vd n κ (Nx.m n κ x)):Vd n κ m:=by
 cases x with
 |mk o m' h=>exact h a q
theorem go(k:Nat){m m':M}(e:m'=Nx.m n κ (run n κ k m))(a:(Nx.o n κ (run n κ k m)).all)(q:Vd n κ m'):Vd n κ m:=Nx.h n κ _ a (e▸q)
variable{n κ}
theorem cX(k:Nat){m m':M}(e:m'=Nx.m n κ (run n κ k m))(a:[]=Nx.o n κ (run n κ k m))(q:Vd n κ m'):Vd n κ m:=Nx.h n κ _ (a▸trivial) (e▸q)
theorem mq(k:Nat){m m':M}{p:Prop}(e:m'=Nx.m n κ (run n κ k m))(a:[p]=Nx.o n κ (run n κ k m))(h:p)(q:Vd n κ m'):Vd n κ m:=Nx.h n κ _ (a▸⟨h,trivial⟩) (e▸q)
theorem go2(k:Nat){m m':M}{p p2:Prop}(e:m'=Nx.m n κ (run n κ k m))(a:[p,p2]=Nx.o n κ (run n κ k m))(h:p)(h2:p2)(q:Vd n κ m'):Vd n κ m:=Nx.h n κ _ (a▸⟨h,h2,trivial⟩) (e▸q)
end
def aa7(K:xP)(v:V)(rv:aI):aM:=match v with
 |.st w=>w==rv
 |v=>F0 K v rv
theorem AI{c:Cx}{v:V}{rv:aI}(h:aa7 gM v rv=true):u0 c v rv:=by
 cases v with
 |st w=>rw[cL (show(w==rv)=true from h)];exact u0.st
 |_=>exact u0.of h
def glB(K:xP)(p:Str×V×aI):aM:=nsIn K iB p.1==az (az p.2.2)&&aa7 K p.2.1 p.2.2
def biB(K:xP)(p:Str×aI):aM:=nsIn K iB p.1==az none&&(vQ p.1==az p.2&&(p.1==("__name__":Str))==false)
def OM(K:xP)(p:aQ×Str):aM:=plainGet K p.1 p.2&&(yO K p.1&&match rG K (.ref p.1) p.2 with
 |az gF=>noGet K gF
 |none=>false)
def stB(K:xP)(p:aQ×Str):aM:=rG K (.ref p.1) "__setattr__"==az (az (.cj "object.__setattr__"))&&(plainOver K p.1&&(takerIn K p.1 p.2==az none&&yO K p.1))
def mtB(K:xP)(p:aQ×Str×aQ):aM:=plainGet K p.1 p.2.1&&(rG K (.ref p.1) p.2.1==az (az (.ref p.2.2))&&(isFn K (.ref p.2.2)&&(xR K (.ref p.2.2)&&(fnIn K p.2.2&&(yO K p.1&&(specialIn K (.ref p.2.2) "__get__"==az (az (.cj "function.__get__"))&&(takesIn K (.ref p.2.2)==az false&&copiedNames.jG p.2.1==false)))))))
theorem wW{a b:aM}(h:(a&&b)=true):a=true/\b=true:=(aM.bN _ _).mp h
section
variable{c:Cx}
theorem Xc{l:ak (Str×V×aI)}(h:yM (glB gM)=true):∀p∈fM (λp=>(p.1,p.2.1)),Gl c p.1 p.2:=λp hp=>by
 refine gg (ak.jt hp) λq hq ig=>?_;obtain rfl:=ig
 have:=wW (ak.bV h q hq)
 exact⟨_,cL this.1,AI this.2⟩
theorem Xd{l:ak (Str×aI)}(h:yM (biB gM)=true):∀p∈l,nsIn gM iB p.1=az none/\vQ p.1=az p.2/\(p.1==("__name__":Str))=false:=λp hp=>
 haveI a:=wW (ak.bV h p hp)
 haveI b:=wW a.2
 ⟨cL a.1,cL b.1,cL b.2⟩
theorem Ej{l:ak (aQ×Str)}(h:yM (OM gM)=true):∀p∈l,AW gM p.1 p.2:=by
 revert h
 revert c l
 intros c l
 intro h
 intros p
 intro hp
 have a:=wW (ak.bV h p hp)
 have b:=wW a.2
 refine⟨a.1,b.1,?_⟩
 have d:=b.2
 cases e:rG gM (.ref p.1) p.2 with
 |none=>rw[e]at d;cases d
 |az gF=>rw[e]at d;exact⟨_,rfl,d⟩
theorem Sq{l:ak (aQ×Str)}(h:yM (λp=>OM gM p&&rG gM (.ref p.1) p.2==az none)=true):∀p∈l,AW gM p.1 p.2/\rG gM (.ref p.1) p.2=az none:=λp hp=>
 ⟨Ej (ak.rP.mpr λq hq=>(wW (ak.bV h q hq)).1) p hp,cL (wW (ak.bV h p hp)).2⟩
theorem Xe{l:ak (aQ×Str)}(h:yM (stB gM)=true):∀p∈l,Dl gM p.1 p.2:=λp hp=>
 haveI a:=wW (ak.bV h p hp)
 haveI b:=wW a.2
 haveI d:=wW b.2
 ⟨cL a.1,b.1,cL d.1,d.2⟩
theorem ON{l:ak (aQ×Str×aQ)}(h:yM (mtB gM)=true):∀p∈l,DQ gM p.1 p.2.1 p.2.2:=λp hp=>
 haveI a:=wW (ak.bV h p hp)
 haveI b:=wW a.2
 haveI d:=wW b.2
 haveI e:=wW d.2
 haveI f:=wW e.2
 haveI g:=wW f.2
 haveI i:=wW g.2
 haveI j:=wW i.2
 ⟨⟨a.1,cL b.1,d.1,e.1,f.1⟩,g.1,cL i.1,cL j.1,cL j.2⟩
theorem Xf{l:ak aQ}(h:yM (λa=>xR gM (.ref a)&&fnIn gM a)=true):∀a∈l,xR gM (.ref a)=true/\fnIn gM a=true:=λa ha=>wW (ak.bV h a ha)
def aa8:ak Str->Loc
 |[]=>[]
 |x::r=>(x,none)::aa8 r
def locs(os:ak Str):ak (Str×V)->Loc
 |[]=>aa8 os
 |(x,v)::r=>(x,az v)::locs os r
theorem JU{os:ak Str}{bs:ak (Str×V)}:locs os bs=Bc bs os:=by
 induction bs with
 |nil=>induction os with
  |nil=>rfl
  |br x r ih=>exact bM ((x,none)::·) ih
 |br p r ih=>exact bM ((p.1,az p.2)::·) ih
variable{n:Nat}{Q:V->List AO->Prop}{X:List AO->Prop}{τ:qI}
theorem pF{H:xP}{f:aQ}{o:Obj}{fd:kR}{dO:ak iW}{vs:ak V}{kw bs:ak (Str×V)}{cG:ak Str}{Ar:ak AO}(hK:gM=H)(ok:WU c τ)(hl:H.eF f=az o)(hd:o.f9=.w4 fd)(hb:fd.dO=.stmts dO)(Bt:WA fd (bs.map (·.1)) cG=true)(FW:codeIn H fd.code lZ=true)(Oo:xw c fd vs kw bs)
  (h:∀κ:Ct c fd.bD τ,qL κ.env->(∀v v' l T W,KO T v v'->Q v' W->κ.Q (.ret v) ⟨l,T,W⟩)->(∀l T W,Q .none W->κ.Q .next ⟨l,T,W⟩)->(∀l T W,X W->κ.X ⟨l,T,W⟩)->Vd n κ (.ex dO (locs cG bs) [] Ar)):gj c (n+1) (.ref f) vs kw Q X Ar:=
 Ol ⟨o,hK▸hl,hd⟩ hb rfl Bt (hK▸FW) Oo λenv he hf=>JU▸h ⟨env,he,ok,λσ=>X gJ,VQ Q⟩ hf (λz9 v' z9 z9 z9 hz hq=>⟨v',hz,hq⟩) (λz9 z9 z9 hq=>hq) λz9 z9 z9 hx=>hx
def AJ(fd:kR)(pos:ak aI):{k:aH (dX aI)->Sem (ak (Str×aI))//bindArgs fd ⟨pos,[]⟩=seqItems? n6>>=k}:=⟨_,rfl⟩
section
variable{H:Frag}{fd:FuncData}{D:Addr}{xs:List Value}{dl:List (Str×V)}{ds:List (Str×Value)}{v1 v2 v3:V}{x1 x2 x3:Str}
theorem Ss(hK:gM=H)(hd:n6=.ref D)(ho:vp H "tuple" D=az xs){pos:ak aI}{bs:ak (Str×aI)}(h:(AJ fd pos).1 (az xs.aJ)=gB bs)(s:aZ)(X:gM.In aP):xx s fd ⟨pos,[]⟩ bs:=JP X hd (hK▸ho) (AJ fd pos).2 h
theorem bd1(hK:gM=H)(hd:n6=.ref D)(ho:vp H "tuple" D=az xs)(h:∀a,(AJ fd [a]).1 (az xs.aJ)=gB ((x1,a)::ds))(hs:yu c dl ds):xw c fd [v1] [] ((x1,v1)::dl):=gz (λs X a=>Ss hK hd ho (h a) s X) hs
theorem bd2(hK:gM=H)(hd:n6=.ref D)(ho:vp H "tuple" D=az xs)(h:∀a b,(AJ fd [a,b]).1 (az xs.aJ)=gB ((x1,a)::(x2,b)::ds))(hs:yu c dl ds):xw c fd [v1,v2] [] ((x1,v1)::(x2,v2)::dl):=nU (λs X a b=>Ss hK hd ho (h a b) s X) hs
theorem bd3(hK:gM=H)(hd:n6=.ref D)(ho:vp H "tuple" D=az xs)(h:∀a b d,(AJ fd [a,b,d]).1 (az xs.aJ)=gB ((x1,a)::(x2,b)::(x3,d)::ds))(hs:yu c dl ds):xw c fd [v1,v2,v3] [] ((x1,v1)::(x2,v2)::(x3,v3)::dl):=WB (λs X a b d=>Ss hK hd ho (h a b d) s X) hs
theorem bd4{v4:V}{x4:Str}(hK:gM=H)(hd:n6=.ref D)(ho:vp H "tuple" D=az xs)(h:∀a b d e,(AJ fd [a,b,d,e]).1 (az xs.aJ)=gB ((x1,a)::(x2,b)::(x3,d)::(x4,e)::ds))(hs:yu c dl ds):xw c fd [v1,v2,v3,v4] [] ((x1,v1)::(x2,v2)::(x3,v3)::(x4,v4)::dl):=WC (λs X a b d e=>Ss hK hd ho (h a b d e) s X) hs
end
theorem gH{sc:gO}{κ:Ct c sc τ}{f:aQ}{vs:ak V}{ks:ak Fr}{l:Loc}{T W:ak AO}{P:V->ak AO->Prop}{k:Nat}(h:gj c k (.ref f) vs [] P (λz9=>cM) W)(hk:q8 k n=true)(hv:true=V.gW vs)(hq:∀v W',P v W'->Vd n κ (.rt v ks l T W')):Vd n κ (.cl (.st (.ref f)) vs ks l T W):=
 LL κ.he hv.symm h hk hq
theorem OO{sc:gO}{κ:Ct c sc τ}{f:aQ}{s:V}{vs:ak V}{ks:ak Fr}{l:Loc}{T W:ak AO}{P:V->ak AO->Prop}{k:Nat}(h:gj c k (.ref f) (s::vs) [] P (λz9=>cM) W)(hk:q8 k n=true)(hv:true=V.gW (s::vs))(hq:∀v W',P v W'->Vd n κ (.rt v ks l T W')):Vd n κ (.cl (.meth (.ref f) s) vs ks l T W):=
 F9 κ.he hv.symm h hk hq
theorem Xg{l:ak aQ}(h:yM (λa=>xR gM (.ref a))=true):∀a∈l,xR gM (.ref a)=true:=λa ha=>ak.bV h a ha
abbrev jO(c:Cx)(n:Nat)(f:aQ)(vs:ak V)(W:ak AO)(v:V)(W':ak AO):Prop:=gj c n (.ref f) vs [] (λv' Xh=>v'=v/\Xh=W') (λz9=>cM) W
theorem fW{sc:gO}{κ:Ct c sc τ}{f:aQ}{vs:ak V}{ks:ak Fr}{l:Loc}{T W W':ak AO}{v:V}{k:Nat}(h:jO c k f vs W v W')(hk:q8 k n=true)(hv:true=V.gW vs)(hq:Vd n κ (.rt v ks l T W')):Vd n κ (.cl (.st (.ref f)) vs ks l T W):=
 gH h hk hv λz9 z9 e=>by rw[e.1,e.2];exact hq
theorem Su{sc:gO}{κ:Ct c sc τ}{f:aQ}{s:V}{vs:ak V}{ks:ak Fr}{l:Loc}{T W W':ak AO}{v:V}{k:Nat}(h:jO c k f (s::vs) W v W')(hk:q8 k n=true)(hv:true=V.gW (s::vs))(hq:Vd n κ (.rt v ks l T W')):Vd n κ (.cl (.meth (.ref f) s) vs ks l T W):=
 OO h hk hv λz9 z9 e=>by rw[e.1,e.2];exact hq
theorem gU{sc:gO}{κ:Ct c sc τ}{l:Loc}{T W:ak AO}(h:κ.Q .next ⟨l,T,W⟩):Vd n κ (.ex [] l T W):=Z1 h
theorem Xi{sc:gO}{κ:Ct c sc τ}{f:aQ}{vs:ak V}{ks:ak Fr}{l:Loc}{T W:ak AO}{P:V->ak AO->Prop}{E:ak AO->Prop}{k:Nat}(h:gj c k (.ref f) vs [] P E W)(hk:q8 k n=true)(hv:true=V.gW vs)(hq:∀v W',P v W'->Vd n κ (.rt v ks l T W'))(hx:∀W',E W'->κ.X ⟨l,T,W'⟩):Vd n κ (.cl (.st (.ref f)) vs ks l T W):=
 BE κ.he hv.symm ((h.up (aD hk)).eW hq hx)
theorem Xj{H:xP}(hK:gM=H){sc:gO}{κ:Ct c sc τ}{C fI:aQ}{vs:ak V}{ks:ak Fr}{l:Loc}{T W W2 W':ak AO}{i k:Nat}(hm:makesIn H C=true)(hi:rG H (.ref C) "__init__"=az (az (.ref fI)))(hf:typeIn H (.ref fI)=az (.dg "function"))(hv:true=V.gW vs)
  (hl:W.aq=i)(hw:W++[.bO []]=W2)(h:jO c k fI (.cR C i::vs) W2 .none W')(hk:q8 k n=true)(hq:Vd (n+1) κ (.rt (.cR C i) ks l T W')):Vd (n+1) κ (.cl (.st (.ref C)) vs ks l T W):=by
 subst hl hw
 exact LO (hK▸hm) (hK▸hi) (hK▸hf) hv.symm h hk λz9 z9 e=>by rw[e.1,e.2];exact⟨rfl,hq⟩
theorem vb{sc:gO}{κ:Ct c sc τ}{b b':aM}{ks:ak Fr}{l:Loc}{T W:ak AO}(h:b=b')(q:Vd n κ (.rt (.bF b') ks l T W)):Vd n κ (.rt (.bF b) ks l T W):=h▸q
end
end HL.Lake
namespace HL.Lake
open PySem PySem.W PySem.Calls PyProof.Rows
set_option genInjectivity false
section
variable{c:Cx}{n:Nat}{sc:Scope}{τ:qI}{κ:Ct c sc τ}{l:Loc}{T W:List AO}{pos:Pos}{rest:List Stmt}
theorem zH{st:iW}(J:Loc->ak AO->ak AO->Prop)
  (h1:∀mF:Ct c sc τ,(∀l T W,J l T W->mF.Q .next ⟨l,T,W⟩)->(∀v l T W,κ.Q (.ret v) ⟨l,T,W⟩->mF.Q (.ret v) ⟨l,T,W⟩)->(∀l T W,κ.Q .brk ⟨l,T,W⟩->mF.Q .brk ⟨l,T,W⟩)->(∀l T W,κ.Q .rF ⟨l,T,W⟩->mF.Q .rF ⟨l,T,W⟩)->(∀l T W,κ.X ⟨l,T,W⟩->mF.X ⟨l,T,W⟩)->mF.env=κ.env->Vd n mF (.ex [st] l T W))
  (h2:∀l T W,J l T W->Vd n κ (.ex aU l T W)):Vd n κ (.ex (st::aU) l T W):=
 WN (λσ=>J rE jx gJ) (h1 ⟨κ.env,κ.he,κ.ok,κ.X,λfl fL=>match fl with|.next=>J fL.loc fL.T fL.W|fl=>κ.Q fl fL⟩ (λz9 z9 z9 h=>h) (λz9 z9 z9 z9 h=>h) (λz9 z9 z9 h=>h) (λz9 z9 z9 h=>h) (λz9 z9 z9 h=>h) rfl) λfL h=>h2 fL.loc fL.T fL.W h
theorem zI{test:aB}{dO:ak iW}(I:Nat->Loc->ak AO->ak AO->Prop)(k:Nat)(hI:I k l T W)
  (oX:∀k l T W,I k l T W->∀mF:Ct c sc τ,(∀j l T W,j<k->I j l T W->mF.Q .next ⟨l,T,W⟩)->(∀j l T W,j<k->I j l T W->mF.Q .rF ⟨l,T,W⟩)->(∀l T W,Vd n κ (.ex aU l T W)->mF.Q .brk ⟨l,T,W⟩)->(∀v l T W,κ.Q (.ret v) ⟨l,T,W⟩->mF.Q (.ret v) ⟨l,T,W⟩)->Vd n mF (.te test [.wh dO] l T W)):
  Vd n κ (.ex (.oY test dO [] pos::aU) l T W):=
 Ru (λk σ=>I k rE jx gJ) k hI λk σ h=>by
  have:=oX k rE jx gJ h ⟨κ.env,κ.he,κ.ok,λz9=>cM,λfl bL=>match fl with|.next=>∃j,j<k/\I j bL.loc bL.T bL.W|.rF=>∃j,j<k/\I j bL.loc bL.T bL.W|.brk=>WS c n κ.env aU κ.Q κ.X bL|.ret v=>κ.Q (.ret v) bL⟩ (λj z9 z9 z9 a b=>⟨j,a,b⟩) (λj z9 z9 z9 a b=>⟨j,a,b⟩) (λz9 z9 z9 h=>h) λz9 z9 z9 z9 h=>h
  exact Lake.W.eW this (λb bx h=>by obtain⟨t,e,h⟩:=h;cases e;exact h) λz9 h=>h
theorem z0{gc:aB}{dO:ak iW}{bY:ak V}(J:Nat->Loc->ak AO->ak AO->Prop)(h0:J 0 l T W)
  (oX:∀i l T W u,bY[i]?=az u->J i l T W->∀mF:Ct c sc τ,(∀l T W,J (i+1) l T W->mF.Q .next ⟨l,T,W⟩)->(∀l T W,J (i+1) l T W->mF.Q .rF ⟨l,T,W⟩)->(∀l T W,Vd n κ (.ex aU l T W)->mF.Q .brk ⟨l,T,W⟩)->(∀v l T W,κ.Q (.ret v) ⟨l,T,W⟩->mF.Q (.ret v) ⟨l,T,W⟩)->Vd n mF (.ft gc u dO l T W))
  (fin:∀l T W,J bY.aq l T W->Vd n κ (.ex aU l T W)):Io n κ bY gc dO aU ⟨l,T,W⟩:=
 ⟨λi σ=>J i rE jx gJ,h0,λi bL u hu hJ=>oX i bL.loc bL.T bL.W u hu hJ ⟨κ.env,κ.he,κ.ok,λz9=>cM,λfl eH=>match fl with|.next=>J (i+1) eH.loc eH.T eH.W|.rF=>J (i+1) eH.loc eH.T eH.W|.brk=>WS c n κ.env aU κ.Q κ.X eH|.ret v=>κ.Q (.ret v) eH⟩ (λz9 z9 z9 h=>h) (λz9 z9 z9 h=>h) (λz9 z9 z9 h=>h) λz9 z9 z9 z9 h=>h,λbL h=>fin bL.loc bL.T bL.W h⟩
theorem Gg{gc:aB}{dO:ak iW}{v:V}{bY:ak V}(hi:vR v bY)(h:Io n κ bY gc dO aU ⟨l,T,W⟩):Vd n κ (.rt v [.Sd gc dO aU] l T W):=⟨bY,hi,h⟩
theorem Xk{gc:aB}{dO:ak iW}{i j:Int}(N:Nat)(h1:dI.ni i j 1=true)(h2:dI.jL i j 1=N)(h:Io n κ (Ip i N) gc dO aU ⟨l,T,W⟩):Vd n κ (.rt (.int j) [.Sg (.int i) gc dO aU] l T W):=⟨i,j,N,rfl,rfl,h1,h2,h⟩
theorem JV{i:Int}{N k:Nat}{u:V}(h:(Ip i N)[k]?=az u):k<N/\u=.int (i+k):=by
 unfold Ip at h
 rw[ak.iI,aH.map_eq_some_iff]at h
 refine gg h λa ha ig=>?_;clear h;obtain rfl:=ig
 refine eO (ak.cz ha) λhl bG=>?_;obtain rfl:=bG
 rw[ak.length_range]at hl
 rw[ak.getElem_range,Int.mul_one]
 exact⟨hl,rfl⟩
theorem Gh{i:Int}{N:Nat}:(Ip i N).aq=N:=by unfold Ip;rw[ak.bT,ak.length_range]
theorem aew{dO:ak iW}{x:Str}{np tp hp ap:Pos}{k:Nat}{cp:Pos}(hf:qL κ.env)(hk:(sc.bW (aj "KeyError")==az i7)=true)(hg:nsIn gM iB (aj "KeyError")=az none)(hx:(sc.bW x==az .local)=true)
  (h:∀mF:Ct c sc τ,(∀l T W,Vd n κ (.ex aU l T W)->mF.Q .next ⟨l,T,W⟩)->(∀v l T W,κ.Q (.ret v) ⟨l,T,W⟩->mF.Q (.ret v) ⟨l,T,W⟩)->(∀l l' T W,tU x .none l l'->Vd n κ (.ex aU l' T W)->mF.X ⟨l,T,W⟩)->Vd n mF (.ex dO l T W)):
  Vd n κ (.ex (.Try dO [.uA (az (.mQ "KeyError" np)) none [.wA [.mQ x tp] (.yN .none k cp) ap] hp] [] [] pos::aU) l T W):=
 LH κ.he hf hk hg hx (h ⟨κ.env,κ.he,κ.ok,λfL=>∃l',tU x .none fL.loc l'/\WS c n κ.env aU κ.Q κ.X {fL with loc:=l'},λfl fL=>match fl with|.next=>WS c n κ.env aU κ.Q κ.X fL|.brk=>κ.Q .brk fL|.rF=>κ.Q .rF fL|.ret v=>κ.Q (.ret v) fL⟩ (λz9 z9 z9 h=>h) (λz9 z9 z9 z9 h=>h) λz9 l' z9 z9 p h=>⟨l',p,h⟩)
theorem Xl{np LA:Pos}{x:Str}{v:V}{p2:Pos}(hk:(sc.bW (aj "KeyError")==az i7)=true)(hg:nsIn gM iB (aj "KeyError")=az none)(hx:(sc.bW x==az .local)=true)(hd:(x==("__debug__":Str))=false)(m:(x,az v)∈l)(h:κ.X ⟨l,T,W⟩):
  Vd n κ (.ex (.Raise (az (.Call (.mQ "KeyError" np) [.mQ x p2] [] LA)) none pos::aU) l T W):=FP κ.he hk hg rfl (DP κ.he m hx hd h)
theorem Ek{o i:aB}{ks:ak Fr}(q:Vd n κ (.ev o (.R9 i::ks) l T W)):Vd n κ (.ev (.l8 o i pos) ks l T W):=JC q
theorem pG{xs:ak V}{i:Int}{w:V}{ks:ak Fr}(h:uO xs.aq i)(m:xs[zo xs.aq i]?=az w)(q:Vd n κ (.rt w ks l T W)):Vd n κ (.rt (.int i) (.Ge (.aR xs)::ks) l T W):=⟨.aR,uP n .aR h m q⟩
theorem LV{xs:ak (Str×V)}{x:Str}{w:V}{ks:ak Fr}(m:(x,w)∈xs)(q:Vd n κ (.rt w ks l T W)):Vd n κ (.rt (.str x) (.Ge (.bO xs)::ks) l T W):=⟨.bO,Bs .bO m q⟩
theorem eU{k:Nat}{e:aB}{v:V}(h:az ([],v)=(yX n κ l T W k e).map Subtype.val):PE c n κ.env e v κ.X ⟨l,T,W⟩:=by
 cases e1:yX n κ l T W k e with
 |none=>rw[e1]at h;cases h
 |az r=>
  obtain⟨⟨o,w⟩,p⟩:=r
  rw[e1]at h
  cases h
  exact p trivial
theorem Sv{o i:aB}{a:aQ}{es:ak gh}{k:Nat}{v:V}{ks:ak Fr}(h0:gM.eF a=az (lR es k))(ho:PE c n κ.env o (.st (.ref a)) κ.X ⟨l,T,W⟩)(hi:PE c n κ.env i v κ.X ⟨l,T,W⟩)(h:IV c n κ.env (.st (.ref a)) v (Ce n κ ks) κ.X ⟨l,T,W⟩):Vd n κ (.ev (.l8 o i pos) ks l T W):=WQ h0 (ho _ ⟨rfl,hi _ h⟩)
theorem Ve{dO:ak iW}{qJ:uA}{hs:ak uA}(h:∀mF:Ct c sc τ,(∀l T W,Vd n κ (.ex aU l T W)->mF.Q .next ⟨l,T,W⟩)->(∀v l T W,κ.Q (.ret v) ⟨l,T,W⟩->mF.Q (.ret v) ⟨l,T,W⟩)->Vd n mF (.ex dO l T W)):Vd n κ (.ex (.Try dO (qJ::hs) [] [] pos::aU) l T W):=
 Oz (h ⟨κ.env,κ.he,κ.ok,λz9=>cM,λfl fL=>match fl with|.next=>WS c n κ.env aU κ.Q κ.X fL|fl=>κ.Q fl fL⟩ (λz9 z9 z9 h=>h) λz9 z9 z9 z9 h=>h)
theorem OP{op:ju}{es:ak aB}{ks:ak Fr}(q:Vd n κ (.ts op es ks l T W)):Vd n κ (.te (.ju op es pos) ks l T W):=HN q
theorem yw{sep:Str}{v:V}{ks:ak Fr}{ys:ak Str}(k:qq ⟨l,T,W⟩ v (ys.map V.str))(hs:sep.aq<=16)(hw:(ys.map (·.aq)).sum+ys.aq<=1048576)(q:Vd n κ (.rt (.str (Txt.join sep ys)) ks l T W)):Vd n κ (.cl (.st (.cj "str.join")) [.str sep,v] ks l T W):=JN k hs hw q
theorem Sw{i:Nat}{xs:ak V}{x:V}{ks:ak Fr}(k:T[i]?=az (.aR (xs++[x])))(hz:xs.aq<=10000)(q:Vd n κ (.rt x ks l (T.set i (.aR xs)) W)):Vd n κ (.cl (.st (.cj "list.pop")) [.lo i] ks l T W):=NT (.lo k) hz q
theorem aex{op:CmpOp}{a b:aB}{ks:ak Fr}(hm:jH op b=false)(q:Vd n κ (.ev a (.LU op b::ks) l T W)):Vd n κ (.ev (.oA a [op] [b] pos) ks l T W):=Nc hm q
theorem JW{op:CmpOp}{a b:aB}{ks:ak Fr}(hm:jH op b=false)(q:Vd n κ (.ev a (.LU op b::.Ei::ks) l T W)):Vd n κ (.te (.oA a [op] [b] pos) ks l T W):=AZ hm q
theorem vin{vs:ak V}{a:V}{ks:ak Fr}(h:vs.all jU=true)(h2:jU a=true)(q:Vd n κ (.rt (.bF (vs.any λy=>vf y a)) ks l T W)):Vd n κ (.rt (.tup vs) (.cmp .In a::ks) l T W):=AF h h2 q
theorem yx{dO:ak iW}{ks:ak Fr}(h:κ.Q .brk ⟨l,T,W⟩):Vd n κ (.rt (.bF false) (.wh dO::ks) l T W):=⟨false,rfl,h⟩
theorem El{p:Pos}(h:κ.Q .brk ⟨l,T,W⟩):Vd n κ (.ex (.Break p::aU) l T W):=Rp h
end
end HL.Lake
namespace HL.Lake
open PySem PySem.W PySem.Calls PyProof.Rows
section
variable{c:Cx}{n:Nat}{sc:Scope}{τ:qI}{κ:Ct c sc τ}{l:Loc}{T W:List AO}{pos:Pos}
theorem DB{e:aB}{b:aM}{ks:ak Fr}(h:PT c n κ.env e b κ.X ⟨l,T,W⟩)(q:Vd n κ (.rt (.bF b) ks l T W)):Vd n κ (.te e ks l T W):=h _ q
theorem uQ{k:Nat}{e:aB}{b b':aM}{os:Ob}(h:az (os,b)=(Vb n κ l T W k e).map Subtype.val)(a:os.all)(hb:b=b'):PT c n κ.env e b' κ.X ⟨l,T,W⟩:=by
 subst hb
 cases e1:Vb n κ l T W k e with
 |none=>rw[e1]at h;cases h
 |az r=>
  obtain⟨⟨o,w⟩,p⟩:=r
  rw[e1]at h
  cases h
  exact p a
theorem Em{k:Nat}{e:aB}{v:V}{os:Ob}(h:az (os,v)=(yX n κ l T W k e).map Subtype.val)(a:os.all):PE c n κ.env e v κ.X ⟨l,T,W⟩:=by
 cases e1:yX n κ l T W k e with
 |none=>rw[e1]at h;cases h
 |az r=>
  obtain⟨⟨o,w⟩,p⟩:=r
  rw[e1]at h
  cases h
  exact p a
section
variable{X:St->Prop}{σ:St}{env:Env}
theorem JX{a b:aB}{x:V}{vs:ak V}(hm:jH .In b=false)(h1:PE c n env a x X σ)(h2:PE c n env b (.tup vs) X σ)(hv:vs.all jU=true)(hx:jU x=true):PT c n env (.oA a [.In] [b] pos) (vs.any λy=>vf y x) X σ:=λz9 q=>AZ hm (h1 _ (h2 _ (AF hv hx (nX q))))
theorem aa9{a b:aB}{x y:V}(hm:jH .Eq b=false)(h1:PE c n env a x X σ)(h2:PE c n env b y X σ)(hx:N5 x=true)(hy:N5 y=true):PT c n env (.oA a [.Eq] [b] pos) (vf x y) X σ:=λz9 q=>AZ hm (h1 _ (h2 _ (N6 hx hy (nX q))))
theorem OQ{a b:aB}{x:V}(hm:jH .IsNot b=false)(h1:PE c n env a x X σ)(h2:PE c n env b .none X σ)(hx:BQ x=false):PT c n env (.oA a [.IsNot] [b] pos) (!qO x) X σ:=λz9 q=>AZ hm (h1 _ (h2 _ (zp hx (nX q))))
theorem yY{o i:aB}{v w r:V}(h1:PE c n env o v X σ)(h2:PE c n env i w X σ)(h:∀Q:V->St->Prop,Q r σ->zz σ v/\IV c n env v w Q X σ):PE c n env (.l8 o i pos) r X σ:=λz9 q=>JC (h1 _ (h2 _ (h _ q)))
theorem Iu{j e:Nat}{xs:ak V}{w:V}(h:jx[j]?=az (.aR xs))(m:xs[e]?=az w)(hz:xs.aq<=10000):∀Q:V->St->Prop,Q w σ->zz σ (.lo j)/\IV c n env (.lo j) (.int (e:Int)) Q X σ:=λz9 q=>
 ⟨.lo h,JI (.lo h) (cH _) m hz q⟩
theorem Bu{j:Nat}{xs:ak V}{x:V}(h:jx[j]?=az (.aR (xs++[x])))(hz:xs.aq<=5000):∀Q:V->St->Prop,Q x σ->zz σ (.lo j)/\IV c n env (.lo j) (.int (-1)) Q X σ:=λz9 q=>by
 haveI hl:(xs++[x]).aq=xs.aq+1:=ak.aX
 refine⟨.lo h,uP n (.lo h) (iR (hl▸cD _) (hl▸aA (dZ hz) (aD rfl))) ?_ q⟩
 rw[zZ,hl,Nat.add_sub_cancel,ak.jy (bz _),lW]
 rfl
end
theorem aba{j:Nat}{xs:ak V}{x:V}{ks:ak Fr}(h:T[j]?=az (.aR (xs++[x])))(hz:xs.aq<=5000)(q:Vd n κ (.rt x ks l T W)):Vd n κ (.rt (.int (-1)) (.Ge (.lo j)::ks) l T W):=Bu (σ:=⟨l,T,W⟩) h hz _ q
end
section
variable{c:Cx}{σ:St}{ω:Wd}
def DC(kf:aQ->aH (Str->aH aI))(C:aQ)(m:Str->aH aI):aQ->aH (Str->aH aI):=λx=>if x=C then az m else kf x
def OR(kf:aQ->aH (Str->aH aI))(C:aQ):aQ->aH (Str->aH aI):=λx=>if x=C then none else kf x
theorem xK.wake{W:ak AO}{s:aZ}{b:ak aQ}{g k:c7}{kf:aQ->aH (Str->aH aI)}{C:aQ}{m:Str->aH aI}{loc:ak (Str×aH V)}(S:xK c W s b g k kf)(hk:kf C=az m)(hc:gV.nO.dM<=C)
  (hl:∀x v,(x,az v)∈loc->∃rv,m x=az rv/\Rel aL g [] b v rv)(nd:(loc.map (·.1)).iT):Sat c C ⟨loc,[],W⟩ ⟨s,m,[],b,g,k,OR kf C⟩:=by
 have hC:C∉b:=λh=>by exact Lake.nn (S.qC C h) hk
 have ne:∀x m',OR kf C x=az m'->kf x=az m':=λx m' e=>by
  unfold OR at e
  split at e
  ·cases e
  ·exact e
 refine⟨S.nf _ _ hk,S.gr,iG,⟨hc,λx hx=>S.sz.2 x hx⟩,hl,nd,⟨rfl,λi o e=>(by simp at e)⟩,S.tab,ak.cT.mpr ⟨hC,S.nodup⟩,?_,S.kk,?_,λx m' e=>S.nf x m' (ne x m' e),?_,λx m' e=>S.oJ x m' (ne x m' e),S.dk⟩
 ·intro x hx
  rcases ak.bB hx with rfl|hx
  ·exact(S.oJ _ _ hk).2
  ·exact jk x hx
 ·intro x hx
  rcases ak.bB hx with rfl|hx
  ·exact(S.oJ _ _ hk).1
  ·exact kN x hx
 ·intro x hx
  rcases ak.bB hx with rfl|hx
  ·exact bJ rfl
  ·exact(aY (show ¬x=C from λe=>hC (e▸hx))).trans (S.qC x hx)
theorem Sat.sleep{C:aQ}{kf:aQ->aH (Str->aH aI)}(S:Sat c C σ ω)(hT:jx=[])(wO:ω.kf=OR kf C):xK c gJ ω.s ω.b ω.g ω.k (DC kf C ω.m):=by
 revert S hT wO
 revert c σ ω C kf
 intros c σ ω C kf
 intro S hT wO
 have ha:ω.a=[]:=ak.pL (S.tT.1.trans (by rw[hT];rfl))
 have hap:=gD
 have hh:=S.high
 have Xm:=jk
 have Bt:=kN
 have abd:=S.qC
 rw[ha]at hap hh Xm Bt abd
 have ne:∀x,x≠C->DC kf C ω.m x=ω.kf x:=λx h=>by
  rw[wO];exact(aY h).trans (aY h).symm
 have hC:C∉ω.b:=(ak.cT.mp hap).1
 refine⟨S.gr,iG,S.tW,(ak.cT.mp hap).2,λx hx=>Xm x (.cI _ hx),S.kk,λx hx=>Bt x (.cI _ hx),?_,λx hx=>?_,?_,S.dk,⟨aA hh.1 (fP qX.lt),λx hx=>hh.2 x hx⟩⟩
 ·intro x m e
  by_cases h:x=C
  ·subst h
   have:DC kf x ω.m x=az ω.m:=bJ rfl
   rw[this]at e;cases e;exact qX
  ·rw[ne x h]at e;exact S.nf x m e
 ·rw[ne x λe=>hC (e▸hx)];exact abd x (.cI _ hx)
 ·intro x m e
  by_cases h:x=C
  ·subst h;exact⟨Bt _ (.dw _),Xm _ (.dw _)⟩
  ·rw[ne x h]at e;exact S.oJ x m e
theorem Sat.abe{L:aQ}(S:Sat c L σ ω){W':ak AO}{s':aZ}{b':ak aQ}{g':c7}{Fv:aQ->aH (Str->aH aI)}(hs:Sub ω.g g' [] [] ω.b b')(S':xK c W' s' b' g' (lA L ω) (eY L {ω with kf:=Fv}))
  (hk:∀x m,Fv x=az m->∃m₀,ω.kf x=az m₀):Sat c L {σ with W:=W'} {ω with s:=s',b:=b',g:=g',kf:=Fv}:=by
 revert S hs S' hk
 revert c σ ω L W' s' b' g' Fv
 intros c σ ω L W' s' b' g' Fv
 intro S hs S' hk
 have Bb:∀{a:ak aQ},Sub ω.g g' a a ω.b b':=⟨hs.hg,λz9 z9 h=>h,hs.hb⟩
 have kL:eY L {ω with kf:=Fv} L=az ω.m:=bJ rfl
 have no:∀x,ω.kf x=none->Fv x=none:=λx e=>by
  cases q:Fv x with
  |none=>rfl
  |az m=>refine eO (hk x m q) λm₀ h=>?_;exact Lake.nn (e) h
 have Y3:∀x m,Fv x=az m->eY L {ω with kf:=Fv} x=az m:=λx m e=>by
  unfold eY;rw[aY];exact e
  rintro rfl;exact Lake.nn (no _ (S.qC _ (.dw _))) e
 have kk:∀x o,ω.k x=az o->lA L ω x=az o:=λx o e=>by
  unfold lA
  rw[aY]
  ·exact S.kk x o e
  ·rintro(h|h|h|h)
   ·subst h;exact Lake.nn (kN _ (.dw _)) e
   ·exact Lake.nn (kN x (.cI _ (ak.bg _ h))) e
   ·refine eO (aH.isSome_iff_exists.mp h) λm hm=>?_;exact Lake.nn ((S.oJ x m hm).1) e
   ·rw[S.dk x o e]at h;cases h
 have hLb:L∉b':=λh=>by have:=S'.qC L h;rw[kL]at this;cases this
 haveI Ri:∀x∈ω.a,x∉b':=λx hx h=>by
  refine gg (S.uH hx) λo bG e=>?_
  exact Lake.nn (S'.ok x h) e
 refine⟨S'.nf L _ kL,S'.gr,S'.yJ,⟨sO,λx hx=>(ak.cJ hx).g9 (λq=>S.high.2 x (ak.bA _ q)) λq=>S'.sz.2 x q⟩,λx v m=>?_,S.nd,?_,S'.tab,?_,?_,λx o e=>S'.kk x o (kk x o e),?_,λx m e=>S'.nf x m (Y3 x m e),?_,λx m e=>⟨?_,(S'.oJ x m (Y3 x m e)).2⟩,λx o e=>S'.dk x o (kk x o e)⟩
 ·refine gg (sS x v m) λrv e r=>?_
  exact⟨rv,e,r.eW Bb⟩
 ·refine⟨S.tT.1,λi o e=>?_⟩
  refine oH (S.tT.2 i o e) λx ob e1 e2 r=>?_
  refine gg (S.uH (ak.cg e1)) λE4 h1 h2=>?_
  rw[e2]at h1;cases h1
  exact⟨x,ob,e1,S'.kk x ob h2,r.eW Bb⟩
 ·have:=ak.jo.mp (ak.cT.mp gD).2
  refine ak.cT.mpr ⟨λh=>?_,ak.jo.mpr ⟨this.1,S'.nodup,λx hx y hy=>?_⟩⟩
  ·rcases ak.cJ h with h|h
   ·exact(ak.cT.mp gD).1 (ak.bA _ h)
   ·exact hLb h
  ·rintro rfl;exact Ri x hx hy
 ·intro x hx
  rcases ak.bB hx with rfl|hx
  ·exact(S'.oJ _ _ kL).2
  ·rcases ak.cJ hx with hx|hx
   ·refine gg (S.uH hx) λo bG e=>?_
    exact S'.dk x o e
   ·exact S'.out x hx
 ·intro x hx
  rcases ak.bB hx with rfl|hx
  ·exact kN _ (.dw _)
  ·rcases ak.cJ hx with hx|hx
   ·exact kN x (.cI _ (ak.bA _ hx))
   ·cases q:ω.k x with
    |none=>rfl
    |az o=>have:=kk x o q;exact Lake.nn (S'.ok x hx) this
 ·intro x hx
  rcases ak.bB hx with rfl|hx
  ·exact no _ (S.qC _ (.dw _))
  ·rcases ak.cJ hx with hx|hx
   ·exact no _ (S.qC x (.cI _ (ak.bA _ hx)))
   ·have:=S'.qC x hx
    exact(aY (show ¬x=L from λe=>hLb (e▸hx))).symm.trans this
 ·refine eO (hk x m e) λm₀ h=>?_;exact(S.oJ x m₀ h).1
end
section
variable(c:Cx)(L C aG:Addr)(oG:Obj)(x:Str)(u:V)(ω₁:Wd)(J:Nat->St->Prop)
structure OI(m:Nat)(γ:St×Wd)(h:c8):Prop where
 sat:Sat c L γ.1 γ.2
 hp:γ.2.aP=h
 sub:Sub ω₁.g γ.2.g ω₁.a γ.2.a ω₁.b γ.2.b
 k:γ.2.k=g8 ω₁.k aG oG
 kf:∃mG r,γ.2.kf=DC ω₁.kf C mG/\mG x=az r/\Rel aL γ.2.g [] γ.2.b u r
 js:J m γ.1
open Classical in
def Om(m:Nat)(h:c8):St×Wd:=if q:∃γ,OI c L C aG oG x u ω₁ J m γ h then choose q else(⟨[],[],[]⟩,ω₁)
theorem Om.ok{c:Cx}{L C aG:aQ}{oG:Obj}{x:Str}{u:V}{ω₁:Wd}{J:Nat->St->Prop}{m:Nat}{γ:St×Wd}{h:c8}(H:OI c L C aG oG x u ω₁ J m γ h):OI c L C aG oG x u ω₁ J m (Om c L C aG oG x u ω₁ J m h) h:=by
 unfold Om
 rw[dif_pos ⟨γ,H⟩]
 exact Classical.choose_spec (p:=λγ=>OI c L C aG oG x u ω₁ J m γ h) ⟨γ,H⟩
structure IN(m:Nat)(s₀ s:aZ)(W:ak AO)(ω:Wd):Prop where
 sat:Sat c C ⟨[(x,az u)],[],W⟩ ω
 hs:ω.s=s
 sub:Sub (Om c L C aG oG x u ω₁ J m s₀.d8).2.g ω.g [] [] (Om c L C aG oG x u ω₁ J m s₀.d8).2.b ω.b
 k:ω.k=lA L (Om c L C aG oG x u ω₁ J m s₀.d8).2
 kf:ω.kf=OR (eY L (Om c L C aG oG x u ω₁ J m s₀.d8).2) C
 dr:s.jE=s₀.jE
 os:s.os=s₀.os
 iD:gk s.iD=gk s₀.iD
structure RG(m:Nat)(s₀ s:aZ)(W:ak AO)(b:ak aQ)(g:c7):Prop where
 sub:Sub (Om c L C aG oG x u ω₁ J m s₀.d8).2.g g [] [] (Om c L C aG oG x u ω₁ J m s₀.d8).2.b b
 dr:s.jE=s₀.jE
 os:s.os=s₀.os
 iD:gk s.iD=gk s₀.iD
 sat:∃mG r,xK c W s b g (lA L (Om c L C aG oG x u ω₁ J m s₀.d8).2) (DC (eY L (Om c L C aG oG x u ω₁ J m s₀.d8).2) C mG)/\mG x=az r/\Rel aL g [] b u r
inductive Yp(Yd:Nat->St->V->ak AO->Prop)(Er:ak AO->Prop)(m:Nat)(s₀:aZ)(v:aI)(s₁:aZ)(kap:Resume->aZ->Prop):Prop
 |mk (H:OI c L C aG oG x u ω₁ J (m+1) (Om c L C aG oG x u ω₁ J (m+1) s₀.d8) s₀.d8) (tok:V) (W':ak AO) (b':ak aQ) (g':c7) (r:RG c L C aG oG x u ω₁ J (m+1) s₀ s₁ W' b' g') (t:Rel aL g' [] b' tok v) (q:Yd m (Om c L C aG oG x u ω₁ J (m+1) s₀.d8).1 tok W')
  (hk:∀CP Eo,OI c L C aG oG x u ω₁ J m Eo CP.d8->(Er W'->Er Eo.1.W)->kap (.send .none) CP):Yp Yd Er m s₀ v s₁ kap
inductive Ed(En:St->ak AO->Prop)(m:Nat)(s₀ s₁:aZ):Prop
 |mk (H:OI c L C aG oG x u ω₁ J m (Om c L C aG oG x u ω₁ J m s₀.d8) s₀.d8) (W':ak AO) (b':ak aQ) (g':c7) (r:RG c L C aG oG x u ω₁ J m s₀ s₁ W' b' g') (q:En (Om c L C aG oG x u ω₁ J m s₀.d8).1 W'):Ed En m s₀ s₁
end
section
variable{c:Cx}{L C aG:Addr}{oG:Obj}{x:Str}{u:V}{ω₁:Wd}{J:Nat->St->Prop}{m:Nat}{s₀ s:Shared}{W:List AO}{ω:Wd}
theorem xK.re{s':aZ}{b:ak aQ}{g k:c7}{kf:aQ->aH (Str->aH aI)}(S:xK c W s b g k kf)(h:aP=s'.d8):xK c W s' b g k kf:=
 ⟨λy o e=>h▸S.gr y o e,iG,by rw[<-h];exact S.tab,S.nodup,jk,λy o e=>h▸S.kk y o e,kN,λy o e=>h▸S.nf y o e,S.qC,S.oJ,S.dk,⟨h▸S.sz.1,S.sz.2⟩⟩
theorem IN.aU(h:IN c L C aG oG x u ω₁ J m s₀ s W ω)(hu:u.j7=true):RG c L C aG oG x u ω₁ J m s₀ s W ω.b ω.g:=by
 haveI ha:ω.a=[]:=ak.pL (h.sat.tT.1.trans rfl)
 refine gg (h.sat.loc x u (.dw _)) λr e hr=>?_
 haveI q:=h.sat.sleep rfl h.kf
 rw[h.hs,h.k]at q
 exact⟨h.sub,h.dr,h.os,h.iD,ω.m,r,q,e,hr.j7 hu⟩
theorem IN.go{fj:Wd}{W':ak AO}(h:IN c L C aG oG x u ω₁ J m s₀ s W ω)(l:Le ω fj)(S:Sat c C ⟨[(x,az u)],[],W'⟩ fj):IN c L C aG oG x u ω₁ J m s₀ fj.s W' fj:=
 ⟨S,rfl,⟨λy o e=>l.sub.hg y o (h.sub.hg y o e),λz9 z9 e=>e,λi y e=>l.sub.hb i y (h.sub.hb i y e)⟩,l.k.trans h.k,l.kf.trans h.kf,l.jE.trans (h.hs▸h.dr),l.os.trans (h.hs▸h.os),l.iD.trans (h.hs▸h.iD)⟩
theorem OI.wake{γ:St×Wd}(h:OI c L C aG oG x u ω₁ J m γ aP)(hC:gV.nO.dM<=C)(hL:L≠C):∃ω,IN c L C aG oG x u ω₁ J m s s (Om c L C aG oG x u ω₁ J m aP).1.W ω:=by
 revert h hC hL
 revert c L C aG oG x u ω₁ J m s γ
 intros c L C aG oG x u ω₁ J m s γ
 intro h hC hL
 haveI H:=Om.ok h
 refine oH H.kf λmG r e1 e2 e3=>?_
 haveI q:=H.sat.ZG
 haveI hk:eY L (Om c L C aG oG x u ω₁ J m aP).2 C=az mG:=by
  unfold eY
  rw[aY (Ne.symm hL),e1]
  exact bJ rfl
 haveI q':=q.re H.hp
 refine⟨_,xK.wake (loc:=[(x,az u)]) (s:=s) q' hk hC (λy v hm=>?_) (ak.cT.mpr ⟨ak.nZ,ak.nodup_nil⟩),rfl,⟨λz9 z9 e=>e,λz9 z9 e=>e,λz9 z9 e=>e⟩,rfl,rfl,rfl,rfl,rfl⟩
 cases ak.bR hm
 exact⟨r,e2,e3⟩
theorem Xn{e:Nat}{E:aQ}{γ γ':St×Wd}{h:c8}{l:ak V}(hE:ω₁.b[e]?=az E)(H:OI c L C aG oG x u ω₁ J m γ h)(H':OI c L C aG oG x u ω₁ J m γ' h)(h0:γ.1.W[e]?=az (.aR []))(h1:γ'.1.W[e]?=az (.aR l)):l=[]:=by
 revert hE H H' h0 h1
 revert c L C aG oG x u ω₁ J m e E γ γ' h l
 intros c L C aG oG x u ω₁ J m e E γ γ' h l
 intro hE H H' h0 h1
 refine oH (H.sat.tW.2 e _ h0) λy ob e1 e2 e3=>?_
 refine oH (H'.sat.tW.2 e _ h1) λy' E4 e1' e2' e3'=>?_
 rw[H.sub.hb e E hE]at e1;cases e1
 rw[H'.sub.hb e E hE]at e1';cases e1'
 rw[H.hp]at e2;rw[H'.hp,e2]at e2';cases e2'
 cases e3 with
 |aR r=>
  cases r
  generalize hq:({cls:=.dg "list",f9:=.seq (ak.aJ []) _}:Obj)=q at e3'
  cases e3' with
  |aR r'=>
   injection hq with _ _ hq _
   injection hq with hq _
   have:=bM dX.nu hq
   dsimp only at this
   subst this
   cases r';rfl
end
section
variable{c:Cx}
theorem JY{a b m k n K:Nat}(h:b<=a+k)(hk:k<=m)(d:a+m * (n+1)<K):b+m * n<K:=b9 (aA (dz (aA h (bH hk a)) (m * n)) (aO (by rw[s8,dJ,eZ m]))) d
theorem OS{n:Nat}{A A'':dR}{env:Env}{sc:gO}{fD:ak Env}{C7:aQ->aH (Str->aH aI)}(he:fU env sc)(hf:qL env)(hA:xM (n+1) A)(ho:zO c C7 fD)(hd:A''.yK<=A.yK+3)(hu:A''.units<=nI+20)(hh:A''.jm=none)(xN:A''.frames=az (env::fD))
  (hC:∀e∈fD,e.rO≠az aN)(h0:gV.cF aN=none):m9 c n env A'' (OR C7 aN):=by
 have Bp:zO c (OR C7 aN) fD:=λe q=>by
  refine iU (ho e q) λh1 iZ=>?_;refine oH iZ λL' m h2 h3 h4=>?_;clear iZ
  exact⟨h1,L',m,h2,(aY (show ¬L'=aN from λz=>hC e q (z▸h2))).trans h3,h4⟩
 refine⟨⟨JY hd (by decide) hA.yK,JY hu (by decide) hA.units,hh⟩,⟨_,xN,λe q=>?_⟩,λz9=>⟨fD,xN,Bp⟩⟩
 rcases ak.bB q with rfl|q
 ·exact⟨by rw[he.ym];decide,_,hf.1,h0,.inl rfl⟩
 ·refine iU (Bp e q) λh1 iZ=>?_;refine oH iZ λL' m h2 h3 h4=>?_;clear iZ
  exact⟨h1,L',h2,h4,.inr ⟨m,h3⟩⟩
end
section
variable{c:Cx}{L C aG:Addr}{oG:Obj}{x:Str}{u:V}{ω₁:Wd}{J:Nat->St->Prop}{m nn:Nat}{s₀ s:Shared}{W:List AO}{ω:Wd}{env:Env}{A':Around}{R:GenEnd}{Y:Protocol}{cc:Code}{fs:List Frame}
 {K:Flow->Sem Fin}{H:Value->Sem Fin}{gd:Bool->Bool}{lv:List Value->List Value}{P P':List AO->Prop}
theorem Sx{st:iW}{aU:ak iW}(hL:aN=C)(n9:IN c L C aG oG x u ω₁ J m s₀ s W ω)(hH:m9 c nn env (A'.over cc fs) ω.kf)
  (h:WS c nn env [st] (λfl σ=>fl=.next/\∃W',σ=⟨[(x,az u)],[],W'⟩/\P W') (λz9=>cM) ⟨[(x,az u)],[],W⟩)
  (k:∀s' W' fj,IN c L C aG oG x u ω₁ J m s₀ s' W' fj->P W'->Seg (dB bU j5) A' R Y m s₀ cc ((vC aU env).wrap K H gd lv) fs s'):
  Seg (dB bU j5) A' R Y m s₀ cc ((vC (st::aU) env).wrap K H gd lv) fs s:=by
 haveI e:(vC (st::aU) env).wrap K H gd lv=(vC [st] env).wrap (λf=>match f with|.next=>(vC aU env).wrap K H gd lv|f=>K f) H gd lv:=by
  rw[execs_cons_wrap,execs_cons_wrap]
  exact Sem.wrap_congr _ _ _ (λf=>by cases f<;>rfl) (λz9=>rfl)
 rw[e]
 subst hL
 refine seg_wrap ?_
 haveI q:=h _ ω hH n9.sat
 rw[n9.hs]at q
 refine aW q ?_ λz9 z9 p=>p.no
 refine d9.all λf fl fL fj l S r z=>?_
 refine iU z λfY iZ=>?_;clear z;obtain rfl:=fY;refine gg iZ λW' LX hP=>?_;clear iZ;obtain rfl:=LX
 cases r
 exact k _ _ _ (n9.go l S) hP
theorem yz{test:aB}{dO:ak iW}(hL:aN=C)(n9:IN c L C aG oG x u ω₁ J m s₀ s W ω)(hH:m9 c nn env (A'.over (.i9 test dO [] env) fs) ω.kf)
  (h:WT c nn env test (λb σ=>∃W',σ=⟨[(x,az u)],[],W'⟩/\(b=true->P W')/\(b=false->P' W')) (λz9=>cM) ⟨[(x,az u)],[],W⟩)
  (ht:∀s' W' fj,IN c L C aG oG x u ω₁ J m s₀ s' W' fj->P W'->Seg (dB bU j5) A' R Y m s₀ (.i9 test dO [] env) ((vC dO env).wrap (λf=>match f with
      |.next|.rF=>.gB (.again (.i9 test dO [] env))
      |.brk=>.gB (.done .next)
      |.ret v=>.gB (.done (.ret v))) (λe=>(do noteFrame e env;theTreesLotGoes e:Sem qY).wrap (λz9=>.raise e) .raise id id) id id) fs s')
  (hf:∀s' W' fj,IN c L C aG oG x u ω₁ J m s₀ s' W' fj->P' W'->Seg (dB bU j5) A' R Y m s₀ (.i9 test dO [] env) (.gB (.done .next)) fs s'):
  Seg (dB bU j5) A' R Y m s₀ (.i9 test dO [] env) ((dB bU j5).den (.i9 test dO [] env)) fs s:=by
 subst hL
 refine seg_whileLoop ?_
 have q:=h _ ω hH n9.sat
 rw[n9.hs]at q
 refine aW q ?_ λz9 z9 p=>p.no
 refine d9.all λb b' fL fj l S r z=>?_
 refine uE z λW' bG hT hF=>?_;clear z;obtain rfl:=bG
 obtain rfl:=r
 cases b' with
 |true=>rw[bJ rfl];exact ht _ _ _ (n9.go l S) (hT rfl)
 |false=>rw[aY aM.bK];exact seg_execs_nil (hf _ _ _ (n9.go l S) (hF rfl))
theorem Gi{Yd:Nat->St->V->ak AO->Prop}{Er:ak AO->Prop}{e:aB}{aeA pos:Pos}(hL:aN=C)(hu:u.j7=true)(ho:OI c L C aG oG x u ω₁ J (m+1) (Om c L C aG oG x u ω₁ J (m+1) s₀.d8) s₀.d8)(n9:IN c L C aG oG x u ω₁ J (m+1) s₀ s W ω)(hH:m9 c nn env (A'.over cc fs) ω.kf)
  (hfs:splitAtGen fs=none)(hgd:gd false=false)(OT:fs.any Frame.guarded=false)(hco:env.bD.xu=false)(hi:interactive env=false)
  (h:WE c nn env e (λv σ=>∃W',σ=⟨[(x,az u)],[],W'⟩/\Yd m (Om c L C aG oG x u ω₁ J (m+1) s₀.d8).1 v W'/\P W') (λz9=>cM) ⟨[(x,az u)],[],W⟩)
  (k:∀W' CP Eo,P W'->OI c L C aG oG x u ω₁ J m Eo CP.d8->(Er W'->Er Eo.1.W)->Seg (dB bU j5) A' R (Yp c L C aG oG x u ω₁ J Yd Er) m CP cc (K .next) fs CP):
  Seg (dB bU j5) A' R (Yp c L C aG oG x u ω₁ J Yd Er) (m+1) s₀ cc ((exec (.tG (.n7 (az e) aeA) pos) env).wrap K H gd lv) fs s:=by
 subst hL
 refine seg_Expr_Yield hfs hgd OT ?_ hco hi
 haveI q:=h _ ω hH n9.sat
 rw[n9.hs]at q
 refine aW q ?_ λz9 z9 p=>p.no
 refine d9.all λv tok fL fj l S r z=>?_
 refine uE z λW' bG hY hP=>?_;clear z;obtain rfl:=bG
 intro kap aeB
 haveI ha:fj.a=[]:=ak.pL (S.tT.1.trans rfl)
 exact⟨ho,tok,W',_,_,(n9.go l S).aU hu,ha▸r,hY,λCP Eo Bp hE=>aeB .none CP (k W' CP Eo hP Bp hE)⟩
end
section
variable{c:Cx}{n:Nat}{A:Around}{env:Env}{sc:Scope}{outer:List Env}{C7:Addr->Option (Str->Option Value)}{gb:List Stmt}
theorem abg(he:fU env sc)(hf:qL env)(hA:xM (n+1) A)(xN:jF=az fD)(ho:zO c C7 fD)(hC:∀e∈fD,e.rO≠az aN)(h0:gV.cF aN=none):
  m9 c n env (tQ.over (.w4 gb env) []) (OR C7 aN):=
 OS he hf hA ho (bH (show 1<=3 by decide) A.yK) (bH (show 4<=20 by decide) nI) hA.jm (by show pushEnvs [env] (pushEnvs [] jF)=_;rw[xN];rfl) hC h0
theorem abh{t:aB}{b:ak iW}{k:rI->Sem Fin}{g:aM}{l kp:ak aI}{p:Pos}(he:fU env sc)(hf:qL env)(hA:xM (n+1) A)(xN:jF=az fD)(ho:zO c C7 fD)(hC:∀e∈fD,e.rO≠az aN)(h0:gV.cF aN=none):
  m9 c n env (tQ.over (.i9 t b [] env) [.ret k none g l (.w4 gb env) p kp]) (OR C7 aN):=
 OS he hf hA ho (bH (show 1<=3 by decide) A.yK) (bH (show 4<=20 by decide) nI) hA.jm (by show pushEnvs [] (pushEnvs [env] jF)=_;rw[xN];rfl) hC h0
theorem JZ{t t':aB}{b b':ak iW}{k k':rI->Sem Fin}{g g':aM}{l kp l' kp':ak aI}{p p':Pos}(he:fU env sc)(hf:qL env)(hA:xM (n+1) A)(xN:jF=az fD)(ho:zO c C7 fD)(hC:∀e∈fD,e.rO≠az aN)(h0:gV.cF aN=none):
  m9 c n env (tQ.over (.i9 t b [] env) [.ret k' none g' l' (.i9 t' b' [] env) p' kp',.ret k none g l (.w4 gb env) p kp]) (OR C7 aN):=
 OS he hf hA ho (bH (show 1<=3 by decide) A.yK) (bH (show 4<=20 by decide) nI) hA.jm (by show pushEnvs [] (pushEnvs [env] jF)=_;rw[xN];rfl) hC h0
end
section
variable(Q:List V->St->Prop)(P1 P2:List V->Nat->List AO->Prop)(En:List AO->Prop)(e:Nat)
def Jd(m:Nat)(σ:St):Prop:=∃i,i.aq=m/\Q i σ/\∃k,P2 i k gJ
def Yd(m:Nat)(σ:St)(tok:V)(W':ak AO):Prop:=∃i,i.aq=m/\Q (tok::i) σ/\∃k,P2 i k W'
def Nd(σ:St)(W':ak AO):Prop:=Q [] σ/\En W'
def Er(W:ak AO):Prop:=W[e]?=az (.aR [])
end
section
variable{c:Cx}{L C aG:Addr}{oG:Obj}{x:Str}{u:V}{ω₁:Wd}{nn:Nat}{A:Around}{env:Env}{sc:Scope}{outer:List Env}{gb:List Stmt}
 {Q:List V->St->Prop}{P1 P2 PJ Bv Cj:List V->Nat->List AO->Prop}{En:List AO->Prop}{e N:Nat}{E:Addr}{R:GenEnd}
 {t1 t2 t3 e1 e2:PySem.Expr}{q1 q2 q3 y1 y2 z1 z2:Pos}
structure GE(c:Cx)(L C:aQ)(u:V)(ω₁:Wd)(nn:Nat)(A:dR)(env:Env)(sc:gO)(fD:ak Env)(e:Nat)(E:aQ):Prop where
 he:fU env sc
 hf:qL env
 hL:aN=C
 hC:gV.nO.dM<=C
 Zd:L≠C
 hu:u.j7=true
 hA:xM (nn+1) A
 xN:jF=az fD
 h0:gV.cF aN=none
 Xo:∀e∈fD,e.rO≠az aN
 hE:ω₁.b[e]?=az E
 co:env.bD.xu=false
 it:interactive env=false
 /-- Zw frames below,aeC ags state of Zw law -/
 ho:∀mG(m:Str->aH aI),zO c (λy=>if y=L then az m else DC ω₁.kf C mG y) fD
theorem GE.outs{J:Nat->St->Prop}(G:GE c L C u ω₁ nn A env sc fD e E){m:Nat}{γ:St×Wd}{h:c8}(H:OI c L C aG oG x u ω₁ J m γ h):zO c (eY L γ.2) fD:=by
 refine Ht H.kf λmG r e1 jd=>?_
 have:=G.ho mG γ.2.m
 unfold eY
 rw[e1]
 exact this
theorem IN.C7{J:Nat->St->Prop}{m:Nat}{s₀ s:aZ}{W:ak AO}{ω:Wd}(h:IN c L C aG oG x u ω₁ J m s₀ s W ω)(hL:aN=C):ω.kf=OR (eY L (Om c L C aG oG x u ω₁ J m s₀.d8).2) aN:=hL▸h.kf
structure GW(c:Cx)(nn:Nat)(env:Env)(x:Str)(u:V)(P1 P2 Bv Cj:ak V->Nat->ak AO->Prop)(En:ak AO->Prop)(e:Nat)(t1 t2 t3 e1 e2:aB):Prop where
 h1:∀i k W,P1 i k W->WT c nn env t1 (λb σ=>∃W',σ=⟨[(x,az u)],[],W'⟩/\(b=true->∃k',k=k'+1/\P2 i k' W')/\(b=false->i=[]/\En W')) (λz9=>cM) ⟨[(x,az u)],[],W⟩
 h2:∀i k W,P2 i k W->WT c nn env t2 (λb σ=>∃W',σ=⟨[(x,az u)],[],W'⟩/\(b=true->Bv i k W')/\(b=false->P2 i k W'/\Er e W')) (λz9=>cM) ⟨[(x,az u)],[],W⟩
 h3:∀i k W,P2 i k W->Er e W->WT c nn env t3 (λb σ=>∃W',σ=⟨[(x,az u)],[],W'⟩/\(b=true->Cj i k W')/\(b=false->P1 i k W')) (λz9=>cM) ⟨[(x,az u)],[],W⟩
 i2:∀i k W,Bv i k W->∃t j,i=t::j
 i3:∀i k W,Cj i k W->∃t j,i=t::j
 g2:∀t j k W,Bv (t::j) k W->WE c nn env e1 (λv σ=>v=t/\∃W',σ=⟨[(x,az u)],[],W'⟩/\P2 j k W') (λz9=>cM) ⟨[(x,az u)],[],W⟩
 g3:∀t j k W,Cj (t::j) k W->WE c nn env e2 (λv σ=>v=t/\∃W',σ=⟨[(x,az u)],[],W'⟩/\P2 j k W'/\Er e W') (λz9=>cM) ⟨[(x,az u)],[],W⟩
 el:∀i k W,P2 i k W->∃l,W[e]?=az (.aR l)
theorem abj{Rr:GenEnd}{m k:Nat}{k0 k1:rI->Sem Fin}{l0 l1 r0 r1:ak aI}{p0 p1:Pos}{b1:ak iW}(G:GE c L C u ω₁ nn A env sc fD e E)(B:GW c nn env x u P1 P2 Bv Cj En e t1 t2 t3 e1 e2)(hJ:∀i k W,i.aq<N->(PJ i k W↔P2 i k W))(hm:m<=N)
  (pop:∀m' i k' s₀ s W ω,(m'<m\/m'=m/\k'<=k)->i.aq=m'->Q i (Om c L C aG oG x u ω₁ (Jd Q PJ) m' s₀.d8).1->OI c L C aG oG x u ω₁ (Jd Q PJ) m' (Om c L C aG oG x u ω₁ (Jd Q PJ) m' s₀.d8) s₀.d8->IN c L C aG oG x u ω₁ (Jd Q PJ) m' s₀ s W ω->P2 i k' W->Er e W->
   Seg (dB bU j5) tQ Rr (Yp c L C aG oG x u ω₁ (Jd Q PJ) (Yd Q PJ) (Er e)) m' s₀ (.i9 t2 [.tG (.n7 (az e1) y1) z1] [] env) (.gB (.done .next)) [.ret k1 none false l1 (.i9 t1 b1 [] env) p1 r1,.ret k0 none false l0 (.w4 gb env) p0 r0] s):
  ∀m' i k' s₀ s W ω,(m'<m\/m'=m/\k'<=k)->i.aq=m'->Q i (Om c L C aG oG x u ω₁ (Jd Q PJ) m' s₀.d8).1->OI c L C aG oG x u ω₁ (Jd Q PJ) m' (Om c L C aG oG x u ω₁ (Jd Q PJ) m' s₀.d8) s₀.d8->IN c L C aG oG x u ω₁ (Jd Q PJ) m' s₀ s W ω->P2 i k' W->
   Seg (dB bU j5) tQ Rr (Yp c L C aG oG x u ω₁ (Jd Q PJ) (Yd Q PJ) (Er e)) m' s₀ (.i9 t2 [.tG (.n7 (az e1) y1) z1] [] env) ((dB bU j5).den (.i9 t2 [.tG (.n7 (az e1) y1) z1] [] env)) [.ret k1 none false l1 (.i9 t1 b1 [] env) p1 r1,.ret k0 none false l0 (.w4 gb env) p0 r0] s:=by
 intro m'
 induction m' with
 |lO=>
  intro i k' s₀ s W ω hc hi hQ H n9 hP
  refine yz G.hL n9 (n9.C7 G.hL▸JZ G.he G.hf G.hA G.xN (G.outs H) G.Xo G.h0) (B.h2 i k' W hP) (λs' W' fj vK hE=>?_) λs' W' fj vK hE=>pop _ i k' _ _ _ _ hc hi hQ H vK hE.1 hE.2
  refine E1 (B.i2 _ _ _ hE) λt j ig=>?_;obtain rfl:=ig
  cases hi
 |kU m' ih=>
  intro i k' s₀ s W ω hc hi hQ H n9 hP
  haveI hh:=n9.C7 G.hL▸JZ (t:=t2) (b:=[.tG (.n7 (az e1) y1) z1]) (k:=k0) (k':=k1) (g:=false) (g':=false) (l:=l0) (l':=l1) (p:=p0) (p':=p1) (kp:=r0) (kp':=r1) (gb:=gb) (t':=t1) (b':=b1) G.he G.hf G.hA G.xN (G.outs H) G.Xo G.h0
  refine yz G.hL n9 hh (B.h2 i k' W hP) (λs' W' fj vK hE=>?_) λs' W' fj vK hE=>pop _ i k' _ _ _ _ hc hi hQ H vK hE.1 hE.2
  refine E1 (B.i2 _ _ _ hE) λt j ig=>?_;obtain rfl:=ig
  haveI hj:j.aq=m':=Nat.kU.inj hi
  haveI hN:m'<N:=bh (hc.g9 (λq=>kj q) λq=>q.1▸dY _) hm
  refine wK (Gi (P:=λz9=>True) G.hL G.hu H vK (vK.C7 G.hL▸n9.C7 G.hL▸hh) rfl rfl rfl G.co G.it ((B.g2 t j k' W' hE).eW (λv σ z=>?_) λz9 z=>z) λXh CP Eo z9 ho z9=>?_)
  ·refine iU z λfY iZ=>?_;clear z;obtain rfl:=fY;refine gg iZ λXh LX hp=>?_;clear iZ;obtain rfl:=LX
   exact⟨Xh,rfl,⟨j,hj,hQ,k',(hJ j k' _ (hj▸hN)).mpr hp⟩,trivial⟩
  ·show Seg _ _ _ _ _ _ _ (.gB (.again _)) _ _
   refine seg_again rfl ?_
   refine eO (OI.wake ho G.hC G.Zd) λE8 OU=>?_
   refine uE ((Om.ok ho).js) λi' h1 h2 iZ=>?_;refine eO iZ λVf h3=>?_;clear iZ
   haveI h3:=(hJ i' Vf _ (h1▸hN)).mp h3
   exact ih i' Vf _ _ _ _ (.inl (hc.g9 (λq=>kj q) λq=>q.1▸dY _)) h1 h2 (Om.ok ho) OU h3
theorem abk{Rr:GenEnd}{m k:Nat}{k0 k1:rI->Sem Fin}{l0 l1 r0 r1:ak aI}{p0 p1:Pos}{b1:ak iW}(G:GE c L C u ω₁ nn A env sc fD e E)(B:GW c nn env x u P1 P2 Bv Cj En e t1 t2 t3 e1 e2)(hJ:∀i k W,i.aq<N->(PJ i k W↔P2 i k W))(hm:m<=N)
  (pop:∀m' i k' s₀ s W ω,(m'<m\/m'=m/\k'<=k)->i.aq=m'->Q i (Om c L C aG oG x u ω₁ (Jd Q PJ) m' s₀.d8).1->OI c L C aG oG x u ω₁ (Jd Q PJ) m' (Om c L C aG oG x u ω₁ (Jd Q PJ) m' s₀.d8) s₀.d8->IN c L C aG oG x u ω₁ (Jd Q PJ) m' s₀ s W ω->P1 i k' W->
   Seg (dB bU j5) tQ Rr (Yp c L C aG oG x u ω₁ (Jd Q PJ) (Yd Q PJ) (Er e)) m' s₀ (.i9 t3 [.tG (.n7 (az e2) y2) z2] [] env) (.gB (.done .next)) [.ret k1 none false l1 (.i9 t1 b1 [] env) p1 r1,.ret k0 none false l0 (.w4 gb env) p0 r0] s):
  ∀m' i k' s₀ s W ω,(m'<m\/m'=m/\k'<=k)->i.aq=m'->Q i (Om c L C aG oG x u ω₁ (Jd Q PJ) m' s₀.d8).1->OI c L C aG oG x u ω₁ (Jd Q PJ) m' (Om c L C aG oG x u ω₁ (Jd Q PJ) m' s₀.d8) s₀.d8->IN c L C aG oG x u ω₁ (Jd Q PJ) m' s₀ s W ω->P2 i k' W->Er e W->
   Seg (dB bU j5) tQ Rr (Yp c L C aG oG x u ω₁ (Jd Q PJ) (Yd Q PJ) (Er e)) m' s₀ (.i9 t3 [.tG (.n7 (az e2) y2) z2] [] env) ((dB bU j5).den (.i9 t3 [.tG (.n7 (az e2) y2) z2] [] env)) [.ret k1 none false l1 (.i9 t1 b1 [] env) p1 r1,.ret k0 none false l0 (.w4 gb env) p0 r0] s:=by
 intro m'
 induction m' with
 |lO=>
  intro i k' s₀ s W ω hc hi hQ H n9 hP hr
  refine yz G.hL n9 (n9.C7 G.hL▸JZ G.he G.hf G.hA G.xN (G.outs H) G.Xo G.h0) (B.h3 i k' W hP hr) (λs' W' fj vK hE=>?_) λs' W' fj vK hE=>pop _ i k' _ _ _ _ hc hi hQ H vK hE
  refine E1 (B.i3 _ _ _ hE) λt j ig=>?_;obtain rfl:=ig
  cases hi
 |kU m' ih=>
  intro i k' s₀ s W ω hc hi hQ H n9 hP hr
  haveI hh:=n9.C7 G.hL▸JZ (t:=t3) (b:=[.tG (.n7 (az e2) y2) z2]) (k:=k0) (k':=k1) (g:=false) (g':=false) (l:=l0) (l':=l1) (p:=p0) (p':=p1) (kp:=r0) (kp':=r1) (gb:=gb) (t':=t1) (b':=b1) G.he G.hf G.hA G.xN (G.outs H) G.Xo G.h0
  refine yz G.hL n9 hh (B.h3 i k' W hP hr) (λs' W' fj vK hE=>?_) λs' W' fj vK hE=>pop _ i k' _ _ _ _ hc hi hQ H vK hE
  refine E1 (B.i3 _ _ _ hE) λt j ig=>?_;obtain rfl:=ig
  haveI hj:j.aq=m':=Nat.kU.inj hi
  haveI hN:m'<N:=bh (hc.g9 (λq=>kj q) λq=>q.1▸dY _) hm
  refine wK (Gi (P:=Er e) G.hL G.hu H vK (vK.C7 G.hL▸n9.C7 G.hL▸hh) rfl rfl rfl G.co G.it ((B.g3 t j k' W' hE).eW (λv σ z=>?_) λz9 z=>z) λXh CP Eo hw ho hq=>?_)
  ·refine iU z λfY iZ=>?_;clear z;obtain rfl:=fY;refine gg iZ λXh LX hp=>?_;clear iZ;obtain rfl:=LX
   exact⟨Xh,rfl,⟨j,hj,hQ,k',(hJ j k' _ (hj▸hN)).mpr hp.1⟩,hp.2⟩
  ·show Seg _ _ _ _ _ _ _ (.gB (.again _)) _ _
   refine seg_again rfl ?_
   refine eO (OI.wake ho G.hC G.Zd) λE8 OU=>?_
   refine uE ((Om.ok ho).js) λi' h1 h2 iZ=>?_;refine eO iZ λVf h3=>?_;clear iZ
   haveI h3:=(hJ i' Vf _ (h1▸hN)).mp h3
   exact ih i' Vf _ _ _ _ (.inl (hc.g9 (λq=>kj q) λq=>q.1▸dY _)) h1 h2 (Om.ok ho) OU h3 (by
    refine eO (B.el _ _ _ h3) λl hl=>?_
    rw[Xn G.hE ho (Om.ok ho) (hq hw) hl]at hl;exact hl)
end
section
variable{c:Cx}{L C aG:Addr}{oG:Obj}{x:Str}{u:V}{ω₁:Wd}{nn:Nat}{A:Around}{env:Env}{sc:Scope}{outer:List Env}{gb:List Stmt}
 {Q:List V->St->Prop}{P1 P2 PJ Bv Cj:List V->Nat->List AO->Prop}{En:List AO->Prop}{e N:Nat}{E:Addr}{R:GenEnd}
 {t1 t2 t3 e1 e2:PySem.Expr}{q1 q2 q3 y1 y2 z1 z2:Pos}
theorem abl{Rr:GenEnd}{k0:rI->Sem Fin}{l0 r0:ak aI}{p0:Pos}(G:GE c L C u ω₁ nn A env sc fD e E)(B:GW c nn env x u P1 P2 Bv Cj En e t1 t2 t3 e1 e2)(hJ:∀i k W,i.aq<N->(PJ i k W↔P2 i k W))
  (pop:∀m' s₀ s W ω,Q [] (Om c L C aG oG x u ω₁ (Jd Q PJ) m' s₀.d8).1->OI c L C aG oG x u ω₁ (Jd Q PJ) m' (Om c L C aG oG x u ω₁ (Jd Q PJ) m' s₀.d8) s₀.d8->IN c L C aG oG x u ω₁ (Jd Q PJ) m' s₀ s W ω->En W->
   Seg (dB bU j5) tQ Rr (Yp c L C aG oG x u ω₁ (Jd Q PJ) (Yd Q PJ) (Er e)) m' s₀ (.i9 t1 [.oY t2 [.tG (.n7 (az e1) y1) z1] [] q2,.oY t3 [.tG (.n7 (az e2) y2) z2] [] q3] [] env) (.gB (.done .next)) [.ret k0 none false l0 (.w4 gb env) p0 r0] s):
  ∀m' k' i s₀ s W ω,m'<=N->i.aq=m'->Q i (Om c L C aG oG x u ω₁ (Jd Q PJ) m' s₀.d8).1->OI c L C aG oG x u ω₁ (Jd Q PJ) m' (Om c L C aG oG x u ω₁ (Jd Q PJ) m' s₀.d8) s₀.d8->IN c L C aG oG x u ω₁ (Jd Q PJ) m' s₀ s W ω->P1 i k' W->
   Seg (dB bU j5) tQ Rr (Yp c L C aG oG x u ω₁ (Jd Q PJ) (Yd Q PJ) (Er e)) m' s₀ (.i9 t1 [.oY t2 [.tG (.n7 (az e1) y1) z1] [] q2,.oY t3 [.tG (.n7 (az e2) y2) z2] [] q3] [] env)
    ((dB bU j5).den (.i9 t1 [.oY t2 [.tG (.n7 (az e1) y1) z1] [] q2,.oY t3 [.tG (.n7 (az e2) y2) z2] [] q3] [] env)) [.ret k0 none false l0 (.w4 gb env) p0 r0] s:=by
 revert G B hJ pop
 revert c L C aG oG x u ω₁ nn A env sc fD gb Q P1 P2 PJ Bv Cj En e N E t1 t2 t3 e1 e2 q2 q3 y1 y2 z1 z2 Rr k0 l0 r0 p0
 intros c L C aG oG x u ω₁ nn A env sc fD gb Q P1 P2 PJ Bv Cj
 intros En e N E t1 t2 t3 e1 e2 q2 q3 y1 y2 z1 z2 Rr k0 l0 r0 p0
 intro G B hJ pop
 intros m'
 induction m' using Nat.strongRecOn with
 |ind m' ih=>
 intro k'
 induction k' using Nat.strongRecOn with
 |ind k' ihk=>
 intro i s₀ s W ω hm hi hQ H n9 hP
 refine yz G.hL n9 (n9.C7 G.hL▸abh G.he G.hf G.hA G.xN (G.outs H) G.Xo G.h0) (B.h1 i k' W hP) (λs' W' fj vK hE=>?_) λs' W' fj vK hE=>?_
 ·obtain⟨Vf,rfl,hP2⟩:=hE
  refine wK (seg_While λp=>?_)
  refine abj (m:=m') (k:=Vf) G B hJ hm ?_ m' i Vf _ _ _ _ (.inr ⟨rfl,bz _⟩) hi hQ H vK hP2
  intro m2 i2 k2 s₀ s W ω hc hi hQ H n9 hP hr
  have hm2:m2<=N:=aA (hc.g9 fP λq=>aO q.1) hm
  refine seg_leaf (.ok .next) ?_
  show Seg _ _ _ _ _ _ _ ((vC [.oY t3 [.tG (.n7 (az e2) y2) z2] [] q3] env).wrap _ _ id id) _ _
  refine wK (seg_While λp'=>?_)
  refine abk (m:=m2) (k:=k2) G B hJ hm2 ?_ m2 i2 k2 _ _ _ _ (.inr ⟨rfl,bz _⟩) hi hQ H n9 hP hr
  intro m3 i3 k3 s₀ s W ω hc3 MS hQ3 H3 Xp hP3
  refine seg_leaf (.ok .next) ?_
  show Seg _ _ _ _ _ _ _ (.gB (.again _)) _ _
  refine seg_again rfl ?_
  have hm3:m3<=N:=aA (hc3.g9 fP λq=>aO q.1) hm2
  rcases hc3 with h3|⟨rfl,h3⟩
  ·exact ih m3 (hc.g9 (Nat.wC h3) λq=>q.1▸h3) k3 i3 _ _ _ _ hm3 MS hQ3 H3 Xp hP3
  ·rcases hc with h2|⟨rfl,h2⟩
   ·exact ih m3 h2 k3 i3 _ _ _ _ hm3 MS hQ3 H3 Xp hP3
   ·exact ihk k3 (Nat.lt_succ_of_le (aA h3 h2)) i3 _ _ _ _ hm3 MS hQ3 H3 Xp hP3
 ·obtain⟨rfl,hE⟩:=hE
  exact pop m' _ _ _ _ hQ H vK hE
theorem LY{s1:iW}{γ:St×Wd}{s:aZ}(G:GE c L C u ω₁ nn A env sc fD e E)(B:GW c nn env x u P1 P2 Bv Cj En e t1 t2 t3 e1 e2)(hJ:∀i k W,i.aq<N->(PJ i k W↔P2 i k W))
  (h1:∀i W,i.aq=N->(∃k,PJ i k W)->WS c nn env [s1] (λfl σ=>fl=.next/\∃W',σ=⟨[(x,az u)],[],W'⟩/\∃k,P1 i k W') (λz9=>cM) ⟨[(x,az u)],[],W⟩)
  (ho:OI c L C aG oG x u ω₁ (Jd Q PJ) N γ aP):
  Seg (dB bU j5) tQ (λn s₀ r s₁=>r=.ok (.ret .none)/\Ed c L C aG oG x u ω₁ (Jd Q PJ) (Nd Q En) n s₀ s₁) (Yp c L C aG oG x u ω₁ (Jd Q PJ) (Yd Q PJ) (Er e)) N s
   (.w4 [s1,.oY t1 [.oY t2 [.tG (.n7 (az e1) y1) z1] [] q2,.oY t3 [.tG (.n7 (az e2) y2) z2] [] q3] [] q1] env)
   ((dB bU j5).den (.w4 [s1,.oY t1 [.oY t2 [.tG (.n7 (az e1) y1) z1] [] q2,.oY t3 [.tG (.n7 (az e2) y2) z2] [] q3] [] q1] env)) [] s:=by
 revert G B hJ h1 ho
 revert c L C aG oG x u ω₁ nn A env sc fD Q P1 P2 PJ Bv Cj En e N E t1 t2 t3 e1 e2 q1 q2 q3 y1 y2 z1 z2 s1 γ s
 intros c L C aG oG x u ω₁ nn A env sc fD Q P1 P2 PJ Bv Cj
 intros En e N E t1 t2 t3 e1 e2 q1 q2 q3 y1 y2 z1 z2 s1 γ s
 intro G B hJ h1 ho
 obtain⟨ω,n9⟩:=OI.wake ho G.hC G.Zd
 haveI H:=Om.ok ho
 obtain⟨i,hi,hQ,k,hP⟩:=H.js
 refine seg_func (Sx G.hL n9 (n9.C7 G.hL▸abg G.he G.hf G.hA G.xN (G.outs H) G.Xo G.h0) (h1 i _ hi ⟨k,hP⟩) λs' W' fj vK hP=>?_)
 obtain⟨k',hP⟩:=hP
 refine wK (seg_While λp=>?_)
 refine abl G B hJ ?_ N k' i _ _ _ _ (bz N) hi hQ H vK hP
 intro m' s₀ s W ω hQ H n9 hE
 refine seg_leaf (.ok .next) ?_
 show Seg _ _ _ _ _ _ _ (.gB (.done (.ret .none))) _ _
 exact seg_end (.ok (.ret .none)) ⟨rfl,H,_,_,_,n9.aU G.hu,hQ,hE⟩
end
section
variable{A:Around}{E:Value->Shared->Prop}{h:Heap}{g:Array GenState}{d:Drawn}{t:Nat}{os:OsState}{C x f:Addr}{B:String}{prog:Program}{w:World}
theorem xO{name:Str}{refuse:Sem aI}{Q:aH aI->aZ->Prop}(X:h.OwnSpecial x C f B name)
  (OV:cZ (dB lg w) A (call (.ref f) [.ref x]) (λv=>Q (az v)) E ⟨h,g,d,t,os⟩):cZ (dB lg w) A (callSpecialIfBoundUnlessNone? (.ref x) name refuse) Q E ⟨h,g,d,t,os⟩:=by
 haveI X':=X
 refine x71 X' λo of ig jd zw MN ZE iZ=>?_;clear X';refine x71 iZ λah1 LX ah2 Xq Fi ah3 ah4 NL=>?_;clear iZ;refine x72 NL λagu agv agw agx agy agz agA agB Vg=>?_;clear NL;refine x08 Vg λaeH aeI aeJ aeK hfo hfc aeL aeM=>?_;clear Vg
 unfold callSpecialIfBoundUnlessNone? bindSpecialIfBound?
 refine cY (aK (aK (wpAny_specialOf_own X ?_)))
 refine aK (wpAny_askSetting (wpAny_ite ?_))
 haveI fin:cZ (dB lg w) A (if(aI.ref f==aI.none)=true then(refuse>>=λv=>gB (az v))else(call (.ref f) [.ref x]>>=λv=>gB (az v))) Q E ⟨h,g,d,t,os⟩:=by
  rw[aY (by simp)]
  exact aK (aW OV (λv s' h'=>bw h') λz9 z9 h'=>h')
 split
 ·exact aK (wpAny_bindSpecial_def (s:=⟨h,g,d,t,os⟩) hfo hfc (bw (by exact fin)))
 ·exact wpAny_tryCatch (aK (wpAny_bindSpecial_def (s:=⟨h,g,d,t,os⟩) hfo hfc (bw (by exact fin))))
theorem Iv{Q:aI->aZ->Prop}(X:h.OwnSpecial x C f B "__iter__")
  (OV:cZ (dB lg w) A (call (.ref f) [.ref x]) (λv s'=>s'.sY v "generator"/\Q v s') E ⟨h,g,d,t,os⟩):cZ (dB lg w) A (pyIter (.ref x)) Q E ⟨h,g,d,t,os⟩:=by
 unfold pyIter
 refine aK (wpAny_specialOf_own X ?_)
 refine aK (xO X (aW OV (λv s' hv=>?_) λz9 z9 z=>z))
 dsimp only
 exact aK (rm hv.1 slot_gen_next.eF (bw hv.2))
end
section
variable{c:Cx}{σ:St}{ω:Wd}
theorem Sat.Xr{L:aQ}(S:Sat c L σ ω){s':aZ}{C aG:aQ}{oG:Obj}{m:Str->aH aI}{k₀:c7}{kf₀:aQ->aH (Str->aH aI)}(hk:ω.k=g8 k₀ aG oG)(wO:ω.kf=DC kf₀ C m)(h1:k₀ aG=none)(h2:kf₀ C=none)(hs:∀b o,ω.aP.cF b=az o->s'.d8.cF b=az o):
  Sat c L σ {ω with s:=s',k:=k₀,kf:=kf₀}:=by
 have ke:∀y o,k₀ y=az o->ω.k y=az o:=λy o e=>by
  rw[hk];exact(aY (show ¬y=aG from λh=>by rw[h,h1]at e;cases e)).trans e
 have ne:∀y m',kf₀ y=az m'->ω.kf y=az m':=λy m' e=>by
  rw[wO];exact(aY (show ¬y=C from λh=>by rw[h,h2]at e;cases e)).trans e
 have kn:∀y,ω.k y=none->k₀ y=none:=λy e=>by
  cases q:k₀ y with
  |none=>rfl
  |az o=>rw[ke y o q]at e;cases e
 have nn:∀y,ω.kf y=none->kf₀ y=none:=λy e=>by
  cases q:kf₀ y with
  |none=>rfl
  |az o=>rw[ne y o q]at e;cases e
 exact⟨qX.kh hs,λy o e=>hs y o (S.gr y o e),iG,S.high,sS,S.nd,S.tT.mK (λy z9 o e=>hs y o e),S.tW.mK (λy z9 o e=>hs y o e),gD,jk,λy o e=>hs y o (S.kk y o (ke y o e)),λy hy=>kn y (kN y hy),λy m' e=>(S.nf y m' (ne y m' e)).kh hs,λy hy=>nn y (S.qC y hy),
  λy m' e=>⟨kn y (S.oJ y m' (ne y m' e)).1,(S.oJ y m' (ne y m' e)).2⟩,λy o e=>S.dk y o (ke y o e)⟩
end
theorem J0{f:ak fZ}(h:∀y∈f,y=.oV):BA f=[]:=by
 induction f with
 |nil=>rfl
 |br g r ih=>
  show Zx g (BA r)=[]
  rw[ih λy hy=>h y (.cI _ hy),h g (.dw _)];rfl
theorem Sy(l:ak fZ){r:ak fZ}(h:BA r≠[]):BA (l++r)=l++BA r:=by
 induction l with
 |nil=>rfl
 |br g l ih=>
  rcases B9 g (l++r)with q|q
  ·exact q.trans (bM _ ih)
  ·exact cO (ak.append_eq_nil_iff.mp (ih.symm.trans q.2.1)).2 h
theorem OW(l:ak fZ){r:ak fZ}(h:BA r=[]):BA (l++r)=BA l:=by
 induction l with
 |nil=>exact h
 |br g l ih=>exact bM (Zx g) ih
def GI(G0:dX fZ)(gs:fZ)(a:dX fZ):Prop:=∃f,a.nu=G0.nu++gs::f/\∀y∈f,y=.oV
theorem GI.get{G0 a:dX fZ}{gs:fZ}(h:GI G0 gs a):a[G0.dM]?=az gs:=by
 refine gg h λf e ig=>?_;clear h
 rw[<-dX.getElem?_toList,e,<-dX.iM,ak.jy (bz _)]
 simp
theorem GI.set{G0:dX fZ}{gs gs':fZ}{s:aZ}(h:GI G0 gs s.iD):GI G0 gs' (s.setGen G0.dM gs').iD:=by
 refine gg h λf e hf=>?_;clear h
 refine⟨f,?_,hf⟩
 show(s.iD.qZ G0.dM gs').nu=_
 rw[dX.toList_setIfInBounds,e,<-dX.iM,ak.set_append_right _ _ (bz _),lW]
 rfl
theorem J1{g:fZ}{f:ak fZ}(hg:g≠.oV)(hf:∀y∈f,y=.oV):BA (g::f)=[g]:=by
 rcases B9 g f with q|q
 ·rw[q,J0 hf]
 ·exact cO q.2.2 hg
theorem GI.OX{G0 a a':dX fZ}{gs:fZ}(h:GI G0 gs a)(hg:gs≠.oV)(hk:gk a'=gk a):GI G0 gs a':=by
 refine gg h λf e hf=>?_;clear h
 refine gg (Dy a'.nu) λf' h1 h2=>?_
 refine⟨f',?_,h2⟩
 haveI e2:BA a'.nu=G0.nu++[gs]:=by
  show gk a'=_
  rw[hk]
  show BA a.nu=_
  rw[e,Sy _ (by rw[J1 hg hf];exact ak.cons_ne_nil _ _),J1 hg hf]
 rw[e2,ak.cV]at h1
 exact h1
theorem GI.fin{G0 a:dX fZ}(h:GI G0 .oV a):gk a=gk G0:=by
 refine gg h λf e hf=>?_;clear h
 show BA a.nu=BA G0.nu
 rw[e,OW _ (J0 λy hy=>?_)]at⊢
 rcases ak.bB hy with rfl|hy
 ·rfl
 ·exact hf y hy
section
variable{c:Cx}{L C aG:Addr}{x:Str}{u:V}{ω₁:Wd}{n nn:Nat}{A:Around}{env:Env}{sc:Scope}{rest body:List Stmt}{X:St->Prop}{Qf:Fl->St->Prop}
 {Q:List V->St->Prop}{P2:List V->Nat->List AO->Prop}{En:List AO->Prop}{e:Nat}{nm qn:Value}
theorem m9.DC{kf:aQ->aH (Str->aH aI)}{m:Str->aH aI}(h:m9 c n env A kf):m9 c n env A (DC kf C m):=by
 revert h
 revert c C n A env kf m
 intros c C n A env kf m
 intro h
 have key:∀y m',kf y=az m'->∃m'',Lake.DC kf C m y=az m'':=λy m' e=>by
  unfold Lake.DC
  split
  ·exact⟨_,rfl⟩
  ·exact⟨_,e⟩
 refine gg h.fm λl h1 h2=>?_
 refine⟨h.room,⟨l,h1,λe he=>?_⟩,λhf=>?_⟩
 ·refine iU (h2 e he) λa1 iZ=>?_;refine uE iZ λL' a2 a3 a4=>?_;clear iZ
  exact⟨a1,L',a2,a3,a4.imp id λ⟨m',q⟩=>key _ _ q⟩
 ·refine gg (h.hd hf) λo b1 b2=>?_
  refine⟨o,b1,λe he=>?_⟩
  refine iU (b2 e he) λa1 iZ=>?_;refine oH iZ λL' m' a2 a3 a4=>?_;clear iZ
  refine eO (key _ _ a3) λm'' q=>?_
  exact⟨a1,L',m'',a2,q,a4⟩
def rZ(g:Nat)(nm qn:aI):Obj:={cls:=.dg "generator",f9:=.pJ #[.int g 0,nm,qn]}
theorem OI.back{m:Nat}{oG:Obj}{J:Nat->St->Prop}{h:c8}{γ:St×Wd}{s₁ s':aZ}{W':ak AO}{b':ak aQ}{g':c7}{mG:Str->aH aI}(H:OI c L C aG oG x u ω₁ J m γ h)(hL:L≠C)(sub:Sub γ.2.g g' [] [] γ.2.b b')
  (S:xK c W' s₁ b' g' (lA L γ.2) (DC (eY L γ.2) C mG))(hs:s₁.d8=s'.d8):Sat c L {γ.1 with W:=W'} {γ.2 with s:=s',b:=b',g:=g',kf:=DC ω₁.kf C mG}:=by
 refine Ht H.kf λm0 r e1 jd=>?_
 haveI ek:DC (eY L γ.2) C mG=eY L {γ.2 with kf:=DC ω₁.kf C mG}:=by
  funext y
  show(if y=C then az mG else if y=L then az γ.2.m else γ.2.kf y)=if y=L then az γ.2.m else if y=C then az mG else ω₁.kf y
  by_cases h1:y=C
  ·subst h1;rw[bJ rfl,aY (Ne.symm hL),bJ rfl]
  ·rw[aY h1,aY h1,e1]
   show(if y=L then az γ.2.m else if y=C then az m0 else ω₁.kf y)=_
   rw[aY h1]
 rw[ek]at S
 refine H.sat.abe sub (S.re hs) λy m' q=>?_
 rw[e1]
 show ∃m₀,(if y=C then az m0 else ω₁.kf y)=az m₀
 change(if y=C then az mG else ω₁.kf y)=az m' at q
 by_cases h1:y=C
 ·exact⟨m0,bJ h1⟩
 ·rw[aY h1]at q;exact⟨m',(aY h1).trans q⟩
end
section
variable{c:Cx}{C aG:Addr}{x:Str}{u:V}{ω₁:Wd}{n nn:Nat}{A:Around}{env:Env}{sc:Scope}{rest body:List Stmt}{X:St->Prop}{Qf:Fl->St->Prop}
 {Q:List V->St->Prop}{P2:List V->Nat->List AO->Prop}{En:List AO->Prop}{e:Nat}{nm qn:Value}{xt:Str}{px:Pos}
def GoG(c:Cx)(env:Env)(C aG:aQ)(nm qn:aI)(x:Str)(u:V)(ω₁:Wd)(A:dR)(Q:ak V->St->Prop)(P2:ak V->Nat->ak AO->Prop)(En:ak AO->Prop)(e:Nat)(gs:fZ)(N:Nat)(s':aZ):Prop:=gs.Goes (dB bU j5) tQ
   (λn s₀ r s₁=>r=.ok (.ret .none)/\Ed c aN C aG (rZ ω₁.s.iD.dM nm qn) x u ω₁ (Jd Q P2) (Nd Q En) n s₀ s₁) (Yp c aN C aG (rZ ω₁.s.iD.dM nm qn) x u ω₁ (Jd Q P2) (Yd Q P2) (Er e)) N (.send .none) s'
inductive LG(c:Cx)(env:Env)(C aG:aQ)(nm qn:aI)(x:Str)(u:V)(ω₁:Wd)(A:dR)(Q:ak V->St->Prop)(P2:ak V->Nat->ak AO->Prop)(En:ak AO->Prop)(e:Nat)(N:Nat)(s:aZ):Prop
 |mk (γ:St×Wd) (gs:fZ) (H:OI c aN C aG (rZ ω₁.s.iD.dM nm qn) x u ω₁ (Jd Q P2) N γ aP) (hdr:s.jE=ω₁.s.jE) (hos:s.os=ω₁.s.os) (hg:GI ω₁.s.iD gs s.iD) (go:∀s',s'.d8=aP->GoG c env C aG nm qn x u ω₁ A Q P2 En e gs N s'):LG c env C aG nm qn x u ω₁ A Q P2 En e N s
theorem abo(hR:m9 c n env A ω₁.kf)(hL:aN≠C)(h1:ω₁.k aG=none)(h2:ω₁.kf C=none){N:Nat}{s:aZ}(h:LG c env C aG nm qn x u ω₁ A Q P2 En e N s){Qn:aH aI->aZ->Prop}{E':aI->aZ->Prop}
  (item:∀v t i bx W' k dj,Sat c aN {bx with W:=W'} dj->m9 c n env A dj.kf->RV c dj t v->Q (t::i) bx->P2 i k W'->(∀(j:Nat)(y:aQ),ω₁.a[j]?=az y->dj.a[j]?=az y)->
   (∀eH jD,Le dj jD->Sat c aN eH jD->Q i eH->(∃k,P2 i k eH.W)->(Er e W'->Er e eH.W)->∃m,m<N/\LG c env C aG nm qn x u ω₁ A Q P2 En e m jD.s)->Qn (az v) dj.s)
  (fin:∀bx W' fj,Q [] bx->En W'->Le ω₁ fj->Sat c aN {bx with W:=W'} fj->Qn none fj.s):
  cZ (dB bU j5) A (pyNext (.ref aG)) Qn E' s:=by
 revert hR hL h1 h2 h item fin
 revert c C aG x u ω₁ n A env Q P2 En e nm qn N s Qn E'
 intros c C aG x u ω₁ n A env Q P2 En e nm qn N s Qn E'
 intro hR hL h1 h2 h item fin
 obtain⟨γ,gs,H,hdr,hos,hg,hgo⟩:=h
 haveI HG:aP.IsGen aG ω₁.s.iD.dM:=⟨_,nm,qn,H.hp▸H.sat.kk aG _ (by rw[H.k];exact iQ),rfl,rfl,rfl⟩
 haveI M8:aP.NoLimit:=c.nl.kh λy o q=>H.hp▸H.sat.gr y o (H.sat.yJ y o q)
 refine wpAny_pyNext_gen hR.room.jm M8 (hR.room.dl (k:=0) (bC _)) HG hg.get (hgo _ rfl) (λv s₁ gs' hy=>?_) λs₁ hE h' Dm=>?_
 ·obtain⟨H',tok,W',b',g',r,t,⟨i,hi,hQ,k,hP⟩,hk⟩:=hy
  refine oH r.sat λmG rv SW e1 e2=>?_
  have OY:GI ω₁.s.iD .running s₁.iD:=GI.OX (GI.set hg) (λq=>by cases q) r.iD
  refine oH H'.kf λm0 r0 k1 k2 k3=>?_
  have S':=OI.back (s':=s₁.setGen ω₁.s.iD.dM gs') H' hL r.sub SW rfl
  refine item v tok i _ W' k _ S' hR.DC (t.eW ⟨λz9 z9 h=>h,λz9 z9 h=>(Lake.nn rfl h),λz9 z9 h=>h⟩) hQ hP H'.sub.ha λeH jD QS pR abp abq Vh=>?_
  haveI aeN:Sub ω₁.g jD.g ω₁.a jD.a ω₁.b jD.b:=⟨λy o q=>QS.sub.hg y o (r.sub.hg y o (H'.sub.hg y o q)),λj y q=>QS.sub.ha j y (H'.sub.ha j y q),λj y q=>QS.sub.hb j y (r.sub.hb j y (H'.sub.hb j y q))⟩
  have ho:OI c aN C aG (rZ ω₁.s.iD.dM nm qn) x u ω₁ (Jd Q P2) (N - 1) (eH,jD) jD.aP:=
   ⟨pR,rfl,aeN,QS.k.trans H'.k,⟨mG,rv,QS.kf,e1,e2.eW ⟨λy o q=>QS.sub.hg y o q,λz9 z9 h=>h,λj y q=>QS.sub.hb j y q⟩⟩,i,hi,abp,abq⟩
  cases N with
  |lO=>exact(hk jD.s (eH,jD) ho Vh).g9
  |kU m=>
   have go:∀s',s'.d8=jD.aP->GoG c env C aG nm qn x u ω₁ A Q P2 En e gs' m s':=λs' hs=>hk s' (eH,jD) (hs▸ho) Vh
   haveI pU:gs'≠.oV:=λq=>by have:=go jD.s rfl;rw[q]at this;exact this
   exact⟨m,dY m,(eH,jD),gs',ho,QS.jE.trans (r.dr.trans hdr),QS.os.trans (r.os.trans hos),GI.OX (GI.set (gs':=gs') OY) pU QS.iD,go⟩
 ·obtain⟨H',W',b',g',r,hQ,hE⟩:=hE
  refine oH r.sat λmG rv SW e1 e2=>?_
  haveI OY:GI ω₁.s.iD .running s₁.iD:=GI.OX (GI.set hg) (λq=>by cases q) r.iD
  refine oH H'.kf λm0 r0 k1 k2 k3=>?_
  haveI S':=OI.back (s':=s₁) H' hL r.sub SW rfl
  haveI S'':=S'.Xr (s':={s₁.setGen ω₁.s.iD.dM .oV with d8:=h'}) (C:=C) (m:=mG) (k₀:=ω₁.k) (kf₀:=ω₁.kf) H'.k rfl h1 h2 Dm
  refine fin _ W' _ hQ hE ?_ S''
  exact⟨⟨λy o q=>r.sub.hg y o (H'.sub.hg y o q),H'.sub.ha,λj y q=>r.sub.hb j y (H'.sub.hb j y q)⟩,(GI.set (gs':=.oV) OY).fin,r.dr.trans hdr,r.os.trans hos,rfl,rfl⟩
end
section
variable{c:Cx}{n:Nat}{env:Env}{sc C8:Scope}{rest body:List Stmt}{X:St->Prop}{Qf:Fl->St->Prop}{σ:St}
 {Q:List V->St->Prop}{P1 P2 PJ Bv Cj:List V->Nat->List AO->Prop}{En:List AO->Prop}{e N:Nat}{xt xs:Str}{px pos:Pos}
structure GD(c:Cx)(f:aQ)(fd:kR)(C8:gO)(dO:ak iW)(xs:Str):Prop where
 look:∃o,gM.eF f=az o/\o.f9=.w4 fd
 dO:fd.dO=.stmts dO
 bD:fd.bD=C8
 su:C8.su=.ng
 gen:C8.isGenerator=true
 co:C8.xu=false
 lE:fd.lE=iB
 j9:fd.j9=wg
 closure:fd.closure=[]
 code:codeIn gM fd.code lZ=true
 lI:∀x∈C8.kY,x.2≠.lI
 self:C8.bW xs=az .local
 bind:∀s v,xx s fd ⟨[v],[]⟩ [(xs,v)]
end
section
variable{c:Cx}{n:Nat}{env:Env}{X:St->Prop}{σ:St}{Q:V->St->Prop}
theorem Iw{A:dR}{E:aI->aZ->Prop}{s:aZ}{l:aQ}{CO:dX aI}{nn:Nat}{t:Tok}{y:aI}{Q:aI->aZ->Prop}(hl:aP.cF l=az {cls:=.dg "list",f9:=.seq CO nn})(hy:CO[0]?=az y)(hp:0<CO.dM)(yW:CO.dM<=fu)
  (hQ:∀h' BN,h'.cF l=az {cls:=.dg "list",f9:=.seq (CO.oB 0) BN}->c8.nJ l aP h'->Q y {s with d8:=h'}):cZ (dB bU j5) A (call (.cj "list.pop") [.ref l,.int 0 t]) Q E s:=
 call_meets F.slot_list_pop (show s.sY (.ref l) "list" from⟨_,hl,rfl⟩) F.entry_list_pop (F.args_list_pop_2 _ _) (MeetsSeq.list_pop_at l CO nn 0 t 0 y (by decide) (by unfold seqIndex?;simp[hp]) hy yW) ⟨hl,hQ _ _ (IsL.uh hl _) (c8.nJ.uh ..)⟩
theorem SD{v x:V}{l:ak V}{f:ak V->St}(k:CZ σ v (x::l) f)(hz:l.aq<=10000)(h:Q x (f l)):CV c n env (.st (.cj "list.pop")) [v,.int 0] Q X σ:=by
 revert k hz h
 revert c n env X σ Q v x l f
 intros c n env X σ Q v x l f
 intro k hz h
 intros A ω kO
 intro hR hS hr
 refine E3 hr.three λrf rv rw' jd r0 r1 r2=>?_;obtain rfl:=jd
 obtain rfl:=r0.inv
 refine eO r2.inv λt bG=>?_;obtain rfl:=bG
 refine KI (k.at hS r1) λa xs nn jd e rs no put=>?_;obtain rfl:=jd
 refine oH rs.un λy ys ig ry AA=>?_;obtain rfl:=ig
 have hl:=iJ AA
 refine Iw (y:=y) e rfl (cD _) (by rw[ak.bZ,ak.kM,hl,kK];exact aA (dZ hz) (by decide)) λh' BN e' hs=>?_
 have e2:(y::ys).aJ.oB 0=ys.aJ:=by
  unfold dX.oB
  rw[dif_pos (by simp)]
  apply dX.ext'
  simp
 rw[e2]at e'
 refine iU (put h' l ys BN ω.eV hs e' AA λho=>by
  have:=no ho
  rw[Ay]at this⊢
  exact λv hv=>this v (ak.mem_cons_of_mem _ hv)) λS' l'=>?_
 exact⟨x,_,_,l',rfl,S',ry.eW l'.sub,h⟩
end
section
variable{c:Cx}{n:Nat}{env:Env}{sc:Scope}{τ:qI}{l:Loc}{T W:List AO}
theorem abr{κ:Ct c sc τ}{i:Nat}{xs:ak V}{x:V}{ks:ak Fr}(k:W[i]?=az (.aR (x::xs)))(hz:xs.aq<=10000)(q:Vd n κ (.rt x ks l T (W.set i (.aR xs)))):Vd n κ (.cl (.st (.cj "list.pop")) [.ob i,.int 0] ks l T W):=SD (.ob k) hz q
theorem abt{e:aB}{Q:V->St->Prop}(he:fU env sc)(ok:WU c τ)(h:∀κ:Ct c sc τ,κ.env=env->(∀v σ,Q v σ->κ.Q (.ret v) σ)->Vd n κ (.ev e [.ret] l T W)):WE c n env e Q (λz9=>cM) ⟨l,T,W⟩:=by
 haveI q:=h ⟨env,he,ok,λz9=>cM,λfl σ=>match fl with|.ret v=>Q v σ|_=>cM⟩ rfl λz9 z9 z=>z
 exact q
theorem OZ{e:aB}{Q:aM->St->Prop}(he:fU env sc)(ok:WU c τ)(h:∀κ:Ct c sc τ,κ.env=env->(∀b σ,Q b σ->κ.Q (.ret (.bF b)) σ)->Vd n κ (.te e [.ret] l T W)):WT c n env e Q (λz9=>cM) ⟨l,T,W⟩:=by
 haveI q:=h ⟨env,he,ok,λz9=>cM,λfl σ=>match fl with|.ret (.bF b)=>Q b σ|_=>cM⟩ rfl λz9 z9 z=>z
 exact q
theorem abu{b:ak iW}{Q:Fl->St->Prop}{X:St->Prop}(he:fU env sc)(ok:WU c τ)(h:∀κ:Ct c sc τ,κ.env=env->(∀v σ,Q v σ->κ.Q v σ)->(∀σ,X σ->κ.X σ)->Vd n κ (.ex b l T W)):WS c n env b Q X ⟨l,T,W⟩:=
 h ⟨env,he,ok,X,Q⟩ rfl (λz9 z9 z=>z) λz9 z=>z
end
def abv(fd:kR)(xs:Str):aM:=(fd.bD.su==.ng)&&fd.bD.isGenerator&&!fd.bD.xu&&(fd.lE==iB)&&(fd.j9==wg)&&fd.closure.qt&&fd.bD.kY.all (λx=>x.2!=.lI)&&(fd.bD.bW xs==az .local)
theorem GD.of{c:Cx}{H:xP}{f:aQ}{o:Obj}{fd:kR}{dO:ak iW}{xs:Str}(hK:gM=H)(hl:H.eF f=az o)(hd:o.f9=.w4 fd)(hb:fd.dO=.stmts dO)(Bt:abv fd xs=true)(FW:codeIn H fd.code lZ=true)(bind:∀s v,xx s fd ⟨[v],[]⟩ [(xs,v)]):GD c f fd fd.bD dO xs:=by
 simp only[abv,aM.bN,iX,aM.oE,ak.rP,nD,ne_eq,ak.isEmpty_iff]at Bt
 refine iU Bt λfY h8=>?_;clear Bt;refine iU fY λFY h7=>?_;clear fY;refine iU FY λFZ h6=>?_;clear FY;refine iU FZ λCc h5=>?_;clear FZ;refine iU Cc λzY h4=>?_;clear Cc;refine iU zY λyt h3=>?_;clear zY;refine iU yt λh1 h2=>?_;clear yt
 exact⟨⟨o,hK▸hl,hd⟩,hb,rfl,h1,h2,h3,h4,h5,h6,hK▸FW,λx hx=>h7 x hx,h8,bind⟩
theorem Aa{lg:uw}{w:World}{A:dR}{E:aI->aZ->Prop}{s:aZ}{l:aQ}{bY:dX aI}{nn j:Nat}{t:Tok}{v:aI}{Q:qY->aZ->Prop}(ho:aP.cF l=az {cls:=.dg "list",f9:=.seq bY nn})
  (hj:bY.dM=j+1)
  (hQ:Q () {s with d8:=aP.uh l (Obj.mapSeq (·.qZ j v))}):cZ (dB lg w) A (setItem (.ref l) (.int (-1) t) v) Q E s:=by
 revert ho hj hQ
 revert lg w A E s l bY nn j t v Q
 intros lg w A E s l bY nn j t v Q
 intro ho hj hQ
 haveI hl:aP.IsList l bY:=⟨_,ho,rfl,nn,rfl⟩
 unfold setItem
 try with_reducible refine cY ?_
 first|refine aK (bw ?_)|skip
 refine aK (wpAny_sequenceKey hl.vg (by decide) ?_)
 refine aK (wpAny_callSpecial?_slot (name:=aj "__setitem__") hl.vg xC
  (wpAny_call_entry xC hl.vg entry_list_setitem ?_ (args_list_setitem _ _ _)))
 show cZ _ _ (dI.ak.listSubscript? (.int (-1) t)>>=_) _ _ s
 refine aK (wpAny_listSubscript_int (by decide) ?_)
 haveI lM:j<bY.dM:=by rw[hj];exact dY j
 haveI AG:bY[j]?=az bY[j]:=dX.bk lM
 haveI hq:seqIndex? (Int.negSucc 0) bY.dM=az j:=by rw[seqIndex_neg (by decide) (hj▸Int.neg_le_neg (fO.mpr (cD j))),hj];exact bM az (bM Int.gR (show(-1:Int)+((j:Int)+1)=j by rw[Int.add_comm,Int.add_neg_cancel_right]))
 show cZ _ _ ((dI.ak.listItems (.ref l)>>=λxs=>gB ((seqIndex? (Int.negSucc 0) xs.dM).bind λi=>xs[i]?.map (i,·)))>>=_) _ _ s
 refine aK (aK ?_)
 show cZ _ _ (seqItems? (.ref l)>>=_) _ _ s
 refine aK (wpAny_seqItems ho rfl (bw (bw ?_)))
 rw[hq]
 simp only[aH.bind_some,AG,aH.map_some]
 show cZ _ _ (setSeqItemAt l j v>>=_) _ _ s
 refine aK (wpAny_setSeqItemAt ho rfl ?_)
 first
  |exact aK (bw (bw ⟨.none,rfl,bw hQ⟩))
  |exact bw ⟨.none,rfl,bw hQ⟩
section
variable{c:Cx}{n:Nat}{env:Env}{X:St->Prop}{σ:St}{sc:Scope}{τ:qI}{κ:Ct c sc τ}{l:Loc}{T W:List AO}{rest:List Stmt}
theorem SE{Q:qY->St->Prop}{j:Nat}{x:V}{xs:ak V}{y:V}(hT:jx[j]?=az (.aR (xs++[y])))(h:Q () {σ with T:=jx.set j (.aR (xs++[x]))}):SI c n env (.lo j) (.int (-1)) x Q X σ:=wo3 λA ω rv ri rx hR hS r1 r2 r3=>by
 (first|obtain rfl:=r2.inv|(refine eO r2.inv λfY bG=>?_;obtain rfl:=bG)|cases r2)
 refine KI ((CZ.lo hT).at hS r1) λa rs nn jd e hr no put=>?_;obtain rfl:=jd
 haveI hl:rs.aq=xs.aq+1:=(iJ hr).trans ak.aX
 refine Aa e (j:=xs.aq) (by rw[ak.bZ,hl]) ?_
 haveI e':=IsL.uh e (·.qZ xs.aq rx)
 haveI es:(xs++[y]).set xs.aq x=xs++[x]:=by rw[ak.set_append_right _ _ (bz _),lW];rfl
 refine iU (put _ (xs++[x]) (rs.set xs.aq rx) (if(rs.aJ.qZ xs.aq rx).dM==rs.aJ.dM then nn else nn+1) ω.eV (c8.nJ.uh ..) (by rw[e',ak.setIfInBounds_toArray]) (es▸FT _ hr r3) λho=>(by cases ho)) λS' l'=>?_
 exact⟨(),_,_,l',rfl,S',trivial,h⟩
theorem abw{j:Nat}{xs:ak V}{a b:Str}(hT:T[j]?=az (.aR (xs++[.str a])))(hz:a.aq+b.aq<=fu)(q:Vd n κ (.ex aU l (T.set j (.aR (xs++[.str (a++b)]))) W)):Vd n κ (.rt (.str b) [.Gf (.lo j) (.int (-1)) .Add (.str a) aU] l T W):=
 B7 hz (SE hT q)
end
section
variable{c:Cx}{n:Nat}{env:Env}{X:St->Prop}{σ:St}{pos:Pos}{ω:Wd}{sc:Scope}{rest:List Stmt}{Q:Fl->St->Prop}
structure Vi(c:Cx)(L:aQ)(ω:Wd)(x:aQ):Prop where
 h:∀y∈L::(ω.a++ω.b),y≠x
 g:ω.g x=none
 k:ω.k x=none
 f:ω.kf x=none
theorem Sat.new{L x:aQ}(S:Sat c L σ ω)(hx:ω.s.aC<=x):Vi c L ω x:=by
 have no:∀{o},ω.aP.cF x=az o->cM:=λe=>Nat.fG hx (c8.iu e)
 refine⟨λy hy e=>Nat.fG hx (e▸S.lt hy),?_,?_,?_⟩
 ·cases e:ω.g x with
  |none=>rfl
  |az o=>exact(no (S.gr _ _ e)).g9
 ·cases e:ω.k x with
  |none=>rfl
  |az o=>exact(no (S.kk _ _ e)).g9
 ·cases e:ω.kf x with
  |none=>rfl
  |az m=>exact cO (S.nf _ _ e).lt (Nat.fG hx)
inductive aeO(c:Cx)(L:aQ)(ω₁:Wd)(e it l:aQ)(i:Nat)(σ:St)(s:aZ):Prop
 |mk (ω:Wd) (oe oi:Obj) (old:aI) (l':Y7 ω₁ ω) (hs:ω.s=s) (S:Sat c L σ ω) (hk:ω.k=g8 (g8 ω₁.k it oi) e oe) (he:IsEnum aP e it i old) (hi:aP.IsListIter it l i) (eo:aP.cF e=az oe) (io:aP.cF it=az oi):aeO c L ω₁ e it l i σ s
end
theorem LZ{lg:uw}{w:World}{A:dR}{E:aI->aZ->Prop}{s:aZ}{l b:aQ}{xs ys:dX aI}{nn mm:Nat}{Q:aI->aZ->Prop}(hl:aP.cF l=az {cls:=.dg "list",f9:=.seq xs nn})(hb:aP.cF b=az {cls:=.dg "list",f9:=.seq ys mm})
  (hz:xs.dM+ys.dM<=20000)(hQ:Q (.ref l) {s with d8:=aP.uh l (Obj.mapSeq λx=>x++ys)}):cZ (dB lg w) A (inplaceOp .Add (.ref l) (.ref b)) Q E s:=by
 revert hl hb hz hQ
 revert lg w A E s l b xs ys nn mm Q
 intros lg w A E s l b xs ys nn mm Q
 intro hl hb hz hQ
 unfold inplaceOp
 refine cY ?_
 have hT:s.sY (.ref l) "list":=⟨_,hl,rfl⟩
 have hfi:fillsInplaceSlot (.dg "list") "add" (lP.Add==.Add)=gB false:=by
  unfold fillsInplaceSlot
  show(wz (.dg "list") (dunderI "add")>>=λfi=>gB (fi.sJ&&!isSeqSlot fi))=gB false
  rw[F.slot_list_iadd.eF];rfl
 refine aK (wpAny_typeOf hT (aK (wpAny_of_eq hfi ?_)))
 show cZ _ A (if false=true then _ else _) Q E s
 rw[aY aM.bK]
 refine aK (wpAny_binaryOp1_none (nm:="add") hT ⟨_,hb,rfl⟩ nY.noFill_list_add ?_)
 refine aK (wpAny_of_eq (nY.seqSlot_of F.slot_list_iadd.eF (by decide+dK)) ?_)
 have hs:fu=16777216:=kK
 exact aK (wpAny_rule (call_meets F.slot_list_iadd hT F.entry_list_iadd (F.args_list_iadd_2 _ _) (AutoSeq1.list___iadd___list_list_0 l xs nn b ys mm (by rw[show dI.ak.listTooLong (xs.dM+ys.dM)=false from cK (by exact(λhn=>Lake.n3 [_,_,_] 1 (.a (.v 2) (.n 1)) (.a (.v 0) (.v 1)) 1 (.a (.v 0) (.v 1)) (.n 20000) 1 (.n 16777216) (.v 2) rfl hn hz (aO (Eq.symm hs)))),aM.uo];exact aM.bK) (by exact(aF λhn=>Lake.n3 [_,_,_] 1 (.a (.v 2) (.n 1)) (.v 0) 1 (.a (.v 0) (.v 1)) (.n 20000) 1 (.n 16777216) (.v 2) rfl hn hz (aO (Eq.symm hs)))) (by exact(aF λhn=>Lake.n3 [_,_,_] 1 (.a (.a (.v 2) (.n 1)) (.n 1)) (.a (.v 0) (.v 1)) 1 (.a (.v 0) (.v 1)) (.n 20000) 1 (.n 16777216) (.v 2) rfl hn hz (aO (Eq.symm hs))))) ⟨hl,hb,hQ⟩))
section
variable{c:Cx}{n:Nat}{env:Env}{X:St->Prop}{σ:St}{sc:Scope}{τ:qI}{κ:Ct c sc τ}{l:Loc}{T W:List AO}{rest:List Stmt}
theorem Gj{Q:V->St->Prop}{v w:V}{xs ys:ak V}{f:ak V->St}(m:CZ σ v xs f)(k:qq σ w ys)(QN:(!FD v||V.gW ys)=true)(hz:xs.aq+ys.aq<=10000)(h:Q v (f (xs++ys))):PV c n env .Add v w Q X σ:=tX λA ω ra rb hR hS r1 r2=>by
 refine KI (m.at hS r1) λa rs nn jd e hr no put=>?_;obtain rfl:=jd
 refine xJ (k.at hS r2) λb AA mm jd e' MM=>?_;obtain rfl:=jd
 haveI h1:=iJ hr
 haveI h2:=iJ MM
 refine LZ e e' (by rw[ak.bZ,ak.bZ];exact(aF λhn=>Lake.n4 [_,_,_,_] 1 (.a (.n 20000) (.n 1)) (.a (.v 2) (.v 3)) 1 (.a (.v 0) (.v 1)) (.n 10000) 1 (.v 2) (.v 0) 1 (.v 3) (.v 1) rfl hn hz (aO h1) (aO h2))) ?_
 haveI e2:=IsL.uh e (λx=>x++AA.aJ)
 refine iU (put _ (xs++ys) (rs++AA) _ ω.eV (c8.nJ.uh ..) (by rw[e2,ak.wH]) (hr.append MM) λho=>zT (no ho) (by rw[ho]at QN;exact QN)) λS' l'=>?_
 exact⟨v,_,_,l',rfl,S',r1,h⟩
theorem O0{x:Str}{w:V}{xs ys:ak V}{j:Nat}{l':Loc}(hT:T[j]?=az (.aR xs))(k:qq ⟨l,T,W⟩ w ys)(hz:xs.aq+ys.aq<=10000)(p:tU x (.lo j) l l')(q:Vd n κ (.ex aU l' (T.set j (.aR (xs++ys))) W)):Vd n κ (.rt w [.aug x .Add (.lo j) aU] l T W):=
 Gj (.lo hT) k rfl hz ⟨l',p,q⟩
end
section
variable{c:Cx}{n:Nat}{env:Env}{X:St->Prop}{σ:St}{Q:V->St->Prop}{pos:Pos}
end
section
variable{c:Cx}{n:Nat}{sc:Scope}{τ:qI}{κ:Ct c sc τ}{l:Loc}{T W:List AO}{ks:List Fr}{pos:Pos}
end
section
variable{c:Cx}{n:Nat}{sc:Scope}{τ:qI}{κ:Ct c sc τ}{l:Loc}{T W:List AO}{ks:List Fr}
end
section
variable{c:Cx}{σ:St}{ω:Wd}
theorem Sat.abx{L:aQ}(S:Sat c L σ ω){s':aZ}{C aG:aQ}{oG:Obj}{m:Str->aH aI}(hk:∀b o,ω.aP.cF b=az o->s'.d8.cF b=az o)(hC:Vi c L ω C)(hG:Vi c L ω aG)(pU:C≠aG)(hns:s'.d8.Ns C m)(ho:s'.d8.cF aG=az oG):
  Sat c L σ {ω with s:=s',k:=g8 ω.k aG oG,kf:=DC ω.kf C m}:=by
 have nk:∀y,y≠aG->g8 ω.k aG oG y=ω.k y:=λy h=>aY h
 have nf:∀y,y≠C->DC ω.kf C m y=ω.kf y:=λy h=>aY h
 refine⟨qX.kh hk,λy o e=>hk y o (S.gr y o e),iG,S.high,sS,S.nd,S.tT.mK (λy z9 o e=>hk y o e),S.tW.mK (λy z9 o e=>hk y o e),gD,jk,λy o e=>?_,λy hy=>(nk y (hG.h y hy)).trans (kN y hy),λy m' e=>?_,λy hy=>(nf y (hC.h y hy)).trans (S.qC y hy),λy m' e=>?_,λy o e=>?_⟩
 ·by_cases h:y=aG
  ·subst h;exact ho.trans ((bJ rfl).symm.trans e)
  ·exact hk y o (S.kk y o ((nk y h).symm.trans e))
 ·by_cases h:y=C
  ·subst h;cases aH.az.inj ((show DC ω.kf y m y=az m from bJ rfl).symm.trans e);exact hns
  ·exact(S.nf y m' ((nf y h).symm.trans e)).kh hk
 ·by_cases h:y=C
  ·subst h;exact⟨(nk y pU).trans hC.k,hC.g⟩
  ·have e':=(nf y h).symm.trans e
   exact⟨(nk y (λz=>by rw[z,hG.f]at e';cases e')).trans (S.oJ y m' e').1,(S.oJ y m' e').2⟩
 ·by_cases h:y=aG
  ·subst h;exact hG.g
  ·exact S.dk y o ((nk y h).symm.trans e)
end
section
variable{c:Cx}{n:Nat}{env:Env}{sc C8:Scope}{X:St->Prop}{bx:St}{ω₁:Wd}{A:Around}
 {Q:List V->St->Prop}{P1 P2 PJ Bv Cj:List V->Nat->List AO->Prop}{En:List AO->Prop}{e N:Nat}{xs:Str}
theorem aeP{Ci f:aQ}{ii:Nat}{fd:kR}{s1:iW}{t1 t2 t3 e1 e2:aB}{q1 q2 q3 y1 y2 z1 z2:Pos}
  (D:GD c f fd C8 [s1,.oY t1 [.oY t2 [.tG (.n7 (az e1) y1) z1] [] q2,.oY t3 [.tG (.n7 (az e2) y2) z2] [] q3] [] q1] xs)
  (B:∀nF,fU nF C8->qL nF->GW c n nF xs (.cR Ci ii) P1 P2 Bv Cj En e t1 t2 t3 e1 e2)
  (hJ:∀i k W,i.aq<N->(PJ i k W↔P2 i k W))
  (h1:∀nF,fU nF C8->qL nF->∀i W,i.aq=N->(∃k,PJ i k W)->WS c n nF [s1] (λfl σ=>fl=.next/\∃W',σ=⟨[(xs,az (.cR Ci ii))],[],W'⟩/\∃k,P1 i k W') (λz9=>cM) ⟨[(xs,az (.cR Ci ii))],[],W⟩)
  (qD:m9 c (n+1) env A ω₁.kf)(cW:Sat c aN bx ω₁){xi:aQ}(hrel:Rel aL ω₁.g [] ω₁.b (.cR Ci ii) (.ref xi)){i:ak V}{k:Nat}(UP:i.aq=N)(hQ:Q i bx)(hP:PJ i k bx.W){el:ak V}(hel:bx.W[e]?=az (.aR el))
  {Cg aG:aQ}{nm qn:aI}{nF:Env}(Xu:fU nF C8)(OT:qL nF)(yr:nF.locals=Cg)(nC:Vi c aN ω₁ Cg)(nG:Vi c aN ω₁ aG)(pU:Cg≠aG)(yW:gV.nO.dM<=Cg)(hou:∀e∈jF.xV [],e.rO≠az Cg)
  {s:aZ}(hk:∀b o,ω₁.aP.cF b=az o->aP.cF b=az o)(hns:aP.Ns Cg λy=>[(xs,aI.ref xi)].sU.eF y)(hg:aP.cF aG=az (rZ ω₁.s.iD.dM nm qn))(hdr:s.jE=ω₁.s.jE)(hos:s.os=ω₁.s.os)
  (HG:s.iD=ω₁.s.iD.jg (.fresh (.w4 [s1,.oY t1 [.oY t2 [.tG (.n7 (az e1) y1) z1] [] q2,.oY t3 [.tG (.n7 (az e2) y2) z2] [] q3] [] q1] nF))):
  LG c env Cg aG nm qn xs (.cR Ci ii) ω₁ A Q PJ En e N s:=by
 refine gg qD.fm λfD xN SG=>?_
 rw[xN]at hou
 have Zd:aN≠Cg:=nC.h _ (.dw _)
 refine oH (cW.tW.2 e _ hel) λE obE hE1 hE2 hE3=>?_
 haveI G:GE c aN Cg (.cR Ci ii) ω₁ n A nF C8 fD e E:={
  he:=Xu,hf:=OT,hL:=yr,hC:=yW,Zd:=Zd,hu:=rfl,hA:=qD.room,xN:=xN
  h0:=by
   rw[yr]
   cases q:gV.cF Cg with
   |none=>rfl
   |az o=>exact Lake.nn nC.g (cW.yJ _ _ q)
  Xo:=λe' q z=>hou e' q (yr▸z)
  hE:=hE1,co:=by rw[Xu.bD];exact D.co,it:=by
   unfold interactive
   rw[Xu.bD,D.su];rfl
  ho:=λmG m e' q=>by
   refine iU (SG e' q) λa1 iZ=>?_;refine uE iZ λL' a2 a3 a4=>?_;clear iZ
   by_cases z:L'=aN
   ·exact⟨a1,L',m,a2,bJ z,a3⟩
   ·rcases a4 with a4|⟨m',a4⟩
    ·exact cO a4 z
    ·exact⟨a1,L',m',a2,(aY z).trans ((aY (show ¬L'=Cg from λz'=>hou e' q (z'▸a2))).trans a4),a3⟩}
 have O:∀s':aZ,s'.d8=aP->OI c aN Cg aG (rZ ω₁.s.iD.dM nm qn) xs (.cR Ci ii) ω₁ (Jd Q PJ) N (bx,{ω₁ with s:=s',k:=g8 ω₁.k aG (rZ ω₁.s.iD.dM nm qn),kf:=DC ω₁.kf Cg λy=>[(xs,aI.ref xi)].sU.eF y}) s'.d8:=λs' hs=>
  ⟨cW.abx (s':=s') (λb o q=>hs▸hk b o q) nC nG pU (hs▸hns) (hs▸hg),rfl,.sI,rfl,⟨_,.ref xi,rfl,ak.lookup_cons_self,hrel⟩,i,UP,hQ,k,hP⟩
 exact⟨_,.fresh _,O _ rfl,hdr,hos,⟨[],by rw[HG];exact(dX.toList_push ..).trans rfl,λz9 h=>by cases h⟩,λs' hs=>⟨rfl,LY G (B nF Xu OT) hJ (h1 nF Xu OT) (O s' hs)⟩⟩
end
section
variable{c:Cx}{C aG:Addr}{xs x:Str}{u:V}{ω₁:Wd}{n:Nat}{A:Around}{nq:Env}
 {P2:List V->Nat->List AO->Prop}{En:List AO->Prop}{e:Nat}{nm qn:Value}
def QC(T₀:ak AO)(x:Str)(i₀ i:ak V)(σ:St):Prop:=∃ys,ys++i=i₀/\rE=[(x,none)]/\jx=T₀++[.aR ys]
theorem aby{gZ:aB}{px pe pos:Pos}{bD:gO}{D:aQ}{T₀:ak AO}{i₀:ak V}(he:fU nq bD)(hx:(bD.bW x==az .local)=true)(hd:(x==("__debug__":Str))=false)
  (hR:m9 c n nq A ω₁.kf)(hL:nq.locals≠C)(h1:ω₁.k aG=none)(h2:ω₁.kf C=none)(hz:i₀.aq<=10000)(hD:ω₁.a[T₀.aq]?=az D){R:rI->aZ->Prop}
  (fin:∀W' fj,En W'->Le ω₁ fj->Sat c nq.locals ⟨[(x,none)],T₀++[.aR i₀],W'⟩ fj->R (.ok .next) fj.s)
  (N:Nat){s:aZ}(h:LG c nq C aG nm qn xs u ω₁ A (QC T₀ x i₀) P2 En e N s):
  uz (dB bU j5) A (.compLoop (.lq (.mQ x pe) [⟨.mQ x px,gZ,[],0⟩] bD pos) 0 (.ref aG) (.ref D) nq) R s:=by
 revert he hx hd hR hL h1 h2 hz hD fin h
 revert c C aG xs x u ω₁ n A nq P2 En e nm qn gZ px pe pos bD D T₀ i₀ R N s
 intros c C aG xs x u ω₁ n A nq P2 En e
 intros nm qn gZ px pe pos bD D T₀ i₀ R N s
 intro he hx hd hR hL h1 h2 hz hD fin h
 refine codeAny_compLoop_tests (LG c nq C aG nm qn xs u ω₁ A (QC T₀ x i₀) P2 En e) ?_ N h
 intro N s hI
 refine abo hR hL h1 h2 hI (λv t i bx W' k dj S' hR' rt hQ hP ha next=>?_) λbx W' fj hQ hE l S=>?_
 ·refine uE hQ λys hys hl hT=>?_;clear hQ
  obtain⟨loc,T,W⟩:=bx
  cases hl;cases hT
  dsimp only
  refine wpAny_assign_Name (zA (l':=[(x,az t)]) he hx S' rt tU.dw λgw jT lB=>?_)
  refine wpAny_tests_nil ?_
  rw[bJ rfl]
  haveI Fw:=hR'.le jT
  refine aW (DP (n:=n) (X:=λz9=>cM) (Q:=λv σ=>v=t/\σ=⟨[(x,az t)],T₀++[.aR ys],W'⟩) (pos:=pe) he (.dw _) hx hd ⟨rfl,rfl⟩ A gw Fw lB) ?_ λz9 z9 p=>p.no
  refine d9.all λrv v' eH jD pD pR Nr hz4=>?_
  refine iU hz4 λfY bG=>?_;clear hz4;obtain rfl:=fY;obtain rfl:=bG
  haveI hy:ys.aq<=10000:=by
   rw[<-hys,ak.aX]at hz
   exact aA (cu _ _) hz
  haveI hg:(T₀++[AO.aR ys])[T₀.aq]?=az (.aR ys):=ak.getElem?_concat_length
  haveI qp:(T₀++[AO.aR ys]).set T₀.aq (.aR (ys++[v']))=T₀++[.aR (ys++[v'])]:=by
   rw[ak.set_append_right _ _ (bz _),lW];rfl
  haveI hDa:RV c jD (.lo T₀.aq) (.ref D):=.lo (pD.sub.ha _ _ (jT.sub.ha _ _ (ha _ _ hD)))
  refine aW (Az (c:=c) (n:=n) (env:=nq) (X:=λz9=>cM) (Q:=λz9 σ=>σ=⟨[(x,az v')],T₀++[.aR (ys++[v'])],W'⟩) (x:=v') (.lo hg) rfl hy (by dsimp only;rw[qp]) A jD [.cj "list.append",.ref D,rv] (Fw.le pD) pR (.br .st (.br hDa (.br Nr .nil)))) ?_ λz9 z9 p=>p.no
  refine d9.all λz9 z9 oN mR pX tu z9 hz5=>?_
  cases hz5
  haveI aeQ:(ys++[v'])++i=i₀:=by rw[<-hys,ak.cV];rfl
  exact next ⟨[(x,none)],T₀++[.aR (ys++[v'])],W'⟩ mR (jT.trans (pD.trans pX)) tu.Rx ⟨_,aeQ,rfl,rfl⟩ ⟨k,hP⟩ λz=>z
 ·refine uE hQ λys hys hl hT=>?_;clear hQ
  obtain⟨loc,T,W⟩:=bx
  cases hl;cases hT
  rw[ak.eu]at hys
  cases hys
  exact fin _ _ hE l S
end
section
variable{c:Cx}{n:Nat}{env:Env}{sc C8:Scope}{X:St->Prop}{σ:St}
 {P1 P2 PJ Bv Cj:List V->Nat->List AO->Prop}{En:List AO->Prop}{e N:Nat}{xt xs:Str}{px pe pos:Pos}
abbrev Sat.w{L:aQ}{ω:Wd}(_:Sat c L σ ω):Wd:=ω
theorem C9{elt gc gZ:aB}{ifs:ak aB}{aU:ak Comprehension}{bD:gO}{A:dR}{acc:aI}{nq:Env}{R:rI->aZ->Prop}{s:aZ}{aG:aQ}{g:Nat}(hg:aP.IsGen aG g)
  (h:uz (dB bU j5) A (.compLoop (.lq elt (⟨gc,gZ,ifs,0⟩::aU) bD pos) 0 (.ref aG) acc nq) R s):uz (dB bU j5) A (.compStart (.lq elt (⟨gc,gZ,ifs,0⟩::aU) bD pos) 0 (.ref aG) acc nq) R s:=
 codeAny_compStart_list h (wpAny_pyIter_gen hg h)
theorem Vi.enter{L x y D:aQ}{ω:Wd}(N:Vi c L ω x)(hD:D≠x)(hy:y≠x){s:aZ}{m:Str->aH aI}{s':aZ}:Vi c y ⟨s,m,ω.a++[D],ω.b,ω.g,ω.k,eY L ⟨s',ω.m,ω.a++[D],ω.b,ω.g,ω.k,ω.kf⟩⟩ x:=by
 refine⟨λz hz=>?_,N.g,N.k,(aY λh=>N.h _ (.dw _) h.symm).trans N.f⟩
 rcases ak.bB hz with rfl|hz
 ·exact hy
 ·rcases ak.cJ hz with hz|hz
  ·rcases ak.cJ hz with hz|hz
   ·exact N.h _ (.cI _ (ak.bA _ hz))
   ·exact ak.bR hz▸hD
  ·exact N.h _ (.cI _ (ak.bg _ hz))
end
section
variable{c:Cx}{n:Nat}{env:Env}{X:St->Prop}{σ:St}{ω:Wd}
end
theorem Ab:plainId "dict.update.loop"=true:=by decide+dK
theorem Gk:entryFor table "dict.update.loop"=az dI.«dict.update.loop»:=entryFor_of_tree (by kernel_rfl)
theorem SH:wz (.dg "list") "keys"=gB none:=by rw[vd,pK];kernel_rfl
theorem SJ{lg:uw}{w:World}{A:dR}{E:aI->aZ->Prop}{s:aZ}{a:aQ}{xs:dX aI}{k:Nat}{Q:aH aI->aZ->Prop}
  (hx:aP.cF a=az {cls:=.dg "list",f9:=.seq xs k})(hA:A.jm=none)
  (h:∀h' tk,(∀b o,aP.cF b=az o->h'.cF b=az o)->Q none {s with d8:=h',nA:=tk}):
  cZ (dB lg w) A (getAttr? (.ref a) "keys") Q E s:=by
 revert hx hA h
 revert lg w A E s a xs k Q
 intros lg w A E s a xs k Q
 intro hx hA h
 obtain⟨hp,g,d,tk,os⟩:=s
 haveI hT:∀tk',(⟨hp,g,d,tk',os⟩:aZ).sY (.ref a) "list":=λz9=>⟨_,hx,rfl⟩
 haveI f1:=sub_AttributeError
 haveI f3:=xW.eF
 haveI f4:=xW.bind (.ref a)
 haveI f5:=am_list_getattr_none
 unfold getAttr? getAttrBy? getAttrBy
 repeat(any_goals (first|assumption|exact hT _|((with_reducible show cZ _ _ (call (aI.cj "list.__getattribute__") _ _) _ _ _);refine call_meets xW (hT _) am_entry_list_getattribute (F.args_list_getattribute_2 _ _) (meets_getattribute_miss_list a xs k #[] "keys" _ SH (by decide) (by decide)) ⟨hx,hA,λh' tk' e AG=>?_⟩)|wp_step))
 refine E1 AG.there λt' u' he=>?_
 show cZ _ _ (getattributeRaised _ _ _ _ _ _ _) _ _ _
 unfold getattributeRaised
 repeat(any_goals (first|assumption|wp_step))
 exact h _ _ AG.kh
section
variable{prog:Program}{w:World}{A:Around}{E:Value->Shared->Prop}{s:Shared}{d it l p:Addr}{x:Str}{tx:Tok}{v:Value}{np:Nat}
end
section
variable{c:Cx}{n:Nat}{env:Env}{X:St->Prop}{σ:St}{pos:Pos}{ω:Wd}{sc:Scope}{Q:V->St->Prop}
theorem Iz{P:dN}{g:c7}{a b:ak aQ}{x:Str}{v:V}{rv:aI}{l l':ak (Str×V)}{kvs:ak (Str×aI)}(hp:Jx x v l l')(r:jC P g a b l kvs)(nd:(fM (·.1)).iT)(h:Rel P g a b v rv):jC P g a b l' (stored kvs x rv):=by
 have n9:kvs.any (λkv=>decide (kv.1=x))=true:=by
  have:=hp.mem
  rw[<-r.nB]at this
  refine gg (ak.jt this) λq hq e=>?_
  exact ak.any_eq_true.mpr ⟨q,hq,cN e⟩
 unfold stored
 rw[bJ n9]
 clear n9
 have miss:∀{l:ak (Str×V)}{kvs:ak (Str×aI)},jC P g a b l kvs->x∉fM (·.1)->jC P g a b l (kvs.map λkv=>if kv.1=x then(kv.1,rv)else kv):=λ{l kvs}r=>by
  induction r using jC.ind with
  |nil=>exact λz9=>.nil
  |@br k u ru l rl hv hr ih=>
   intro hm
   refine .br ?_ (ih λq=>hm (.cI _ q))
   have hk:k≠x:=λe=>hm (e▸.dw _)
   show _=(if k=x then(k,rv)else(k,ru)).1/\Rel P g a b u (if k=x then(k,rv)else(k,ru)).2
   rw[aY hk];exact⟨rfl,hv⟩
 induction hp generalizing kvs with
 |@dw w' aU=>
  refine oH ((r:∃y t,kvs=y::t/\(x=y.1/\Rel P g a b w' y.2)/\jC P g a b aU t)) λy t ig hy ht=>?_;obtain rfl:=ig
  refine .br ?_ (miss ht (ak.cT.mp nd).1)
  show x=(if y.1=x then(y.1,rv)else y).1/\Rel P g a b v (if y.1=x then(y.1,rv)else y).2
  rw[bJ hy.1.symm];exact⟨hy.1,h⟩
 |@cI p aU agH m ih=>
  refine oH ((r:∃y t,kvs=y::t/\(p.1=y.1/\Rel P g a b p.2 y.2)/\jC P g a b aU t)) λy t ig hy ht=>?_;obtain rfl:=ig
  have hn:=ak.cT.mp nd
  refine .br ?_ (ih ht hn.2)
  have hk:y.1≠x:=λe=>hn.1 (show p.1∈aU.map (·.1) by rw[show p.1=x from hy.1.trans e];exact m.mem)
  show p.1=(if y.1=x then(y.1,rv)else y).1/\Rel P g a b p.2 (if y.1=x then(y.1,rv)else y).2
  rw[aY hk];exact hy
theorem SK{Q:qY->St->Prop}{j:Nat}{l l':ak (Str×V)}{x:Str}{v:V}(hW:gJ[j]?=az (.bO l))(hp:Jx x v l l')(hz:decide (l.aq<=1000)=true)(hv:v.j7=true)(h:Q () {σ with W:=gJ.set j (.bO l')}):SI c n env (.ob j) (.str x) v Q X σ:=wo3 λA ω rv ri rx hR hS r1 r2 r3=>by
 refine gg r1.inv λd bG hd=>?_;obtain rfl:=bG
 refine eO r2.inv λt bG=>?_;obtain rfl:=bG
 refine gC λG hG=>?_
 refine E3 (hS.M3 hW) λd' es k Ep ho rd nd=>?_
 cases aH.az.inj (hd.symm.trans Ep)
 refine gg (rY (c:=c) rfl ho rd nd) λkvs D rk=>?_
 refine hG ?_
 haveI hl:kvs.aq=l.aq:=by have:=bM ak.aq rk.nB;rwa [ak.bT,ak.bT]at this
 refine wpAny_setItem_pairs (knd:=jq bU j5) (k:=x) (cU x) D (λh' D' hs=>?_) (by rw[hl];exact Y0 (aA (bX hz) (aD rfl)))
 refine Ht (uL (c:=c) rfl D' (Iz hp rk nd (r3.j7 hv))) λOg k' Bp HD=>?_
 refine iU (hS.Rd (o':=.bO l') hd (hS.ns.qu hs (hS.neL (ak.bg _ (ak.cg hd)))) (λy o hy z9 e=>hs.ug y o hy e) Bp (.bO HD (by rw[hp.nB];exact nd)) (ω.eV+1)) λS' Fe=>?_
 exact⟨(),_,_,Fe,rfl,S',trivial,h⟩
set_option tactic.hygienic true in
theorem Sat.abA{L D:aQ}{oD:Obj}(S:Sat c L σ ω)(hD:ω.aP.cF D=az oD)(h0:ω.g D=none)(h1:D∉L::(ω.a++ω.b))(h2:ω.k D=none)(h3:ω.kf D=none):Sat c L σ {ω with g:=g8 ω.g D oD}/\Le ω {ω with g:=g8 ω.g D oD}:=by
 revert S hD h0 h1 h2 h3
 revert c σ ω L D oD
 intros c σ ω L D oD
 intro S hD h0 h1 h2 h3
 haveI hs:∀{a b:ak aQ},Sub ω.g (g8 ω.g D oD) a a b b:=uF h0
 refine⟨⟨qX,λx o' e=>?_,λx o' e=>hs.hg (a:=ω.a) (b:=ω.b) _ _ (iG x o' e),S.high,λx v m=>?_,S.nd,?_,?_,gD,λx hx=>?_,S.kk,kN,S.nf,S.qC,λx m e=>⟨(S.oJ x m e).1,?_⟩,λx o' e=>?_⟩,⟨hs,rfl,rfl,rfl,rfl,rfl⟩⟩
 ·haveI e':(if x=D then az oD else ω.g x)=az o':=e
  split at e'
  ·rename_i h;subst h;cases e';exact hD
  ·exact S.gr x o' e'
 ·refine gg (sS x v m) λrv e r=>?_
  exact⟨rv,e,r.eW hs⟩
 ·exact S.tT.kh hs λx hx=>rfl
 ·exact S.tW.kh hs λx hx=>rfl
 ·show g8 _ _ _ x=none
  unfold g8
  rw[aY (λe:x=D=>h1 (e▸hx))]
  exact jk x hx
 ·show g8 _ _ _ x=none
  unfold g8
  rw[aY (λq:x=D=>Lake.nn h3 (q▸e))]
  exact(S.oJ x m e).2
 ·show g8 _ _ _ x=none
  unfold g8
  rw[aY (λq:x=D=>Lake.nn h2 (q▸e))]
  exact S.dk x o' e
theorem Gm{v:V}{l:ak (Str×V)}(k:AE σ v l)(hz:l.aq<=10000)(h:Q (.int l.aq) σ):CV c n env (.st (.cj "len")) [v] Q X σ:=λA ω kO hR hS hr=>by
 refine oH hr.two λr0 r1 ig q0 q1=>?_;obtain rfl:=ig
 obtain rfl:=q0.inv
 refine x25 (k.of hS q1) λx kvs ig hx D rk nd=>?_;obtain rfl:=ig
 have hl:kvs.aq=l.aq:=by have:=bM ak.aq rk.nB;rwa [ak.bT,ak.bT]at this
 refine call_len_dict hx D (by rw[hl];exact DO hz) ?_
 rw[hl]
 exact kP hS .int h
theorem L0{a:aB}{np:Pos}(he:fU env sc)(hk:(sc.bW (aj "range")==az i7)=true)(hg:nsIn gM iB "range"=az none)(hs:mD [a]=true){Q:ak V->St->Prop}
  (h:WE c n env a (λv bx=>∃j:Int,∃N:Nat,v=.int j/\dI.ni 0 j 1=true/\dI.jL 0 j 1=N/\Q ((ak.tO N).map λk=>.int (0+(k:Nat) * 1)) bx) X σ):WI c n env (.Call (.mQ "range" np) [a] [] pos) Q X σ:=by
 revert he hk hg hs h
 revert c n env X σ pos sc a np Q
 intros c n env X σ pos sc a np Q
 intro he hk hg hs h
 intros A ω
 intro hR hS
 rw[As rfl]
 refine aK (aW ((yS (Q:=λv fL=>v=.st (.dg "range")/\fL=σ) (X:=X) he hk (by decide) hg (by decide+dK) (by decide) ⟨rfl,rfl⟩) A ω hR hS) ?_ λz9 z9 x=>x)
 refine d9.all λrf v bx ω₁ l₁ cW r N3=>?_
 refine iU N3 λfY bG=>?_;clear N3;obtain rfl:=fY;obtain rfl:=bG
 obtain rfl:=fQ
 refine callWith_of (P:=λh=>∃k,(k=Keeper.rO\/k=wk\/k=sV)/\Looks (dB bU j5) h (keeperOf (.dg "range")) k) (by rw[uK hs];rfl) (λz9 h=>h) ?_
 refine ql hs ?_
 haveI hw:WL c n env pos [a] (λvs bL=>∃j:Int,∃N:Nat,vs=[.int j]/\dI.ni 0 j 1=true/\dI.jL 0 j 1=N/\Q ((ak.tO N).map λk=>.int (0+(k:Nat) * 1)) bL) X bx:=by
  refine wQ ((aM.bN _ _).mp hs).1 λA ω hR hS=>aW (h A ω hR hS) ?_ λz9 z9 x=>x
  intro rv s K3
  refine gC λG hG=>?_
  obtain⟨w,fL,fj,l,e,S,r,j,N,rfl,h1,h2,h3⟩:=K3
  refine hG ?_
  exact⟨_,fL,fj,l,e,S,r,uJ ⟨j,N,rfl,h1,h2,h3⟩⟩
 refine n8 l₁ (hw A ω₁ (hR.le l₁) cW) ?_
 refine d9.all λkO vs bL dj l₂ fV rs N4=>?_
 refine gC λG hG=>?_
 refine x24 N4 λj N ig h1 h2 h3=>?_;clear N4;obtain rfl:=ig
 refine gg rs.one λr1 bG q1=>?_;obtain rfl:=bG
 refine eO q1.inv λfY bG=>?_;obtain rfl:=bG
 refine hG ?_
 refine⟨⟨.machine,.inr (.inl rfl),Looks.now⟩,?_⟩
 refine call_range_1 ?_
 obtain⟨lB,jT⟩:=fV.jg ({cls:=.dg "range",f9:=.pJ #[.int 0 dj.eV,.int j _,.int 1 (dj.eV+1)]}) rfl (dj.eV+1+1)
 exact⟨_,bL,_,(l₁.trans l₂).trans jT,rfl,lB,A1 rfl (c8.fB _ rfl) h1 h2,h3⟩
theorem SM{o e1 e2:aB}{x k1 k2:Str}{apos p1 p2:Pos}{v v1 v2:V}{f:aQ}(hn:qK o=true)(hp:(apos.endLine==pos.line)=true)(ho:PE c n env o v X σ)(hg:∀Q:V->ak V->St->Prop,Q (.st (.ref f)) [v] σ->GM c n env x v Q X σ)(hkp:xR gM (.ref f)=true)
  (h1:PE c n env e1 v1 X σ)(h2:PE c n env e2 v2 X σ)(nv:V.gW [v]=true)(n1:v1.j7=true)(n2:v2.j7=true)
  (h:gj c n (.ref f) [v] [(k1,v1),(k2,v2)] (λr W'=>Q r {σ with W:=W'}) (λW'=>X {σ with W:=W'}) gJ):WE c n env (.Call (.mW o x apos) [] [⟨az k1,e1,p1⟩,⟨az k2,e2,p2⟩] pos) Q X σ:=by
 revert hn hp ho hg hkp h1 h2 nv n1 n2 h
 revert c n env X σ pos Q o e1 e2 x k1 k2 apos p1 p2 v v1 v2 f
 intros c n env X σ pos Q o e1 e2 x k1 k2 apos p1 p2 v v1 v2 f
 intro hn hp ho hg hkp h1 h2 nv n1 n2 h
 intros A ω
 intro hR hS
 rw[arm_eval_Call,pQ hn]
 refine aK (aW (ho (λu bx=>u=v/\bx=σ) ⟨rfl,rfl⟩ A ω hR hS) ?_ λz9 z9 x=>x)
 refine d9.all λro v' bx ω₁ l₁ cW r hz=>?_
 refine iU hz λfY bG=>?_;clear hz;obtain rfl:=fY;obtain rfl:=bG
 unfold methodCall
 rw[show methodCallForm (([]:ak aB).aq+[(⟨az k1,e1,p1⟩:Keyword),⟨az k2,e2,p2⟩].aq) (backTo pos (qW [] env)) (backToKw pos (keywordEach [⟨az k1,e1,p1⟩,⟨az k2,e2,p2⟩] env))=true from rfl]
 refine aK (iw (aK (cY (n8 l₁ (hg (λg first bL=>g=.st (.ref f)/\first=[v']/\bL=bx) ⟨rfl,rfl,rfl⟩ _ A ω₁ [ro] (hR.le l₁) cW (.br r .nil)) ?_))))
 refine d9.all λaz2 bz3 bL dj l₂ fV ZU hz=>?_
 obtain⟨rf,Av⟩:=az2
 obtain⟨g,first⟩:=bz3
 refine zN hz λfY bG ig=>?_;clear hz;obtain rfl:=fY;obtain rfl:=bG;obtain rfl:=ig
 refine iU ZU λr2 rs2=>?_;clear ZU
 obtain rfl:=r2.inv
 refine gg rs2.one λrs bG rs1=>?_;obtain rfl:=bG
 haveI Nb:methodCallPos true o env apos pos=gB pos:=by
  unfold methodCallPos
  rw[hp];rfl
 rw[Nb]
 refine aK (bw ?_)
 haveI oM:=l₁.trans l₂
 refine callWith_of (P:=λh=>∃k,(k=Keeper.rO\/k=wk\/k=sV)/\Looks (dB bU j5) h (keeperOf (.ref f)) k) rfl (λz9 h=>h) (evalArgs_kw_nil rfl (kws_cons ?_))
 refine n8 oM (h1 (λu bx=>u=v1/\bx=bL) ⟨rfl,rfl⟩ A dj (hR.le oM) fV) ?_
 refine d9.all λr1 u1 eB gw jT lB q1 hz=>?_
 refine iU hz λfY bG=>?_;clear hz;obtain rfl:=fY;obtain rfl:=bG
 refine kws_cons ?_
 haveI zy:=oM.trans jT
 refine n8 zy (h2 (λu bx=>u=v2/\bx=eB) ⟨rfl,rfl⟩ A gw (hR.le zy) lB) ?_
 refine d9.all λr3 u2 eH jD pD pR q2 hz=>?_
 refine iU hz λfY bG=>?_;clear hz;obtain rfl:=fY;obtain rfl:=bG
 refine kws_nil ⟨keeps_K hkp _ pR.X,?_⟩
 haveI Be:=zy.trans pD
 refine n8 Be (rH (codeAny_mono (h A jD.s jD.b jD.g (lA aN jD) (eY aN jD) [rs] [(k1,r1),(k2,r3)] (hR.le Be).room ((hR.le Be).outs rfl) pR.ZG (fK.j7 (.br (rs1.eW (jT.trans pD).sub) .nil) nv) (.br ⟨rfl,(q1.eW pD.sub).j7 n1⟩ (.br ⟨rfl,q2.j7 n2⟩ .nil))) λrv s' z=>yV pR z)) λz9 z9 p=>yQ Be
end
section
variable{c:Cx}{n:Nat}{env:Env}{X:St->Prop}{σ:St}{pos:Pos}{ω:Wd}{sc:Scope}
end
section
variable{c:Cx}{n:Nat}{env:Env}{sc C8:Scope}{X:St->Prop}{σ:St}
 {P1 P2 PJ Bv Cj:List V->Nat->List AO->Prop}{En:List AO->Prop}{e N:Nat}{xt xs:Str}{px pe pos:Pos}
theorem Sat.swap{C L:aQ}{m₀:Str->aH aI}{kf₀:aQ->aH (Str->aH aI)}{loc₀:ak (Str×aH V)}(S:Sat c C σ ω)(wO:ω.kf=λx=>if x=L then az m₀ else kf₀ x)(QL:kf₀ L=none)(ha:gV.nO.dM<=L)
  (yr:∀x v,(x,az v)∈loc₀->∃rv,m₀ x=az rv/\Rel aL ω.g ω.a ω.b v rv)(hnd:(loc₀.map (·.1)).iT):
  Sat c L ⟨loc₀,jx,gJ⟩ {ω with m:=m₀,kf:=λx=>if x=C then az ω.m else kf₀ x}:=by
 revert S wO QL ha yr hnd
 revert c σ ω C L m₀ kf₀ loc₀
 intros c σ ω C L m₀ kf₀ loc₀
 intro S wO QL ha yr hnd
 have kL:ω.kf L=az m₀:=by rw[wO];exact bJ rfl
 have NG:∀x,x≠L->kf₀ x=ω.kf x:=λx hx=>by rw[wO];exact(aY hx).symm
 have V6:∀x∈C::(ω.a++ω.b),x≠L:=λx hx=>by rintro rfl;exact Lake.nn (S.qC x hx) kL
 have ur:∀x∈L::(ω.a++ω.b),x≠C:=λx hx=>by
  rcases ak.bB hx with rfl|hx
  ·exact(V6 C (.dw _)).symm
  ·rintro rfl;exact(ak.cT.mp gD).1 hx
 refine⟨S.nf L m₀ kL,S.gr,iG,⟨ha,S.high.2⟩,yr,hnd,S.tT,S.tW,?_,?_,S.kk,?_,?_,?_,?_,S.dk⟩
 ·exact ak.cT.mpr ⟨λh=>V6 L (.cI _ h) rfl,(ak.cT.mp gD).2⟩
 ·intro y hy
  rcases ak.bB hy with rfl|hy
  ·exact(S.oJ _ _ kL).2
  ·exact jk y (.cI _ hy)
 ·intro y hy
  rcases ak.bB hy with rfl|hy
  ·exact(S.oJ _ _ kL).1
  ·exact kN y (.cI _ hy)
 ·intro y m' e
  have e':(if y=C then az ω.m else kf₀ y)=az m':=e
  by_cases hy:y=C
  ·rw[bJ hy]at e'
   cases e'
   exact hy▸qX
  ·rw[aY hy]at e'
   exact S.nf y m' ((NG y (by rintro rfl;exact Lake.nn QL e')).symm.trans e')
 ·intro y hy
  refine(aY (ur y hy)).trans ?_
  rcases ak.bB hy with rfl|hy
  ·exact QL
  ·exact(NG y (V6 y (.cI _ hy))).trans (S.qC y (.cI _ hy))
 ·intro y m' e
  have e':(if y=C then az ω.m else kf₀ y)=az m':=e
  by_cases hy:y=C
  ·obtain rfl:=hy
   exact⟨kN _ (.dw _),jk _ (.dw _)⟩
  ·rw[aY hy]at e'
   exact S.oJ y m' ((NG y (by rintro rfl;exact Lake.nn QL e')).symm.trans e')
theorem Sat.abC{C L:aQ}{mC:Str->aH aI}{kf₀:aQ->aH (Str->aH aI)}(S:Sat c L σ ω)(wO:ω.kf=λx=>if x=C then az mC else kf₀ x)(hC0:kf₀ C=none){h':c8}(hs:c8.nJ C ω.aP h'):
  Sat c L σ {ω with s:={ω.s with d8:=h'},kf:=kf₀}:=by
 revert S wO hC0 hs
 revert c σ ω C L mC kf₀ h'
 intros c σ ω C L mC kf₀ h'
 intro S wO hC0 hs
 have kC:ω.kf C=az mC:=by rw[wO];exact bJ rfl
 have NG:∀x,x≠C->kf₀ x=ω.kf x:=λx hx=>by rw[wO];exact(aY hx).symm
 have ur:∀x∈L::(ω.a++ω.b),x≠C:=λx hx=>by rintro rfl;exact Lake.nn (S.qC x hx) kC
 have up:∀y o,y≠C->ω.aP.cF y=az o->h'.cF y=az o:=λy o hy e=>hs.ug y o hy e
 have dC:=S.oJ _ _ kC
 have Fv:∀x m,kf₀ x=az m->x≠C:=λx m e=>by rintro rfl;exact Lake.nn hC0 e
 refine⟨qX.qu hs (ur L (.dw _)),λy o e=>up y o (by rintro rfl;exact Lake.nn dC.2 e) (S.gr y o e),iG,S.high,sS,S.nd,S.tT.mK λy hy o e=>up y o (ur y (.cI _ (ak.bA _ hy))) e,S.tW.mK λy hy o e=>up y o (ur y (.cI _ (ak.bg _ hy))) e,gD,jk,λy o e=>up y o (by rintro rfl;exact Lake.nn dC.1 e) (S.kk y o e),kN,?_,λy hy=>(NG y (ur y hy)).trans (S.qC y hy),λy m' e=>S.oJ y m' ((NG y (Fv y m' e)).symm.trans e),S.dk⟩
 intro y m' e
 exact(S.nf y m' ((NG y (Fv y m' e)).symm.trans e)).qu hs (Fv y m' e)
theorem Xv{y:Str}{py SN:Pos}{aU:ak iW}{Qf:Fl->St->Prop}{Ci f:aQ}{ii:Nat}{fd:kR}{gZ:aB}{bD:gO}{s1:iW}{t1 t2 t3 e1 e2:aB}{q1 q2 q3 y1 y2 z1 z2:Pos}(he:fU env sc)(Dq:(sc.bW y==az .local)=true)(hsw:(py.line==pos.line&&!(bD.kY.any λ(n,k)=>n==y&&(k==.local||k==.lI)))=true)(qp:qm gZ=true)(An:rX bD xt=true)(hd:(xt==("__debug__":Str))=false)
  (D:GD c f fd C8 [s1,.oY t1 [.oY t2 [.tG (.n7 (az e1) y1) z1] [] q2,.oY t3 [.tG (.n7 (az e2) y2) z2] [] q3] [] q1] xs)
  (hX:∀h xi d,gM.In h->h.cF xi=az ⟨.ref Ci,az d,.plain,#[]⟩->h.OwnSpecial xi Ci f "object" (aj "__iter__"))
  (hit:WE c (n+1) env gZ (λv bx=>v=.cR Ci ii/\∃i,i.aq=N/\N<=10000/\(∃k,PJ i k bx.W)/\(∃l,bx.W[e]?=az (.aR l))/\∀W',En W'->∃l',tU y (.lo bx.T.aq) bx.loc l'/\WS c (n+1) env aU Qf X ⟨l',bx.T++[.aR i],W'⟩) X σ)
  (B:∀nF,fU nF C8->qL nF->GW c n nF xs (.cR Ci ii) P1 P2 Bv Cj En e t1 t2 t3 e1 e2)
  (hJ:∀i k W,i.aq<N->(PJ i k W↔P2 i k W))
  (h1:∀nF,fU nF C8->qL nF->∀i W,i.aq=N->(∃k,PJ i k W)->WS c n nF [s1] (λfl σ=>fl=.next/\∃W',σ=⟨[(xs,az (.cR Ci ii))],[],W'⟩/\∃k,P1 i k W') (λz9=>cM) ⟨[(xs,az (.cR Ci ii))],[],W⟩):
  WS c (n+1) env (.wA [.mQ y py] (.lq (.mQ xt pe) [⟨.mQ xt px,gZ,[],0⟩] bD pos) SN::aU) Qf X σ:=by
 revert he Dq hsw qp An hd D hX hit B hJ h1
 revert c n env sc C8 X σ P1 P2 PJ Bv Cj En e N xt xs px pe pos y py SN aU Qf Ci f ii fd gZ bD s1 t1 t2 t3 e1 e2 q1 q2 q3 y1 y2 z1 z2
 intros c n env sc C8 X σ P1 P2 PJ Bv Cj En e N
 intros xt xs px pe pos y py SN aU Qf Ci f ii fd gZ
 intros bD s1 t1 t2 t3 e1 e2 q1 q2 q3 y1 y2 z1 z2
 intro he Dq hsw qp An hd D hX hit B hJ h1
 intros A ω
 intro hR hS
 refine YZ (rX.free An) λBP uI zC hx qN=>?_
 haveI aeT:swapsWith (.lq (.mQ xt pe) [⟨.mQ xt px,gZ,[],0⟩] bD pos) (az (.mQ y py)) SN.line env=gB true:=by
  show(gB (env.blockKind==.ng&&env.kindOf y==az .local&&py.line==pos.line&&!(bD.kY.any λ(n,k)=>n==y&&(k==.local||k==.lI))):Sem aM)=gB true
  rw[show env.blockKind=.ng by unfold Env.blockKind;rw[he.ym];rfl,xr Dq,aM.and_assoc,hsw]at⊢
  rfl
 refine mO hR ?_
 rw[exec_Assign_Name_used _ _ _ _ aeT]at⊢
 refine aK (iw (aK ?_))
 show cZ _ A (do let _ <-comprehension (.lq (.mQ xt pe) [⟨.mQ xt px,gZ,[],0⟩] bD pos) bD env _ (newList []) false (eval gZ env) (az (assign (.mQ y py) env))) _ _ _
 refine aK (aW (wpAny_comprehension_use (Q:=λz9 s'=>∃fL fj,Le ω fj/\fj.s=s'/\Sat c aN fL fj/\WS c (n+1) env aU Qf X fL) rfl (sG qp) BP qN zC (aW (hit A ω hR hS) ?_ λz9 z9 x=>x)) (λz9 s' hq=>bw (bw hq)) λz9 z9 e=>e)
 refine d9.all λrv v bx ω₁ l₁ cW r hz=>?_
 refine iU hz λfY iZ=>?_;clear hz;obtain rfl:=fY;refine Hz iZ λi UP hN Xq Fi fin=>?_;clear iZ;refine eO Xq λk hP=>?_;clear Xq;refine eO Fi λel hel=>?_;clear Fi
 refine oH fQ λxi d ig hbd hgx=>?_;obtain rfl:=ig
 haveI KX:gM.In ω₁.aP:=cW.X
 haveI qD:m9 c (n+1) env A ω₁.kf:=hR.le l₁
 refine gg D.look λo hl Xw=>?_
 haveI M8:ω₁.aP.NoLimit:=c.nl.kh λy o q=>cW.gr y o (cW.yJ y o q)
 refine Iv (h:=ω₁.aP) (g:=ω₁.s.iD) (d:=ω₁.s.jE) (t:=ω₁.eV) (os:=ω₁.s.os) (hX _ xi d KX (cW.gr _ _ hgx)) (rH (codeAny_call_generator (qD.room.dl (k:=0) (bC _)) (KX _ _ hl) Xw (by rw[D.bD]at⊢;exact D.co) (by rw[D.bD]at⊢;exact D.gen) D.dO (codeRec_of KX D.code) (D.bind _ _ _ _ _ _ ?_)))
 refine wpAny_newFunctionEnv (by rw[D.bD]at⊢;exact D.lI) (λy hy=>by rw[ak.bR hy,D.bD]at⊢;exact D.self) (λqJ hns hsb=>⟨M8.fresh _ hsb,⟨_,c8.fB _ rfl,rfl⟩,?_⟩) (by rw[D.bD]at⊢;exact D.su)
 generalize BD:newEnv fd.bD ω₁.s.aC fd.lE fd.closure (lZ++".<locals>.") (az f) fd.code none fd.j9=nF
 haveI yr:nF.locals=ω₁.s.aC:=by rw[<-BD]at⊢;rfl
 haveI Xu:fU nF C8:=⟨by rw[<-BD]at⊢;exact D.bD,D.su,by rw[<-BD]at⊢;exact D.lE,by rw[<-BD]at⊢;exact D.j9⟩
 haveI OT:qL nF:=by rw[<-BD]at⊢;exact⟨rfl,rfl⟩
 haveI hk:∀b o,ω₁.aP.cF b=az o->qJ.cF b=az o:=λb o e=>hsb.ug b o (gY (c8.iu e)) (bQ _ e)
 haveI hCs:ω₁.s.aC<qJ.nO.dM:=hns.lt
 refine pO (hd:=by size_fits) (wpAny_newFunctionEnv uI (by intro y hy;simp at hy) (λi6 Xx O1=>?_) qN)
 haveI Sb:=(cW.ext (h':=qJ.jg (rZ ω₁.s.iD.dM (.str fd.name (ω₁.eV+1)) (.str lZ (ω₁.eV+1+1)))) (λb o q=>bQ _ (hk b o q)) 0).1.UH (.aR []) {cls:=.dg "list",bO:=none,f9:=.seq ([]:ak aI).aJ} (.aR .nil) rfl 0
 haveI Sc:=Sb.1.enter (x:=xt) Xx O1 0
 haveI yW:gV.nO.dM<=ω₁.s.aC:=aA cW.above (fP cW.ns.lt)
 haveI up:∀b o,(qJ.jg (rZ ω₁.s.iD.dM (.str fd.name (ω₁.eV+1)) (.str lZ (ω₁.eV+1+1)))).cF b=az o->i6.cF b=az o:=λb o q=>O1.ug b o (gY (Nat.wC (c8.iu q) (jQ (dY _) (c8.qy ..).symm))) (bQ _ (bQ _ q))
 haveI gG:=up _ _ (c8.fB _ rfl)
 haveI nC:=cW.new (bz ω₁.s.aC)
 haveI nG:=cW.new (fP hCs)
 haveI kL:ω₁.kf aN=none:=cW.qC _ (.dw _)
 haveI z1:(qJ.jg (rZ ω₁.s.iD.dM (.str fd.name (ω₁.eV+1)) (.str lZ (ω₁.eV+1+1)))).nO.dM=qJ.nO.dM+1:=c8.qy ..
 haveI z2:((qJ.jg (rZ ω₁.s.iD.dM (.str fd.name (ω₁.eV+1)) (.str lZ (ω₁.eV+1+1)))).jg {cls:=.dg "list",bO:=none,f9:=.seq ([]:ak aI).aJ}).nO.dM=qJ.nO.dM+1+1:=(c8.qy ..).trans (bM (·+1) z1)
 haveI hDC:=jK (jQ (gn hCs) z1.symm)
 haveI hCc:=jK (jQ (gn (gn hCs)) z2.symm)
 haveI hDG:=jK (jQ (dY _) z1.symm)
 haveI hCG:=jK (jQ (gn (dY _)) z2.symm)
 haveI hDa:(ω₁.a++[(qJ.jg (rZ ω₁.s.iD.dM (.str fd.name (ω₁.eV+1)) (.str lZ (ω₁.eV+1+1)))).nO.dM])[bx.T.aq]?=az (qJ.jg (rZ ω₁.s.iD.dM (.str fd.name (ω₁.eV+1)) (.str lZ (ω₁.eV+1+1)))).nO.dM:=by
  rw[<-cW.tT.1]at⊢;exact ak.getElem?_concat_length
 haveI nCf:=(cW.new (fP (jQ (gn (gn hCs)) z2.symm))).f
 refine C9 (g:=ω₁.s.iD.dM) ⟨_,_,_,gG,rfl,rfl,rfl⟩ (aby (n:=n+1) (ω₁:=Sc.w) (C:=ω₁.s.aC) (T₀:=bx.T) (i₀:=i) ?he hx hd ?hR ?hL ?h1 ?h2 (UP▸hN) ?hD ?fin N (aeP D B hJ h1 ?hR' Sc (xi:=xi) ?hrel UP ?hQ (k:=k) ?hP (el:=el) ?hel Xu OT yr ?nC ?nG (gY hCs) yW ?hou (λz9 z9 q=>q) ?hns gG rfl rfl rfl))
 case he=>exact⟨rfl,qN,he.lE,he.j9⟩
 case hR=>exact qD.comp
 case hR'=>exact qD.comp
 case h1=>exact nG.k
 case hrel=>exact r.j7 rfl
 case hQ=>exact⟨[],rfl,rfl,rfl⟩
 case hP=>exact hP
 case hel=>exact hel
 case hns=>exact(hns.jg _).kh up
 case hL=>exact hCc
 case h2=>exact(aY λh=>nC.h _ (.dw _) h.symm).trans nC.f
 case hD=>exact hDa
 case nC=>exact nC.enter hDC hCc
 case nG=>exact nG.enter hDG hCG
 case hou=>
  refine gg qD.fm λfD xN hou=>?_
  rw[xN]at⊢
  intro e' q z
  refine iU (hou e' q) λa1 iZ=>?_;refine uE iZ λL' a2 a3 a4=>?_;clear iZ
  rw[a2]at z
  cases z
  rcases a4 with a4|⟨m,a4⟩
  ·exact nC.h _ (.dw _) a4.symm
  ·rw[nC.f]at a4;cases a4
 case fin=>
  intro W' fj hE l S
  haveI sub:Sub ω₁.g fj.g ω₁.a fj.a ω₁.b fj.b:=ZV.trans l.sub
  haveI tu:=S.swap (L:=aN) (m₀:=ω₁.m) (kf₀:=ω₁.kf) (loc₀:=bx.loc) l.kf kL cW.above (λy v m=>(cW.loc y v m).imp λrv q=>⟨q.1,q.2.eW sub⟩) cW.nd
  refine gg (fin W' hE) λl' p hW=>?_
  refine assign_Name (zA he Dq tu (.lo (l.sub.ha _ _ hDa)) p λω6 l6 S6=>?_)
  haveI ek:ω6.kf=_:=l6.kf
  refine⟨fj.m,S6.nf _ _ (by rw[ek]at⊢;exact bJ rfl),λh' Fo=>?_⟩
  haveI S7:=S6.abC ek nCf Fo
  haveI L5:Le ω₁ {fj with m:=ω₁.m,kf:=ω₁.kf}:=⟨sub,l.iD,l.jE,l.os,l.k,rfl⟩
  haveI L6:Le {fj with m:=ω₁.m,kf:=ω₁.kf} {ω6 with s:={ω6.s with d8:=h'},kf:=ω₁.kf}:=⟨l6.sub,l6.iD,l6.jE,l6.os,l6.k,rfl⟩
  exact⟨_,_,l₁.trans (L5.trans L6),rfl,S7,hW⟩
end
section
variable{prog:Program}{w:World}{A:Around}{E:Value->Shared->Prop}{s:Shared}{l:Addr}{a b:Value}
theorem SO{Q:ak aI->aZ->Prop}(hh:A.jm=none)(hl:aP.IsList l #[a,b])(hQ:∀h',(∀y o,aP.cF y=az o->h'.cF y=az o)->Q [a,b] {s with d8:=h'}):cZ (dB lg w) A (unpackItems (.ref l) 2 none) Q E s:=by
 revert hh hl hQ
 revert lg w A E s l a b Q
 intros lg w A E s l a b Q
 intro hh hl hQ
 have lM:l≠s.aC:=by(refine gg hl λo ho ig=>?_;clear hl);exact gY (c8.iu ho)
 have up:∀{h':c8},c8.ExtBut s.aC (aP.jg {cls:=.dg "list_iterator",f9:=.pJ #[.ref l,.int 0 0]}) h'->∀y o,aP.cF y=az o->h'.cF y=az o:=λhs y o e=>hs y o (gY (c8.iu e)) (bQ _ e)
 unfold unpackItems
 refine aK ?_
 unfold notIterableAtAll
 refine aK (rm hl.vg slot_list_iter.eF ?_)
 refine bw ?_
 rw[aY aM.bK]
 refine aK (cY (wpAny_pyIter_list hl ?_))
 have gr:∀{h':c8},c8.ExtBut s.aC (aP.jg {cls:=.dg "list_iterator",f9:=.pJ #[.ref l,.int 0 0]}) h'->h'.IsList l #[a,b]:=λhs=>by
  refine gg hl λo ho r=>?_;clear hl
  exact⟨o,up hs _ _ ho,r⟩
 dsimp only
 refine aK (cY ?_)
 show cZ _ _ (pyNext (.ref s.aC)>>=_) _ _ _
 refine aK (wpAny_pyNext_list_item (x:=a) ⟨_,c8.fB _ rfl,rfl,rfl⟩ (gr λz9 z9 z9 e=>e) rfl λh1 i1 s1=>?_)
 refine aK (cY ?_)
 show cZ _ _ (pyNext (.ref s.aC)>>=_) _ _ _
 refine aK (wpAny_pyNext_list_item (x:=b) i1 (gr s1.ug) rfl λh2 i2 s2=>?_)
 have e2:c8.ExtBut s.aC (aP.jg {cls:=.dg "list_iterator",f9:=.pJ #[.ref l,.int 0 0]}) h2:=(s1.trans s2).ug
 refine aK (cY (bw (bw (bw ?_))))
 rw[aY (show ¬[a,b].aq<2 from cQ 2)]
 refine aK (cY (wpAny_pyNext_list_end hh i2 (gr e2) rfl λh3 s3=>?_))
 exact bw (hQ h3 (up λy o n e=>s3 y o n (e2 y o n e)))
end
section
variable{c:Cx}{n:Nat}{env:Env}{X:St->Prop}{σ:St}{pos:Pos}{ω:Wd}{sc:Scope}{rest:List Stmt}
theorem Ck{Q:qY->St->Prop}{lD:ak aB}{k:Nat}{tp:Pos}{v a b:V}(hs:lD.all oO=true)(hl:lD.aq=2)(hv:qq σ v [a,b])(h:Nt c n env lD [a,b] Q X σ):AT c n env (.sW lD k tp) v Q X σ:=by
 revert hs hl hv h
 revert c n env X σ Q lD k tp v a b
 intros c n env X σ Q lD k tp v a b
 intro hs hl hv h
 intros A ω kO
 intro hR hS hr
 refine gg hr.one λrv bG r=>?_;obtain rfl:=bG
 refine gC λG hG=>?_
 refine xJ (hv.at hS r) λx xs nn jd e rs=>?_;obtain rfl:=jd
 refine oH rs.two λr1 r2 ig q1 q2=>?_;obtain rfl:=ig
 refine iU (tC (env:=env) hs) λp1 p2=>?_
 refine hG ?_
 show cZ _ _ (assign (.sW lD _ tp) env (.ref x)) _ _ _
 rw[arm_assign_Tuple]
 unfold unpack
 rw[p2,hl,p1]
 refine aK (iw (aK (cY (SO hR.room.jm ⟨_,e,rfl,nn,rfl⟩ λh' hx=>?_))))
 refine iU (hS.ext hx ω.eV) λfV l₂=>?_
 exact n8 l₂ (h A _ [r1,r2] (hR.le l₂) fV (rs.eW l₂.sub)) λz9 z9 q=>q.le l₂
theorem SP{lD:ak aB}{k:Nat}{tp:Pos}{fJ:aB}(hc:nW fJ=true)(ht:zQ fJ=true)(hs:lD.all oO=true)(hl:lD.aq=2)
  (h:WE c n env fJ (λv bx=>∃a b,qq bx v [a,b]/\Nt c n env lD [a,b] (λz9 bL=>WS c n env aU Q X bL) X bx) X σ):WS c n env (.wA [.sW lD k tp] fJ pos::aU) Q X σ:=by
 revert hc ht hs hl h
 revert c n env X σ pos aU Q lD k tp fJ
 intros c n env X σ pos aU Q lD k tp fJ
 intro hc ht hs hl h
 intros A ω
 intro hR hS
 refine mO hR (Assign_Tuple (aW (h A ω hR hS) ?_ λz9 z9 x=>x) (tK hc) (tH ht))
 refine d9.all λrv v bx ω₁ l₁ cW r hz=>?_
 refine Ht hz λa b hv d7=>?_;clear hz
 refine n8 l₁ (Ck hs hl hv d7 A ω₁ [rv] (hR.le l₁) cW (.br r .nil)) ?_
 refine d9.all λz9 z9 eB gw jT lB z9 qM=>?_
 exact⟨eB,gw,l₁.trans jT,rfl,lB,qM⟩
end
section
variable{prog:Program}{w:World}{A:Around}{E:Value->Shared->Prop}{d it l:Addr}
def Es(h:c8)(ps:ak aQ)(kvs:ak (Str×aI)):Prop:=ps.aq=kvs.aq/\∀(j:Nat)(p:aQ)(kv:Str×aI),ps[j]?=az p->kvs[j]?=az kv->∃tx np,h.cF p=az {cls:=.dg "list",f9:=.seq #[.str kv.1 tx,kv.2] np}
theorem Xy{R:rI->aZ->Prop}{ps:ak aQ}{kvs:ak (Str×aI)}(hA:A.jm=none)(h1:it≠d)(h2:it≠l)(h3:∀p∈ps,it≠p/\d≠p)(h4:d≠l)(nd:(kvs.map (·.1)).iT)(hz:kvs.aq<=1000):
  ∀(k i:Nat)(s:aZ)(n:Int)(ti:Tok),i+k=kvs.aq->aP.IsListIter it l i->aP.IsList l (ps.map aI.ref).aJ->Es aP ps kvs->aP.wu (jq lg w) d (kvs.eL i)->
  (∀h' tk,h'.wu (jq lg w) d kvs->(∀b o,b≠it->b≠d->aP.cF b=az o->h'.cF b=az o)->R (.ok (.ret .none)) {s with d8:=h',nA:=tk})->
  uz (dB lg w) A (.cj "dict.update.loop" ⟨[.ref d,.ref it,.int n ti,.none],[]⟩) R s:=by
 revert hA h1 h2 h3 h4 nd hz
 revert lg w A d it l R ps kvs
 intros lg w A d it l R ps kvs
 intro hA h1 h2 h3 h4 nd hz
 intros k
 induction k with
 |lO=>
  intro i s n ti US hi hl hp hd hR
  refine o7 Gk ?_
  rw[dR.uC Ab _]
  unfold dI.«dict.update.loop»
  show cZ _ _ (pyNext (.ref it)>>=_) _ _ _
  haveI jW:ps.aq=i:=hp.1.trans US.symm
  refine aK (wpAny_pyNext_list_end hA hi hl (by rw[ak.getElem?_toArray,ak.iI,ak.l9 (aO jW)];rfl) λh' hs=>?_)
  refine aK (bw (bw (hR h' eV ?_ λb o n1 z9 e=>hs b o n1 e)))
  rw[ak.dW (show kvs.aq<=i from aO US.symm)]at hd
  exact hd.ug hs h1.symm
 |kU k ih=>
  intro i s n ti US hi hl hp hd hR
  have lM:i<kvs.aq:=US▸nM (cD k)
  obtain⟨p,hp1⟩:∃p,ps[i]?=az p:=⟨_,ak.bk (hp.1▸lM)⟩
  obtain⟨kv,Zb⟩:∃kv,kvs[i]?=az kv:=⟨_,ak.bk lM⟩
  refine E1 (hp.2 i p kv hp1 Zb) λtx np Vj=>?_
  refine iU (h3 p (ak.cg hp1)) λn3 n4=>?_
  refine o7 Gk ?_
  rw[dR.uC Ab _]
  unfold dI.«dict.update.loop»
  show cZ _ _ (pyNext (.ref it)>>=_) _ _ _
  refine aK (wpAny_pyNext_list_item hi hl (x:=.ref p) (by rw[ak.getElem?_toArray,ak.iI,hp1];rfl) λMO QO hs1=>?_)
  have up1:∀b o,b≠it->aP.cF b=az o->MO.cF b=az o:=λb o hb e=>(hs1.2 b hb).trans e
  have abF:=up1 _ _ n3.symm Vj
  haveI hT:({s with d8:=MO}:aZ).sY (.ref p) "list":=⟨_,abF,rfl⟩
  refine aK (cY ?_)
  refine aK (wpAny_tryCatch ?_)
  unfold dI.Dict.pairItems
  refine aK (wpAny_typeOf hT ?_)
  rw[bJ (by decide)]
  refine aK (wpAny_seqItems abF rfl (bw ?_))
  show cZ _ _ (qw _ (dictSet d (.str kv.1 tx) kv.2)) _ _ _
  refine cY ?_
  refine wpAny_dictSet_pairs (knd:=jq lg w) (k:=kv.1) (cU kv.1) (hd.qu hs1 h1.symm) (λVk hd2 hs2=>?_) (by rw[ak.eX];exact Y0 (aA (iL _ _) (aA hz (by decide))))
  haveI Bk:kv.1∉(kvs.eL i).map (·.1):=λm=>by
   have e:kvs.eL (i+1)=kvs.eL i++[kv]:=by rw[ak.jM,Zb];rfl
   have h9:((kvs.eL (i+1)).map (·.1)).iT:=(ak.Sublist.map _ (ak.take_sublist _ _)).nodup nd
   rw[e,ak.ie]at h9
   exact(ak.jo.mp h9).2.2 _ m _ (.dw _) rfl
  rw[stored_new Bk,show kvs.eL i++[(kv.1,kv.2)]=kvs.eL (i+1) by rw[ak.jM,Zb];rfl]at hd2
  show cZ _ _ (again _) _ _ _
  have up2:∀b o,b≠it->b≠d->aP.cF b=az o->Vk.cF b=az o:=λb o n1 n2 e=>(hs2.2 b n2).trans (up1 b o n1 e)
  refine bw ⟨uB Ab _,?_⟩
  refine ih (i+1) _ _ _ (by rw[<-US,dJ,eZ 1]) ?_ ?_ ⟨hp.1,λj q kw a b=>?_⟩ hd2 λh' tk Ep k'=>?_
  ·refine gg QO λo e r=>?_;clear QO
   exact⟨o,(hs2.2 it h1).trans e,r⟩
  ·refine gg hl λo e r=>?_;clear hl
   exact⟨o,up2 l o h2.symm h4.symm e,r⟩
  ·refine E1 (hp.2 j q kw a b) λtx np e=>?_
   refine iU (h3 q (ak.cg a)) λm1 m2=>?_
   exact⟨tx,np,up2 q _ m1.symm m2.symm e⟩
  ·exact hR _ _ Ep λb o n1 n2 e=>k' b o n1 n2 (up2 b o n1 n2 e)
theorem IB{s:aZ}{Q:aI->aZ->Prop}{nl:Nat}{ps:ak aQ}{kvs:ak (Str×aI)}(hA:A.jm=none)(hl:aP.cF l=az {cls:=.dg "list",f9:=.seq (ps.map aI.ref).aJ nl})(hp:Es aP ps kvs)(nd:(kvs.map (·.1)).iT)(hz:kvs.aq<=1000)
  (h:∀h' tk,h'.wu (jq lg w) s.aC kvs->(∀b o,aP.cF b=az o->h'.cF b=az o)->Q (.ref s.aC) {s with d8:=h',nA:=tk}):
  cZ (dB lg w) A (call (.dg "dict") [.ref l]) Q E s:=by
 revert hA hl hp nd hz h
 revert lg w A E l s Q nl ps kvs
 intros lg w A E l s Q nl ps kvs
 intro hA hl hp nd hz h
 refine callType_codes (Q₁:=λobj s₁=>obj=.ref s.aC/\s₁={s with d8:=aP.jg {cls:=.dg "dict",f9:=.bO #[]}}) F.kt_called_dict (F.kt_typeCall_dict_1 _) F.entry_dict_init (kt_code_dict_new _ ⟨rfl,rfl⟩) ?_
 rintro obj s₁ ⟨rfl,rfl⟩
 haveI Bk:(aP.jg {cls:=.dg "dict",f9:=.bO #[]}).wu (jq lg w) s.aC []:=c8.wu.new aP
 haveI L1:=bQ {cls:=.dg "dict",f9:=.bO #[]} hl
 haveI hT:({s with d8:=aP.jg {cls:=.dg "dict",f9:=.bO #[]}}:aZ).sY (.ref l) "list":=⟨_,L1,rfl⟩
 refine⟨Bk.vg,F.args_dict_init_2 _ _,?_⟩
 unfold dI.«dict.__init__»
 refine aK ?_
 unfold dI.Dict.selfAndRest
 refine aK (wpAny_notOrdered_dict Bk.vg ?_)
 show cZ _ _ (gB (s.aC,[aI.ref l])) _ _ _
 refine bw ?_
 show cZ _ _ (dI.Dict.updateFrom "dict.__init__" s.aC (.ref l) [] .none) _ _ _
 unfold dI.Dict.updateFrom
 refine aK (wpAny_typeOf hT ?_)
 rw[bJ (by decide)]
 refine aK (SJ L1 hA λh2 tk2 k2=>?_)
 show cZ _ _ (rule _>>=_) _ _ _
 refine aK (wpAny_rule ?_)
 haveI L2:=k2 _ _ L1
 refine aK (wpAny_pyIter_list ⟨_,L2,rfl,nl,rfl⟩ ?_)
 haveI old:∀b o,aP.cF b=az o->h2.cF b=az o:=λb o e=>k2 b o (bQ _ e)
 haveI hD:∃o,h2.cF s.aC=az o:=⟨_,k2 _ _ (c8.fB _ rfl)⟩
 show cZ _ _ (again _) _ _ _
 refine bw ⟨uB Ab _,?_⟩
 haveI nx:∀b o,h2.cF b=az o->h2.nO.dM≠b:=λb o e q=>cO (c8.iu e) (by rw[q];exact cQ _)
 haveI nn:∀b o,aP.cF b=az o->s.aC≠b:=λb o e q=>cO (c8.iu e) (by rw[q];exact cQ _)
 haveI tL:∀p∈ps,∃o,aP.cF p=az o:=λp m=>by
  refine eO (ak.mJ m) λj iZ=>?_;refine eO iZ λhj e=>?_;clear iZ
  refine E1 (hp.2 j p (kvs[j]'(hp.1▸hj)) (by rw[ak.bk hj,e]) (ak.bk _)) λtx np e2=>?_
  exact⟨_,e2⟩
 refine Xy (A:=tQ) (l:=l) (ps:=ps) (kvs:=kvs) hA ?_ (nx _ _ L2) (λp m=>?_) (nn _ _ hl) nd hz kvs.aq 0 _ _ _ (dD _) ?_ ?_ ⟨hp.1,λj q kw a b=>?_⟩ ?_ λh' tk Ep k'=>?_
 ·refine eO hD λo e=>?_;clear hD;exact nx _ _ e
 ·refine eO (tL p m) λo e=>?_
  exact⟨nx _ _ (old _ _ e),nn _ _ e⟩
 ·exact⟨_,c8.fB _ rfl,rfl,rfl⟩
 ·exact⟨_,bQ _ L2,rfl,nl,rfl⟩
 ·refine E1 (hp.2 j q kw a b) λtx np e=>?_
  exact⟨tx,np,bQ _ (old _ _ e)⟩
 ·refine x32 Bk λo es ep e r=>?_;clear Bk
  exact⟨o,es,ep,bQ _ (k2 _ _ e),r⟩
 ·refine⟨rfl,h _ _ Ep λb o e=>k' b o ?_ (nn _ _ e).symm (bQ _ (old _ _ e))⟩
  exact(nx _ _ (old _ _ e)).symm
end
section
variable{c:Cx}{n:Nat}{env:Env}{X:St->Prop}{σ:St}{pos:Pos}{ω:Wd}{sc:Scope}
theorem L3{L:aQ}(hS:Sat c L σ ω):∀(ps:ak (V×Str×V))(rs:ak aI),E9 c ω (ps.map (·.1)) rs->(∀p∈ps,qq σ p.1 [.str p.2.1,p.2.2])->
  ∃(as:ak aQ)(kvs:ak (Str×aI)),rs=as.map aI.ref/\Es ω.aP as kvs/\jC aL ω.g ω.a ω.b (ps.map (·.2)) kvs:=by
 revert hS
 revert c σ ω L
 intros c σ ω L
 intro hS
 intros ps
 induction ps with
 |nil=>
  intro rs h _
  haveI h':fK aL ω.g ω.a ω.b [] rs:=h
  cases h'
  exact⟨[],[],rfl,⟨rfl,λj p kv h=>nomatch h⟩,.nil⟩
 |br p ps ih=>
  intro rs h hk
  refine oH (fK.un h) λr t ig r1 r2=>?_;obtain rfl:=ig
  refine oH (ih t r2 λq m=>hk q (.cI _ m)) λas kvs ig jd rk=>?_;obtain rfl:=ig;refine iU jd λhl L4=>?_;clear jd
  refine xJ ((hk p (.dw _)).at hS r1) λb ys mm jd e' AA=>?_;obtain rfl:=jd
  refine oH AA.two λr3 r4 ig q3 q4=>?_;obtain rfl:=ig
  refine eO q3.inv λtt bG=>?_;obtain rfl:=bG
  refine⟨b::as,(p.2.1,r4)::kvs,rfl,⟨bM (·+1) hl,λj q kv h1 h2=>?_⟩,.br ⟨rfl,q4⟩ rk⟩
  cases j with
  |lO=>cases h1;cases h2;exact⟨tt,mm,e'⟩
  |kU j=>exact L4 j q kv h1 h2
theorem O2{Q:V->St->Prop}{v:V}(ps:ak (V×Str×V))(h1:qq σ v (ps.map (·.1)))(h2:∀p∈ps,qq σ p.1 [.str p.2.1,p.2.2])(nd:((ps.map (·.2)).map (·.1)).iT)(hz:ps.aq<=1000)(h:Q (.bO (ps.map (·.2))) σ):CV c n env (.st (.dg "dict")) [v] Q X σ:=by
 revert h1 h2 nd hz h
 revert c n env X σ Q v ps
 intros c n env X σ Q v ps
 intro h1 h2 nd hz h
 intros A ω kO
 intro hR hS hr
 refine oH hr.two λr0 r1 ig q0 q1=>?_;obtain rfl:=ig
 obtain rfl:=q0.inv
 refine xJ (h1.at hS q1) λa xs nn jd e rs=>?_;obtain rfl:=jd
 refine oH (L3 hS ps xs rs h2) λas kvs ig hp rk=>?_;obtain rfl:=ig
 haveI hl:kvs.aq=ps.aq:=by have:=bM ak.aq rk.nB;rwa [ak.bT,ak.bT,ak.bT]at this
 refine IB hR.room.jm e hp (rk.nB▸nd) (hl▸hz) λh' tk hd hk=>?_
 refine iU (hS.ext hk tk) λS' l'=>?_
 refine Ht (uL (c:=c) (g:=ω.g) (a:=ω.a) (b:=ω.b) rfl hd rk) λes k ho rd=>?_
 have nh:∀{p:c7},(∀y o,p y=az o->ω.aP.cF y=az o)->p ω.s.aC=none:=λ{p}h=>by
  cases q:p ω.s.aC with
  |none=>rfl
  |az o=>exact cO (c8.iu (h _ _ q)) (cQ _)
 refine iU (S'.abA ho (nh hS.gr) (λm=>cO (hS.lt m) (cQ _)) (nh hS.kk) (by
  cases q:ω.kf ω.s.aC with
  |none=>rfl
  |az m=>exact cO (hS.nf _ _ q).lt (cQ _))) λS2 l2=>?_
 exact⟨.bO (ps.map (·.2)),σ,_,l'.trans l2,rfl,S2,.bO iQ hS.D9 (rd.eW l2.sub) nd,h⟩
theorem SQ{Q:V->St->Prop}(h:Q (.lo jx.aq) {σ with T:=jx++[.bO []]}):WE c n env (.Dict [] [] pos) Q X σ:=λA ω hR hS=>
 wpAny_Dict_empty (Dp hS (.bO []) _ (.bO (n:=0) .nil .nil) rfl h)
theorem Sat.Vl{L:aQ}{i:Nat}{l:ak (Str×V)}(S:Sat c L σ ω)(h:jx[i]?=az (.bO l)):∃d es k,ω.a[i]?=az d/\ω.aP.cF d=az (lR es k)/\kE aL ω.g ω.a ω.b l es/\(fM (·.1)).iT:=by
 revert S h
 revert c σ ω L i l
 intros c σ ω L i l
 intro S h
 refine oH (S.tT.2 i _ h) λd ob e ho r=>?_
 refine gC λG hG=>?_
 cases r with
 |bO r nd=>refine hG ?_;exact⟨d,_,_,e,ho,r,nd⟩
theorem Xz{Q:qY->St->Prop}{j:Nat}{l:ak (Str×V)}{x:Str}{v:V}(hT:jx[j]?=az (.bO l))(hx:x∉fM (·.1))(hz:l.aq<=1000)(h:Q () {σ with T:=jx.set j (.bO (l++[(x,v)]))}):SI c n env (.lo j) (.str x) v Q X σ:=wo3 λA ω rv ri rx hR hS r1 r2 r3=>by
 refine gg r1.inv λd bG hd=>?_;obtain rfl:=bG
 refine eO r2.inv λt bG=>?_;obtain rfl:=bG
 refine E3 (hS.Vl hT) λd' es k Ep ho rd nd=>?_
 cases aH.az.inj (hd.symm.trans Ep)
 refine gg (rY (c:=c) rfl ho rd nd) λkvs D rk=>?_
 have hl:kvs.aq=l.aq:=by have:=bM ak.aq rk.nB;rwa [ak.bT,ak.bT]at this
 refine wpAny_setItem_pairs (knd:=jq bU j5) (k:=x) (cU x) D (λh' D' hs=>?_) (by rw[hl];exact Y0 (aA hz (aD rfl)))
 rw[stored_new (by rw[rk.nB];exact hx)]at D'
 have rk':jC aL ω.g ω.a ω.b (l++[(x,v)]) (kvs++[(x,rx)]):=by
  clear D D' hl hx ho rd nd hT hs hd Ep h hz
  induction rk using jC.ind with
  |nil=>exact .br ⟨rfl,r3⟩ .nil
  |br h t ih=>exact .br ⟨rfl,h⟩ ih
 refine Ht (uL (c:=c) rfl D' rk') λOg k' Bp HD=>?_
 refine iU (hS.VL (o':=.bO (l++[(x,v)])) hd (hS.ns.qu hs (hS.neL (ak.bA _ (ak.cg hd)))) (λy o hy z9 e=>hs.ug y o hy e) Bp (.bO HD (by
  rw[ak.ie]
  refine ak.jo.mpr ⟨nd,ak.cT.mpr ⟨nofun,ak.nodup_nil⟩,λa ha b hb=>?_⟩
  cases ak.bR hb
  rintro rfl
  exact hx ha)) (ω.eV+1)) λS' Fe=>?_
 exact⟨(),_,_,Fe,rfl,S',trivial,h⟩
end
def Dc(f:V->V)(v:V):aH AO->V
 |az (.aR l)=>.aR (fM f)
 |az (.bO l)=>.bO (fM λp=>(p.1,f p.2))
 |_=>v
def Ac(T W:ak AO):Nat->V->V
 |0=>λv=>v
 |k+1=>λv=>match v with
  |.ob i=>Dc (Ac T W k) (.ob i) W[i]?
  |.lo i=>Dc (Ac T W k) (.lo i) T[i]?
  |.aR l=>.aR (fM (Ac T W k))
  |.bO l=>.bO (fM λp=>(p.1,Ac T W k p.2))
  |v=>v
theorem DE{l:ak V}(h:V.qF l=true):∀u∈l,u.gB=true:=by
 induction l with
 |nil=>exact λz9 h=>nomatch h
 |br a l ih=>
  intro u hu
  rcases ak.bB hu with rfl|hu
  ·exact(mz h).1
  ·exact ih (mz h).2 u hu
theorem L7{l:ak (Str×V)}(h:V.B8 l=true):∀p∈l,p.2.gB=true:=by
 induction l with
 |nil=>exact λz9 h=>nomatch h
 |br a l ih=>
  intro u hu
  rcases ak.bB hu with rfl|hu
  ·exact(mz h).1
  ·exact ih (mz h).2 u hu
theorem O3{T W:ak AO}(k:Nat):∀v:V,v.gB=true->Ac T W k v=v:=by
 induction k with
 |lO=>exact λz9 z9=>rfl
 |kU k ih=>
  intro v h
  cases v with
  |aR l=>exact bM V.aR ((ak.wB λu hu=>ih u (DE h u hu)).trans (ak.map_id' l))
  |bO l=>exact bM V.bO ((ak.wB λp hp=>show(p.1,Ac T W k p.2)=p by rw[ih _ (L7 h p hp)]).trans (ak.map_id' l))
  |ob i=>cases(show false=true from h)
  |lo i=>cases(show false=true from h)
  |_=>rfl
theorem DF{T W:ak AO}(k:Nat){l:ak V}(h:V.qF l=true):fM (Ac T W k)=l:=
 (ak.wB λu hu=>O3 k u (DE h u hu)).trans (ak.map_id' l)
section
variable{c:Cx}{n:Nat}{env:Env}{X:St->Prop}{σ:St}{ω:Wd}
theorem Et{P:dN}{g g':c7}{a b:ak aQ}{f:V->V}(F:∀v rv,Rel P g a b v rv->(f v).gB=true->Rel P g' [] [] (f v) rv){l:ak V}{rl:ak aI}(r:fK P g a b l rl)(h:V.qF (fM f)=true):fK P g' [] [] (fM f) rl:=
 fK.ind (M:=λl rl=>V.qF (fM f)=true->fK P g' [] [] (fM f) rl) (λz9=>.nil) (λz9 z9 z9 z9 r z9 ih e=>.br (F _ _ r (mz e).1) (ih (mz e).2)) r h
theorem IC{P:dN}{g g':c7}{a b:ak aQ}{f:V->V}(F:∀v rv,Rel P g a b v rv->(f v).gB=true->Rel P g' [] [] (f v) rv){l:ak (Str×V)}{es:ak gh}(r:kE P g a b l es)(h:V.B8 (fM λp=>(p.1,f p.2))=true):kE P g' [] [] (fM λp=>(p.1,f p.2)) es:=
 kE.ind (M:=λl es=>V.B8 (fM λp:Str×V=>(p.1,f p.2))=true->kE P g' [] [] (fM λp:Str×V=>(p.1,f p.2)) es) (λz9=>.nil) (λz9 z9 z9 z9 z9 z9 r z9 ih e=>.br (F _ _ r (mz e).1) (ih (mz e).2)) r h
theorem keys_map{f:V->V}{l:ak (Str×V)}(h:(fM (·.1)).iT):((fM λp=>(p.1,f p.2)).map (·.1)).iT:=by rw[ak.pN];exact h
theorem Sat.Ac{L:aQ}(S:Sat c L σ ω):∀(k:Nat)(v:V)(rv:aI),RV c ω v rv->(Lake.Ac jx gJ k v).gB=true->Rel aL (hp ω.aP) [] [] (Lake.Ac jx gJ k v) rv:=by
 revert S
 revert c σ ω L
 intros c σ ω L
 intro S
 intros k
 induction k with
 |lO=>exact λv rv r h=>xF S.gr h r
 |kU k ih=>
  intro v rv r h
  have up:Sub ω.g ω.g [] ω.a ω.b ω.b:=⟨λz9 z9 h=>h,λz9 z9 h=>(Lake.nn rfl h),λz9 z9 h=>h⟩
  cases v with
  |ob i=>
   refine gg fQ λx bG hi=>?_;obtain rfl:=bG
   cases e:gJ[i]? with
   |none=>rw[show Lake.Ac jx gJ (k+1) (.ob i)=.ob i from bM (Dc _ (.ob i)) e]at h;cases h
   |az o=>
    cases o with
    |lI _ _ _=>rw[show Lake.Ac jx gJ (k+1) (.ob i)=.ob i from bM (Dc _ (.ob i)) e]at h;cases h
    |aR l=>
     rw[show Lake.Ac jx gJ (k+1) (.ob i)=.aR _ from bM (Dc _ (.ob i)) e]at h⊢
     refine oH (S.tW.2 _ _ e) λx' ob e1 e2 q=>?_
     cases aH.az.inj (hi.symm.trans e1)
     cases q with
     |aR q=>exact .aR e2 (Et ih (q.eW up) h)
    |bO l=>
     rw[show Lake.Ac jx gJ (k+1) (.ob i)=.bO _ from bM (Dc _ (.ob i)) e]at h⊢
     refine E3 (S.M3 e) λd es kk e1 e2 rd nd=>?_
     cases aH.az.inj (hi.symm.trans e1)
     exact .bO e2 (S.high.2 _ (ak.bg _ (ak.cg hi))) (IC ih (rd.eW up) h) (keys_map nd)
  |lo i=>
   refine gg fQ λx bG hi=>?_;obtain rfl:=bG
   cases e:jx[i]? with
   |none=>rw[show Lake.Ac jx gJ (k+1) (.lo i)=.lo i from bM (Dc _ (.lo i)) e]at h;cases h
   |az o=>
    cases o with
    |lI _ _ _=>rw[show Lake.Ac jx gJ (k+1) (.lo i)=.lo i from bM (Dc _ (.lo i)) e]at h;cases h
    |aR l=>
     rw[show Lake.Ac jx gJ (k+1) (.lo i)=.aR _ from bM (Dc _ (.lo i)) e]at h⊢
     refine oH (S.tT.2 _ _ e) λx' ob e1 e2 q=>?_
     cases aH.az.inj (hi.symm.trans e1)
     cases q with
     |aR q=>exact .aR e2 (Et ih q h)
    |bO l=>
     rw[show Lake.Ac jx gJ (k+1) (.lo i)=.bO _ from bM (Dc _ (.lo i)) e]at h⊢
     refine E3 (S.Vl e) λd es kk e1 e2 rd nd=>?_
     cases aH.az.inj (hi.symm.trans e1)
     exact .bO e2 (S.high.2 _ (ak.bA _ (ak.cg hi))) (IC ih rd h) (keys_map nd)
  |aR l=>
   refine xJ fQ λx xs kk jd hg rs=>?_;obtain rfl:=jd
   exact .aR (S.gr _ _ hg) (Et ih rs h)
  |bO l=>
   refine KI fQ λx es kk jd hg hx rs nd=>?_;obtain rfl:=jd
   exact .bO (S.gr _ _ hg) hx (IC ih rs h) (keys_map nd)
  |_=>exact xF S.gr h r
theorem O4{Q:V->St->Prop}(k:Nat){i j:Nat}{xs ys zs:ak V}(h1:jx[i]?=az (.aR xs))(h2:jx[j]?=az (.aR ys))(e1:xs.map (Ac jx gJ k)=zs)(e2:ys.map (Ac jx gJ k)=zs)(Bj:V.qF zs=true)(hd:V.depL zs<20)(h:Q (.bF false) σ):KV c n env .NotEq (.lo i) (.lo j) Q X σ:=tX λA ω rv rw hR hS r1 r2=>by
 have at_:∀{m:Nat}{rv:aI}{xs:ak V},jx[m]?=az (.aR xs)->xs.map (Lake.Ac jx gJ k)=zs->RV c ω (.lo m) rv->∃x ra nn,rv=.ref x/\ω.aP.cF x=az {cls:=.dg "list",f9:=.seq (ak.aJ ra) nn}/\fK aL (hp ω.aP) [] [] zs ra:=λ{m rv xs}e ez r=>by
  refine gg fQ λy bG hi=>?_;obtain rfl:=bG
  refine oH (hS.tT.2 _ _ e) λx ob e1 e2 q=>?_
  cases aH.az.inj (hi.symm.trans e1)
  cases q with
  |@aR _ ra k1 q=>exact⟨_,ra,_,rfl,e2,ez▸Et (hS.Ac k) q (ez.symm▸Bj)⟩
 refine xJ (at_ h1 e1 r1) λy ra n1 jd g1 Y5=>?_;obtain rfl:=jd
 refine xJ (at_ h2 e2 r2) λz rb n2 jd g2 UO=>?_;obtain rfl:=jd
 haveI l1:=iJ Y5
 haveI l2:=iJ UO
 have hu:nI+20<cLine:=hR.room.line (aD rfl)
 refine Of (c:=c) g1 g2 (by rw[ak.bZ,ak.bZ];exact l1.trans l2.symm) (b9 (cu _ _) hu) (λj j1 j2=>?_) (done hS .bF h)
 haveI all:∀{zs:ak V}{xs ys:ak aI},V.qF zs=true->V.depL zs<20->fK aL (hp ω.aP) [] [] zs xs->fK aL (hp ω.aP) [] [] zs ys->∀j(h1:j<xs.aq)(h2:j<ys.aq),Ih c tQ ω.s xs[j] ys[j]:=λ{zs}=>by
  induction zs with
  |nil=>intro xs ys _ _ r _ j h1;cases r;exact cO h1 (lH _)
  |br v zs ih=>
   intro xs ys Bj hd r r' j h1 h2
   cases r with
   |br r rs=>cases r' with
    |br r' AA=>cases j with
     |lO=>exact(eqV v tQ _ _ (mz Bj).1 (by
       haveI h3:v.dep<20:=b9 (Nat.le_max_left _ _) hd
       show nI+1+v.dep<cLine
       exact b9 (by rw[dJ,eZ 1];exact bH h3 _) hu) r r').1
     |kU j=>exact ih (mz Bj).2 (b9 (Nat.le_max_right _ _) hd) rs AA j (lU h1) (lU h2)
 exact all Bj hd Y5 UO j (by rwa [ak.bZ]at j1) (by rwa [ak.bZ]at j2)
end
section
variable{c:Cx}{n:Nat}{env:Env}{X:St->Prop}{σ:St}{pos:Pos}{ω:Wd}{sc:Scope}
theorem ID{L:aQ}{l:ak (Str×V)}{rv:aI}(hS:Sat c L σ ω)(r:RV c ω (.bO l) rv):zR c ω rv (fM λp=>.str p.1):=by
 revert hS r
 revert c σ ω L l rv
 intros c σ ω L l rv
 intro hS r
 refine KI fQ λx es k jd hg hx rs nd=>?_;obtain rfl:=jd
 refine⟨λA Q E hh hQ=>?_⟩
 refine gg (rY (c:=c) rfl (hS.gr _ _ hg) rs nd) λkvs D rk=>?_
 refine eO D.dictAt λep L4=>?_
 haveI pU:x≠ω.s.aC:=gY L4.iu
 haveI jW:kvs.aq=(fM λp=>V.str p.1).aq:=by have:=bM ak.aq rk.nB;rw[ak.bT,ak.bT]at this;rw[ak.bT];exact this
 refine wpAny_pyIter_dict (JO hx) L4 (hQ _ [ω.s.aC,x] (λi v=>∃k' y,kvs[i]?=az (k',y)/\(jq bU j5).is k' v=true) (λi h=>h.IsKeyIter ω.s.aC x i kvs.aq ep/\h.DictAt (jq bU j5) x kvs ep) rfl (λA' NB=>jW▸Walks.dictKeys NB _ _ pU _ _) ⟨⟨_,c8.fB _ rfl,rfl,rfl⟩,L4.jg _⟩ ?_ ?_ ?_)
 ·intro b hb
  rcases ak.bB hb with rfl|hb
  ·exact .inl rfl
  ·rw[ak.bR hb];exact .inr ⟨_,hg⟩
 ·rintro i h ⟨⟨o,ho,hc,hd⟩,_⟩
  exact⟨o,ho,v5 hc hd (by decide)⟩
 ·rintro i v hi ⟨k',y,e,hk⟩
  refine eO (aI.isStrOf_shape hk) λt bG=>?_;obtain rfl:=bG
  have e2:(kvs.map (·.1))[i]?=az k':=by rw[ak.iI,e];rfl
  rw[rk.nB,ak.iI]at e2
  refine gg (aH.iH e2) λp hp ig=>?_;obtain rfl:=ig
  exact⟨.str p.1,by rw[ak.iI,hp];rfl,.str⟩
theorem SR{e:aB}{Q:ak V->St->Prop}(h:WE c n env e (λv fL=>∃l,v=.bO l/\Q (fM λp=>.str p.1) fL) X σ):WI c n env e Q X σ:=λA ω hR hS=>by
 refine aW (h A ω hR hS) ?_ λz9 z9 x=>x
 intro rv s₁ Bf
 refine gC λG hG=>?_
 obtain⟨v,bx,ω₁,l₁,uM,cW,r,l,rfl,d7⟩:=Bf
 refine hG ?_
 exact⟨_,bx,ω₁,l₁,uM,cW,ID cW r,d7⟩
theorem O5{Q:V->St->Prop}{zs:ak V}(Bj:V.qF zs=true)(hd:V.depL zs<20)(h:Q (.bF true) σ):KV c n env .Eq (.aR zs) (.aR zs) Q X σ:=tX λA ω rv rw hR hS r1 r2=>
 (eqV (.aR zs) A rv rw Bj (Nat.wC (Nat.add_lt_add_left (Nat.succ_lt_succ hd) _) (hR.room.line (aD rfl))) (xF hS.gr Bj r1) (xF hS.gr Bj r2)).2 _ rfl _ _ (done hS .bF h)
theorem L8{P:dN}{g g':c7}{a a' b b':ak aQ}{f:V->V}{l:ak V}(hf:∀u∈l,∃x,f u=.str x){rl:ak aI}(h:fK P g a b (fM f) rl):fK P g' a' b' (fM f) rl:=by
 induction l generalizing rl with
 |nil=>cases(show fK P g a b [] rl from h);exact .nil
 |br u l ih=>
  refine oH (fK.un h) λr t ig r1 r2=>?_;obtain rfl:=ig
  refine .br ?_ (ih (λu m=>hf u (.cI _ m)) r2)
  refine eO (hf u (.dw _)) λx e=>?_
  rw[e]at r1⊢
  refine eO r1.inv λt' bG=>?_;obtain rfl:=bG
  exact .str
theorem SS{elt gZ:aB}{x:Str}{a:ak aB}{k:Nat}{tp:Pos}{bD:gO}{Q:V->St->Prop}{lc:Loc}{f:V->V}(he:fU env sc)(qp:qm gZ=true)(An:rX bD x=true)(JE:∀y v,(y,az v)∉lc)(hnd:(lc.map (·.1)).iT)
  (h:WE c n env gZ (λv bx=>∃(i:Nat)(l:ak V),v=.lo i/\bx.T[i]?=az (.aR l)/\V.qF l=true/\l.aq<=10000/\(∀u∈l,∃x,f u=.str x)/\
   (∀nq,fU nq bD->∀u∈l,AT c n nq (.sW a k tp) u (λz9 eB=>WE c n nq elt (λv eH=>v=f u/\eH.T=[]/\eH.W=[]) (λz9=>cM) eB) (λz9=>cM) ⟨lc,[],[]⟩)/\Q (.aR (fM f)) bx) X σ):
  WE c n env (.lq elt [⟨.sW a k tp,gZ,[],0⟩] bD pos) Q X σ:=by
 revert he qp An JE hnd h
 revert c n env X σ pos sc elt gZ x a k tp bD Q lc f
 intros c n env X σ pos sc elt gZ x a k tp bD Q lc f
 intro he qp An JE hnd h
 intros A ω
 intro hR hS
 refine YZ (rX.free An) λBP uI zC hx qN=>?_
 rw[eval_ListComp]
 refine xT (use:=none) rfl (sG qp) (closureFor_none BP) qN zC (aW (h A ω hR hS) ?_ λz9 z9 x=>x)
 clear h
 refine d9.all λrv v bx k8 abG HH aeX abH=>?_
 refine x27 abH λi l ig hi hpu jW aeY oX fin=>?_;clear abH;obtain rfl:=ig
 haveI cW:=HH.freeze
 haveI it:zR c k8.MQ rv l:=by
  refine gg aeX.inv λad bG hb=>?_;obtain rfl:=bG
  refine oH (HH.tT.2 _ _ hi) λy ob e1 e2 r=>?_
  rw[hb]at e1
  cases e1
  cases r with
  |@aR _ xs k rs=>
   haveI hga:k8.MQ.g ad=k8.aP.cF ad:=bJ (ak.bA _ (ak.cg hb))
   haveI rr:fK aL k8.MQ.g [] [] l xs:=V.Ik (λx o e=>(aY (HH.R8 e):k8.MQ.g x=k8.g x).trans e) hpu rs
   exact BL cW (Rel.aR (hga.trans e2) rr)
 haveI V9:∀C,fU (compEnvC bD [] C env) bD:=λC=>⟨(Br he).trans (JG BP),qN,he.lE,he.j9⟩
 refine BO (ω₁:=k8.MQ) (σ:=⟨[],[],[]⟩) (x:=x) (lc:=lc) (J:=λi ys W=>ys=(l.eL i).map f/\W=[]) cW (hR.le abG:m9 c n env A k8.kf) it jW uI qN JE hnd (λhq ho q=>NH hq ho q) ⟨rfl,rfl⟩ (λC i ys W u hu hJ=>?_) ?_
 ·refine iU hJ λfY bG=>?_;obtain rfl:=fY;obtain rfl:=bG
  refine WO.eW (oX _ (V9 C) u (ak.cg hu)) λz9 eB hw=>D5 (W.eW hw (λv eH q=>⟨q.2.1,?_,q.2.2⟩) λz9 x=>x)
  rw[q.1,ak.jM,hu,ak.ie];rfl
 ·intro vm ys W D zm hm Aw hD r hJ
  refine iU hJ λfY bG=>?_;obtain rfl:=fY;obtain rfl:=bG
  rw[ak.dW (bz _)]at r
  refine iU (HH.Im Aw (λx o e=>zm.sub.hg _ _ e) hm zm.k zm.kf) λaeZ XA=>?_
  refine xJ fQ λad xs k e hg rs=>?_
  cases e
  haveI hD:D∉k8.a++k8.b:=λm=>cQ _ (Nat.wC hD (HH.lt (.cI _ m)))
  exact⟨.aR (fM f),bx,_,abG.trans ⟨XA,zm.iD,zm.jE,zm.os,zm.k,zm.kf⟩,rfl,aeZ,.aR ((aY hD).trans hg) (L8 aeY rs),fin⟩
end
section
variable{c:Cx}{n:Nat}{sc:Scope}{τ:qI}{κ:Ct c sc τ}{l:Loc}{T W:List AO}{ks:List Fr}{rest:List Stmt}{pos:Pos}
theorem mH{e:aB}{v:V}(h:∀mF:Ct c sc τ,mF.Q (.ret v) ⟨l,T,W⟩->Vd n mF (.ev e [.ret] l T W)):PE c n κ.env e v κ.X ⟨l,T,W⟩:=λQ q=>h ⟨κ.env,κ.he,κ.ok,κ.X,λfl σ=>match fl with|.ret v=>Q v σ|_=>True⟩ q
theorem r8{o i fJ:aB}{p':Pos}{ov iv v:V}(hc:nW fJ=true)(h1:PE c n κ.env fJ v κ.X ⟨l,T,W⟩)(h2:PE c n κ.env o ov κ.X ⟨l,T,W⟩)(h3:PE c n κ.env i iv κ.X ⟨l,T,W⟩)(h:SI c n κ.env ov iv v (λz9 σ=>Ex n κ aU σ) κ.X ⟨l,T,W⟩):Vd n κ (.ex (.wA [.l8 o i p'] fJ pos::aU) l T W):=DY hc (h1 _ (h2 _ (h3 _ h)))
theorem qQ{j:Nat}{xs Wj:ak (Str×V)}{x:Str}{v:V}(hW:W[j]?=az (.bO xs))(hp:Jx x v xs Wj)(hz:decide (xs.aq<=1000)=true)(hv:v.j7=true)(q:Vd n κ (.ex aU l T (W.set j (.bO Wj)))):SI c n κ.env (.ob j) (.str x) v (λz9 σ=>Ex n κ aU σ) κ.X ⟨l,T,W⟩:=SK (σ:=⟨l,T,W⟩) hW hp hz hv q
theorem Cm{j:Nat}{xs:ak V}{k:Int}{v:V}(hW:W[j]?=az (.aR xs))(h0:0<=k)(hn:k<xs.aq)(hz:xs.aq<=10000)(hv:v.j7=true)(q:Vd n κ (.ex aU l T (W.set j (.aR (xs.set k.gR v))))):SI c n κ.env (.ob j) (.int k) v (λz9 σ=>Ex n κ aU σ) κ.X ⟨l,T,W⟩:=Eb (.ob hW) h0 hn hz hv q
theorem AK{v:V}{xs:ak (Str×V)}(k:AE ⟨l,T,W⟩ v xs)(hz:xs.aq<=10000)(q:Vd n κ (.rt (.int xs.aq) ks l T W)):Vd n κ (.cl (.st (.cj "len")) [v] ks l T W):=Gm k hz q
theorem SX{gc a:aB}{np p:Pos}{dO:ak iW}{v:aI}{j:Int}(N:Nat)(hk:(sc.bW (aj "range")==az i7)=true)(m:(aj "range",v)∈τ.bi)(hs:mD [a]=true)(ha:PE c n κ.env a (.int j) κ.X ⟨l,T,W⟩)
  (h1:dI.ni 0 j 1=true)(h2:dI.jL 0 j 1=N)(h:Io n κ (Ip 0 N) gc dO aU ⟨l,T,W⟩):Vd n κ (.ex (.For gc (.Call (.mQ (aj "range") np) [a] [] p) dO [] pos::aU) l T W):=
 NF rfl (L0 κ.he hk (κ.ok.bi _ m).1 hs (ha _ ⟨j,N,rfl,h1,h2,h⟩))
theorem XC{o e1 e2:aB}{x k1 k2:Str}{apos p1 p2:Pos}{v v1 v2:V}{f:aQ}{P:V->ak AO->Prop}{k:Nat}(hn:qK o=true)(hp:(apos.endLine==pos.line)=true)(ho:PE c n κ.env o v κ.X ⟨l,T,W⟩)(hg:∀Q:V->ak V->St->Prop,Q (.st (.ref f)) [v] ⟨l,T,W⟩->GM c n κ.env x v Q κ.X ⟨l,T,W⟩)(hkp:τ.kp.jG f=true)
  (h1:PE c n κ.env e1 v1 κ.X ⟨l,T,W⟩)(h2:PE c n κ.env e2 v2 κ.X ⟨l,T,W⟩)(nv:V.gW [v]=true)(n1:v1.j7=true)(n2:v2.j7=true)
  (h:gj c k (.ref f) [v] [(k1,v1),(k2,v2)] P (λz9=>cM) W)(hk:q8 k n=true)(q:∀v W',P v W'->Vd n κ (.rt v ks l T W')):Vd n κ (.ev (.Call (.mW o x apos) [] [⟨az k1,e1,p1⟩,⟨az k2,e2,p2⟩] pos) ks l T W):=
 SM hn hp ho hg (κ.ok.kp _ (ak.g6 hkp)).1 h1 h2 nv n1 n2 ((h.up (aD hk)).eW (λv W' z=>q v W' z) λz9 z=>z.g9)
theorem XD{elt gZ:aB}{x:Str}{px:Pos}{bD:gO}{v:V}{bY:ak V}(f:V->V)(qp:qm gZ=true)(An:rX bD x=true)(hi:PE c n κ.env gZ v κ.X ⟨l,T,W⟩)(hv:vR v bY)(hz:bY.aq<=10000)
  (he:∀mF:Ct c bD τ,∀u∈bY,(∀l,mF.Q (.ret (f u)) ⟨l,T,W⟩)->Vd n mF (.ev elt [.ret] [(x,az u)] T W))
  (q:Vd n κ (.rt (.aR (bY.map f)) ks l T W)):Vd n κ (.ev (.lq elt [⟨.mQ x px,gZ,[],0⟩] bD pos) ks l T W):=by
 refine HU κ.he qp An (zS (hi _ ⟨bY,hv,hz,λi ys W'=>ys=(bY.eL i).map f/\W'=W,⟨rfl,rfl⟩,λnq hc i ys W' u hu hJ=>?_,λys W' hJ=>?_⟩))
 ·refine iU hJ λfY bG=>?_;clear hJ;obtain rfl:=fY;obtain rfl:=bG
  refine D5 (he ⟨nq,hc,κ.ok,λz9=>cM,λfl σ=>match fl with|.ret v=>jx=T/\((bY.eL i).map f++[v]=(bY.eL (i+1)).map f/\gJ=W')|_=>True⟩ u (ak.cg hu) λz9=>⟨rfl,?_,rfl⟩)
  rw[ak.jM,hu,ak.ie];rfl
 ·refine iU hJ λfY bG=>?_;clear hJ;obtain rfl:=fY;obtain rfl:=bG
  rw[ak.dW (bz _)]
  exact q
theorem ae0{H:xP}{fd:kR}{D:aQ}{xs:ak aI}{v1 v2 v3:V}{x1 x2 x3:Str}{k:aI->aI->aI->aH (dX aI)->Sem (ak (Str×aI))}(hK:gM=H)(hd:n6=.ref D)(ho:vp H "tuple" D=az xs)(hk:∀a b d,bindArgs fd ⟨[a],[(x2,b),(x3,d)]⟩=seqItems? n6>>=k a b d)(h:∀a b d,k a b d (az xs.aJ)=gB [(x1,a),(x2,b),(x3,d)]):xw c fd [v1] [(x2,v2),(x3,v3)] [(x1,v1),(x2,v2),(x3,v3)]:=by
 revert hK hd ho hk h
 revert c H fd D xs v1 v2 v3 x1 x2 x3 k
 intros c H fd D xs v1 v2 v3 x1 x2 x3 k
 intro hK hd ho hk h
 intros s g b kO BC
 intro X hg hv hkw
 obtain⟨r1,rfl,q1⟩:=hv.one
 obtain⟨⟨_,y⟩,t,rfl,⟨rfl,hy⟩,ht⟩:=(hkw:∃y t,BC=y::t/\(x2=y.1/\Rel aL g [] b v2 y.2)/\jC aL g [] b [(x3,v3)] t)
 obtain⟨⟨_,z⟩,t,rfl,⟨rfl,hz⟩,ht⟩:=(ht:∃y t',t=y::t'/\(x3=y.1/\Rel aL g [] b v3 y.2)/\jC aL g [] b [] t')
 obtain rfl:=(ht:t=[])
 exact⟨_,JP X hd (hK▸ho) (hk r1 y z) (h r1 y z),.br ⟨rfl,q1⟩ (.br ⟨rfl,hy⟩ (.br ⟨rfl,hz⟩ .nil))⟩
end
section
variable{c:Cx}{n:Nat}{env:Env}{X:St->Prop}{σ:St}{sc:Scope}{τ:qI}{κ:Ct c sc τ}{l:Loc}{T W:List AO}{ks:List Fr}{rest:List Stmt}{pos:Pos}
theorem IE{Q:V->St->Prop}{l l':ak V}(h1:l≠[])(h2:l'≠[])(hz:l.aq+l'.aq<=10000)(h:Q (.tup (l++l')) σ):BV c n env .Add (.tup l) (.tup l') Q X σ:=tX λz9 z9 z9 z9 z9 hS r1 r2=>by
 refine xJ r1.inv λa xs nn jd e rs=>?_;obtain rfl:=jd
 refine xJ r2.inv λb ys mm jd e' AA=>?_;obtain rfl:=jd
 haveI l1:=iJ rs
 haveI l2:=iJ AA
 haveI ne:∀{l:ak V}{xs:ak aI},l≠[]->xs.aq=l.aq->¬xs.aJ.qt=true:=λ{l xs}h e q=>by
  cases xs with
  |nil=>cases l with
   |nil=>exact h rfl
   |br=>cases e
  |br=>cases q
 refine nY.P.add_tuple (hS.gr _ _ e) (hS.gr _ _ e') (ne h1 l1) (ne h2 l2) ?_ (by rw[ak.bZ,ak.bZ,l1,l2];exact qG hz)
 obtain⟨S',Fe⟩:=hS.jg ({cls:=.dg "tuple",f9:=.seq (xs.aJ++ys.aJ)}) rfl _
 refine⟨.tup (l++l'),σ,_,Fe,rfl,S',.tup (xs:=xs++ys) (n:=0) ?_ ((rs.append AA).eW Fe.sub),h⟩
 show g8 _ _ _ _=_
 rw[ak.wH]at *
 exact iQ
theorem Cn{xs ys:ak V}(h1:xs≠[])(h2:ys≠[])(hz:xs.aq+ys.aq<=10000)(q:Vd n κ (.rt (.tup (xs++ys)) ks l T W)):Vd n κ (.rt (.tup ys) (.bin .Add (.tup xs)::ks) l T W):=IE h1 h2 hz q
theorem XE{lD:ak aB}{k:Nat}{tp:Pos}{v a b:V}{dO:ak iW}(hs:lD.all oO=true)(hl:lD.aq=2)(hv:qq ⟨l,T,W⟩ v [a,b])(q:Vd n κ (.ao lD [a,b] dO l T W)):Vd n κ (.ft (.sW lD k tp) v dO l T W):=Ck hs hl hv q
theorem XF{lD:ak aB}{k:Nat}{tp:Pos}{fJ:aB}{v a b:V}(hc:nW fJ=true)(ht:zQ fJ=true)(hs:lD.all oO=true)(hl:lD.aq=2)(hp:PE c n κ.env fJ v κ.X ⟨l,T,W⟩)(hv:qq ⟨l,T,W⟩ v [a,b])(q:Vd n κ (.ao lD [a,b] aU l T W)):Vd n κ (.ex (.wA [.sW lD k tp] fJ pos::aU) l T W):=
 SP hc ht hs hl (hp _ ⟨a,b,hv,q⟩)
theorem IF{v:V}(ps:ak (V×Str×V))(h1:qq ⟨l,T,W⟩ v (ps.map (·.1)))(h2:∀p∈ps,qq ⟨l,T,W⟩ p.1 [.str p.2.1,p.2.2])(nd:((ps.map (·.2)).map (·.1)).iT)(hz:ps.aq<=1000)(q:Vd n κ (.rt (.bO (ps.map (·.2))) ks l T W)):Vd n κ (.cl (.st (.dg "dict")) [v] ks l T W):=O2 ps h1 h2 nd hz q
theorem XG(q:Vd n κ (.rt (.lo T.aq) ks l (T++[.bO []]) W)):Vd n κ (.ev (.Dict [] [] pos) ks l T W):=SQ q
theorem SY{j:Nat}{xs:ak (Str×V)}{x:Str}{v:V}(hT:T[j]?=az (.bO xs))(hx:x∉xs.map (·.1))(hz:xs.aq<=1000)(q:Vd n κ (.ex aU l (T.set j (.bO (xs++[(x,v)]))) W)):SI c n κ.env (.lo j) (.str x) v (λz9 σ=>Ex n κ aU σ) κ.X ⟨l,T,W⟩:=Xz (σ:=⟨l,T,W⟩) hT hx hz q
theorem XH(k:Nat){i j:Nat}{xs ys zs:ak V}(h1:T[i]?=az (.aR xs))(h2:T[j]?=az (.aR ys))(e1:xs.map (Ac T W k)=zs)(e2:ys.map (Ac T W k)=zs)(Bj:V.qF zs=true)(hd:V.depL zs<20)(q:Vd n κ (.rt (.bF false) ks l T W)):Vd n κ (.rt (.lo j) (.cmp .NotEq (.lo i)::ks) l T W):=O4 (σ:=⟨l,T,W⟩) k h1 h2 e1 e2 Bj hd q
theorem XI{zs:ak V}(Bj:V.qF zs=true)(hd:V.depL zs<20)(q:Vd n κ (.rt (.bF true) ks l T W)):Vd n κ (.rt (.aR zs) (.cmp .Eq (.aR zs)::ks) l T W):=O5 Bj hd q
theorem XJ{elt gZ:aB}{x:Str}{px:Pos}{bD:gO}{d:ak (Str×V)}(f:Str->V)(qp:qm gZ=true)(An:rX bD x=true)(hi:PE c n κ.env gZ (.bO d) κ.X ⟨l,T,W⟩)(hz:d.aq<=10000)
  (he:∀mF:Ct c bD τ,∀k:Str,(∀l,mF.Q (.ret (f k)) ⟨l,T,W⟩)->Vd n mF (.ev elt [.ret] [(x,az (.str k))] T W))
  (q:Vd n κ (.rt (.aR (d.map λp=>f p.1)) ks l T W)):Vd n κ (.ev (.lq elt [⟨.mQ x px,gZ,[],0⟩] bD pos) ks l T W):=by
 refine HU κ.he qp An (SR (hi _ ⟨d,rfl,by rw[ak.bT];exact hz,λi ys W'=>ys=(d.eL i).map (λp=>f p.1)/\W'=W,⟨rfl,rfl⟩,λnq hc i ys W' u hu hJ=>?_,λys W' hJ=>?_⟩))
 ·refine iU hJ λfY bG=>?_;clear hJ;obtain rfl:=fY;obtain rfl:=bG
  rw[ak.iI]at hu
  refine gg (aH.iH hu) λp hp ig=>?_;obtain rfl:=ig
  refine D5 (he ⟨nq,hc,κ.ok,λz9=>cM,λfl σ=>match fl with|.ret v=>jx=T/\((d.eL i).map (λp=>f p.1)++[v]=(d.eL (i+1)).map (λp=>f p.1)/\gJ=W')|_=>True⟩ p.1 λz9=>⟨rfl,?_,rfl⟩)
  rw[ak.jM,hp,ak.ie];rfl
 ·refine iU hJ λfY bG=>?_;clear hJ;obtain rfl:=fY;obtain rfl:=bG
  rw[ak.bT,ak.dW (bz _)]
  exact q
theorem XM{elt gZ:aB}{x:Str}{a:ak aB}{k i:Nat}{tp:Pos}{bD:gO}{lc:Loc}{xs:ak V}(f:V->V)(qp:qm gZ=true)(An:rX bD x=true)(JE:lc.all (λp=>match p.2 with|none=>true|_=>false)=true)(hnd:(lc.map (·.1)).iT)
  (hi:PE c n κ.env gZ (.lo i) κ.X ⟨l,T,W⟩)(hT:T[i]?=az (.aR xs))(hp:V.qF xs=true)(hz:xs.aq<=10000)(hf:∀u∈xs,∃x,f u=.str x)
  (oX:∀mF:Ct c bD τ,∀u∈xs,(∀l,mF.Q (.ret (f u)) ⟨l,[],[]⟩)->AT c n mF.env (.sW a k tp) u (λz9 eB=>Vd n mF (.ev elt [.ret] eB.loc eB.T eB.W)) (λz9=>cM) ⟨lc,[],[]⟩)
  (q:Vd n κ (.rt (.aR (xs.map f)) ks l T W)):Vd n κ (.ev (.lq elt [⟨.sW a k tp,gZ,[],0⟩] bD pos) ks l T W):=by
 refine SS (lc:=lc) (f:=f) κ.he qp An (λy v m=>?_) hnd (hi _ ⟨i,xs,rfl,hT,hp,hz,hf,λnq hc u hu=>?_,q⟩)
 ·have:=ak.bV JE _ m
  cases this
 ·exact oX ⟨nq,hc,κ.ok,λz9=>cM,λfl σ=>match fl with|.ret v=>v=f u/\jx=[]/\gJ=[]|_=>True⟩ u hu λz9=>⟨rfl,rfl,rfl⟩
end
section
variable{c:Cx}{n:Nat}{env:Env}{X:St->Prop}{σ:St}{pos:Pos}{ω:Wd}{sc:Scope}
theorem Sat.cellAt{L:aQ}{i:Nat}{ca:aQ}{k:aH Int}(S:Sat c L σ ω)(h:jx[i]?=az (.lI i ca k)):ω.a[i]?=az ca/\∃v o,ω.aP.cF ca=az o/\o.f9=.lI v/\∀j,k=az j->∃t,v=az (.int j t):=by
 revert S h
 revert c σ ω L i ca k
 intros c σ ω L i ca k
 intro S h
 refine gC λG hG=>?_
 refine oH (S.tT.2 i _ h) λd ob e ho r=>?_
 refine hG ?_
 refine gC λG hG=>?_
 cases r with
 |lI e' hd=>
  refine hG ?_
  cases aH.az.inj (e.symm.trans e')
  exact⟨e,_,_,ho,hd,λj hj=>by cases hj;exact⟨_,rfl⟩⟩
 |E7 e' hd=>
  refine hG ?_
  cases aH.az.inj (e.symm.trans e')
  exact⟨e,_,_,ho,hd,λz9 hj=>nomatch hj⟩
theorem XN{Q:V->St->Prop}{x:Str}{i:Nat}{ca:aQ}{k:Int}(he:fU env sc)(hk:(sc.bW x==az .lI)=true)(hc:mZ.eF x=az ca)(hd:(x==("__debug__":Str))=false)(hT:jx[i]?=az (.lI i ca (az k)))(h:Q (.int k) σ):WE c n env (.mQ x pos) Q X σ:=λA ω z9 hS=>by
 refine iU (hS.cellAt hT) λfY iZ=>?_;refine oH iZ λv o ho Xw hv=>?_;clear iZ
 refine eO (hv k rfl) λt bG=>?_;obtain rfl:=bG
 exact wpAny_Name (wpAny_loadName_cell he.ym (xr hk) hc ⟨_,ho,Xw⟩ (done hS .int h)) hd
theorem IG{Q:Fl->St->Prop}{aU:ak iW}{x:Str}{p':Pos}{fJ:aB}{i:Nat}{ca:aQ}{k0:aH Int}(he:fU env sc)(hk:(sc.bW x==az .lI)=true)(hc:mZ.eF x=az ca)(hn:nW fJ=true)
  (h:WE c n env fJ (λv fL=>∃k,v=.int k/\fL.T[i]?=az (.lI i ca k0)/\WS c n env aU Q X {fL with T:=fL.T.set i (.lI i ca (az k))}) X σ):WS c n env (.wA [.mQ x p'] fJ pos::aU) Q X σ:=by
 revert he hk hc hn h
 revert c n env X σ pos sc Q aU x p' fJ i ca k0
 intros c n env X σ pos sc Q aU x p' fJ i ca k0
 intro he hk hc hn h
 intros A ω
 intro hR hS
 refine mO hR (wpAny_Assign_Name (aW (h A ω hR hS) ?_ λz9 z9 x=>x) (kZ hn))
 refine d9.all λrv v bx ω₁ l₁ cW r Nq=>?_
 refine uE Nq λk bG hT d7=>?_;clear Nq;obtain rfl:=bG
 refine eO fQ λt bG=>?_;obtain rfl:=bG
 refine iU (cW.cellAt hT) λea iZ=>?_;refine oH iZ λv0 o ho Xw Fi=>?_;clear iZ
 refine wpAny_storeName_cell he.ym (xr hk) hc ⟨o,ho,Xw⟩ λh' hc' hs=>?_
 refine gg hc' λob Bp Ep=>?_
 refine iU (cW.VL (o':=.lI i ca (az k)) ea (cW.ns.qu hs (cW.neL (ak.bA ω₁.b (ak.cg ea)))) (λy o hy z9 e=>hs.ug y o hy e) Bp (.lI ea Ep) ω₁.eV) λS' Fe=>?_
 exact⟨_,_,l₁.trans Fe,rfl,S',d7⟩
theorem S3{elt gZ:aB}{x y:Str}{px:Pos}{ifs:ak aB}{bD:gO}{Q:V->St->Prop}{ca:aQ}(he:fU env sc)(hc:mZ.eF y=az ca)(qp:qm gZ=true)(An:D6 bD x y=true)
  (h:WI c n env gZ (λbY bx=>bY.aq<=10000/\∃J:Nat->ak V->ak AO->Prop,J 0 [] bx.W/\
   (∀nq,fU nq (CX bD sc)->nq.cells=HR y ca bD.kY []->∀i ys W u,bY[i]?=az u->J i ys W->WF c n nq ifs (λok eB=>if ok then WE c n nq elt (λv eH=>eH.T=bx.T/\J (i+1) (ys++[v]) eH.W) (λz9=>cM) eB else eB.T=bx.T/\J (i+1) ys eB.W) (λz9=>cM) ⟨[(x,az u)],bx.T,W⟩)/\
   ∀ys W,J bY.aq ys W->Q (.aR ys) ⟨bx.loc,bx.T,W⟩) X σ):
  WE c n env (.lq elt [⟨.mQ x px,gZ,ifs,0⟩] bD pos) Q X σ:=by
 revert he hc qp An h
 revert c n env X σ pos sc elt gZ x y px ifs bD Q ca
 intros c n env X σ pos sc elt gZ x y px ifs bD Q ca
 intro he hc qp An h
 intros A ω
 intro hR hS
 refine gC λG hG=>?_
 unfold D6 at An
 rw[aM.bN,aM.bN,ak.rP,iX,iX]at An
 refine iU An λfY qN=>?_;clear An;refine iU fY λDV hx=>?_;clear fY
 haveI uI:∀p∈bD.kY,p.2≠.lI:=λp m=>nD.mp ((aM.bN _ _).mp (DV p m)).1
 haveI zC:∀p∈bD.kY,p.2=.local->bD.bW p.1=az .local:=λp m e=>by
  have:=((aM.bN _ _).mp ((aM.bN _ _).mp (DV p m)).2).1
  rw[e]at this
  exact cL (((aM.lJ _ _).mp this).resolve_left (by decide))
 haveI xN:∀p∈bD.kY,p.2=.free->p.1=y:=λp m e=>by
  have:=((aM.bN _ _).mp ((aM.bN _ _).mp (DV p m)).2).2
  rw[e]at this
  exact cL (((aM.lJ _ _).mp this).resolve_left (by decide))
 haveI abI:=HS hc xN
 refine hG ?_
 rw[eval_ListComp]
 refine xT (use:=none) rfl (sG qp) abI qN zC (aW (h A ω hR hS) ?_ λz9 z9 x=>x)
 clear h
 refine d9.all λrv bY bx ω₁ l₁ cW it NQ=>?_
 refine iU NQ λjW iZ=>?_;clear NQ;refine uE iZ λJ Rw oX fin=>?_;clear iZ
 haveI AG:((CX bD sc).bW x==az .local)=true:=by
  have:=lookup_relabel_local (env:=env) hx
  rw[show(CX bD sc)=relabel bD env from(Br he).symm]
  exact iX.mpr this
 haveI V9:∀C,fU (compEnvC bD (HR y ca bD.kY []) C env) (CX bD sc):=λC=>⟨Br he,qN,he.lE,he.j9⟩
 refine BO (x:=x) (lc:=[(x,none)]) cW (hR.le l₁) it jW uI qN (λy v m=>by cases ak.bR m) (ak.cT.mpr ⟨nofun,ak.nodup_nil⟩) (λz9 z9 q=>bw q) Rw (λC i ys W u hu hJ=>D3 (V9 C) AG ⟨_,.dw,oX _ (V9 C) rfl i ys W u hu hJ⟩) ?_
 exact λvm ys W D zm z9 Aw z9 r hJ=>⟨.aR ys,_,vm,l₁.trans zm,rfl,Aw,r,fin ys W hJ⟩
theorem II{Q:V->St->Prop}{a b a' b':Int}(ha:a=a')(hb:b=b')(h:Q (.bF false) σ):KV c n env .NotEq (.tup [.int a,.int b]) (.tup [.int a',.int b']) Q X σ:=by
 revert ha hb h
 revert c n env X σ Q a b a' b'
 intros c n env X σ Q a b a' b'
 intro ha hb h
 subst ha hb
 refine tX λA ω rv rw hR hS r1 r2=>?_
 refine gC λG hG=>?_
 refine xJ r1.inv λx xs k jd hg rs=>?_;obtain rfl:=jd
 refine xJ r2.inv λy ys k' jd Wy AA=>?_;obtain rfl:=jd
 refine E1 (DA rs) λt u ig=>?_;obtain rfl:=ig
 refine E1 (DA AA) λt' u' ig=>?_;obtain rfl:=ig
 refine hG ?_
 exact SeqAt.RcNeAt.tuples (e:=λz9=>true) ⟨_,hS.gr _ _ hg,rfl,k,rfl⟩ ⟨_,hS.gr _ _ Wy,rfl,k',rfl⟩ (hR.room.line (k:=0) (bC _)) LP bU j5 _ _ (done hS .bF h)
end
section
variable{c:Cx}{n:Nat}{sc:Scope}{τ:qI}{κ:Ct c sc τ}{l:Loc}{T W:List AO}{ks:List Fr}{rest:List Stmt}{pos:Pos}
theorem J2{x:Str}{i:Nat}{ca:aQ}{k:Int}(hk:(sc.bW x==az .lI)=true)(hc:κ.mZ.eF x=az ca)(hd:(x==("__debug__":Str))=false)(hT:T[i]?=az (.lI i ca (az k)))(q:Vd n κ (.rt (.int k) ks l T W)):Vd n κ (.ev (.mQ x pos) ks l T W):=XN κ.he hk hc hd hT q
theorem O6{x:Str}{p':Pos}{fJ:aB}{i:Nat}{ca:aQ}{k0:aH Int}{k:Int}(hk:(sc.bW x==az .lI)=true)(hc:κ.mZ.eF x=az ca)(hn:nW fJ=true)(hp:PE c n κ.env fJ (.int k) κ.X ⟨l,T,W⟩)(hT:T[i]?=az (.lI i ca k0))(q:Vd n κ (.ex aU l (T.set i (.lI i ca (az k))) W)):Vd n κ (.ex (.wA [.mQ x p'] fJ pos::aU) l T W):=
 IG κ.he hk hc hn (hp _ ⟨k,rfl,hT,q⟩)
theorem XO{elt gZ t:aB}{x y:Str}{px:Pos}{bD:gO}{v:V}{bY:ak V}{ca:aQ}(Ei:V->aM)(hc:κ.mZ.eF y=az ca)(qp:qm gZ=true)(An:D6 bD x y=true)(hi:PE c n κ.env gZ v κ.X ⟨l,T,W⟩)(hv:vR v bY)(hz:bY.aq<=10000)
  (ht:∀mF:Ct c (CX bD sc) τ,mF.mZ=HR y ca bD.kY []->∀u∈bY,mF.Q (.ret (.bF (Ei u))) ⟨[(x,az u)],T,W⟩->Vd n mF (.te t [.ret] [(x,az u)] T W))
  (he:∀mF:Ct c (CX bD sc) τ,∀u∈bY,(∀l,mF.Q (.ret u) ⟨l,T,W⟩)->Vd n mF (.ev elt [.ret] [(x,az u)] T W))
  (q:Vd n κ (.rt (.aR (bY.rJ Ei)) ks l T W)):Vd n κ (.ev (.lq elt [⟨.mQ x px,gZ,[t],0⟩] bD pos) ks l T W):=by
 refine S3 κ.he hc qp An (zS (hi _ ⟨bY,hv,hz,λi ys W'=>ys=(bY.eL i).rJ Ei/\W'=W,⟨rfl,rfl⟩,λnq hc hcl i ys W' u hu hJ=>?_,λys W' hJ=>?_⟩))
 ·refine iU hJ λfY bG=>?_;clear hJ;obtain rfl:=fY;obtain rfl:=bG
  have hm:=ak.cg hu
  have hs:(bY.eL (i+1)).rJ Ei=(bY.eL i).rJ Ei++(if Ei u=true then[u]else[]):=by
   rw[ak.jM,hu,ak.xX]
   congr 1
   show ak.rJ Ei [u]=_
   cases h:Ei u with
   |true=>rw[ak.filter_cons_of_pos h,bJ rfl];rfl
   |false=>rw[ak.filter_cons_of_neg (by rw[h];exact aM.bK),aY aM.bK];rfl
  refine V7 (Lake.W.eW (ht ⟨nq,hc,κ.ok,λz9=>cM,λfl σ=>match fl with|.ret v=>v=.bF (Ei u)/\σ=⟨[(x,az u)],T,W'⟩|_=>cM⟩ hcl u hm ⟨rfl,rfl⟩) (λb σ h=>?_) λz9 h=>h)
  refine iU h λhb bG=>?_;clear h;obtain rfl:=bG
  obtain rfl:b=Ei u:=V.bF.inj hb
  cases h:Ei u with
  |true=>
   rw[bJ rfl]
   refine he ⟨nq,hc,κ.ok,λz9=>cM,λfl σ=>match fl with|.ret v=>jx=T/\((bY.eL i).rJ Ei++[v]=(bY.eL (i+1)).rJ Ei/\gJ=W')|_=>True⟩ u hm λz9=>⟨rfl,?_,rfl⟩
   rw[hs,bJ h]
  |false=>
   rw[aY aM.bK]
   exact⟨rfl,by rw[hs,aY (by rw[h];exact aM.bK),ak.eu],rfl⟩
 ·refine iU hJ λfY bG=>?_;clear hJ;obtain rfl:=fY;obtain rfl:=bG
  rw[ak.dW (bz _)]
  exact q
theorem XQ{gc:aB}{dO:ak iW}{bY:ak V}(J:Nat->Loc->ak AO->ak AO->Prop)(h0:J 0 l T W)
  (oX:∀i l T W u,bY[i]?=az u->J i l T W->∀mF:Ct c sc τ,mF.env=κ.env->(∀l T W,J (i+1) l T W->mF.Q .next ⟨l,T,W⟩)->Vd n mF (.ft gc u dO l T W))
  (fin:∀l T W,J bY.aq l T W->Vd n κ (.ex aU l T W)):Io n κ bY gc dO aU ⟨l,T,W⟩:=
 ⟨λi σ=>J i rE jx gJ,h0,λi bL u hu hJ=>oX i bL.loc bL.T bL.W u hu hJ ⟨κ.env,κ.he,κ.ok,λz9=>cM,λfl eH=>match fl with|.next=>J (i+1) eH.loc eH.T eH.W|.rF=>J (i+1) eH.loc eH.T eH.W|.brk=>WS c n κ.env aU κ.Q κ.X eH|.ret v=>κ.Q (.ret v) eH⟩ rfl (λz9 z9 z9 h=>h),λbL h=>fin bL.loc bL.T bL.W h⟩
theorem abJ{dO:ak iW}{os:ak Str}{bs:ak (Str×V)}{y:Str}{ca:aQ}(ok:WU c τ)(h:∀κ:Ct c sc τ,qL κ.env->κ.mZ.eF y=az ca->(∀l T W,κ.Q (.ret (.bF true)) ⟨l,T,W⟩)->Vd n κ (.ex dO (locs os bs) T []))(env:Env)(he:fU env sc)(hf:qL env)(hc:mZ.eF y=az ca):WS c n env dO (λfl z9=>fl=.ret (.bF true)) (λz9=>cM) ⟨Bc bs os,T,[]⟩:=
 JU▸h ⟨env,he,ok,λz9=>cM,λfl z9=>fl=.ret (.bF true)⟩ hf hc λz9 z9 z9=>rfl
theorem O7{a b a' b':Int}(ha:a=a')(hb:b=b')(q:Vd n κ (.rt (.bF false) ks l T W)):Vd n κ (.rt (.tup [.int a',.int b']) (.cmp .NotEq (.tup [.int a,.int b])::ks) l T W):=II ha hb q
theorem abK{elt gZ:aB}{x:Str}{px pos:Pos}{bD:gO}{bY:ak V}(J:Nat->ak V->ak AO->Prop)(qp:qm gZ=true)(An:rX bD x=true)(hi:PE c n κ.env gZ (.aR bY) κ.X ⟨l,T,W⟩)(hz:bY.aq<=10000)(h0:J 0 [] W)
  (oX:∀mF:Ct c bD τ,∀i ys W u,bY[i]?=az u->J i ys W->(∀v W',J (i+1) (ys++[v]) W'->∀l,mF.Q (.ret v) ⟨l,T,W'⟩)->Vd n mF (.ev elt [.ret] [(x,az u)] T W))
  (fin:∀ys W,J bY.aq ys W->Vd n κ (.rt (.aR ys) ks l T W)):Vd n κ (.ev (.lq elt [⟨.mQ x px,gZ,[],0⟩] bD pos) ks l T W):=
 HU κ.he qp An (zS (hi _ ⟨bY,.aR,hz,J,h0,λnq hc i ys W u hu hJ=>D5 (oX ⟨nq,hc,κ.ok,λz9=>cM,λfl σ=>match fl with|.ret v=>jx=T/\J (i+1) (ys++[v]) gJ|_=>True⟩ i ys W u hu hJ λz9 z9 h z9=>⟨rfl,h⟩),fin⟩))
end
theorem law_endC{lg:uw}{w:World}{K:xP}{claim:ClaimW}{cl:Str->aH aQ}{Oj:ExcName->aH aI}{args:ak WData}{p:uw}{loose:ak Str}{mn:ExcName->aH aI}{s₁:aZ}{mg mb:Str->aH aI}{d7:c8}{fa a:aQ}{cd:aI}{name:Str}{sc:gO}{dO:ak iW}{ls:ak Int}{tk:Nat}{x y:Str}{cG:ak Str}{E:aI->aZ->Prop}{o:Obj}
  (KX:K.In s₁.d8)(T:Top p loose mn mg mb s₁.d8)(hg:s₁.iD=#[])(F:PyProof.Rows.Fr s₁.d8 s₁.aC d7 (bindL (xY name sc s₁.aC fa cd).kindOf [(x,aI.ref a)] λz9=>none))(N:News s₁.d8 s₁.aC d7 [(s₁.aC+1,o)])(ho:o.f9=.lI (bindC (xY name sc s₁.aC fa cd).kindOf [(x,aI.ref a)] (λz9=>none) y))(w1:Well w.params s₁.d8 (.ref a) (ofPy (.aR (rK .int))))
  (hk:sc.su=.ng)(hx:(sc.bW x==az .local)=true)(hcl:∀n,(cellsFrom n sc.kY []).eF y=az n)(hnd:([x]++cG).iT)
  (h:∀c:Cx,bU=lg->j5=w->gM=K->∀env,fU env sc->qL env->∀ca,mZ.eF y=az ca->WS c 29 env dO (λfl z9=>fl=.ret (.bF true)) (λz9=>cM) ⟨Bc [(x,.aR (rK p8))] cG,[.lI 0 ca none],[]⟩)
  (hn:∀cls,claim.raises args cls=false)(hp:claim.post args (.bF true) args=true):
  cZ (dB lg w) (callerA.deeper (xY name sc s₁.aC fa cd)) (vC dO (xY name sc s₁.aC fa cd)) (λf s'=>GoodWG claim cl Oj args s₁ (.ok (.ret (match f with|.ret v=>v|_=>.none))) s') E {s₁ with d8:=d7,nA:=tk}:=by
 let c:Cx:={lg:=lg,w:=w,K:=K,qJ:=s₁.d8,mg:=mg,mb:=mb,X:=KX,nl:=T.nolimit,g:=T.g,b:=T.b,bi:=T.j9,nd:=T.nodigits}
 let ω:Wd:={s:={s₁ with d8:=d7,nA:=tk},m:=bindL (xY name sc s₁.aC fa cd).kindOf [(x,aI.ref a)] λz9=>none,a:=[s₁.aC+1],b:=[],g:=λy=>s₁.d8.cF y,k:=λz9=>none,kf:=λz9=>none}
 have he:fU (xY name sc s₁.aC fa cd) sc:=⟨rfl,hk,rfl,rfl⟩
 haveI hf:qL (xY name sc s₁.aC fa cd):=⟨rfl,rfl⟩
 have hkx:(xY name sc s₁.aC fa cd).kindOf x=az .local:=xr hx
 have Bk:s₁.d8.cF s₁.aC=none:=by
  cases q:s₁.d8.cF s₁.aC with
  |none=>rfl
  |az o=>exact cO (c8.iu q) (cQ _)
 haveI hm:ω.m=λz=>if z=x then az (aI.ref a)else none:=by
  show bindL _ [(x,aI.ref a)] _=_
  unfold bindL bindL
  rw[bJ hkx]
 haveI hd:o.f9=.lI none:=by
  rw[ho]
  unfold bindC bindC
  rw[bJ hkx]
 have hN:=N _ (.dw _)
 haveI S:Sat c (xY name sc s₁.aC fa cd).locals ⟨Bc [(x,.aR (rK p8))] cG,[.lI 0 (s₁.aC+1) none],[]⟩ ω:=by
  refine⟨F.ns,λy o e=>F.gr y o e,λy o e=>e,⟨bz _,λy hy=>?_⟩,?_,?_,⟨rfl,λi o' e=>?_⟩,⟨rfl,λi o e=>(by cases e)⟩,?_,λy hy=>?_,λz9 z9 e=>(by cases e),λz9 z9=>rfl,λz9 z9 e=>(by cases e),λz9 z9=>rfl,λz9 z9 e=>(by cases e),λz9 z9 e=>(by cases e)⟩
  ·cases ak.bR hy
   exact gn (kj c.big)
  ·intro y v m
   rw[hm]
   refine gC λG hG=>?_
   rcases ak.cJ m with m|m
   ·cases ak.bR m
    refine hG ⟨.ref a,bJ rfl,?_⟩
    cases(w1:Well w.params _ _ (.aR (ofPys (rK .int))))with
    |aR e r=>
     exact .aR e ((Dw r:fK w.params ω.g [] [] _ _).eW ⟨λz9 z9 h=>h,λz9 z9 h=>(Lake.nn rfl h),λz9 z9 h=>(Lake.nn rfl h)⟩)
   ·refine gg (ak.jt m) λq hq e=>?_
    cases e
  ·show(ak.map _ (_++_)).iT
   rw[ak.ie,ak.pN,ak.pN]
   exact(ak.map_id cG).symm▸hnd
  ·cases i with
   |lO=>cases e;exact⟨_,o,rfl,hN.1,.E7 rfl hd⟩
   |kU i=>cases e
  ·refine ak.cT.mpr ⟨λh=>?_,ak.cT.mpr ⟨nofun,ak.nodup_nil⟩⟩
   have:s₁.aC=s₁.aC+1:=ak.bR h
   exact Nat.succ_ne_self _ this.symm
  ·rcases ak.bB hy with rfl|hy
   ·exact Bk
   ·cases ak.bR hy;exact hN.2.2
 haveI hR:m9 c 29 (xY name sc s₁.aC fa cd) (callerA.deeper (xY name sc s₁.aC fa cd)) ω.kf:=by
  refine⟨⟨show 1+claimMargin+1+10 * 29<600 by decide,show 4+3+50 * 29<9000 by decide,rfl⟩,⟨[xY name sc s₁.aC fa cd],rfl,λe he'=>?_⟩,λz9=>⟨[],rfl,λz9 h=>nomatch h⟩⟩
  rw[ak.uy]at he'
  subst he'
  exact⟨by show sc.su≠_;rw[hk];decide,_,rfl,Bk,.inl rfl⟩
 refine aW (h c rfl rfl rfl _ he hf _ (hcl _) _ ω hR S) ?_ λz9 z9 p=>p.no
 refine d9.all λf fl fL fj l S' r Wz=>?_
 obtain rfl:=Wz
 cases r with
 |ret r=>
  (first|obtain rfl:=fQ|obtain⟨_,rfl⟩:=fQ|cases r)
  have q:GoodW claim cl Oj args s₁ (.ok (.ret (.bF true))) {fj.s with iD:=#[]}:=goodW_bool S'.fr rfl hn hp l.os
  exact⟨q.1,.of_keep q.2.1,q.2.2.1,Ca (l.iD.trans (bM gk hg))⟩
def gP:ak Nat:=[9,10,12,32,13]
def vL:ak Nat:=[97,98,99,100,101,102,103,104,105,106,107,108,109,110,111,112,113,114,115,116,117,118,119,120,121,122,65,66,67,68,69,70,71,72,73,74,75,76,77,78,79,80,81,82,83,84,85,86,87,88,89,90]
def Ad:ak Nat:=[48,49,50,51,52,53,54,55,56,57]
def wX:ak Nat:=[48,49,50,51,52,53,54,55,56,57,97,98,99,100,101,102,65,66,67,68,69,70]
def XR:ak Nat:=[8364,129,8218,402,8222,8230,8224,8225,710,8240,352,8249,338,141,381,143,144,8216,8217,8220,8221,8226,8211,8212,732,8482,353,8250,339,157,382,376]
def S4(l:ak Nat):V:=.tup (fM λk=>.str ⟨#[k]⟩)
def gl1:ak (Str×V×aI):=[(aj "EOF",.none,.none),(aj "spaceCharacters",S4 gP,.ref 22),(aj "asciiLetters",S4 vL,.ref 27),(aj "digits",S4 Ad,.ref 32),(aj "hexDigits",S4 wX,.ref 37),
 (aj "replacementCharacters",.st (.ref 46),.ref 46),(aj "Text",.st (.ref 73),.ref 73),(aj "_is_invalid",.st (.ref 84),.ref 84),(aj "HTMLUnicodeInputStream",.st (.ref 166),.ref 166),(aj "bisect_left",.st (.ref 178),.ref 178),(aj "Trie",.st (.ref 230),.ref 230),(aj "entitiesTrie",.st (.ref 236),.ref 236),(aj "HTMLTokenizer",.st (.ref 762),.ref 762),
 (aj "tagTokenTypes",.tup [.int 3,.int 4,.int 5],.ref 49),(aj "asciiLower",.st (.ref 42),.ref 42),
 (aj "_law_NAMES",.st (.ref 773),.ref 773),(aj "_law_MORE",.st (.ref 780),.ref 780),(aj "_law_ENDS",.st (.ref 787),.ref 787),(aj "_law_MARKS",.st (.ref 794),.ref 794),(aj "_law_piece",.st (.ref 801),.ref 801),(aj "_law_error",.st (.ref 808),.ref 808),(aj "_law_worth",.st (.ref 815),.ref 815),(aj "_law_sign",.st (.ref 822),.ref 822),(aj "_law_number",.st (.ref 829),.ref 829),(aj "_law_same",.st (.ref 836),.ref 836),(aj "_law_reference",.st (.ref 843),.ref 843),(aj "_law_cut",.st (.ref 850),.ref 850),(aj "_law_read",.st (.ref 857),.ref 857),(aj "_law_OLD",.str ⟨XR.aJ⟩,.str ⟨XR.aJ⟩ 1470)]
def bi1:ak (Str×aI):=[(aj "len",.cj "len"),(aj "ord",.cj "ord"),(aj "chr",.cj "chr"),(aj "max",.cj "max"),(aj "isinstance",.cj "isinstance"),(aj "int",.dg "int"),(aj "bool",.dg "bool"),(aj "range",.dg "range"),(aj "dict",.dg "dict")]
def XS:ak u9:=["reportCharacterErrors","newLines","dataStream","chunk","chunkSize","chunkOffset","errors","prevNumLines","prevNumCols","_bufferedCharacter"]
def XU:ak u9:=["stream","parser","escapeFlag","lastFourChars","state","escape","currentToken","tokenQueue"]
def Ma:ak (aQ×Str):=[(73,aj "text"),(73,aj "place")]++XS.map (λs=>(166,aj s))++XU.map (λs=>(762,aj s))
def mt1:ak (aQ×Str×aQ):=[(73,aj "read",70),(166,aj "reset",105),(166,aj "openStream",112),(166,aj "_position",119),(166,aj "position",126),(166,aj "char",133),(166,aj "readChunk",141),(166,aj "characterErrorsUCS4",148),(166,aj "charsUntil",156),(166,aj "unget",163),(762,aj "consumeNumberEntity",275),(762,aj "consumeEntity",283),(762,aj "dataState",304),(762,aj "entityDataState",311),(762,aj "processEntityInAttribute",290),(762,aj "emitCurrentToken",297),(762,aj "tagOpenState",353),(762,aj "closeTagOpenState",360),(762,aj "tagNameState",367),(762,aj "beforeAttributeNameState",535),(762,aj "attributeNameState",542),(762,aj "beforeAttributeValueState",556),(762,aj "attributeValueDoubleQuotedState",563),(762,aj "attributeValueSingleQuotedState",570),(762,aj "attributeValueUnQuotedState",577),(762,aj "afterAttributeValueState",584)]
def kp1:ak aQ:=[42,70,84,105,112,119,126,133,141,148,156,163,178,199,213,220,227,275,283,290,297,304,311,353,360,367,535,542,556,563,570,577,584,773,780,787,794,801,808,815,822,829,836,843,850,857]
theorem ae2(P:dN):gl1.all (glB (top.heap_1 P))=true:=by kernel_rfl
theorem ae3(P:dN):bi1.all (biB (top.heap_1 P))=true:=by kernel_rfl
theorem ae4(P:dN):Ma.all (OM (top.heap_1 P))=true:=by kernel_rfl
theorem ae5(P:dN):Ma.all (stB (top.heap_1 P))=true:=by kernel_rfl
theorem ae6(P:dN):Ma.all (λp=>OM (top.heap_1 P) p&&rG (top.heap_1 P) (.ref p.1) p.2==az none)=true:=by kernel_rfl
theorem ae7(P:dN):mt1.all (mtB (top.heap_1 P))=true:=by kernel_rfl
theorem ae8(P:dN):kp1.all (λa=>xR (top.heap_1 P) (.ref a)&&fnIn (top.heap_1 P) a)=true:=by kernel_rfl
theorem ae9(P:dN):[73,166,762].all (λa=>xR (top.heap_1 P) (.ref a))=true:=by kernel_rfl
def zJ:ak (Str×Nat×V×Nat):=[(aj "AMP",299,.str (aj "&"),300),(aj "AMP;",302,.str (aj "&"),303),(aj "Eacute",305,.str (aj "É"),306),(aj "Eacute;",308,.str (aj "É"),309),(aj "Mopf;",311,.str (aj "𝕄"),312),(aj "ac;",314,.str (aj "∾"),315),(aj "acE;",317,.str (aj "∾̳"),318),(aj "acute",320,.str (aj "´"),321),(aj "acute;",323,.str (aj "´"),324),(aj "amp",326,.str (aj "&"),327),(aj "amp;",329,.str (aj "&"),330),(aj "ang;",332,.str (aj "∠"),333),(aj "angle;",335,.str (aj "∠"),336),(aj "bne;",338,.str (aj "=⃥"),339),(aj "copy",341,.str (aj "©"),342),(aj "copy;",344,.str (aj "©"),345),(aj "eacute",347,.str (aj "é"),348),(aj "eacute;",350,.str (aj "é"),351),(aj "frac12",353,.str (aj "½"),354),(aj "frac12;",356,.str (aj "½"),357),(aj "gt",359,.str (aj ">"),360),(aj "gt;",362,.str (aj ">"),363),(aj "lt",365,.str (aj "<"),366),(aj "lt;",368,.str (aj "<"),369),(aj "nbsp",371,.str (aj " "),372),(aj "nbsp;",374,.str (aj " "),375),(aj "not",377,.str (aj "¬"),378),(aj "not;",380,.str (aj "¬"),381),(aj "notin;",383,.str (aj "∉"),384),(aj "notni;",386,.str (aj "∌"),387),(aj "para",389,.str (aj "¶"),390),(aj "para;",392,.str (aj "¶"),393),(aj "parallel;",395,.str (aj "∥"),396),(aj "quot",398,.str (aj "\""),399),(aj "quot;",401,.str (aj "\""),402),(aj "sup1",403,.str (aj "¹"),404),(aj "sup1;",405,.str (aj "¹"),406),(aj "sup2",407,.str (aj "²"),408),(aj "sup2;",409,.str (aj "²"),410),(aj "sup;",411,.str (aj "⊃"),412),(aj "times",413,.str (aj "×"),414),(aj "times;",415,.str (aj "×"),416),(aj "timesb;",417,.str (aj "⊠"),418)]
def XW:ak (Str×Nat×V×Nat):=[(aj "Doctype",532,.int 0,533),(aj "Characters",534,.int 1,535),(aj "SpaceCharacters",536,.int 2,537),(aj "StartTag",538,.int 3,539),(aj "EndTag",540,.int 4,541),(aj "EmptyTag",542,.int 5,543),(aj "Comment",544,.int 6,545),(aj "ParseError",546,.int 7,547)]
abbrev IJ:ak (Str×V):=Ov zJ
abbrev abL:ak (Str×V):=Ov XW
def v7:ak Str:=zJ.map (·.1)
def AL:ak (Int×Nat×Str×Nat):=[(0,429,⟨#[65533]⟩,430),(13,432,⟨#[13]⟩,433),(128,435,⟨#[8364]⟩,436),(129,438,⟨#[129]⟩,439),(130,441,⟨#[8218]⟩,442),(131,444,⟨#[402]⟩,445),(132,447,⟨#[8222]⟩,448),(133,450,⟨#[8230]⟩,451),(134,453,⟨#[8224]⟩,454),(135,456,⟨#[8225]⟩,457),(136,459,⟨#[710]⟩,460),(137,462,⟨#[8240]⟩,463),(138,465,⟨#[352]⟩,466),(139,468,⟨#[8249]⟩,469),(140,471,⟨#[338]⟩,472),(141,474,⟨#[141]⟩,475),(142,477,⟨#[381]⟩,478),(143,480,⟨#[143]⟩,481),(144,483,⟨#[144]⟩,484),(145,486,⟨#[8216]⟩,487),(146,489,⟨#[8217]⟩,490),(147,492,⟨#[8220]⟩,493),(148,495,⟨#[8221]⟩,496),(149,498,⟨#[8226]⟩,499),(150,501,⟨#[8211]⟩,502),(151,504,⟨#[8212]⟩,505),(152,507,⟨#[732]⟩,508),(153,510,⟨#[8482]⟩,511),(154,513,⟨#[353]⟩,514),(155,516,⟨#[8250]⟩,517),(156,519,⟨#[339]⟩,520),(157,522,⟨#[157]⟩,523),(158,525,⟨#[382]⟩,526),(159,528,⟨#[376]⟩,529)]
section
variable{c:Cx}(hK:c.K=top.heap_1 c.w.params)
include hK
theorem A3:u0 c (.bO IJ) (.ref 43):=u0.tab (k:=43) (by rw[hK];kernel_rfl) (by decide) rfl (nodupB_iff (by kernel_rfl))
theorem Mc:u0 c (.bO abL) (.ref 48):=u0.tab (k:=8) (by rw[hK];kernel_rfl) (by decide) rfl (nodupB_iff (by kernel_rfl))
theorem S5:u0 c (.aR (v7.map .str)) (.ref 243):=AI (by rw[hK];kernel_rfl)
theorem Me:u0 c (.tup [.int 0,.int 43]) (.ref 246):=AI (by rw[hK];kernel_rfl)
end
theorem Eu{c:Cx}(hK:gM=top.heap_1 aL):∃es,gM.eF 236=az ⟨.ref 230,az 235,.plain,#[]⟩/\gM.eF 235=az (lR es 4)/\(getL (aj "_data") es=az (az (.ref 43))/\getL (aj "_keys") es=az (az (.ref 243))/\getL (aj "_cachestr") es=az (az (.str (aj "") 835))/\getL (aj "_cachepoints") es=az (az (.ref 246)))/\getL (aj "has_keys_with_prefix") es=az none/\getL (aj "longest_prefix") es=az none:=by
 refine⟨_,by rw[hK];kernel_rfl,by rw[hK];exact rfl,⟨?_,?_,?_,?_⟩,?_,?_⟩<;>kernel_rfl
theorem afa(P:dN):["_data","_keys","_cachestr","_cachepoints"].all (λs=>OM (top.heap_1 P) (230,aj s))=true:=by kernel_rfl
theorem abM(P:dN):[(230,aj "has_keys_with_prefix",220),(230,aj "longest_prefix",227)].all (mtB (top.heap_1 P))=true:=by kernel_rfl
def sa1:ak (aQ×Str×V):=[(236,aj "_data",.bO IJ),(236,aj "_keys",.aR (v7.map .str)),(236,aj "_cachestr",.str (aj "")),(236,aj "_cachepoints",.tup [.int 0,.int 43])]
def sm1:ak (aQ×Str×aQ):=[(236,aj "has_keys_with_prefix",220),(236,aj "longest_prefix",227)]
theorem abN{c:Cx}(hK:gM=top.heap_1 aL):∀p∈sa1,∀(n:Nat)(env:Env)(Q:V->St->Prop)(X:St->Prop)(σ:St),Q p.2.2 σ->GA c n env p.2.1 (.st (.ref p.1)) Q X σ:=by
 refine E6 (Eu hK) λes h0 h1 jd zw=>?_;refine YY jd λa1 a2 a3 a4=>?_;clear jd
 have o:∀s∈["_data","_keys","_cachestr","_cachepoints"],AW gM 230 (aj s):=λs hs=>Ej (l:=[(230,aj s)]) (by rw[hK,ak.all_cons,ak.all_nil,aM.and_true];exact ak.bV (afa _) s hs) _ (.dw _)
 intro p hp n env Q X σ q
 rcases ak.bB hp with rfl|hp
 ·exact yU (o _ (.dw _)) h0 h1 a1 rfl (A3 hK) q
 rcases ak.bB hp with rfl|hp
 ·exact yU (o _ (.cI _ (.dw _))) h0 h1 a2 rfl (S5 hK) q
 rcases ak.bB hp with rfl|hp
 ·exact yU (o _ (.cI _ (.cI _ (.dw _)))) h0 h1 a3 rfl (u0.of rfl) q
 cases ak.bR hp
 exact yU (o _ (.cI _ (.cI _ (.cI _ (.dw _))))) h0 h1 a4 rfl (Me hK) q
theorem abO{c:Cx}(hK:gM=top.heap_1 aL):∀p∈sm1,∀(n:Nat)(env:Env)(Q:V->ak V->St->Prop)(X:St->Prop)(σ:St),Q (.st (.ref p.2.2)) [.st (.ref p.1)] σ->GM c n env p.2.1 (.st (.ref p.1)) Q X σ:=by
 refine Hz (Eu hK) λes h0 h1 jd a5 a6=>?_
 have o:=ON (c:=c) (by rw[hK];exact abM _)
 intro p hp n env Q X σ q
 rcases ak.bB hp with rfl|hp
 ·exact Dn (o _ (.dw _)).1 h0 h1 a5 q
 cases ak.bR hp
 exact Dn (o _ (.cI _ (.dw _))).1 h0 h1 a6 q
def Ze:qI:={gl:=(aj "entities",.bO IJ)::(aj "tokenTypes",.bO abL)::gl1.map (λp=>(p.1,p.2.1)),bi:=bi1,own:=Ma,ow2:=Ma,st:=Ma,mt:=mt1,ca:=[(166,aj "_defaultChunkSize",.int 10240)],sa:=sa1,sm:=sm1,kp:=kp1,kc:=[73,166,762],pol:=[(107,13,1),(207,20,1),(234,20,1),(42,22,2),(194,26,2),(349,32,2),(349,87,2),(369,32,2),(369,85,2),(476,45,2),(1237,10,1),(1272,12,1),(1280,10,1),(1299,10,1),(1300,11,1)]}
theorem nK{c:Cx}(hK:gM=top.heap_1 aL):WU c Ze:=
 ⟨ak.ku ⟨⟨.ref 43,by rw[hK];kernel_rfl,A3 hK⟩,ak.ku ⟨⟨.ref 48,by rw[hK];kernel_rfl,Mc hK⟩,Xc (by rw[hK];exact ae2 _)⟩⟩,Xd (by rw[hK];exact ae3 _),Ej (by rw[hK];exact ae4 _),Sq (by rw[hK];exact ae6 _),Xe (by rw[hK];exact ae5 _),ON (by rw[hK];exact ae7 _),λp hp n env Q X σ i l hW hx q=>by
  obtain rfl:=ak.bR hp
  refine VN (v:=.int 10240) (rv:=?rv) (l:=l) ?h1 ?h2 ?h3 ?h4 ?h5 ?h6 ?h7 hW ?h8 ?_
  case h1=>rw[hK];kernel_rfl
  case h2=>rw[hK];kernel_rfl
  case h3=>rw[hK];exact rfl
  case h4=>rw[hK];kernel_rfl
  case h5=>kernel_rfl
  case h6=>kernel_rfl
  case h7=>exact u0.of rfl
  case h8=>exact hx
  exact q,abN hK,abO hK,Xf (by rw[hK];exact ae8 _),Xg (by rw[hK];exact ae9 _)⟩
abbrev tM(x:Str)(p:Int):AO:=.bO [(aj "text",.str x),(aj "place",.int p)]
theorem Gn(c:Cx)(hK:gM=top.heap_1 aL){o0 o1:AO}(x:Str):jO c 1 63 [.cR 73 2,.str x] [o0,o1,.bO []] .none [o0,o1,tM x 0]:=by
 refine pF (bs:=[(aj "self",.cR 73 2),(aj "text",.str x)]) (cG:=[]) hK (nK hK) rfl rfl rfl (by kernel_rfl) (by kernel_rfl) (nU (λs X a b=>bf rfl) .nil) ?_
 intro κ hf hQ hN hX
 refine cX 6 (m':=.ex _ _ _ _) rfl rfl ?_
 exact gU (hN _ _ _ ⟨rfl,rfl⟩)
theorem Gp(c:Cx)(hK:gM=top.heap_1 aL){o0 o1:AO}{R:ak AO}{x:Str}{p:Nat}(hx:x.aq<=10000)(k:Int):
  jO c 1 70 [.cR 73 2,.int k] (o0::o1::tM x p::R) (.str (w7 x (az (p:Int)) (az ((p:Int)+k)))) (o0::o1::tM x (p+(w7 x (az (p:Int)) (az ((p:Int)+k))).aq)::R):=by
 refine pF (bs:=[(aj "self",.cR 73 2),(aj "size",.int k)]) (cG:=[aj "part"]) hK (nK hK) rfl rfl rfl (by kernel_rfl) (by kernel_rfl) (nU (λs X a b=>bf rfl) .nil) ?_
 intro κ hf hQ hN hX
 refine go2 15 (m':=.rt _ _ _ _ _) rfl rfl ?_ ?_ ?_
 ·exact hx
 ·exact Ef hx
 ·exact hQ _ _ _ _ _ (.eG rfl) ⟨rfl,rfl⟩
abbrev vM(ch:Str)(sz off pl pc:Int):AO:=.bO [(aj "reportCharacterErrors",.meth (.ref 148) (.cR 166 1)),(aj "newLines",.aR [.int 0]),(aj "dataStream",.cR 73 2),(aj "chunk",.str ch),(aj "chunkSize",.int sz),(aj "chunkOffset",.int off),(aj "errors",.ob 3),(aj "prevNumLines",.int pl),(aj "prevNumCols",.int pc),(aj "_bufferedCharacter",.none)]
def tE(pl:Int)(ch:Str)(off:Nat):Int:=pl+cntIn 10 (ch.au.eL off)
def xg(pc:Int)(ch:Str)(off:Nat):Int:=match kQ 10 (ch.au.eL off)with|az k=>off - (k+1)|none=>pc+off
theorem Vm(c:Cx)(hK:gM=top.heap_1 aL){o0:AO}{R:ak AO}{ch:Str}{sz o pl pc:Int}{off:Nat}(ho:off<=ch.aq)(hc:ch.aq<=10000):
  jO c 1 119 [.cR 166 1,.int off] (o0::vM ch sz o pl pc::R) (.tup [.int (tE pl ch off),.int (xg pc ch off)]) (o0::vM ch sz o pl pc::R):=by
 revert hK ho hc
 revert c o0 R ch sz o pl pc off
 intros c o0 R ch sz o pl pc off
 intro hK ho hc
 refine pF (bs:=[(aj "self",.cR 166 1),(aj "offset",.int off)]) (cG:=[aj "chunk",aj "nLines",aj "positionLine",aj "lastLinePos",aj "positionColumn"]) hK (nK hK) rfl rfl rfl (by kernel_rfl) (by kernel_rfl) (nU (λs X a b=>bf rfl) .nil) ?_
 intro κ hf hQ hN hX
 haveI ZK:aj "\n"=⟨#[10]⟩:=by kernel_rfl
 haveI h1:aj "\n"=⟨#[10]⟩/\(0:Int)=0/\(0:Int)<=off/\(off:Int)<=ch.aq:=⟨ZK,rfl,cH _,fO.mpr ho⟩
 refine go2 40 (m':=.rt _ _ _ _ _) rfl rfl ?_ ?_ ?_
 ·exact h1
 ·exact h1
 ·cases hl:kQ 10 (ak.eL (off:Int).gR ch.au)with
  |none=>
   refine cX 6 (m':=.rt _ _ _ _ _) rfl rfl ?_
   refine hQ _ _ _ _ _ (.eG rfl) ⟨?_,rfl⟩
   unfold tE xg
   rw[show(off:Int).gR=off from rfl]at *
   rw[hl]
  |az k=>
   refine vb (b':=false) (show((k:Int)==-1)=false from eK (Int.ne_of_gt (Int.lt_of_lt_of_le (by decide) (cH k)))) ?_
   refine cX 6 (m':=.rt _ _ _ _ _) rfl rfl ?_
   refine hQ _ _ _ _ _ (.eG rfl) ⟨?_,rfl⟩
   unfold tE xg
   rw[show(off:Int).gR=off from rfl]at *
   rw[hl]
def pY(k:Int):aM:=(decide (1<=k)&&decide (k<=8))||(k==11||((decide (14<=k)&&decide (k<=31))||((decide (127<=k)&&decide (k<=159))||((decide (64976<=k)&&decide (k<=65007))||((([p8 65534,p8 65535]:ak V).any λy=>vf y (.int (k.um 65536)))||(decide (55296<=k)&&decide (k<=57343)))))))
theorem Ew(c:Cx)(hK:gM=top.heap_1 aL)(k:Int)(W:ak AO):jO c 1 84 [.int k] W (.bF (pY k)) W:=by
 refine pF (bs:=[(aj "codepoint",.int k)]) (cG:=[]) hK (nK hK) rfl rfl rfl (by kernel_rfl) (by kernel_rfl) (gz (λs X a=>bf rfl) .nil) ?_
 intro κ hf hQ hN hX
 refine mq 2 (m':=.rt _ _ _ _ _) rfl rfl ?_ ?_
 ·decide
 ·exact hQ _ _ _ _ _ (.eG rfl) ⟨rfl,rfl⟩
theorem IK(c:Cx)(hK:gM=top.heap_1 aL){o0:AO}{R:ak AO}{ch:Str}{sz pl pc:Int}{off:Nat}(ho:off<=ch.aq)(hc:ch.aq<=10000):
  jO c 2 126 [.cR 166 1] (o0::vM ch sz off pl pc::R) (.tup [.int (tE pl ch off+1),.int (xg pc ch off)]) (o0::vM ch sz off pl pc::R):=by
 refine pF (bs:=[(aj "self",.cR 166 1)]) (cG:=[aj "line",aj "col"]) hK (nK hK) rfl rfl rfl (by kernel_rfl) (by kernel_rfl) (gz (λs X a=>bf rfl) .nil) ?_
 intro κ hf hQ hN hX
 refine cX 8 (m':=.cl _ _ _ _ _ _) rfl rfl ?_
 refine fW (Vm c hK ho hc) rfl rfl ?_
 refine cX 6 (m':=.rt _ _ _ _ _) rfl rfl ?_
 exact hQ _ _ _ _ _ (.eG rfl) ⟨rfl,rfl⟩
def invN(x:ak Nat):Nat:=(x.rJ λk:Nat=>pY (k:Int)).aq
def zK(m:Nat):ak V:=ak.replicate m (.str (aj "invalid-codepoint"))
theorem J3(x:ak Nat):invN x<=x.aq:=ak.length_filter_le ..
theorem DG(x:ak Nat)(a:Nat):invN (x++[a])=invN x+if pY a then 1 else 0:=by
 unfold invN
 rw[ak.xX,ak.aX]
 cases h:pY (a:Int)<;>simp[h]
theorem Gq(m:Nat):(zK m).aq=m:=ak.length_replicate
theorem Mf(m:Nat):zK m++[.str (aj "invalid-codepoint")]=zK (m+1):=ak.replicate_succ'.symm
theorem O8(c:Cx)(hK:gM=top.heap_1 aL){o0 t:AO}{R:ak AO}{ch:Str}{sz o pl pc:Int}{es:ak V}(x:Str)(hz:es.aq+x.aq<=10000):
  jO c 2 148 [.cR 166 1,.str x] (o0::vM ch sz o pl pc::t::.aR es::R) .none (o0::vM ch sz o pl pc::t::.aR (es++zK (invN x.au))::R):=by
 revert hK hz
 revert c o0 t R ch sz o pl pc es x
 intros c o0 t R ch sz o pl pc es x
 intro hK hz
 refine pF (bs:=[(aj "self",.cR 166 1),(aj "data",.str x)]) (cG:=[aj "c"]) hK (nK hK) rfl rfl rfl (by kernel_rfl) (by kernel_rfl) (nU (λs X a b=>bf rfl) .nil) ?_
 intro κ hf hQ hN hX
 refine cX 2 (m':=.rt _ _ _ _ _) rfl rfl ?_
 refine Gg .str (z0 (λk l T W=>∃cv,l=[(aj "self",az (.cR 166 1)),(aj "data",az (.str x)),(aj "c",cv)]/\T=[]/\W=o0::vM ch sz o pl pc::t::.aR (es++zK (invN (x.au.eL k)))::R) ⟨none,rfl,rfl,by rw[ak.take_zero];exact(ak.eu es).symm▸rfl⟩ ?_ ?_)
 ·intro k _ _ _ u hu Bf mF hn hc hb hr
  refine uE Bf λcv bG ig jd=>?_;clear Bf;obtain rfl:=bG;obtain rfl:=ig;obtain rfl:=jd
  rw[ak.iI,aH.map_eq_some_iff]at hu
  refine gg hu λa ha ig=>?_;clear hu;obtain rfl:=ig
  haveI hk:x.au.eL (k+1)=x.au.eL k++[a]:=by rw[ak.jM,ha];rfl
  refine cX 17 (m':=.cl _ _ _ _ _ _) rfl rfl ?_
  refine fW (Ew c hK a _) rfl rfl ?_
  refine cX 1 (m':=.rt _ _ _ _ _) rfl rfl ?_
  cases hi:pY (a:Int)
  ·refine cX 1 (m':=.ex _ _ _ _) rfl rfl ?_
   refine gU (hn _ _ _ ⟨_,rfl,rfl,?_⟩)
   rw[hk,DG,hi];rfl
  ·refine mq 11 (m':=.ex _ _ _ _) rfl rfl ?_ ?_
   ·show(es++zK _).aq<=10000
    haveI h1:=J3 (x.au.eL k)
    rw[ak.eX]at h1
    haveI h2:x.au.aq=x.aq:=dX.iM
    rw[ak.aX,Gq]
    exact aA (bH (aA h1 (aA (iL ..) (aO h2))) _) hz
   ·refine gU (hn _ _ _ ⟨_,rfl,rfl,?_⟩)
    rw[hk,DG,hi,bJ rfl,<-Mf,<-ak.cV]
 ·rintro _ _ _ ⟨cv,rfl,rfl,rfl⟩
  refine gU (hN _ _ _ ⟨rfl,?_⟩)
  rw[ak.bT,ak.xG]
def Ey(l:ak Nat):Prop:=(∀a∈l,a≠13)/\∀a,l.getLast?=az a->¬(55296<=a/\a<=56319)
theorem Mg{d:Str}(h0:0<d.aq)(hl:Ey d.au):d.au.xV (zo d.aq (-1)) 0≠13/\¬(55296<=d.au.xV (zo d.aq (-1)) 0/\d.au.xV (zo d.aq (-1)) 0<=56319):=by
 haveI e:d.au.aq=d.aq:=dX.iM
 haveI lM:d.aq - 1<d.au.aq:=by rw[e];exact Nat.sub_lt h0 Nat.one_pos
 haveI hg:d.au[d.aq - 1]?=az (d.au.xV (zo d.aq (-1)) 0):=by
  rw[zZ,ak.iY,ak.bk lM];rfl
 exact⟨hl.1 _ (ak.cg hg),hl.2 _ (by rw[ak.getLast?_eq_getElem?,e];exact hg)⟩
theorem Ae(c:Cx)(hK:gM=top.heap_1 aL){o0:AO}{R:ak AO}{ch:Str}{pl pc off:Int}{es:ak V}{x:Str}{p k:Nat}{cv:V}{vs:ak V}(hcv:(cv=.none/\k=10240)\/cv=.int k)(hb:∀fd:kR,∀o,(top.heap_1 aL).eF 141=az o->o.f9=.w4 fd->xw c fd vs [] [(aj "self",.cR 166 1),(aj "chunkSize",cv)])
  (hc:ch.aq<=10000)(hx:x.aq<=10000)(hz:es.aq+x.aq<=10000){d:Str}(hd:d=w7 x (az (p:Int)) (az ((p:Int)+k)))(hl:Ey d.au):
  jO c 3 141 vs (o0::vM ch ch.aq off pl pc::tM x p::.aR es::R) (.bF (d.aq !=0)) (o0::vM d d.aq 0 (tE pl ch ch.aq) (xg pc ch ch.aq)::tM x (p+d.aq:Nat)::.aR (es++zK (invN d.au))::R):=by
 revert hK hcv hb hc hx hz hd hl
 revert c o0 R ch pl pc off es x p k cv vs d
 intros c o0 R ch pl pc off es x p k cv vs d
 intro hK hcv hb hc hx hz hd hl
 refine pF (bs:=[(aj "self",.cR 166 1),(aj "chunkSize",cv)]) (cG:=[aj "data",aj "lastv"]) hK (nK hK) rfl rfl rfl (by kernel_rfl) (by kernel_rfl) (hb _ _ rfl rfl) ?_
 intro κ hf hQ hN hX
 refine cX 0 (m':=.ex _ _ _ _) rfl rfl ?_
 refine zH (λl T W=>l=[(aj "self",az (.cR 166 1)),(aj "chunkSize",az (.int k)),(aj "data",none),(aj "lastv",none)]/\T=[]/\W=o0::vM ch ch.aq off pl pc::tM x p::.aR es::R) ?_ ?_
 ·intro mF hn hr hb hc hx ke
  rcases hcv with⟨rfl,rfl⟩|rfl
  ·refine cX 99 (m':=.ex _ _ _ _) rfl rfl ?_
   exact gU (hn _ _ _ ⟨rfl,rfl,rfl⟩)
  ·refine cX 99 (m':=.ex _ _ _ _) rfl rfl ?_
   exact gU (hn _ _ _ ⟨rfl,rfl,rfl⟩)
 rintro _ _ _ ⟨rfl,rfl,rfl⟩
 refine cX 99 (m':=.cl _ _ _ _ _ _) rfl rfl ?_
 refine fW (Vm c hK (bz _) hc) rfl rfl ?_
 refine cX 21 (m':=.cl _ _ _ _ _ _) rfl rfl ?_
 refine fW (Gp c hK hx k) rfl rfl ?_
 rw[<-hd]
 haveI XX:d.aq<=10000:=hd▸Ef hx
 haveI hdx:d.aq<=x.aq:=hd▸Ef (bz _)
 refine mq 6 (m':=.rt _ _ _ _ _) rfl rfl ?_ ?_
 ·exact XX
 by_cases h0:d.aq=0
 ·refine vb (b':=true) (by rw[h0];rfl) ?_
  refine cX 3 (m':=.rt _ _ _ _ _) rfl rfl ?_
  haveI hn:d.au=[]:=ak.xZ (by rw[dX.iM];exact h0)
  refine hQ _ _ _ _ _ (.eG rfl) ⟨by rw[h0];rfl,?_⟩
  rw[hn,h0,Eg h0]
  show _=(_:AO)::_::_::AO.aR (es++[])::R
  rw[ak.eu];rfl
 ·refine vb (b':=false) (by rw[show((d.aq:Int)!=0)=true from nD.mpr (λe=>h0 (Int.ofNat_eq_zero.mp e))];rfl) ?_
  refine cX 1 (m':=.ex _ _ _ _) rfl rfl ?_
  refine zH (λl T W=>∃lv,l=[(aj "self",az (.cR 166 1)),(aj "chunkSize",az (.int k)),(aj "data",az (.str d)),(aj "lastv",lv)]/\T=[]/\W=o0::vM (aj "") 0 0 (tE pl ch ch.aq) (xg pc ch ch.aq)::tM x (p+d.aq:Nat)::.aR es::R) ?_ ?_
  ·intro mF hn hr hb hc hx ke
   refine mq 14 (m':=.rt _ _ _ _ _) rfl rfl ?_ ?_
   ·exact XX
   by_cases h1:(d.aq:Int)>1
   ·refine iU (Mg (by exact(cP λhn=>Lake.n2 [_] 1 (.v 0) (.n 0) 1 (.a (.n 0) (.n 1)) (.v 0) rfl hn (jR h0))) hl) λl1 l2=>?_
    refine vb (cN h1) ?_
    refine mq 13 (m':=.rt _ _ _ _ _) rfl rfl ?_ ?_
    ·exact iR (by exact(cP λhn=>Lake.n2 [_] 1 (.v 0) (.n 0) 1 (.a (.n 0) (.n 1)) (.v 0) rfl hn (jR h0))) XX
    refine vb (b':=false) ?_ ?_
    ·rw[show(((d.au.xV (zo d.aq (-1)) 0:Nat):Int)==13)=false from eK (λe=>l1 (uD e)),aM.false_or,aM.and_eq_false_iff]
     by_cases h2:(55296:Int)<=(d.au.xV (zo d.aq (-1)) 0:Nat)
     ·exact .inr (cK λq=>l2 ⟨fO.mp h2,fO.mp q⟩)
     ·exact .inl (cK h2)
    refine cX 1 (m':=.ex _ _ _ _) rfl rfl ?_
    exact gU (hn _ _ _ ⟨_,rfl,rfl,rfl⟩)
   ·refine vb (cK h1) ?_
    refine cX 1 (m':=.ex _ _ _ _) rfl rfl ?_
    exact gU (hn _ _ _ ⟨_,rfl,rfl,rfl⟩)
  ·rintro _ _ _ ⟨lv,rfl,rfl,rfl⟩
   refine cX 11 (m':=.cl _ _ _ _ _ _) rfl rfl ?_
   refine Su (O8 c hK d (by exact(aF λhn=>Lake.n3 [_,_,_] 1 (.a (.n 10000) (.n 1)) (.a (.v 1) (.v 2)) 1 (.a (.v 1) (.v 0)) (.n 10000) 1 (.v 2) (.v 0) rfl hn hz hdx))) rfl rfl ?_
   refine go _ _ 42 (m':=.rt _ _ _ _ _) rfl ⟨?_,?_,?_,trivial⟩ ?_
   ·exact⟨by kernel_rfl,hl.1⟩
   ·exact⟨by kernel_rfl,hl.1⟩
   ·exact XX
   refine hQ _ _ _ _ _ (.eG rfl) ⟨?_,rfl⟩
   rw[show(d.aq !=0)=true from nD.mpr h0]
theorem Gr(c:Cx)(hK:gM=top.heap_1 aL){o0:AO}{R:ak AO}{ch:Str}{pl pc off:Int}{es:ak V}{x:Str}{p:Nat}
  (hc:ch.aq<=10000)(hx:x.aq<=10000)(hz:es.aq+x.aq<=10000){d:Str}(hd:d=w7 x (az (p:Int)) (az ((p:Int)+10240)))(hl:Ey d.au):
  jO c 3 141 [.cR 166 1] (o0::vM ch ch.aq off pl pc::tM x p::.aR es::R) (.bF (d.aq !=0)) (o0::vM d d.aq 0 (tE pl ch ch.aq) (xg pc ch ch.aq)::tM x (p+d.aq:Nat)::.aR (es++zK (invN d.au))::R):=
 Ae c hK (k:=10240) (.inl ⟨rfl,rfl⟩) (λfd o ho hf=>by
  cases ho;cases hf
  exact bd1 (xs:=[.none]) hK rfl (by kernel_rfl) (λz9=>rfl) (.br ⟨rfl,u0.of rfl⟩ .nil)) hc hx hz hd hl
theorem S8(c:Cx)(hK:gM=top.heap_1 aL){o0:AO}{R:ak AO}{ch:Str}{pl pc off:Int}{es:ak V}{x:Str}{p k:Nat}
  (hc:ch.aq<=10000)(hx:x.aq<=10000)(hz:es.aq+x.aq<=10000){d:Str}(hd:d=w7 x (az (p:Int)) (az ((p:Int)+k)))(hl:Ey d.au):
  jO c 3 141 [.cR 166 1,.int k] (o0::vM ch ch.aq off pl pc::tM x p::.aR es::R) (.bF (d.aq !=0)) (o0::vM d d.aq 0 (tE pl ch ch.aq) (xg pc ch ch.aq)::tM x (p+d.aq:Nat)::.aR (es++zK (invN d.au))::R):=
 Ae c hK (k:=k) (.inr rfl) (λfd o ho hf=>by
  cases ho;cases hf
  exact bd2 (xs:=[.none]) hK rfl (by kernel_rfl) (λz9 z9=>rfl) .nil) hc hx hz hd hl
set_option genInjectivity false in
structure SV where
 ch:Str
 off:Nat
 pl:Int
 pc:Int
 p:Nat
 m:Nat
def sD(s:SV):AO:=vM iz iz.aq iy s.pl s.pc
def sT(x:Str)(s:SV):AO:=tM x s.p
def sE(s:SV):AO:=.aR (zK s.m)
structure QT(x:Str)(s:SV):Prop where
 hx:x.aq<=4000
 cr:∀a∈x.au,a≠13/\¬(55296<=a/\a<=56319)
 off:iy<=iz.aq
 ch:iz.aq<=x.aq+8
 es:s.m<=s.p
 p:s.p<=x.aq
def lX(x:Str)(s:SV):Str:=w7 x (az (s.p:Int)) (az ((s.p:Int)+10240))
def rM(x:Str)(s:SV):SV:=⟨lX x s,0,tE s.pl iz iz.aq,xg s.pc iz iz.aq,s.p+(lX x s).aq,s.m+invN (lX x s).au⟩
theorem dh(x:Str):x.au.aq=x.aq:=dX.iM
theorem uR{x:Str}{s:SV}(h:QT x s):(lX x s).au=x.au.fX s.p:=by
 have hl:=dh x
 have h1:=h.hx
 have h2:=h.p
 unfold lX w7 sl
 rw[ak.nQ]
 have e1:(az (s.p:Int)).g9 0 (jI x.au.aq)=s.p:=(m7 _ s.p).trans (aV (by rw[hl];exact h2))
 have e2:(az ((s.p:Int)+10240)).g9 x.au.aq (jI x.au.aq)=x.au.aq:=by
  show jI _ ((s.p+10240:Nat):Int)=_
  rw[m7,kW (by exact(aF λhn=>Lake.n3 [_,_,_] 1 (.a (.a (.v 2) (.n 10240)) (.n 1)) (.v 0) 1 (.v 0) (.v 1) 1 (.v 1) (.n 4000) rfl hn (aO hl) h1))]
 rw[e1,e2]
 exact ak.dW (by rw[ak.gX];exact bz _)
theorem yZ{x:Str}{s:SV}(h:QT x s):(lX x s).aq=x.aq - s.p:=by
 rw[<-dh,uR h,ak.gX,dh]
theorem O9{x:Str}{s:SV}(h:QT x s):QT x (rM x s):=by
 have hl:=yZ h
 have h2:=J3 (lX x s).au
 rw[dh]at h2
 exact⟨h.hx,h.cr,bC _,hl▸aA (lK ..) (cu ..),bI h.es h2,aO (by show s.p+(lX x s).aq=x.aq;rw[hl];exact kB h.p)⟩
theorem Pa(m k:Nat):zK m++zK k=zK (m+k):=ak.replicate_append_replicate
theorem IL(c:Cx)(hK:gM=top.heap_1 aL){o0:AO}{R:ak AO}{x:Str}{s:SV}(ok:QT x s):
  jO c 3 141 [.cR 166 1] (o0::sD s::sT x s::sE s::R) (.bF ((lX x s).aq !=0)) (o0::sD (rM x s)::sT x (rM x s)::sE (rM x s)::R):=by
 have h1:=ok.hx
 have h2:=ok.ch
 have h3:=ok.es
 have h4:=ok.p
 have:=Gr c hK (o0:=o0) (R:=R) (ch:=iz) (pl:=s.pl) (pc:=s.pc) (off:=iy) (es:=zK s.m) (x:=x) (p:=s.p) (by exact(aF λhn=>Lake.n3 [_,_] 1 (.a (.n 10000) (.n 1)) (.v 1) 1 (.v 0) (.n 4000) 1 (.v 1) (.a (.v 0) (.n 8)) rfl hn h1 h2)) (by exact(aF λhn=>Lake.n2 [_] 1 (.a (.n 10000) (.n 1)) (.v 0) 1 (.v 0) (.n 4000) rfl hn h1)) (by rw[Gq];exact(aF λhn=>Lake.n4 [_,_,_] 1 (.a (.n 10000) (.n 1)) (.a (.v 1) (.v 0)) 2 (.v 0) (.n 4000) 1 (.v 1) (.v 2) 1 (.v 2) (.v 0) rfl hn h1 h3 h4)) (d:=lX x s) rfl (by
  rw[uR ok]
  exact⟨λa ha=>(ok.cr a (ak.vh ha)).1,λa ha=>(ok.cr a (ak.vh (ak.mem_of_getLast? ha))).2⟩)
 rw[Pa]at this
 exact this
def A4(x:Str)(s:SV):ak Nat:=iz.au.fX iy++x.au.fX s.p
def J4:ak Nat->V
 |[]=>.none
 |k::_=>.str ⟨#[k]⟩
def Af(s:SV)(o:Nat):SV:={s with off:=o}
theorem Mh(c:Cx)(hK:gM=top.heap_1 aL){o0:AO}{R:ak AO}{x:Str}{s:SV}(ok:QT x s)(h:iy<iz.aq):
  jO c 4 133 [.cR 166 1] (o0::sD s::sT x s::sE s::R) (J4 (A4 x s)) (o0::sD (Af s (iy+1))::sT x s::sE s::R):=by
 refine pF (bs:=[(aj "self",.cR 166 1)]) (cG:=[aj "chunkOffset",aj "char"]) hK (nK hK) rfl rfl rfl (by kernel_rfl) (by kernel_rfl) (gz (λs X a=>bf rfl) .nil) ?_
 intro κ hf hQ hN hX
 have h1:=ok.hx
 have h2:=ok.ch
 refine cX 2 (m':=.rt _ _ _ _ _) rfl rfl ?_
 refine vb (cK (by exact(λhn=>Lake.n2 [_,_] 1 (.v 1) (.v 0) 1 (.a (.v 0) (.n 1)) (.v 1) rfl ((fO (m:=iz.aq) (n:=iy)).mp hn) h))) ?_
 refine mq 12 (m':=.rt _ _ _ _ _) rfl rfl ?_ ?_
 ·exact je h (by exact(aF λhn=>Lake.n3 [_,_] 1 (.a (.n 10000) (.n 1)) (.v 0) 1 (.v 1) (.n 4000) 1 (.v 0) (.a (.v 1) (.n 8)) rfl hn h1 h2))
 refine hQ _ _ _ _ _ (.eG rfl) ⟨?_,rfl⟩
 have hl:iy<iz.au.aq:=by rw[dh];exact h
 unfold A4
 rw[ak.jY hl,tD,ak.iY,ak.bk hl]
 rfl
theorem Gs(c:Cx)(hK:gM=top.heap_1 aL){o0:AO}{R:ak AO}{x:Str}{s:SV}(ok:QT x s)(h:¬iy<iz.aq)(h0:(lX x s).aq≠0):
  jO c 4 133 [.cR 166 1] (o0::sD s::sT x s::sE s::R) (J4 (A4 x (rM x s))) (o0::sD (Af (rM x s) 1)::sT x (rM x s)::sE (rM x s)::R):=by
 refine pF (bs:=[(aj "self",.cR 166 1)]) (cG:=[aj "chunkOffset",aj "char"]) hK (nK hK) rfl rfl rfl (by kernel_rfl) (by kernel_rfl) (gz (λs X a=>bf rfl) .nil) ?_
 intro κ hf hQ hN hX
 have h1:=ok.hx
 have h2:=yZ ok
 refine cX 2 (m':=.rt _ _ _ _ _) rfl rfl ?_
 refine vb (cN (by exact((fO (m:=iz.aq) (n:=iy)).mpr (aF λhn=>Lake.n2 [_,_] 1 (.a (.v 1) (.n 1)) (.v 0) 1 (.v 0) (.v 1) rfl hn (aF h))))) ?_
 refine cX 8 (m':=.cl _ _ _ _ _ _) rfl rfl ?_
 refine fW (IL c hK ok) rfl rfl ?_
 refine cX 2 (m':=.rt _ _ _ _ _) rfl rfl ?_
 refine vb (b':=false) (by rw[show((lX x s).aq !=0)=true from nD.mpr h0];rfl) ?_
 refine mq 12 (m':=.rt _ _ _ _ _) rfl rfl ?_ ?_
 ·exact je (n:=(lX x s).aq) (k:=0) (jR h0) (by exact(aF λhn=>Lake.n4 [_,_,_] 1 (.a (.n 10000) (.n 1)) (.v 0) 1 (.v 1) (.n 4000) 1 (.v 0) (.v 2) 1 (.v 2) (.v 1) rfl hn h1 (aO h2) (lK _ _)))
 refine hQ _ _ _ _ _ (.eG rfl) ⟨?_,rfl⟩
 have hl:0<(lX x s).au.aq:=by rw[dh];exact jR h0
 unfold A4
 show V.str ⟨#[(lX x s).au.xV (zo _ ((0:Nat):Int)) 0]⟩=J4 ((lX x s).au.fX 0++_)
 rw[ak.jY hl,tD,ak.iY,ak.bk hl]
 rfl
theorem IM(c:Cx)(hK:gM=top.heap_1 aL){o0:AO}{R:ak AO}{x:Str}{s:SV}(ok:QT x s)(h:¬iy<iz.aq)(h0:(lX x s).aq=0):
  jO c 4 133 [.cR 166 1] (o0::sD s::sT x s::sE s::R) .none (o0::sD (rM x s)::sT x (rM x s)::sE (rM x s)::R):=by
 refine pF (bs:=[(aj "self",.cR 166 1)]) (cG:=[aj "chunkOffset",aj "char"]) hK (nK hK) rfl rfl rfl (by kernel_rfl) (by kernel_rfl) (gz (λs X a=>bf rfl) .nil) ?_
 intro κ hf hQ hN hX
 refine cX 2 (m':=.rt _ _ _ _ _) rfl rfl ?_
 refine vb (cN (by exact((fO (m:=iz.aq) (n:=iy)).mpr (aF λhn=>Lake.n2 [_,_] 1 (.a (.v 1) (.n 1)) (.v 0) 1 (.v 0) (.v 1) rfl hn (aF h))))) ?_
 refine cX 8 (m':=.cl _ _ _ _ _ _) rfl rfl ?_
 refine fW (IL c hK ok) rfl rfl ?_
 refine cX 2 (m':=.rt _ _ _ _ _) rfl rfl ?_
 refine vb (b':=true) (by rw[h0];rfl) ?_
 refine cX 3 (m':=.rt _ _ _ _ _) rfl rfl ?_
 exact hQ _ _ _ _ _ (.eG rfl) ⟨rfl,rfl⟩
theorem Ag(c:Cx)(hK:gM=top.heap_1 aL){W:ak AO}:jO c 1 163 [.cR 166 1,.none] W .none W:=by
 refine pF (bs:=[(aj "self",.cR 166 1),(aj "char",.none)]) (cG:=[]) hK (nK hK) rfl rfl rfl (by kernel_rfl) (by kernel_rfl) (nU (λs X a b=>bf rfl) .nil) ?_
 intro κ hf hQ hN hX
 refine cX 3 (m':=.ex _ _ _ _) rfl rfl ?_
 exact gU (hN _ _ _ ⟨rfl,rfl⟩)
theorem S9(c:Cx)(hK:gM=top.heap_1 aL){o0:AO}{R:ak AO}{x:Str}{s:SV}(ok:QT x s){k o:Nat}(ho:iy=o+1)(hk:iz.au[o]?=az k):
  jO c 1 163 [.cR 166 1,.str ⟨#[k]⟩] (o0::sD s::sT x s::sE s::R) .none (o0::sD (Af s o)::sT x s::sE s::R):=by
 refine pF (bs:=[(aj "self",.cR 166 1),(aj "char",.str ⟨#[k]⟩)]) (cG:=[]) hK (nK hK) rfl rfl rfl (by kernel_rfl) (by kernel_rfl) (nU (λs X a b=>bf rfl) .nil) ?_
 intro κ hf hQ hN hX
 have h1:=ok.hx
 have h2:=ok.ch
 have h3:=ok.off
 refine cX 5 (m':=.rt _ _ _ _ _) rfl rfl ?_
 refine vb (b':=false) (show((iy:Int)==0)=false from eK (λe=>by rw[ho]at e;exact cO (Int.ofNat_eq_zero.mp e) (Nat.succ_ne_zero o))) ?_
 have e:((iy:Int) - 1)=(o:Nat):=by rw[ho];exact Int.add_sub_cancel (o:Int) 1
 refine mq 6 (m':=.rt _ _ _ _ _) rfl rfl ?_ ?_
 ·rw[e];exact je (by exact(cP λhn=>Lake.n3 [_,_,_] 1 (.v 2) (.v 1) 1 (.a (.v 1) (.n 1)) (.v 0) 1 (.v 0) (.v 2) rfl hn (aO (Eq.symm ho)) h3)) (by exact(aF λhn=>Lake.n3 [_,_] 1 (.a (.n 10000) (.n 1)) (.v 1) 1 (.v 0) (.n 4000) 1 (.v 1) (.a (.v 0) (.n 8)) rfl hn h1 h2))
 refine vb (b':=true) ?_ ?_
 ·rw[e,tD,ak.iY,hk];exact cU _
 refine cX 1 (m':=.ex _ _ _ _) rfl rfl ?_
 refine gU (hN _ _ _ ⟨rfl,?_⟩)
 rw[e];rfl
def Mi(l:ak Nat):Int:=match kQ 10 l with|az k=>(l.aq:Int) - (k+1)|none=>l.aq
theorem vN(k:Nat):∀(a b:ak Nat),kQ k (a++b)=match kQ k b with|az j=>az (a.aq+j)|none=>kQ k a
 |[],b=>by
  rw[ak.jw]
  cases h:kQ k b with
  |none=>rfl
  |az j=>exact bM az (dD j).symm
 |x::a,b=>by
  have e:∀l,kQ k (x::l)=match kQ k l with|az i=>az (i+1)|none=>if x=k then az 0 else none:=λz9=>rfl
  rw[ak.p7,e,vN k a b]
  cases h:kQ k b with
  |az j=>exact bM az (Nat.succ_add a.aq j).symm
  |none=>exact(e a).symm
theorem cnt_append(k:Nat)(a b:ak Nat):cntIn k (a++b)=cntIn k a+cntIn k b:=by
 unfold cntIn
 rw[ak.xX,ak.aX]
theorem A5(a b:ak Nat):invN (a++b)=invN a+invN b:=by
 unfold invN
 rw[ak.xX,ak.aX]
structure At(x:Str)(s:SV)(u cC:Nat)(pre post:ak Nat):Prop where
 ok:QT x s
 e:x.au=pre++(iz.au++post)
 p:pre.aq+iz.aq=s.p
 pl:s.pl=cntIn 10 pre
 pc:s.pc=Mi pre
 u:u=pre.aq+iy
 m:cC+s.m=invN (x.au.eL s.p)
namespace At
variable{x:Str}{s:SV}{u told:Nat}{pre post:List Nat}
theorem ule(h:At x s u cC pre post):u<=x.aq:=by
 exact aA (aO h.u) (aA (bH h.ok.off _) (aA (aO h.p) h.ok.p))
theorem cut(h:At x s u cC pre post):x.au.eL u=pre++iz.au.eL iy:=by
 rw[h.e,h.u,ak.take_length_add_append,ak.take_append_of_le_length (by rw[dh];exact h.ok.off)]
theorem Pb(h:At x s u cC pre post):x.au.fX s.p=post:=by
 rw[h.e,<-h.p,ak.drop_length_add_append,<-dh,ak.drop_left]
theorem aU(h:At x s u cC pre post):A4 x s=x.au.fX u:=by
 unfold A4
 rw[h.Pb,h.e,h.u,ak.drop_length_add_append,ak.jJ (by rw[dh];exact h.ok.off)]
theorem line(h:At x s u cC pre post):tE s.pl iz iy=cntIn 10 (x.au.eL u):=by
 unfold tE
 rw[h.cut,cnt_append,h.pl]
 rfl
theorem col(h:At x s u cC pre post):xg s.pc iz iy=Mi (x.au.eL u):=by
 have hl:(iz.au.eL iy).aq=iy:=by rw[ak.eX,dh];exact aV h.ok.off
 unfold xg
 rw[h.cut,h.pc]
 unfold Mi
 rw[vN,ak.aX,hl]
 cases kQ 10 (iz.au.eL iy)with
 |az k=>show(iy:Int) - ((k:Int)+1)=((pre.aq+iy:Nat):Int) - (((pre.aq+k:Nat):Int)+1);rw[Int.natCast_add,Int.natCast_add,Int.add_assoc,Int.add_sub_add_left]
 |none=>
  cases kQ 10 pre with
  |az k=>show((pre.aq:Int) - (k+1))+iy=((pre.aq+iy:Nat):Int) - (k+1);rw[Int.natCast_add,wD,wD,Int.sZ]
  |none=>rfl
theorem fill(h:At x s u cC pre post)(hn:¬iy<iz.aq):At x (rM x s) u cC (pre++iz.au) []:=by
 have hd:(lX x s).au=post:=by rw[uR h.ok,h.Pb]
 have ho:iy=iz.aq:=dU h.ok.off (Nat.rT hn)
 have ht:iz.au.eL iz.aq=iz.au:=ak.dW (by rw[dh];exact bz _)
 refine⟨O9 h.ok,?_,?_,?_,?_,?_,?_⟩
 ·show _=_++((lX x s).au++[])
  rw[hd,h.e,ak.eu,ak.cV]
 ·show(pre++iz.au).aq+(lX x s).aq=s.p+(lX x s).aq
  rw[ak.aX,dh,h.p]
 ·show tE s.pl iz iz.aq=_
  have:=h.line
  rwa [ho,h.cut,ho,ht]at this
 ·show xg s.pc iz iz.aq=_
  have:=h.col
  rwa [ho,h.cut,ho,ht]at this
 ·show u=_+0
  rw[h.u,ho,ak.aX,dh,Nat.add_zero]
 ·show cC+(s.m+invN (lX x s).au)=invN (x.au.eL (s.p+(lX x s).aq))
  rw[ak.take_add,A5,<-h.m,dJ,<-uR h.ok,ak.dW (by rw[dh];exact bz _)]
theorem bump(h:At x s u cC pre post){o:Nat}(ho:o<=iz.aq):At x (Af s o) (pre.aq+o) cC pre post:=
 ⟨⟨h.ok.hx,h.ok.cr,ho,h.ok.ch,h.ok.es,h.ok.p⟩,h.e,h.p,h.pl,h.pc,rfl,h.m⟩
theorem abP(h:At x s u cC pre post)(hl:iy<iz.aq):u<x.aq:=by
 exact bh (b9 (aO h.u) (Nat.add_lt_add_left hl _)) (aA (aO h.p) h.ok.p)
theorem J5(h:At x s u cC pre post)(hn:¬iy<iz.aq):((lX x s).aq≠0)↔u<x.aq:=by
 rw[yZ h.ok,show u=s.p from h.u.trans ((bM _ (dU h.ok.off (Nat.rT hn))).trans h.p)]
 exact Nat.sub_ne_zero_iff_lt
theorem sign(h:At x s u cC pre post){o:Nat}(ho:o<iz.aq):iz.au[o]?=x.au[pre.aq+o]?:=by
 rw[h.e,ak.jy (cu ..),jZ,ak.jh (by rw[dh];exact ho)]
end At
def rN(x:Str)(u:Nat):V:=match x.au[u]? with|az k=>.str ⟨#[k]⟩|none=>.none
theorem Gu{x:Str}{u:Nat}:J4 (x.au.fX u)=rN x u:=by
 unfold rN
 cases h:x.au[u]? with
 |none=>rw[ak.pP (ak.rU h)];rfl
 |az k=>
  obtain⟨hl,rfl⟩:=ak.cz h
  rw[ak.jY hl];rfl
def j8(x:Str)(u b cC:Nat)(z1:AO)(z2:AO)(z3:AO):Prop:=∀G:AO->AO->AO->Prop,(∀(s:SV)(pre post:ak Nat)(a:At x s u cC pre post)(hb:b<=iy),G (sD s) (sT x s) (sE s))->G z1 z2 z3
theorem j8.mk{x:Str}{u b cC:Nat}(s:SV)(pre post:ak Nat)(a:At x s u cC pre post)(hb:b<=iy):j8 x u b cC (sD s) (sT x s) (sE s):=λz9 z=>z s pre post a hb
theorem j8.ule{x:Str}{u b cC:Nat}{d t e:AO}(h:j8 x u b cC d t e):u<=x.aq:=by apply h;clear h;intro _ _ _ a _;exact a.ule
theorem j8.fm{x:Str}{u b cC:Nat}{d t e:AO}(h:j8 x u b cC d t e):∃s,d=sD s:=by apply h;clear h;intro s _ _ _ _;exact⟨s,rfl⟩
theorem j8.qA{x:Str}{u b cC:Nat}{d t e:AO}(h:j8 x u b cC d t e):j8 x u 0 cC d t e:=by apply h;clear h;intro s p q a _;exact .mk s p q a (bC _)
def RS(o0:AO)(R:ak AO)(x:Str)(u b cC:Nat)(v:V)(z1:V)(z2:ak AO):Prop:=∀G:V->ak AO->Prop,(∀(d t e:AO)(h:j8 x u b cC d t e),G v (o0::d::t::e::R))->G z1 z2
theorem RS.mk{o0:AO}{R:ak AO}{x:Str}{u b cC:Nat}{v:V}{d t e:AO}(h:j8 x u b cC d t e):RS o0 R x u b cC v v (o0::d::t::e::R):=λz9 z=>z d t e h
theorem gA(c:Cx)(hK:gM=top.heap_1 aL){o0 d t e:AO}{R:ak AO}{x:Str}{u b cC:Nat}(h:j8 x u b cC d t e):
  gj c 4 (.ref 133) [.cR 166 1] [] (RS o0 R x (min (u+1) x.aq) (if u<x.aq then 1 else 0) cC (rN x u)) (λz9=>cM) (o0::d::t::e::R):=by
 revert hK h
 revert c o0 d t e R x u b cC
 intros c o0 d t e R x u b cC
 intro hK h
 apply h;clear h;intro s pre post a _
 have hr:=a.aU
 by_cases hl:iy<iz.aq
 ·refine(Mh c hK a.ok hl).eW ?_ λz9 x=>x
  rintro _ _ ⟨rfl,rfl⟩
  have hu:=a.abP hl
  rw[hr,Gu]
  refine .mk (.mk (Af s (iy+1)) (pre) post ?_ ?_)
  ·rw[aV hu,a.u];exact a.bump hl
  ·rw[bJ hu];exact g7 ..
 ·have af:=a.fill hl
  have MM:=af.aU
  by_cases h0:(lX x s).aq=0
  ·refine(IM c hK a.ok hl h0).eW ?_ λz9 x=>x
   rintro _ _ ⟨rfl,rfl⟩
   have hu:¬u<x.aq:=λq=>(a.J5 hl).mpr q h0
   have hv:rN x u=.none:=by unfold rN;rw[ak.l9 (by rw[dh];exact Nat.rT hu)]
   rw[hv]
   refine .mk (.mk (rM x s) (pre++iz.au) [] ?_ ?_)
   ·rw[kW (fR (Nat.rT hu)),dU (Nat.rT hu) a.ule];exact af
   ·rw[aY hu];exact bC _
  ·refine(Gs c hK a.ok hl h0).eW ?_ λz9 x=>x
   rintro _ _ ⟨rfl,rfl⟩
   have hu:=(a.J5 hl).mp h0
   rw[MM,Gu]
   refine .mk (.mk (Af (rM x s) 1) (pre++iz.au) [] ?_ ?_)
   ·have q:=af.bump (o:=1) (jR h0)
    rw[aV hu,af.u];exact q
   ·rw[bJ hu];exact bz 1
theorem At.back{x:Str}{s:SV}{u cC:Nat}{pre post:ak Nat}(a:At x s (u+1) cC pre post)(hb:1<=iy):∃o,iy=o+1/\o<iz.aq/\u=pre.aq+o:=
 ⟨iy - 1,(wJ hb).symm,bh (Nat.sub_lt hb Nat.zero_lt_one) a.ok.off,Nat.kU.inj (a.u.trans (bM (pre.aq+·) (wJ hb).symm))⟩
theorem Co(c:Cx)(hK:gM=top.heap_1 aL){o0 d t e:AO}{R:ak AO}{x:Str}{u k cC:Nat}(h:j8 x (u+1) 1 cC d t e)(hk:x.au[u]?=az k):
  gj c 1 (.ref 163) [.cR 166 1,.str ⟨#[k]⟩] [] (RS o0 R x u 0 cC .none) (λz9=>cM) (o0::d::t::e::R):=by
 apply h;clear h;intro s pre post a hb
 refine gC λG hG=>?_
 obtain⟨o,ho,hol,hu⟩:=a.back hb
 refine hG ?_
 refine(S9 c hK a.ok ho ?_).eW ?_ λz9 x=>x
 ·rw[a.sign hol,<-hu,hk]
 rintro _ _ ⟨rfl,rfl⟩
 exact .mk (.mk (Af s o) pre post (hu▸a.bump (fP hol)) (bC _))
theorem Gv(c:Cx)(hK:gM=top.heap_1 aL){o0 d t e:AO}{R:ak AO}{x:Str}{u b cC:Nat}(h:j8 x u b cC d t e):
  jO c 2 126 [.cR 166 1] (o0::d::t::e::R) (.tup [.int (cntIn 10 (x.au.eL u)+1),.int (Mi (x.au.eL u))]) (o0::d::t::e::R):=by
 apply h;clear h;intro s pre post a hb
 have h1:=a.ok.hx
 have h2:=a.ok.ch
 have:=IK c hK (o0:=o0) (R:=sT x s::sE s::R) (ch:=iz) (sz:=iz.aq) (pl:=s.pl) (pc:=s.pc) (off:=iy) a.ok.off (by exact(aF λhn=>Lake.n3 [_,_] 1 (.a (.n 10000) (.n 1)) (.v 1) 1 (.v 0) (.n 4000) 1 (.v 1) (.a (.v 0) (.n 8)) rfl hn h1 h2))
 rwa [a.line,a.col]at this
theorem Gw(x:Str)(a:Nat)(h:a<=x.aq):w7 x (az (a:Int)) none=⟨(x.au.fX a).aJ⟩:=by
 unfold w7 sl
 rw[show(az (a:Int)).g9 0 (jI x.au.aq)=a from(m7 _ a).trans (aV (by rw[dh];exact h))]
 show(⟨((x.au.fX a).eL (x.au.aq - a)).aJ⟩:Str)=_
 rw[ak.dW (by rw[ak.gX];exact bz _)]
theorem J6(x:Str)(a b:Nat)(h:a<=b)(hb:b<=x.aq):w7 x (az (a:Int)) (az (b:Int))=⟨((x.au.eL b).fX a).aJ⟩:=by
 unfold w7 sl
 rw[show(az (a:Int)).g9 0 (jI x.au.aq)=a from(m7 _ a).trans (aV (by rw[dh];exact aA h hb)),show(az (b:Int)).g9 x.au.aq (jI x.au.aq)=b from(m7 _ b).trans (aV (by rw[dh];exact hb)),ak.drop_take]
theorem Vn(a b:Nat):vf (.str ⟨#[a]⟩) (.str ⟨#[b]⟩)=(a==b):=by
 show((⟨#[a]⟩:Str)==⟨#[b]⟩)=_
 by_cases h:a=b
 ·subst h;rw[cU,cU]
 ·rw[eK h];exact eK (λe=>h (by injection e with e;injection e with e;injection e))
theorem Mj(cs:ak Nat)(k:Nat):((p9 λk=>V.str ⟨#[k]⟩).any λy=>vf y (.str ⟨#[k]⟩))=decide (k∈cs):=by
 rw[ak.any_map]
 induction cs with
 |nil=>rfl
 |br a cs ih=>
  rw[ak.any_cons,ih]
  show(vf (.str ⟨#[a]⟩) (.str ⟨#[k]⟩)||_)=_
  rw[Vn]
  by_cases h:a=k
  ·subst h;simp
  ·simp[h,Ne.symm h]
theorem Cp(cs:ak Nat):(p9 λk=>V.str ⟨#[k]⟩).all jU=true:=by
 rw[ak.all_map];exact ak.rP.mpr λz9 z9=>rfl
def pchar(cs:ak Nat)(op:aM)(k:Nat):aM:=decide (k∈cs)==op
def jV(ys:ak Str):ak Nat:=(ys.map λy=>y.au).flatten
theorem wY(ys:ak Str)(l:ak Nat):jV (ys++[⟨l.aJ⟩])=jV ys++l:=by simp[jV]
theorem nT(ys:ak Str):(ys.map (·.aq)).sum=(jV ys).aq:=by
 unfold jV
 rw[ak.length_flatten,ak.pN]
 congr 1
theorem q7:∀(ys:ak Str),Txt.join (aj "") ys=⟨(jV ys).aJ⟩:=by
 intro ys
 rw[<-Eg (d:=⟨#[]⟩) rfl]
 unfold Txt.join
 rw[xA.glued_eq_join]
 induction ys with
 |nil=>rfl
 |br y r ih=>
  cases r with
  |nil=>
   show y=_
   simp[jV]
  |br z r=>
   show y++⟨#[]⟩++Str.join ⟨#[]⟩ (z::r)=_
   rw[ih]
   show(⟨y.cps++#[]++(jV (z::r)).aJ⟩:Str)=_
   simp[jV]
theorem At.move{x:Str}{s:SV}{u cC:Nat}{pre post:ak Nat}(h:At x s u cC pre post){e:Nat}(h1:iy<=e)(h2:e<=iz.aq):At x (Af s e) (u+(e - iy)) cC pre post:=by
 haveI q:=h.bump h2
 rwa [show pre.aq+e=u+(e - iy) by rw[h.u,dJ,kB h1]]at q
def QU(cs:ak Nat)(op:aM)(e:aH V):Loc:=[(aj "self",az (.cR 166 1)),(aj "characters",az (.tup (p9 λk=>.str ⟨#[k]⟩))),(aj "opposite",az (.bF op)),(aj "rv",az (.lo 0)),(aj "end",e),(aj "r",none)]
def yj(cs:ak Nat)(op:aM)(x:Str)(u:Nat):ak Nat:=(x.au.fX u).jX (pchar cs op)
def U1(cs:ak Nat)(op:aM)(o0:AO)(R:ak AO)(x:Str)(u cC:Nat)(z1:Loc)(z2:ak AO)(z3:ak AO):Prop:=∀G:Loc->ak AO->ak AO->Prop,(∀(s:SV)(pre post:ak Nat)(ys:ak Str)(e:aH V)(hj:jV ys=yj cs op x u)(a:At x s (u+(yj cs op x u).aq) cC pre post)(hy:ys.aq<=x.aq+2),G (QU cs op e) [.aR (ys.map .str)] (o0::sD s::sT x s::sE s::R))->G z1 z2 z3
theorem U1.mk{cs:ak Nat}{op:aM}{o0:AO}{R:ak AO}{x:Str}{u cC:Nat}(s:SV)(pre post:ak Nat)(ys:ak Str)(e:aH V)(hj:jV ys=yj cs op x u)(a:At x s (u+(yj cs op x u).aq) cC pre post)(hy:ys.aq<=x.aq+2):U1 cs op o0 R x u cC (QU cs op e) [.aR (ys.map .str)] (o0::sD s::sT x s::sE s::R):=λz9 z=>z s pre post ys e hj a hy
def U2(cs:ak Nat)(op:aM)(o0:AO)(R:ak AO)(x:Str)(u cC k:Nat)(z1:Loc)(z2:ak AO)(z3:ak AO):Prop:=∀G:Loc->ak AO->ak AO->Prop,(∀(s:SV)(pre post:ak Nat)(ys:ak Str)(e:aH V)(a:At x s (u+(jV ys).aq) cC pre post)(hj:jV ys++yj cs op x (u+(jV ys).aq)=yj cs op x u)(hk:x.aq - s.p<k)(hy:ys.aq+(x.aq - s.p)<=x.aq+1),G (QU cs op e) [.aR (ys.map .str)] (o0::sD s::sT x s::sE s::R))->G z1 z2 z3
theorem U2.mk{cs:ak Nat}{op:aM}{o0:AO}{R:ak AO}{x:Str}{u cC k:Nat}(s:SV)(pre post:ak Nat)(ys:ak Str)(e:aH V)(a:At x s (u+(jV ys).aq) cC pre post)(hj:jV ys++yj cs op x (u+(jV ys).aq)=yj cs op x u)(hk:x.aq - s.p<k)(hy:ys.aq+(x.aq - s.p)<=x.aq+1):U2 cs op o0 R x u cC k (QU cs op e) [.aR (ys.map .str)] (o0::sD s::sT x s::sE s::R):=λz9 z=>z s pre post ys e a hj hk hy
structure Up(cs:ak Nat)(op:aM)(s:SV)(e:Nat):Prop where
 g1:iy<=e
 g2:e<=iz.aq
 g3:∀q∈(iz.au.eL e).fX iy,pchar cs op q=true
def U3(cs:ak Nat)(op:aM)(s:SV)(T W:ak AO)(k:Nat)(z1:Loc)(z2:ak AO)(z3:ak AO):Prop:=∀G:Loc->ak AO->ak AO->Prop,(∀(e:Nat)(g:Up cs op s e)(hk:k=iz.aq - e),G (QU cs op (az (.int e))) T W)->G z1 z2 z3
theorem U3.mk{cs:ak Nat}{op:aM}{s:SV}{T W:ak AO}{k:Nat}(e:Nat)(g:Up cs op s e)(hk:k=iz.aq - e):U3 cs op s T W k (QU cs op (az (.int e))) T W:=λz9 z=>z e g hk
def U4(cs:ak Nat)(op:aM)(s:SV)(T W:ak AO)(z1:Loc)(z2:ak AO)(z3:ak AO):Prop:=∀G:Loc->ak AO->ak AO->Prop,(∀(e:Nat)(g:Up cs op s e)(g4:e=iz.aq\/∃q,iz.au[e]?=az q/\pchar cs op q=false),G (QU cs op (az (.int e))) T W)->G z1 z2 z3
theorem U4.mk{cs:ak Nat}{op:aM}{s:SV}{T W:ak AO}(e:Nat)(g:Up cs op s e)(g4:e=iz.aq\/∃q,iz.au[e]?=az q/\pchar cs op q=false):U4 cs op s T W (QU cs op (az (.int e))) T W:=λz9 z=>z e g g4
def U5(cs:ak Nat)(op:aM)(e:Nat)(T W:ak AO)(z1:Loc)(z2:ak AO)(z3:ak AO):Prop:=∀G:Loc->ak AO->ak AO->Prop,(G (QU cs op (az (.int e))) T W)->G z1 z2 z3
theorem U5.mk{cs:ak Nat}{op:aM}{e:Nat}{T W:ak AO}:U5 cs op e T W (QU cs op (az (.int e))) T W:=λz9 z=>z
theorem Up.start{cs:ak Nat}{op:aM}{s:SV}(h:iy<=iz.aq):Up cs op s iy:=⟨bz _,h,λq hq=>(by rw[ak.pP (by rw[ak.eX];exact oZ ..)]at hq;cases hq)⟩
theorem Up.next{cs:ak Nat}{op:aM}{s:SV}{e q:Nat}(g:Up cs op s e)(hq:iz.au[e]?=az q)(hp:pchar cs op q=true):Up cs op s (e+1):=by
 have hel:e<iz.aq:=by rw[<-dh];exact(ak.cz hq).1
 refine⟨fR g.g1,hel,λq' XY=>?_⟩
 rw[ak.jM,hq,ak.jJ (by rw[ak.eX,dh,aV g.g2];exact g.g1)]at XY
 rcases ak.cJ XY with hm|hm
 ·exact g.g3 q' hm
 ·cases ak.bR hm;exact hp
theorem Up.tw{cs:ak Nat}{op:aM}{s:SV}{e:Nat}{x:Str}{u cC:Nat}{pre post:ak Nat}(g:Up cs op s e)(a:At x s u cC pre post):yj cs op x u=(iz.au.eL e).fX iy++(iz.au.fX e++x.au.fX s.p).jX (pchar cs op):=by
 haveI hR:x.au.fX u=(iz.au.eL e).fX iy++(iz.au.fX e++x.au.fX s.p):=by
  rw[<-a.aU]
  unfold A4
  rw[<-ak.cV]
  congr 1
  conv=>lhs;rw[<-ak.take_append_drop e iz.au]
  rw[ak.jJ (by rw[ak.eX,dh,aV g.g2];exact g.g1)]
 unfold yj
 rw[hR];exact ak.takeWhile_append_of_pos g.g3
theorem Up.stop{cs:ak Nat}{op:aM}{s:SV}{e:Nat}{x:Str}{u cC:Nat}{pre post:ak Nat}(g:Up cs op s e)(a:At x s u cC pre post)(h:∃q,iz.au[e]?=az q/\pchar cs op q=false):yj cs op x u=(iz.au.eL e).fX iy:=by
 refine gg h λq hq hp=>?_;clear h
 refine eO (ak.cz hq) λlM XY=>?_
 rw[g.tw a,ak.jY lM,XY,ak.p7,ak.jz (by rw[hp];decide),ak.eu]
theorem Up.seg{cs:ak Nat}{op:aM}{s:SV}{e:Nat}(g:Up cs op s e):((iz.au.eL e).fX iy).aq=e - iy:=by rw[ak.gX,ak.eX,dh,aV g.g2]
theorem Up.all{cs:ak Nat}{op:aM}{s:SV}{x:Str}{u cC:Nat}{pre post:ak Nat}(g:Up cs op s iz.aq)(a:At x s u cC pre post):At x (rM x s) (u+(iz.aq - iy)) cC (pre++iz.au) []/\yj cs op x u=iz.au.fX iy++yj cs op x (u+(iz.aq - iy))/\((lX x s).aq=0->yj cs op x (u+(iz.aq - iy))=[]):=by
 haveI am:=a.move a.ok.off (bz _)
 haveI af:At x (rM x s) (u+(iz.aq - iy)) cC (pre++iz.au) []:=am.fill (cQ _)
 haveI hte:iz.au.eL iz.aq=iz.au:=ak.dW (by rw[dh];exact bz _)
 haveI hde:iz.au.fX iz.aq=[]:=ak.pP (by rw[dh];exact bz _)
 haveI zW:x.au.fX (u+(iz.aq - iy))=x.au.fX s.p:=by
  rw[<-am.aU]
  unfold A4
  show iz.au.fX iz.aq++_=_
  rw[hde,ak.jw]
  rfl
 refine⟨af,?_,λh0=>?_⟩
 ·have:=g.tw a
  rw[hte,hde,ak.jw,<-zW]at this
  exact this
 ·unfold yj
  haveI hl:=uR a.ok
  rw[zW,<-hl,show(lX x s).au=[] from ak.xZ (by rw[dh];exact h0)];rfl
section
variable{y a x p d k o ch:Nat}
theorem arA:x - p<x+1:=Nat.lt_succ_of_le (lK ..)
theorem arB:0+(x - p)<=x+1:=(dD _).symm▸fR (lK ..)
theorem arC(h:y+a<=x+1)(hx:x<=4000):y<=10000:=by exact(aF λhn=>Lake.n3 [_,_,_] 1 (.a (.n 10000) (.n 1)) (.v 0) 1 (.a (.v 0) (.v 1)) (.a (.v 2) (.n 1)) 1 (.v 2) (.n 4000) rfl hn h hx)
theorem arD(h:ch<=x+8)(hx:x<=4000):ch<=10000:=by exact(aF λhn=>Lake.n3 [_,_] 1 (.a (.n 10000) (.n 1)) (.v 0) 1 (.v 0) (.a (.v 1) (.n 8)) 1 (.v 1) (.n 4000) rfl hn h hx)
theorem arE(h:y+a<=x+1):y+1<=x+2:=by exact(aF λhn=>Lake.n2 [_,_,_] 1 (.a (.a (.v 2) (.n 2)) (.n 1)) (.a (.v 0) (.n 1)) 1 (.a (.v 0) (.v 1)) (.a (.v 2) (.n 1)) rfl hn h)
theorem arF(h:y+(x - p)<=x+1)(hd:d=x - p)(h0:d≠0):y+1+(x - (p+d))<=x+1:=aA (bI (bH (jR h0) y) (aO (by rw[qg,hd,lW]))) (by rw[Nat.add_zero,hd];exact h)
theorem arG(h:x - p<k)(hd:d=x - p)(h0:d≠0):x - (p+d)+1<k:=by rw[qg,hd,lW,dD];exact b9 (jR (hd▸h0)) h
theorem arH(h:y<=x+2)(hx:x<=4000)(ha:a<=x):a+y<=1048576:=by exact(aF λhn=>Lake.n4 [_,_,_] 1 (.a (.n 1048576) (.n 1)) (.a (.v 2) (.v 0)) 1 (.v 0) (.a (.v 1) (.n 2)) 2 (.v 1) (.n 4000) 1 (.v 2) (.v 1) rfl hn h hx ha)
end
theorem Gx{ys:ak Str}{y:Str}:ys.map V.str++[V.str y]=(ys++[y]).map V.str:=by rw[ak.ie];rfl
section
variable{cs:List Nat}{op:Bool}{x:Str}{u:Nat}{ys:List Str}{l:List Nat}
theorem J7(h:jV ys++yj cs op x (u+(jV ys).aq)=yj cs op x u)(hl:yj cs op x (u+(jV ys).aq)=l):jV (ys++[⟨l.aJ⟩])=yj cs op x u:=by rw[wY,<-h,hl]
theorem Gy(h:jV (ys++[⟨l.aJ⟩])=yj cs op x u):u+(yj cs op x u).aq=u+(jV ys).aq+l.aq:=by rw[<-h,wY,ak.aX,dJ]
theorem XZ(h:u<=x.aq):(yj cs op x u).aq<=x.aq:=aA ((ak.xH _).length_le) (by rw[ak.gX,dh];exact lK ..)
end
theorem lC(c:Cx)(hK:gM=top.heap_1 aL){o0 d t e:AO}{R:ak AO}{x:Str}{u b cC:Nat}(h:j8 x u b cC d t e)(cs:ak Nat)(op:aM){vs:ak V}(hvs:vs=[.cR 166 1,.tup (p9 λk=>.str ⟨#[k]⟩),.bF op]\/(vs=[.cR 166 1,.tup (p9 λk=>.str ⟨#[k]⟩)]/\op=false)):
  gj c 4 (.ref 156) vs [] (RS o0 R x (u+(yj cs op x u).aq) 0 cC (.str ⟨(yj cs op x u).aJ⟩)) (λz9=>cM) (o0::d::t::e::R):=by
 revert hK h hvs
 revert c o0 d t e R x u b cC cs op vs
 intros c o0 d t e R x u b cC cs op vs
 intro hK h hvs
 apply h;clear h;intro s pre post a hb0
 haveI hb:∀fd:kR,∀o,(top.heap_1 aL).eF 156=az o->o.f9=.w4 fd->xw c fd vs [] [(aj "self",.cR 166 1),(aj "characters",.tup (p9 λk=>.str ⟨#[k]⟩)),(aj "opposite",.bF op)]:=λfd o ho hd=>by
  cases ho
  cases hd
  rcases hvs with rfl|⟨rfl,rfl⟩
  ·exact bd3 (xs:=[.bF false]) hK rfl (by kernel_rfl) (λz9 z9 z9=>rfl) .nil
  ·exact bd2 (xs:=[.bF false]) hK rfl (by kernel_rfl) (λz9 z9=>rfl) (.br ⟨rfl,u0.of rfl⟩ .nil)
 refine pF (bs:=[(aj "self",.cR 166 1),(aj "characters",.tup (p9 λk=>.str ⟨#[k]⟩)),(aj "opposite",.bF op)]) (cG:=[aj "rv",aj "end",aj "r"]) hK (nK hK) rfl rfl rfl (by kernel_rfl) (by kernel_rfl) (hb _ _ rfl rfl) ?_
 intro κ hf hQ hN hX
 refine cX 4 (m':=.ex _ _ _ _) rfl rfl ?_
 refine zH (U1 cs op o0 R x u cC) ?_ ?_
 ·intro mF kn kr kb kc kx ke
  refine zI (λk=>U2 cs op o0 R x u cC k) (x.aq+1) (.mk s pre post ([]) none a rfl arA arB) ?_
  intro k _ _ _ h ait tn tc tb tr
  apply h;clear h;intro s' Mk J8 ys e a' hj hk hy
  refine cX 5 (m':=.ex _ _ _ _) rfl rfl ?_
  haveI jW:s'.off<=s'.ch.aq:=a'.ok.off
  haveI Zf:(ys.map V.str).aq<=10000:=by rw[ak.bT];exact arC hy a'.ok.hx
  haveI hcl:s'.ch.aq<=10000:=arD a'.ok.ch a'.ok.hx
  refine zH (U4 cs op s' [.aR (ys.map .str)] (o0::sD s'::sT x s'::sE s'::R)) ?_ ?_
  ·intro QV en er eb ec ex ke
   refine zI (U3 cs op s' [.aR (ys.map .str)] (o0::sD s'::sT x s'::sE s'::R)) (s'.ch.aq - s'.off) (.mk _ (.start jW) rfl) ?_
   intro k' _ _ _ h κ4 wn wc wb wr
   apply h;clear h;intro e g Dq
   refine OP ?_
   refine cX 2 (m':=.rt _ _ _ _ _) rfl rfl ?_
   by_cases ge:e=s'.ch.aq
   ·refine vb (b':=false) (by rw[ge];exact bne_self_eq_false' _) ?_
    refine cX 1 (m':=.rt _ _ _ _ _) rfl rfl ?_
    exact yx (wb _ _ _ (gU (en _ _ _ (.mk e g (.inl ge)))))
   ·haveI hel:e<s'.ch.aq:=wL g.g2 ge
    refine vb (b':=true) (nD.mpr λq=>ge (uD q)) ?_
    refine cX 2 (m':=.te _ _ _ _ _) rfl rfl ?_
    refine JW rfl ?_
    refine aex rfl ?_
    refine mq 1 (m':=.rt _ _ _ _ _) rfl rfl ?_ ?_
    ·exact je hel hcl
    obtain⟨q,hq⟩:∃q,s'.ch.au[e]?=az q:=⟨_,ak.bk (by rw[dh];exact hel)⟩
    haveI hqd:s'.ch.au.xV (zo s'.ch.aq (e:Int)) 0=q:=by rw[tD,ak.iY,hq];rfl
    rw[hqd]
    refine cX 2 (m':=.rt _ _ _ _ _) rfl rfl ?_
    refine vin (Cp cs) rfl ?_
    rw[Mj]
    refine cX 4 (m':=.rt _ _ _ _ _) rfl rfl ?_
    cases hp:(decide (q∈cs)==op)with
    |true=>
     refine cX 4 (m':=.ex _ _ _ _) rfl rfl ?_
     exact gU (wn _ _ _ _ (by rw[Dq];exact qj _ _ hel) (.mk (e+1) (g.next hq hp) rfl))
    |false=>exact yx (wb _ _ _ (gU (en _ _ _ (.mk e g (.inr ⟨q,hq,hp⟩)))))
  ·intro _ _ _ h
   apply h;clear h;intro e g g4
   refine zH (λl T W=>U5 cs op e [.aR (ys.map .str)] (o0::sD s'::sT x s'::sE s'::R) l T W/\e=s'.ch.aq) ?_ ?_
   ·intro QV en er eb ec ex ke
    refine cX 2 (m':=.rt _ _ _ _ _) rfl rfl ?_
    by_cases eo:e=s'.off
    ·refine vb (b':=true) (by rw[eo];exact cU _) ?_
     refine cX 3 (m':=.rt _ _ _ _ _) rfl rfl ?_
     by_cases hn:s'.off=s'.ch.aq
     ·refine vb (b':=false) (by rw[hn];exact bne_self_eq_false' _) ?_
      refine cX 1 (m':=.ex _ _ _ _) rfl rfl ?_
      exact gU (en _ _ _ ⟨(.mk),eo.trans hn⟩)
     ·refine vb (b':=true) (nD.mpr λq=>hn (uD q)) ?_
      refine cX 1 (m':=.ex _ _ _ _) rfl rfl ?_
      haveI htw:=g.stop a' (g4.resolve_left λq=>hn (eo▸q))
      haveI hz:=ak.xZ (g.seg.trans (by rw[eo];exact lW _))
      haveI Vo:jV ys=yj cs op x u:=by rw[<-hj,htw,hz,ak.eu]
      exact El (eb _ _ _ (tb _ _ _ (gU (kn _ _ _ (.mk s' Mk J8 ys _ Vo (Vo▸a') (Nat.le_of_succ_le (arE hy)))))))
    ·refine vb (b':=false) (eK λq=>eo (uD q)) ?_
     refine cX 3 (m':=.rt _ _ _ _ _) rfl rfl ?_
     by_cases J9:e=s'.ch.aq
     ·refine vb (b':=false) (by rw[J9];exact bne_self_eq_false' _) ?_
      refine cX 1 (m':=.ex _ _ _ _) rfl rfl ?_
      exact gU (en _ _ _ ⟨(.mk),J9⟩)
     ·refine vb (b':=true) (nD.mpr λq=>J9 (uD q)) ?_
      refine go2 14 (m':=.ex _ _ _ _) rfl rfl ?_ ?_ ?_
      ·exact hcl
      ·exact Zf
      haveI Vo:=J7 hj (g.stop a' (g4.resolve_left J9))
      rw[J6 s'.ch s'.off e g.g1 g.g2,Gx]
      refine El (eb _ _ _ (tb _ _ _ (gU (kn _ _ _ (.mk (Af s' e) Mk J8 _ _ Vo ?_ (by rw[ak.aX];exact arE hy))))))
      rw[Gy Vo,g.seg]
      exact a'.move g.g1 g.g2
   ·rintro _ _ _ ⟨h,J9⟩
    subst J9
    apply h;clear h
    refine go2 17 (m':=.cl _ _ _ _ _ _) rfl rfl ?_ ?_ ?_
    ·exact hcl
    ·exact Zf
    refine fW (IL c hK a'.ok) rfl rfl ?_
    refine cX 2 (m':=.rt _ _ _ _ _) rfl rfl ?_
    rw[Gw s'.ch s'.off jW,Gx]
    refine zN (g.all a') λaf htw h00=>?_
    haveI X0:(s'.ch.au.fX s'.off).aq=s'.ch.aq - s'.off:=by rw[ak.gX,dh]
    by_cases K1:(lX x s').aq=0
    ·refine vb (b':=true) (by rw[K1];rfl) ?_
     refine cX 1 (m':=.ex _ _ _ _) rfl rfl ?_
     haveI Vo:=J7 hj (by rw[htw,h00 K1,ak.eu])
     refine El (tb _ _ _ (gU (kn _ _ _ (.mk (rM x s') (Mk++s'.ch.au) ([]) _ _ Vo ?_ (by rw[ak.aX];exact arE hy)))))
     rw[Gy Vo,X0]
     exact af
    ·refine vb (b':=false) (by rw[show((lX x s').aq !=0)=true from nD.mpr K1];rfl) ?_
     refine cX 1 (m':=.ex _ _ _ _) rfl rfl ?_
     haveI hsd:=yZ a'.ok
     refine gU (tn (x.aq - (s'.p+(lX x s').aq)+1) _ _ _ (arG hk hsd K1) (.mk (rM x s') (Mk++s'.ch.au) ([]) _ _ ?_ ?_ (dY _) ?_))
     ·rw[wY,ak.aX,X0,<-dJ];exact af
     ·rw[wY,ak.aX,X0,<-dJ,ak.cV,<-htw];exact hj
     ·rw[ak.aX]
      exact arF hy hsd K1
 ·intro _ _ _ h
  apply h;clear h;intro s' Mk J8 ys e hj a' hy
  haveI lM:(jV ys).aq<=x.aq:=hj▸XZ a.ule
  refine cX 8 (m':=.cl _ _ _ _ _ _) rfl rfl ?_
  refine yw (ys:=ys) (.lo rfl) (by decide) (by rw[nT];exact arH hy a'.ok.hx lM) ?_
  rw[q7,hj]
  refine cX 3 (m':=.rt _ _ _ _ _) rfl rfl ?_
  exact hQ _ _ _ _ _ (.eG rfl) (.mk (.mk s' Mk J8 a' (bC _)))
theorem Ez(c:Cx)(hK:gM=top.heap_1 aL){o0 o1:AO}(x:Str):jO c 3 112 [.cR 166 1,.str x] [o0,o1] (.cR 73 2) [o0,o1,tM x 0]:=by
 refine pF (bs:=[(aj "self",.cR 166 1),(aj "source",.str x)]) (cG:=[aj "stream"]) hK (nK hK) rfl rfl rfl (by kernel_rfl) (by kernel_rfl) (nU (λs X a b=>bf rfl) .nil) ?_
 intro κ hf hQ hN hX
 refine cX 8 (m':=.cl _ _ _ _ _ _) rfl rfl ?_
 refine Xj hK (fI:=63) (by kernel_rfl) (by kernel_rfl) (by kernel_rfl) rfl rfl rfl (Gn c hK x) rfl ?_
 refine cX 3 (m':=.rt _ _ _ _ _) rfl rfl ?_
 exact hQ _ _ _ _ _ (.eG rfl) ⟨rfl,rfl⟩
theorem Tc(c:Cx)(hK:gM=top.heap_1 aL){o0 t:AO}:jO c 1 105 [.cR 166 1] [o0,.bO [(aj "reportCharacterErrors",.meth (.ref 148) (.cR 166 1)),(aj "newLines",.aR [.int 0]),(aj "dataStream",.cR 73 2)],t] .none [o0,vM (aj "") 0 0 0 0,t,.aR []]:=by
 refine pF (bs:=[(aj "self",.cR 166 1)]) (cG:=[]) hK (nK hK) rfl rfl rfl (by kernel_rfl) (by kernel_rfl) (gz (λs X a=>bf rfl) .nil) ?_
 intro κ hf hQ hN hX
 refine cX 22 (m':=.ex _ _ _ _) rfl rfl ?_
 exact gU (hN _ _ _ ⟨rfl,rfl⟩)
theorem Dd(c:Cx)(hK:gM=top.heap_1 aL){o0:AO}(x:Str):jO c 4 98 [.cR 166 1,.str x] [o0,.bO []] .none [o0,vM (aj "") 0 0 0 0,tM x 0,.aR []]:=by
 refine pF (bs:=[(aj "self",.cR 166 1),(aj "source",.str x)]) (cG:=[]) hK (nK hK) rfl rfl rfl (by kernel_rfl) (by kernel_rfl) (nU (λs X a b=>bf rfl) .nil) ?_
 intro κ hf hQ hN hX
 refine cX 18 (m':=.cl _ _ _ _ _ _) rfl rfl ?_
 refine fW (Ez c hK x) rfl rfl ?_
 refine cX 6 (m':=.cl _ _ _ _ _ _) rfl rfl ?_
 refine fW (Tc c hK) rfl rfl ?_
 refine cX 1 (m':=.ex _ _ _ _) rfl rfl ?_
 exact gU (hN _ _ _ ⟨rfl,rfl⟩)
def Pc(st ct:V):ak (Str×V):=[(aj "stream",.cR 166 1),(aj "parser",.none),(aj "escapeFlag",.bF false),(aj "lastFourChars",.aR []),(aj "state",st),(aj "escape",.bF false),(aj "currentToken",ct)]
abbrev vO(f:aQ):V:=.meth (.ref f) (.cR 762 0)
theorem IP(c:Cx)(hK:gM=top.heap_1 aL)(x:Str):jO c 6 261 [.cR 762 0,.str x] [.bO []] .none [.bO (Pc (vO 304) .none),vM (aj "") 0 0 0 0,tM x 0,.aR []]:=by
 refine pF (bs:=[(aj "self",.cR 762 0),(aj "stream",.str x),(aj "parser",.none)]) (cG:=[]) hK (nK hK) rfl rfl rfl (by kernel_rfl) (by kernel_rfl) (bd2 (xs:=[.none]) hK rfl (by kernel_rfl) (λz9 z9=>rfl) (.br ⟨rfl,u0.of rfl⟩ .nil)) ?_
 intro κ hf hQ hN hX
 refine cX 8 (m':=.cl _ _ _ _ _ _) rfl rfl ?_
 refine Xj hK (fI:=98) (by kernel_rfl) (by kernel_rfl) (by kernel_rfl) rfl rfl rfl (Dd c hK x) rfl ?_
 refine cX 20 (m':=.ex _ _ _ _) rfl rfl ?_
 exact gU (hN _ _ _ ⟨rfl,rfl⟩)
def Gz(qB:ak Str)(key:Str):Nat->Nat->Nat->Nat
 |0,lo,_=>lo
 |f+1,lo,hi=>if lo<hi then
   let mid:=(lo+hi)/2
   if(qB[mid]?.xV default).au<key.au then Gz qB key f (mid+1) hi else Gz qB key f lo mid
  else lo
theorem Cq(qB:ak Str)(key:Str)(f lo hi:Nat):Gz qB key (f+1) lo hi=if lo<hi then(if(qB[(lo+hi)/2]?.xV default).au<key.au then Gz qB key f ((lo+hi)/2+1) hi else Gz qB key f lo ((lo+hi)/2))else lo:=rfl
theorem Pd{lo hi:Nat}(h:lo<hi):lo<=(lo+hi)/2/\(lo+hi)/2<hi:=
 ⟨(Nat.le_div_iff_mul_le (by decide)).mpr (by rw[Nat.mul_two];exact bH (fP h) lo),(Nat.div_lt_iff_lt_mul (by decide)).mpr (by rw[Nat.mul_two];exact Nat.add_lt_add_right h hi)⟩
set_option tactic.hygienic true in
theorem X3{qB:ak Str}{key:Str}(f:Nat):∀{lo hi:Nat},lo<=hi->Gz qB key f lo hi<=hi:=by
 induction f with
 |lO=>exact λh=>h
 |kU f ih=>
  intro lo hi h
  rw[Cq]
  split
  ·rename_i h'
   refine iU (Pd h') λq1 q2=>?_
   split
   ·exact ih q2
   ·exact aA (ih q1) (fP q2)
  ·exact h
def lcB(qB:ak Str)(key:Str)(lo hi:Nat)(m:aH V):Loc:=[(aj "rows",az (.aR (qB.map .str))),(aj "key",az (.str key)),(aj "low",az (.int lo)),(aj "high",az (.int hi)),(aj "middle",m)]
def BI(qB:ak Str)(key:Str)(r:Nat)(W:ak AO)(k:Nat)(z1:Loc)(z2:ak AO)(z3:ak AO):Prop:=∀G:Loc->ak AO->ak AO->Prop,(∀(lo hi:Nat)(m:aH V)(g1:hi<=qB.aq)(g2:lo<=hi)(g3:hi - lo<=k)(g4:Gz qB key k lo hi=r),G (lcB qB key lo hi m) [] W)->G z1 z2 z3
theorem BI.mk{qB:ak Str}{key:Str}{r:Nat}{W:ak AO}{k:Nat}(lo hi:Nat)(m:aH V)(g1:hi<=qB.aq)(g2:lo<=hi)(g3:hi - lo<=k)(g4:Gz qB key k lo hi=r):BI qB key r W k (lcB qB key lo hi m) [] W:=λz9 z=>z lo hi m g1 g2 g3 g4
theorem X4{lo hi n k:Nat}(h:lo<hi)(h1:hi<=n)(h3:hi - lo<=k+1):(lo+hi)/2<n/\(lo+hi)/2+1<=hi/\hi - ((lo+hi)/2+1)<=k/\lo<=(lo+hi)/2/\(lo+hi)/2 - lo<=k:=by
 refine iU (Pd h) λhl hm=>?_
 exact⟨bh hm h1,hm,aA (Nat.sub_le_sub_left (dZ hl) hi) (Nat.sub_le_iff_le_add.mpr (aA (Nat.sub_le_iff_le_add.mp h3) (aO (by rw[dJ,eZ 1 lo])))),hl,fC (bh (Nat.sub_lt_sub_right hl hm) h3)⟩
theorem abQ(a b:Nat):((a:Int)+b).xU 2=(((a+b)/2:Nat):Int):=by rw[Int.fdiv_eq_ediv_of_nonneg _ (by decide)];rfl
theorem abR(a:Int):(2:Int)≠0/\dI.u5 a 2=false:=⟨by decide,PyProof.noPylong_small (by decide)⟩
theorem Pe(c:Cx)(hK:gM=top.heap_1 aL)(qB:ak Str)(key:Str)(lo hi f:Nat)(W:ak AO)(h1:hi<=qB.aq)(h2:lo<=hi)(h3:hi - lo<=f)(hz:qB.aq<=10000):
  jO c 1 178 [.aR (qB.map .str),.str key,.int lo,.int hi] W (.int (Gz qB key f lo hi)) W:=by
 revert hK h1 h2 h3 hz
 revert c qB key lo hi f W
 intros c qB key lo hi f W
 intro hK h1 h2 h3 hz
 refine pF (bs:=[(aj "rows",.aR (qB.map .str)),(aj "key",.str key),(aj "low",.int lo),(aj "high",.int hi)]) (cG:=[aj "middle"]) hK (nK hK) rfl rfl rfl (by kernel_rfl) (by kernel_rfl) (bd4 (xs:=[.int 0 740,.none]) hK rfl (by kernel_rfl) (λz9 z9 z9 z9=>rfl) .nil) ?_
 intro κ hf hQ hN hX
 refine cX 3 (m':=.ex _ _ _ _) rfl rfl ?_
 refine zI (BI qB key (Gz qB key f lo hi) W) f (.mk lo hi none h1 h2 h3 rfl) ?_
 intro k _ _ _ h mF tn tc tb tr
 apply h;clear h;intro Vp hi' m g1 g2 g3 g4
 refine cX 1 (m':=.rt _ _ _ _ _) rfl rfl ?_
 by_cases h:Vp<hi'
 ·refine vb (cN (dF.mpr h)) ?_
  refine eO (s9 (jK (bh (xE h) g3))) λk' bG=>?_;obtain rfl:=bG
  rw[Cq,bJ h]at g4
  refine YZ (X4 h g1 g3) λq1 q2 q3 q4 q5=>?_
  refine mq 5 (m':=.te _ _ _ _ _) rfl rfl ?_ ?_
  ·exact abR _
  rw[abQ]
  refine JW rfl (Ek ?_)
  refine cX 3 (m':=.rt _ _ _ _ _) rfl rfl ?_
  refine pG (w:=.str qB[(Vp+hi')/2]) ?_ ?_ ?_
  ·rw[ak.bT];exact je q1 hz
  ·rw[tD,ak.iI,ak.bk q1];rfl
  rw[ak.bk q1]at g4
  refine cX 4 (m':=.rt _ _ _ _ _) rfl rfl ?_
  by_cases hc:(qB[(Vp+hi')/2]).au<key.au
  ·rw[bJ (show((az qB[(Vp+hi')/2]).xV default).au<key.au from hc)]at g4
   refine vb (cN hc) ?_
   refine cX 4 (m':=.ex _ _ _ _) rfl rfl ?_
   exact gU (tn k' _ _ _ (dY _) (.mk ((Vp+hi')/2+1) hi' _ g1 q2 q3 g4))
  ·rw[aY (show ¬((az qB[(Vp+hi')/2]).xV default).au<key.au from hc)]at g4
   refine vb (cK hc) ?_
   refine cX 4 (m':=.ex _ _ _ _) rfl rfl ?_
   exact gU (tn k' _ _ _ (dY _) (.mk Vp ((Vp+hi')/2) _ (fP q1) q4 q5 g4))
 ·refine vb (cK λq=>h (dF.mp q)) (yx (tb _ _ _ ?_))
  refine cX 2 (m':=.rt _ _ _ _ _) rfl rfl ?_
  refine hQ _ _ _ _ _ (.eG rfl) ⟨?_,rfl⟩
  rw[<-g4]
  cases k with
  |lO=>rfl
  |kU k=>rw[Cq,aY h]
theorem IQ(p:Str):qb p (aj "")=true:=by
 rw[<-Eg (d:=⟨#[]⟩) rfl]
 unfold qb
 simp[dI.Str.subAt,Str.aq]
def mU(p:Str):aM:=decide (p∈IJ.map (·.1))
def hasB(p:Str):aM:=mU p||(let i:=Gz v7 p 43 0 43;decide (i<43)&&qb (v7[i]?.xV default) p)
theorem IS(c:Cx)(hK:gM=top.heap_1 aL)(p:Str)(W:ak AO):jO c 1 199 [.st (.ref 236),.str p] W (.bF (mU p)) W:=by
 refine pF (bs:=[(aj "self",.st (.ref 236)),(aj "key",.str p)]) (cG:=[]) hK (nK hK) rfl rfl rfl (by kernel_rfl) (by kernel_rfl) (nU (λs X a b=>bf rfl) .nil) ?_
 intro κ hf hQ hN hX
 refine cX 2 (m':=.rt _ _ _ _ _) rfl rfl ?_
 exact hQ _ _ _ _ _ (.eG rfl) ⟨rfl,rfl⟩
theorem Pf:(v7.map V.str).aq=43:=rfl
theorem abS(c:Cx)(hK:gM=top.heap_1 aL)(p:Str)(W:ak AO):jO c 2 220 [.st (.ref 236),.str p] W (.bF (hasB p)) W:=by
 revert hK
 revert c p W
 intros c p W
 intro hK
 refine pF (bs:=[(aj "self",.st (.ref 236)),(aj "prefix",.str p)]) (cG:=[aj "lo",aj "hi",aj "i"]) hK (nK hK) rfl rfl rfl (by kernel_rfl) (by kernel_rfl) (nU (λs X a b=>bf rfl) .nil) ?_
 intro κ hf hQ hN hX
 refine cX 2 (m':=.rt _ _ _ _ _) rfl rfl ?_
 cases hp:mU p with
 |true=>
  refine vb hp ?_
  refine cX 3 (m':=.rt _ _ _ _ _) rfl rfl ?_
  exact hQ _ _ _ _ _ (.eG rfl) ⟨by unfold hasB;rw[hp];rfl,rfl⟩
 |false=>
  refine vb hp ?_
  refine cX 12 (m':=.rt _ _ _ _ _) rfl rfl ?_
  refine vb (IQ p) ?_
  refine cX 24 (m':=.cl _ _ _ _ _ _) rfl rfl ?_
  refine fW (Pe c hK v7 p 0 43 43 _ (by decide) (by decide) (by decide) (by decide)) rfl (by kernel_rfl) ?_
  haveI hb:Gz v7 p 43 0 43<=43:=X3 43 (by decide)
  refine mq 15 (m':=.rt _ _ _ _ _) rfl rfl ?_ ?_
  ·exact aD rfl
  rw[Pf]
  by_cases h43:Gz v7 p 43 0 43=43
  ·refine vb (b':=true) (by rw[h43];rfl) ?_
   refine cX 3 (m':=.rt _ _ _ _ _) rfl rfl ?_
   refine hQ _ _ _ _ _ (.eG rfl) ⟨?_,rfl⟩
   unfold hasB
   rw[hp,h43]
   rfl
  ·haveI lM:Gz v7 p 43 0 43<v7.aq:=wL hb h43
   refine vb (b':=false) (eK λq=>h43 (uD q)) ?_
   refine cX 3 (m':=.ev _ _ _ _ _) rfl rfl ?_
   refine Ek ?_
   refine cX 3 (m':=.rt _ _ _ _ _) rfl rfl ?_
   refine pG (w:=.str v7[Gz v7 p 43 0 43]) ?_ ?_ ?_
   ·rw[Pf];exact je lM (by decide)
   ·rw[tD,ak.iI,ak.bk lM];rfl
   refine cX 6 (m':=.rt _ _ _ _ _) rfl rfl ?_
   refine hQ _ _ _ _ _ (.eG rfl) ⟨?_,rfl⟩
   unfold hasB
   dsimp only
   rw[hp,ak.bk lM,cN (show Gz v7 p 43 0 43<43 from lM)]
   rfl
theorem GB{c:Cx}(hK:gM=top.heap_1 aL){n:Nat}{sc:gO}{κ:Ct c sc Ze}{ks:ak Fr}{l:Loc}{T W:ak AO}{p:Str}(q:Vd (n+1) κ (.rt (.bF (mU p)) ks l T W)):Vd (n+1) κ (.rt (.st (.ref 236)) (.cmp .In (.str p)::ks) l T W):=by
 refine uE (Eu hK) λes h0 h1 jd=>?_
 refine Ou (C:=230) (f:=199) h0 h1 (by rw[hK];kernel_rfl) (by rw[hK];kernel_rfl) ?_
 refine BE κ.he rfl (((IS c hK p W).up (dZ (bC _))).eW ?_ λz9 x=>x.g9)
 rintro _ _ ⟨rfl,rfl⟩
 exact⟨_,rfl,q⟩
def pM(m:Nat)(p:Str):Str:=⟨(p.au.eL m).aJ⟩
def qH(p:Str):Nat->aH Nat
 |0=>none
 |b+1=>if mU (pM b p)then az b else qH p b
theorem Vq{x:Int}(h:0<=x)(h2:x<100000):dI.vG x=true:=by
 show(decide _&&decide _)=true
 rw[cN (qz (by decide) h),cN (Int.wC h2 (by decide))];rfl
theorem Cr{n:Nat}:dI.jL 1 ((n:Int)+1) 1=n:=by
 unfold dI.jL
 rw[bJ (by decide)]
 cases n with
 |lO=>rfl
 |kU k=>rw[bJ (Int.lt_add_of_pos_left 1 (Int.natCast_pos.mpr (cD k))),Int.add_sub_cancel,Int.ediv_one,Int.sub_add_cancel]
theorem GC{n:Nat}(h:n<=10000):dI.ni 1 ((n:Int)+1) 1=true:=by
 haveI f1:dI.vG 1=true:=by decide
 haveI f2:dI.vG ((n:Int)+1)=true:=Vq (cH (n+1)) (dF.mpr (b9 (dZ h) (by decide)))
 haveI f3:dI.vG (n:Int)=true:=Vq (cH n) (dF.mpr (b9 h (by decide)))
 unfold dI.ni
 rw[Cr,f1,f2,f3,bJ (by decide),show(n:Int)+1+(1 - 1)=n+1 from Int.add_zero _,f2,aM.or_true]at⊢;rfl
theorem DH(p:Str):pM p.aq p=p:=by
 unfold pM
 rw[ak.dW (by rw[dh];exact bz _)]
theorem Pg{n j:Nat}(hj:j<n):jI n (-((1:Int)+(j:Nat)))=n - 1 - j:=by
 rw[show((1:Int)+(j:Nat))=((1+j:Nat):Int) from rfl,FG (aA (aO (eZ 1 j)) hj) (bh Nat.one_pos (cu 1 j)),Nat.sub_sub]
theorem Ph(p:Str)(j:Nat)(hj:j<p.aq):w7 p none (az (-((1:Int)+(j:Nat))))=pM (p.aq - 1 - j) p:=by
 unfold w7 sl pM
 haveI e2:(az (-((1:Int)+(j:Nat)))).g9 p.au.aq (jI p.au.aq)=p.aq - 1 - j:=by
  rw[dh];exact Pg hj
 rw[e2];rfl
def LI(p:Str)(W:ak AO)(k:Nat)(z1:Loc)(z2:ak AO)(z3:ak AO):Prop:=∀G:Loc->ak AO->ak AO->Prop,(∀(iv:aH V)(h:qH p (p.aq+1)=qH p (p.aq - k)),G [(aj "self",az (.st (.ref 236))),(aj "prefix",az (.str p)),(aj "i",iv)] [] W)->G z1 z2 z3
theorem LI.mk{p:Str}{W:ak AO}{k:Nat}(iv:aH V)(h:qH p (p.aq+1)=qH p (p.aq - k)):LI p W k [(aj "self",az (.st (.ref 236))),(aj "prefix",az (.str p)),(aj "i",iv)] [] W:=λz9 z=>z iv h
def LR(p:Str)(W:ak AO)(z1:V)(z2:ak AO):Prop:=∀G:V->ak AO->Prop,(∀(m:Nat)(h:qH p (p.aq+1)=az m),G (.str (pM m p)) W)->G z1 z2
theorem LR.mk{p:Str}{W:ak AO}(m:Nat)(h:qH p (p.aq+1)=az m):LR p W (.str (pM m p)) W:=λz9 z=>z m h
theorem Ml{p:Str}{k:Nat}(hl:k<p.aq):qH p (p.aq - k)=if mU (pM (p.aq - 1 - k) p)then az (p.aq - 1 - k)else qH p (p.aq - (k+1)):=by
 obtain⟨b,hb⟩:∃b,p.aq - k=b+1:=⟨_,(Nat.succ_pred_eq_of_pos (xE hl)).symm⟩
 rw[qg,Nat.sub_right_comm,hb]
 rfl
theorem Mm(c:Cx)(hK:gM=top.heap_1 aL)(p:Str)(hz:p.aq<=5000)(W:ak AO):
  gj c 2 (.ref 227) [.st (.ref 236),.str p] [] (LR p W) (λW'=>qH p (p.aq+1)=none/\W'=W) W:=by
 revert hK hz
 revert c p W
 intros c p W
 intro hK hz
 refine pF (bs:=[(aj "self",.st (.ref 236)),(aj "prefix",.str p)]) (cG:=[aj "i"]) hK (nK hK) rfl rfl rfl (by kernel_rfl) (by kernel_rfl) (nU (λs X a b=>bf rfl) .nil) ?_
 intro κ hf hQ hN hX
 haveI hz':p.aq<=10000:=aA hz (by decide)
 haveI Pj:qH p (p.aq+1)=if mU p then az p.aq else qH p p.aq:=by
  show(if mU (pM p.aq p)then _ else _)=_
  rw[DH]
 refine cX 5 (m':=.rt _ _ _ _ _) rfl rfl ?_
 refine GB hK ?_
 refine cX 1 (m':=.rt _ _ _ _ _) rfl rfl ?_
 cases hp:mU p with
 |true=>
  refine cX 3 (m':=.rt _ _ _ _ _) rfl rfl ?_
  refine hQ _ _ _ _ _ (.eG rfl) ?_
  have:=LR.mk (W:=W) p.aq (Pj.trans (by rw[hp];rfl))
  rwa [DH]at this
 |false=>
  rw[hp]at Pj
  refine mq 16 (m':=.rt _ _ _ _ _) rfl rfl ?_ ?_
  ·exact hz'
  refine Xk p.aq (GC hz') Cr (z0 (LI p W) (.mk none Pj) ?_ ?_)
  ·intro k _ _ _ u hu h mF tn tc tb tr
   apply h;clear h;intro iv hk
   refine iU (JV hu) λlM bG=>?_;obtain rfl:=bG
   refine mq 6 (m':=.rt _ _ _ _ _) rfl rfl ?_ ?_
   ·exact hz'
   rw[Ph p k lM]
   refine GB hK ?_
   refine cX 1 (m':=.rt _ _ _ _ _) rfl rfl ?_
   rw[Ml lM]at hk
   cases hq:mU (pM (p.aq - 1 - k) p)with
   |true=>
    rw[hq]at hk
    refine mq 3 (m':=.rt _ _ _ _ _) rfl rfl ?_ ?_
    ·exact hz'
    rw[Ph p k lM]
    exact tr _ _ _ _ (hQ _ _ _ _ _ (.eG rfl) (.mk _ hk))
   |false=>
    rw[hq]at hk
    refine cX 1 (m':=.ex _ _ _ _) rfl rfl ?_
    exact gU (tn _ _ _ (.mk _ hk))
  ·intro _ _ _ h
   rw[Gh]at h
   apply h;clear h;intro iv hk
   rw[lW]at hk
   exact Xl (v:=.str p) (by kernel_rfl) (by rw[hK];kernel_rfl) (by kernel_rfl) (by kernel_rfl) (.cI _ (.dw _)) (hX _ _ _ ⟨hk,rfl⟩)
theorem IT{c:Cx}(hK:gM=top.heap_1 aL):gM.eF 46=az (lR (R5 AL) 34):=by rw[hK];kernel_rfl
theorem Pk:(AL.map (·.1)).iT:=by decide
def EA(n:Int):aH (Int×Nat×Str×Nat):=AL.find? λp=>p.1=n
def Bl(n:Int):aM:=(decide (55296<=n)&&decide (n<=57343))||decide (n>1114111)
def Pn:ak Int:=[11,65534,65535,131070,131071,196606,196607,262142,262143,327678,327679,393214,393215,458750,458751,524286,524287,589822,589823,655358,655359,720894,720895,786430,786431,851966,851967,917502,917503,983038,983039,1048574,1048575,1114110,1114111]
def Mn(n:Int):aM:=(decide (1<=n)&&decide (n<=8))||((decide (14<=n)&&decide (n<=31))||((decide (127<=n)&&decide (n<=159))||((decide (64976<=n)&&decide (n<=65007))||((Pn.map p8).any λy=>vf y (.int n)))))
def nj(n:Int):Str:=match EA n with
 |az p=>p.2.2.1
 |none=>if Bl n then⟨#[65533]⟩else⟨#[n.gR]⟩
def qR(s:Str):V:=.bO [(aj "type",.int 7),(aj "data",.str s)]
def Bm(n:Int):V:=.bO [(aj "type",.int 7),(aj "data",.str (aj "illegal-codepoint-for-numeric-entity")),(aj "datavars",.bO [(aj "charAsInt",.int n)])]
def k6(n:Int):ak V:=if(EA n).sJ||(Bl n||Mn n)then[Bm n]else[]
def uT(hex:aM):ak Nat:=if hex then wX else Ad
theorem A6(hex:aM)(k:Nat):decide (k∈uT hex)=jN hex k:=by
 rcases qx k 128 with h|h
 ·haveI key:∀hex:aM,(ak.tO 128).all (λk=>decide (k∈uT hex)==jN hex k)=true:=by decide+dK
  exact cL (ak.bV (key hex) k (ak.k7 h))
 ·haveI h1:∀hex:aM,(uT hex).all (λk=>decide (k<128))=true:=by decide+dK
  haveI hn:¬k∈uT hex:=λm=>Nat.fG h (bX (ak.bV (h1 hex) k m))
  rw[cK hn]
  unfold jN
  rw[cK (show ¬k<=57 by exact(λhn=>Lake.n2 [_] 1 (.v 0) (.n 57) 1 (.n 128) (.v 0) rfl hn h)),cK (show ¬k<=102 by exact(λhn=>Lake.n2 [_] 1 (.v 0) (.n 102) 1 (.n 128) (.v 0) rfl hn h)),cK (show ¬k<=70 by exact(λhn=>Lake.n2 [_] 1 (.v 0) (.n 70) 1 (.n 128) (.v 0) rfl hn h)),aM.uo,aM.uo,aM.uo,aM.oW,aM.uo,aM.oW]
theorem X5(x:Str)(u:Nat)(cs:ak Nat):((p9 λk=>V.str ⟨#[k]⟩).any λy=>vf y (rN x u))=(match x.au[u]? with|az k=>decide (k∈cs)|none=>false):=by
 unfold rN
 cases x.au[u]? with
 |az k=>exact Mj cs k
 |none=>
  rw[ak.any_map,ak.any_eq_false]
  intro a _ h
  cases h
theorem yC(x:Str)(u:Nat):jU (rN x u)=true:=by
 unfold rN
 cases x.au[u]?<;>rfl
theorem X6(x:Str)(u:Nat):BQ (rN x u)=false:=by
 unfold rN
 cases x.au[u]?<;>rfl
theorem Po(x:Str)(u:Nat):qO (rN x u)=(x.au[u]?).isNone:=by
 unfold rN
 cases x.au[u]?<;>rfl
def yD(hex:aM):aH Nat->aM
 |az k=>jN hex k
 |none=>false
def fH(hex:aM)(x:Str)(u:Nat):ak Nat:=(x.au.fX u).jX (jN hex)
def yc(x:Str)(u:Nat):aM:=x.au[u]?==az 59
theorem y9{hex:aM}{x:Str}{u j:Nat}(hj:j<=(fH hex x u).aq)(hf:yD hex (x.au[u+j]?)=true):j<(fH hex x u).aq/\∃k,x.au[u+j]?=az k/\(fH hex x u)[j]?=az k:=by
 haveI key:∀(l:ak Nat)(j:Nat),j<=(l.jX (jN hex)).aq->yD hex l[j]?=true->j<(l.jX (jN hex)).aq/\∃k,l[j]?=az k/\(l.jX (jN hex))[j]?=az k:=by
  intro l
  induction l with
  |nil=>intro j hj hf;cases hf
  |br a l ih=>
   intro j hj hf
   cases ha:jN hex a with
   |false=>
    rw[ak.jz (by rw[ha];decide)]at hj
    have:j=0:=qk hj
    subst this
    rw[ak.getElem?_cons_zero]at hf
    rw[show jN hex a=true from hf]at ha
    cases ha
   |true=>
    rw[ak.kT ha]at hj⊢
    cases j with
    |lO=>exact⟨cD _,a,rfl,rfl⟩
    |kU j=>
     rw[ak.getElem?_cons_succ]at hf
     refine iU (ih j (eN hj) hf) λh1 iZ=>?_;refine gg iZ λk h2 h3=>?_;clear iZ
     exact⟨Nat.succ_lt_succ h1,k,h2,h3⟩
 have:=key (x.au.fX u) j hj (by rw[ak.pA];exact hf)
 rw[ak.pA]at this
 exact this
theorem yE{hex:aM}{x:Str}{u j:Nat}(hj:j<=(fH hex x u).aq)(hf:yD hex (x.au[u+j]?)=false):j=(fH hex x u).aq:=by
 haveI key:∀(l:ak Nat)(j:Nat),j<=(l.jX (jN hex)).aq->yD hex l[j]?=false->j=(l.jX (jN hex)).aq:=by
  intro l
  induction l with
  |nil=>intro j hj hf;exact qk hj
  |br a l ih=>
   intro j hj hf
   cases ha:jN hex a with
   |false=>
    rw[ak.jz (by rw[ha];decide)]at hj⊢
    exact qk hj
   |true=>
    rw[ak.kT ha]at hj⊢
    cases j with
    |lO=>rw[ak.getElem?_cons_zero]at hf;rw[show jN hex a=false from hf]at ha;cases ha
    |kU j=>
     rw[ak.getElem?_cons_succ]at hf
     rw[ak.kM,<-ih j (eN hj) hf]
 exact key (x.au.fX u) j hj (by rw[ak.pA];exact hf)
theorem X7{p:Nat->aM}{l:ak Nat}{k:Nat}(h:k∈l.jX p):p k=true:=by
 revert h
 revert p l k
 intros p l k
 intro h
 induction l with
 |nil=>cases h
 |br a l ih=>
  cases ha:p a with
  |false=>rw[ak.jz (by rw[ha];decide)]at h;cases h
  |true=>
   rw[ak.kT ha]at h
   rcases ak.bB h with e|h
   ·exact e▸ha
   ·exact ih h
theorem m8(l:ak Nat):jV (fM λk=>(⟨#[k]⟩:Str))=l:=by
 unfold jV
 induction l with
 |nil=>rfl
 |br a l ih=>rw[ak.yP,ak.yP,ak.flatten_cons,ih];rfl
theorem X8{x:Str}{u k:Nat}{s:Str}(hs:s=⟨#[k]⟩):vf (rN x u) (.str s)=(x.au[u]?==az k):=by
 subst hs
 unfold rN
 cases x.au[u]? with
 |az a=>rw[show(az a==az k)=(a==k) from rfl];exact Vn a k
 |none=>rfl
theorem Yb(x:Str)(u:Nat):N5 (rN x u)=true:=by
 unfold rN
 cases x.au[u]?<;>rfl
theorem any_none(cs:ak Nat):((p9 λk=>V.str ⟨#[k]⟩).any λy=>vf y .none)=false:=by
 rw[ak.any_map,ak.any_eq_false]
 intro a _ h
 cases h
def pW(st ct:V):ak (Str×V):=[(aj "stream",.cR 166 1),(aj "parser",.none),(aj "escapeFlag",.bF false),(aj "lastFourChars",.aR []),(aj "state",st),(aj "escape",.bF false),(aj "currentToken",ct),(aj "tokenQueue",.ob 4)]
def RT(st ct:V)(R:ak AO)(x:Str)(u b cC:Nat)(q:ak V)(v:V)(z1:V)(z2:ak AO):Prop:=∀G:V->ak AO->Prop,(∀(d t e:AO)(h:j8 x u b cC d t e),G v (.bO (pW st ct)::d::t::e::.aR q::R))->G z1 z2
theorem RT.mk{st ct:V}{R:ak AO}{x:Str}{u b cC:Nat}{q:ak V}{v:V}{d t e:AO}(h:j8 x u b cC d t e):RT st ct R x u b cC q v v (.bO (pW st ct)::d::t::e::.aR q::R):=λz9 z=>z d t e h
def Zg(hex:aM)(cs c n ch:aH V):Loc:=[(aj "self",az (.cR 762 0)),(aj "isHex",az (.bF hex)),(aj "allowed",az (.tup ((uT hex).map λk=>.str ⟨#[k]⟩))),(aj "radix",az (.int (ji hex:Nat))),(aj "charStack",cs),(aj "c",c),(aj "charAsInt",n),(aj "char",ch),(aj "v",none)]
def Ah(hex:aM)(x:Str)(u j:Nat):ak V:=((fH hex x u).eL j).map λk=>.str ⟨#[k]⟩
def NI(hex:aM)(st ct:V)(R:ak AO)(x:Str)(u cC:Nat)(q:ak V)(k:Nat)(z1:Loc)(z2:ak AO)(z3:ak AO):Prop:=∀G:Loc->ak AO->ak AO->Prop,(∀(d t e:AO)(j:Nat)(h:j8 x (min (u+j+1) x.aq) (if u+j<x.aq then 1 else 0) cC d t e)(hj:j<=(fH hex x u).aq)(hk:k=(fH hex x u).aq - j),G (Zg hex (az (.lo 0)) (az (rN x (u+j))) none none) [.aR (Ah hex x u j)] (.bO (pW st ct)::d::t::e::.aR q::R))->G z1 z2 z3
theorem NI.mk{hex:aM}{st ct:V}{R:ak AO}{x:Str}{u cC:Nat}{q:ak V}{k:Nat}{d t e:AO}(j:Nat)(h:j8 x (min (u+j+1) x.aq) (if u+j<x.aq then 1 else 0) cC d t e)(hj:j<=(fH hex x u).aq)(hk:k=(fH hex x u).aq - j):NI hex st ct R x u cC q k (Zg hex (az (.lo 0)) (az (rN x (u+j))) none none) [.aR (Ah hex x u j)] (.bO (pW st ct)::d::t::e::.aR q::R):=λz9 z=>z d t e j h hj hk
def NE(hex:aM)(st ct:V)(R:ak AO)(x:Str)(u cC:Nat)(q:ak V)(n ch:aH V)(z1:Loc)(z2:ak AO)(z3:ak AO):Prop:=∀G:Loc->ak AO->ak AO->Prop,(∀(d t e:AO)(h:j8 x (min (u+(fH hex x u).aq+1) x.aq) (if u+(fH hex x u).aq<x.aq then 1 else 0) cC d t e),G (Zg hex (az (.lo 0)) (az (rN x (u+(fH hex x u).aq))) n ch) [.aR (Ah hex x u (fH hex x u).aq)] (.bO (pW st ct)::d::t::e::.aR q::R))->G z1 z2 z3
theorem NE.mk{hex:aM}{st ct:V}{R:ak AO}{x:Str}{u cC:Nat}{q:ak V}{n ch:aH V}{d t e:AO}(h:j8 x (min (u+(fH hex x u).aq+1) x.aq) (if u+(fH hex x u).aq<x.aq then 1 else 0) cC d t e):NE hex st ct R x u cC q n ch (Zg hex (az (.lo 0)) (az (rN x (u+(fH hex x u).aq))) n ch) [.aR (Ah hex x u (fH hex x u).aq)] (.bO (pW st ct)::d::t::e::.aR q::R):=λz9 z=>z d t e h
theorem EB(hex:aM){x:Str}{u:Nat}(h:u<=x.aq):u+(fH hex x u).aq<=x.aq:=by
 have:(fH hex x u).aq<=(x.au.fX u).aq:=(ak.xH _).length_le
 rw[ak.gX,dh]at this
 exact aA (bH this u) (aO (kB h))
theorem gQ{x:Str}{u k:Nat}(h:x.au[u]?=az k):rN x u=.str ⟨#[k]⟩:=by unfold rN;rw[h]
theorem vq{x:Str}{u:Nat}(h:x.au[u]?=none):rN x u=.none:=by unfold rN;rw[h]
theorem jf{x:Str}{u k:Nat}(h:x.au[u]?=az k):u<x.aq:=by rw[<-dh];exact(ak.cz h).1
theorem AM{x:Str}{u:Nat}(h:x.au[u]?=none):x.aq<=u:=by rw[<-dh];exact ak.rU h
theorem Td{c:Cx}(hK:gM=top.heap_1 aL){n:Nat}{sc:gO}{κ:Ct c sc Ze}{ks:ak Fr}{l:Loc}{T W:ak AO}{i:Int}(q:Vd n κ (.rt (.bF (EA i).sJ) ks l T W)):Vd n κ (.rt (.st (.ref 46)) (.cmp .In (.int i)::ks) l T W):=F8 (IT hK) rfl Pk q
theorem afe{c:Cx}(hK:gM=top.heap_1 aL){n:Nat}{sc:gO}{κ:Ct c sc Ze}{ks:ak Fr}{l:Loc}{T W:ak AO}{v:Int}{p:Int×Nat×Str×Nat}(hr:EA v=az p){o i:aB}{pos:Pos}(ho:PE c n κ.env o (.st (.ref 46)) κ.X ⟨l,T,W⟩)(hi:PE c n κ.env i (.int v) κ.X ⟨l,T,W⟩)(q:Vd n κ (.rt (.str p.2.2.1) ks l T W)):Vd n κ (.ev (.l8 o i pos) ks l T W):=Sv (IT hK) ho hi (Ox (IT hK) Pk hr q)
theorem Mp{hex:aM}{x:Str}{u j k:Nat}(h:(fH hex x u)[j]?=az k):Ah hex x u j++[.str ⟨#[k]⟩]=Ah hex x u (j+1):=by
 unfold Ah;rw[ak.jM,h,ak.ie];rfl
theorem Pq(hex:aM)(x:Str)(u:Nat):Ah hex x u (fH hex x u).aq=((fH hex x u).map λk=>(⟨#[k]⟩:Str)).map V.str:=by unfold Ah;rw[ak.xG,ak.pN];rfl
theorem Pr{hex:aM}{x:Str}{u j m:Nat}(h:(fH hex x u).aq<=m):(Ah hex x u j).aq<=m:=by unfold Ah;rw[ak.bT,ak.eX];exact aA (iL ..) h
theorem GF(c:Cx)(hK:gM=top.heap_1 aL){sc:gO}{κ:Ct c sc Ze}{hex:aM}{x:Str}{u:Nat}{ks:ak Fr}{l:Loc}(hx:x.aq<=600)(GG:u<=x.aq)(pU:fH hex x u≠[]){W:ak AO}(hq:Vd 4 κ (.rt (.int (kH hex (fH hex x u))) ks l [.aR (Ah hex x u (fH hex x u).aq)] W)):
  Vd 4 κ (.cl (.st (.dg "int")) [.str (Txt.join (aj "") ((fH hex x u).map λk=>⟨#[k]⟩)),.int (ji hex:Nat)] ks l [.aR (Ah hex x u (fH hex x u).aq)] W):=by
 rw[q7,m8]
 refine(Wq (hex:=hex) rfl ?_ ?_ ?_ ?_:CV c 4 κ.env _ _ _ _ _)
 ·intro k hk;exact X7 (l:=x.au.fX u) (by simpa [fH]using hk)
 ·simpa using pU
 ·have:=EB hex GG
  show(fH hex x u).aJ.dM<=640
  rw[ak.bZ];exact(aF λhn=>Lake.n3 [_,_,_] 1 (.a (.n 640) (.n 1)) (.v 2) 1 (.v 0) (.n 600) 1 (.a (.v 1) (.v 2)) (.v 0) rfl hn hx this)
 ·show Vd 4 κ (.rt (.int (kH hex (fH hex x u).aJ.nu)) ks l _ W)
  rw[ak.nQ];exact hq
theorem Cu(n:Int):(k6 n).aq<=1:=by unfold k6;split<;>exact aD rfl
theorem afg{a b:Nat}(h:a<=5000)(hb:b<=1):a+b<=10000:=by exact(aF λhn=>Lake.n3 [_,_] 1 (.a (.n 10000) (.n 1)) (.a (.v 0) (.v 1)) 1 (.v 0) (.n 5000) 1 (.v 1) (.n 1) rfl hn h hb)
theorem abT{a:Nat}(h:a<=5000):a<=10000:=by exact(aF λhn=>Lake.n2 [_] 1 (.a (.n 10000) (.n 1)) (.v 0) 1 (.v 0) (.n 5000) rfl hn h)
theorem Pu{n:Nat}(h:Bl n=false):(decide ((n:Int)<0)||decide ((n:Int)>1114111))=false:=by
 unfold Bl at h
 rw[aM.or_eq_false_iff]at h
 rw[h.2,cK (Int.fG (cH n))];rfl
theorem Bw(k:Nat):((⟨#[k]⟩:Str)!=aj ";")=!(k==59):=by
 rw[show aj ";"=⟨#[59]⟩ from by kernel_rfl]
 exact bM not (Vn k 59)
def IU(x:Str)(u:Nat):ak V:=if yc x u then[]else[qR (aj "numeric-entity-without-semicolon")]
def semN(x:Str)(u:Nat):Nat:=if yc x u then 1 else 0
theorem Pw(c:Cx)(hK:gM=top.heap_1 aL){st ct:V}{R:ak AO}{d t e:AO}{x:Str}{u b cC:Nat}{q:ak V}(h:j8 x u b cC d t e)(hex:aM)(hx:x.aq<=600)(hq:q.aq<=5000)(pU:fH hex x u≠[]):
  gj c 5 (.ref 275) [.cR 762 0,.bF hex] [] (RT st ct R x (u+(fH hex x u).aq+semN x (u+(fH hex x u).aq)) 0 cC (q++k6 (kH hex (fH hex x u))++IU x (u+(fH hex x u).aq)) (.str (nj (kH hex (fH hex x u))))) (λz9=>cM) (.bO (pW st ct)::d::t::e::.aR q::R):=by
 revert hK h hx hq pU
 revert c st ct R d t e x u b cC q hex
 intros c st ct R d t e x u b cC q hex
 intro hK h hx hq pU
 haveI GG:=h.ule
 refine eO h.fm λs0 bG=>?_;obtain rfl:=bG
 haveI hnl:=EB hex GG
 haveI hq2:=abT hq
 refine pF (bs:=[(aj "self",.cR 762 0),(aj "isHex",.bF hex)]) (cG:=[aj "allowed",aj "radix",aj "charStack",aj "c",aj "charAsInt",aj "char",aj "v"]) hK (nK hK) rfl rfl rfl (by kernel_rfl) (by kernel_rfl) (nU (λs X a b=>bf rfl) .nil) ?_
 intro κ hf hQ hN hX
 refine cX 6 (m':=.ex _ _ _ _) rfl rfl ?_
 refine zH (λl T W=>l=Zg hex none none none none/\T=[]/\W=.bO (pW st ct)::sD s0::t::e::.aR q::R) ?_ ?_
 ·intro mF kn kr kb kc kx ke
  cases hex with
  |false=>refine cX 3 (m':=.ex _ _ _ _) rfl rfl ?_;exact gU (kn _ _ _ ⟨rfl,rfl,rfl⟩)
  |true=>refine cX 9 (m':=.ex _ _ _ _) rfl rfl ?_;exact gU (kn _ _ _ ⟨rfl,rfl,rfl⟩)
 rintro _ _ _ ⟨rfl,rfl,rfl⟩
 refine cX 9 (m':=.cl _ _ _ _ _ _) rfl rfl ?_
 refine gH (gA c hK h) rfl rfl λv W' hW=>?_
 apply hW;clear hW;intro _ _ _ h1
 refine eO h1.fm λs1 bG=>?_;obtain rfl:=bG
 refine cX 1 (m':=.ex _ _ _ _) rfl rfl ?_
 refine zH (NE hex st ct R x u cC q none none) ?_ ?_
 ·intro mF kn kr kb kc kx ke
  refine zI (NI hex st ct R x u cC q) (fH hex x u).aq (.mk 0 h1 (bC _) rfl) ?_
  intro k _ _ _ hI QW tn tc tb tr
  apply hI;clear hI;intro _ _ _ j h2 hj hk
  refine eO h2.fm λs2 bG=>?_;obtain rfl:=bG
  cases AN:x.au[u+j]? with
  |none=>
   haveI hje:=yE hj (by rw[AN];rfl)
   refine OP ?_
   refine cX 1 (m':=.te _ _ _ _ _) rfl rfl ?_
   refine JW rfl ?_
   refine cX 3 (m':=.rt _ _ _ _ _) rfl rfl ?_
   refine vin (Cp _) (yC ..) ?_
   rw[vq AN,any_none]
   refine cX 2 (m':=.rt _ _ _ _ _) rfl rfl ?_
   rw[hje]at h2
   haveI hn:=NE.mk (st:=st) (ct:=ct) (R:=R) (q:=q) (n:=none) (ch:=none) h2
   rw[<-hje,vq AN]at hn
   exact yx (tb _ _ _ (gU (kn _ _ _ hn)))
  |az k=>
   rw[gQ AN]
   refine OP ?_
   refine cX 1 (m':=.te _ _ _ _ _) rfl rfl ?_
   refine JW rfl ?_
   refine cX 3 (m':=.rt _ _ _ _ _) rfl rfl ?_
   refine vin (Cp _) rfl ?_
   rw[Mj,A6]
   haveI hul:=jf AN
   cases hf:jN hex k with
   |false=>
    haveI hje:=yE hj (by rw[AN];exact hf)
    refine cX 2 (m':=.rt _ _ _ _ _) rfl rfl ?_
    rw[hje]at h2
    haveI hn:=NE.mk (st:=st) (ct:=ct) (R:=R) (q:=q) (n:=none) (ch:=none) h2
    rw[<-hje,gQ AN]at hn
    exact yx (tb _ _ _ (gU (kn _ _ _ hn)))
   |true=>
    refine gC λG hG=>?_
    refine iU (y9 hj (by rw[AN];exact hf)) λlM iZ=>?_;refine gg iZ λk2 hx1 hx2=>?_;clear iZ
    obtain rfl:k=k2:=aH.az.inj (AN.symm.trans hx1)
    refine hG ?_
    refine mq 20 (m':=.cl _ _ _ _ _ _) rfl rfl ?_ ?_
    ·exact Pr (aA (aA (g7 ..) hnl) (aA hx (by decide)))
    rw[aV hul]at h2
    refine gH (gA c hK h2) rfl rfl λv W' hW=>?_
    apply hW;clear hW;intro _ _ _ h3
    refine cX 1 (m':=.ex _ _ _ _) rfl rfl ?_
    rw[Mp hx2]
    exact gU (tn _ _ _ _ (by rw[hk];exact qj _ _ lM) (.mk (j+1) h3 lM rfl))
 ·intro _ _ _ hE
  apply hE;clear hE;intro d2 t2 e2 h2
  refine eO h2.fm λs2 bG=>?_;obtain rfl:=bG
  refine cX 12 (m':=.cl _ _ _ _ _ _) rfl rfl ?_
  haveI QK:(fH hex x u).aq<=600:=aA (aA (g7 ..) hnl) hx
  refine yw (ys:=(fH hex x u).map λk=>⟨#[k]⟩) (.lo (bM az (bM AO.aR (Pq hex x u)))) (by decide) ?_ ?_
  ·rw[nT,m8,ak.bT];exact(aF λhn=>Lake.n2 [_] 1 (.a (.n 1048576) (.n 1)) (.a (.v 0) (.v 0)) 2 (.v 0) (.n 600) rfl hn QK)
  refine cX 5 (m':=.cl _ _ _ _ _ _) rfl rfl ?_
  refine GF c hK hx GG pU ?_
  refine cX 1 (m':=.ex _ _ _ _) rfl rfl ?_
  generalize kH hex (fH hex x u)=n at *
  refine zH (λl T W=>l=Zg hex (az (.lo 0)) (az (rN x (u+(fH hex x u).aq))) (az (.int n)) (az (.str (nj n)))/\T=[.aR (Ah hex x u (fH hex x u).aq)]/\W=.bO (pW st ct)::sD s2::t2::e2::.aR (q++k6 n)::R) ?_ ?_
  ·intro mF kn kr kb kc kx ke
   refine cX 5 (m':=.rt _ _ _ _ _) rfl rfl ?_
   refine Td hK ?_
   refine cX 1 (m':=.rt _ _ _ _ _) rfl rfl ?_
   cases hr:EA n with
   |az p=>
    refine cX 2 (m':=.ev _ _ _ _ _) rfl rfl ?_
    refine afe hK hr (eU (k:=3) rfl) (eU (k:=3) rfl) ?_
    refine mq 33 (m':=.ex _ _ _ _) rfl rfl ?_ ?_
    ·exact hq2
    haveI hs:nj n=p.2.2.1:=by unfold nj;rw[hr]
    haveI J9:k6 n=[Bm n]:=by unfold k6;rw[hr];rfl
    exact gU (kn _ _ _ ⟨by rw[hs];first|done|rfl,rfl,by rw[J9];first|done|rfl⟩)
   |none=>
    refine cX 3 (m':=.rt _ _ _ _ _) rfl rfl ?_
    cases KL:Bl n with
    |true=>
     refine vb KL ?_
     refine mq 36 (m':=.ex _ _ _ _) rfl rfl ?_ ?_
     ·exact hq2
     haveI hs:nj n=aj "\uFFFD":=by unfold nj;rw[hr,KL];kernel_rfl
     haveI J9:k6 n=[Bm n]:=by unfold k6;rw[hr,KL];rfl
     exact gU (kn _ _ _ ⟨by rw[hs];first|done|rfl,rfl,by rw[J9];first|done|rfl⟩)
    |false=>
     haveI hs:nj n=⟨#[n]⟩:=by unfold nj;rw[hr,KL];rfl
     refine vb KL ?_
     refine cX 3 (m':=.rt _ _ _ _ _) rfl rfl ?_
     cases hbc:Mn n with
     |true=>
      refine vb hbc ?_
      refine mq 33 (m':=.ex _ _ _ _) rfl rfl ?_ ?_
      ·exact hq2
      refine Ve λQW tn tr=>?_
      refine mq 10 (m':=.ex _ _ _ _) rfl rfl ?_ ?_
      ·exact Pu KL
      haveI J9:k6 n=[Bm n]:=by unfold k6;rw[hr,KL,hbc];rfl
      exact gU (tn _ _ _ (gU (kn _ _ _ ⟨by rw[hs];first|done|rfl,rfl,by rw[J9];first|done|rfl⟩)))
     |false=>
      refine vb hbc ?_
      refine cX 1 (m':=.ex _ _ _ _) rfl rfl ?_
      refine Ve λQW tn tr=>?_
      refine mq 10 (m':=.ex _ _ _ _) rfl rfl ?_ ?_
      ·exact Pu KL
      haveI J9:k6 n=[]:=by unfold k6;rw[hr,KL,hbc];rfl
      exact gU (tn _ _ _ (gU (kn _ _ _ ⟨by rw[hs];first|done|rfl,rfl,by rw[J9,ak.eu];first|done|rfl⟩)))
  ·rintro _ _ _ ⟨rfl,rfl,rfl⟩
   haveI hz3:(q++k6 n).aq<=10000:=by rw[ak.aX];exact afg hq (Cu _)
   cases AN:x.au[u+(fH hex x u).aq]? with
   |none=>
    rw[vq AN]
    haveI hle:=dU (AM AN) hnl
    refine mq 32 (m':=.cl _ _ _ _ _ _) rfl rfl ?_ ?_
    ·exact hz3
    refine fW (Ag c hK) rfl rfl ?_
    refine cX 3 (m':=.rt _ _ _ _ _) rfl rfl ?_
    rw[aY (Nat.fG (aO hle)),kW (fR (aO hle)),hle]at h2
    refine hQ _ _ _ _ _ (.eG rfl) ?_
    rw[show semN x (u+(fH hex x u).aq)=0 by unfold semN yc;rw[AN];rfl,show IU x (u+(fH hex x u).aq)=[qR (aj "numeric-entity-without-semicolon")] by unfold IU yc;rw[AN];rfl]
    exact(.mk h2)
   |az k=>
    rw[gQ AN]
    haveI lM:=jf AN
    rw[bJ lM,aV lM]at h2
    refine cX 2 (m':=.rt _ _ _ _ _) rfl rfl ?_
    cases hs:(az k==az 59)with
    |true=>
     refine vb (b':=false) (by rw[Bw];rw[show(k==59)=true from hs];rfl) ?_
     refine cX 3 (m':=.rt _ _ _ _ _) rfl rfl ?_
     refine hQ _ _ _ _ _ (.eG rfl) ?_
     rw[show semN x (u+(fH hex x u).aq)=1 by unfold semN yc;rw[AN,hs];rfl,show IU x (u+(fH hex x u).aq)=[] by unfold IU yc;rw[AN,hs];rfl,ak.eu]
     exact(.mk h2.qA)
    |false=>
     refine vb (b':=true) (by rw[Bw];rw[show(k==59)=false from hs];rfl) ?_
     refine mq 30 (m':=.cl _ _ _ _ _ _) rfl rfl ?_ ?_
     ·exact hz3
     refine gH (Co c hK h2 AN) rfl rfl λv W' hW=>?_
     apply hW;clear hW;intro _ _ _ h3
     refine cX 3 (m':=.rt _ _ _ _ _) rfl rfl ?_
     refine hQ _ _ _ _ _ (.eG rfl) ?_
     rw[show semN x (u+(fH hex x u).aq)=0 by unfold semN yc;rw[AN,hs];rfl,show IU x (u+(fH hex x u).aq)=[qR (aj "numeric-entity-without-semicolon")] by unfold IU yc;rw[AN,hs];rfl]
     exact(.mk h3)
def jl(x:Str)(a b:Nat):ak Nat:=(x.au.eL b).fX a
def jP(x:Str)(a b:Nat):Str:=⟨(jl x a b).aJ⟩
def amp(l:ak Nat):Str:=⟨(38::l).aJ⟩
def ur(cs:ak Nat):aH Nat->aM
 |az k=>decide (k∈cs)
 |none=>false
def zq(al:aH Nat)(o:aH Nat):aM:=ur gP o||(match o with|none=>true|az k=>k==60||k==38)||(match al,o with|az a,az k=>a==k|_,_=>false)
def yd(x:Str)(u:Nat):Nat->Nat->Nat
 |0,m=>m
 |f+1,m=>if u+m<x.aq then(if hasB (jP x u (u+m+1))then yd x u f (m+1)else m)else m
def uU(p:Str):Str:=match(zJ.find? λr=>r.1=p)with
 |az r=>(match r.2.2.1 with|.str s=>s|_=>aj "")
 |none=>aj ""
set_option genInjectivity false in
structure ER where
 es:ak V
 out:Str
 oF:Nat
def u7(x:Str)(u:Nat):ER:=
 let hex:=ur [120,88] (x.au[u+1]?)
 let v:=u+1+(if hex then 1 else 0)
 if yD hex (x.au[v]?)then
  let nl:=(fH hex x v).aq
  ⟨k6 (kH hex (fH hex x v))++(if yc x (v+nl)then[]else[qR (aj "numeric-entity-without-semicolon")]),nj (kH hex (fH hex x v)),v+nl+(if yc x (v+nl)then 1 else 0) - u⟩
 else⟨[qR (aj "expected-numeric-entity")],amp (jl x u v),v - u⟩
def yF(o:aH Nat):aM:=ur vL o||(ur Ad o||o==az 61)
def Cv(x:Str)(u:Nat)(gF:aM):ER:=
 let m:=yd x u (x.aq - u) 0
 match qH (jP x u (u+m)) (m+1)with
 |none=>⟨[qR (aj "expected-named-entity")],amp (jl x u (u+m)),m⟩
 |az e=>
  let sc:=x.au[u+e - 1]?==az 59
  let es:=if sc then[]else[qR (aj "named-entity-without-semicolon")]
  if !sc&&(gF&&yF (x.au[u+e]?))then⟨es,amp (jl x u (u+m)),m⟩
  else⟨es,uU (jP x u (u+e))++jP x (u+e) (u+m),m⟩
def pH(x:Str)(u:Nat)(al:aH Nat)(gF:aM):ER:=
 if zq al (x.au[u]?)then⟨[],aj "&",0⟩
 else if x.au[u]?==az 35 then u7 x u
 else Cv x u gF
def Yc:aH Nat->V
 |az k=>.str ⟨#[k]⟩
 |none=>.none
theorem za(x:Str)(u:Nat)(cs:ak Nat):((p9 λk=>V.str ⟨#[k]⟩).any λy=>vf y (rN x u))=ur cs (x.au[u]?):=by
 rw[X5]
 cases x.au[u]?<;>rfl
theorem abW(x:Str)(u:Nat):([V.none,.str (aj "<"),.str (aj "&")].any λy=>vf y (rN x u))=(match x.au[u]? with|none=>true|az k=>k==60||k==38):=by
 rw[show aj "<"=⟨#[60]⟩ by kernel_rfl,show aj "&"=⟨#[38]⟩ by kernel_rfl]
 unfold rN
 cases x.au[u]? with
 |none=>rfl
 |az k=>
  show(false||(vf (.str ⟨#[60]⟩) (.str ⟨#[k]⟩)||(vf (.str ⟨#[38]⟩) (.str ⟨#[k]⟩)||false)))=(k==60||k==38)
  rw[Vn,Vn,aM.false_or,aM.oW,aM.beq_comm (a:=60),aM.beq_comm (a:=38)]
theorem Te(x:Str)(u:Nat)(al:aH Nat):(ur gP (x.au[u]?)||((match x.au[u]? with|none=>true|az k=>k==60||k==38)||(!qO (Yc al)&&vf (Yc al) (rN x u))))=zq al (x.au[u]?):=by
 unfold zq
 rw[<-aM.or_assoc]
 congr 1
 unfold rN
 cases al with
 |none=>cases x.au[u]?<;>rfl
 |az a=>
  cases x.au[u]? with
  |none=>rfl
  |az k=>show(true&&vf (.str ⟨#[a]⟩) (.str ⟨#[k]⟩))=(a==k);rw[Vn,aM.true_and]
theorem AP(c:Cx)(hK:gM=top.heap_1 aL){o0 d t e:AO}{R:ak AO}{x:Str}{u cC:Nat}(h:j8 x (min (u+1) x.aq) (if u<x.aq then 1 else 0) cC d t e)(hu:u<=x.aq):
  gj c 1 (.ref 163) [.cR 166 1,rN x u] [] (RS o0 R x u 0 cC .none) (λz9=>cM) (o0::d::t::e::R):=by
 cases AN:x.au[u]? with
 |none=>
  haveI hle:=dU (AM AN) hu
  rw[vq AN]
  rw[aY (Nat.fG (aO hle)),kW (fR (aO hle)),hle]at h
  refine(Ag c hK).eW ?_ λz9 h=>h
  rintro _ _ ⟨rfl,rfl⟩
  exact(.mk h)
 |az k=>
  haveI lM:=jf AN
  rw[gQ AN]
  rw[bJ lM,aV lM]at h
  exact Co c hK h AN
theorem Tf(x:Str)(u:Nat):([V.str (aj "x"),.str (aj "X")].any λy=>vf y (rN x u))=ur [120,88] (x.au[u]?):=by
 rw[show aj "x"=⟨#[120]⟩ by kernel_rfl,show aj "X"=⟨#[88]⟩ by kernel_rfl]
 exact za x u [120,88]
theorem Tg(hex:aM)(o:aH Nat):ur (uT hex) o=yD hex o:=by
 cases o with
 |none=>rfl
 |az k=>exact A6 hex k
theorem EC(l:ak Nat):aj "&"++(⟨l.aJ⟩:Str)=amp l:=by
 rw[show aj "&"=⟨#[38]⟩ by kernel_rfl]
 show(⟨#[38]++l.aJ⟩:Str)=⟨(38::l).aJ⟩
 simp
theorem GH(n:Int):(nj n).aq<=1:=by
 unfold nj
 cases h:EA n with
 |none=>dsimp only;split<;>exact bz 1
 |az p=>
  haveI hm:p∈AL:=ak.mem_of_find?_eq_some h
  have:∀p∈AL,p.2.2.1.aq<=1:=by decide
  exact this p hm
theorem Cw(p:Str):(uU p).aq<=2:=by
 unfold uU
 cases h:zJ.find? λr=>r.1=p with
 |none=>decide
 |az r=>
  have hm:r∈zJ:=ak.mem_of_find?_eq_some h
  have:zJ.all (λr=>decide ((match r.2.2.1 with|.str s=>s|_=>aj "").aq<=2))=true:=by decide+dK
  have:=ak.bV this r hm
  exact bX this
theorem j4(a b:Str):(a++b).aq=a.aq+b.aq:=by
 show(a.cps++b.cps).dM=_
 rw[dX.size_append]
 rfl
theorem nL(x:Str)(a b:Nat):(jP x a b).aq<=x.aq:=by
 show(jl x a b).aJ.dM<=_
 unfold jl
 simp
 rw[<-dh]
 simp
 exact(aF λhn=>Lake.n2 [_,_,_] 1 (.a (.a (.v 0) (.v 1)) (.n 1)) (.v 2) 1 (.v 2) (.v 0) rfl hn (iL _ _))
theorem Ka(l:ak Nat):(amp l).aq=l.aq+1:=by simp[amp,Str.aq]
theorem sub_snoc{x:Str}{u m k:Nat}(h:x.au[u+m]?=az k):jl x u (u+m+1)=jl x u (u+m)++[k]:=by
 haveI hl:=(ak.cz h).1
 unfold jl
 rw[ak.jM,h,ak.jJ (by rw[ak.eX];exact Nat.le_min.mpr ⟨cu u m,fP (b9 (cu u m) hl)⟩)]
 rfl
theorem sub_len{x:Str}{u m:Nat}(h:u+m<=x.aq):(jl x u (u+m)).aq=m:=by
 unfold jl
 rw[ak.gX,ak.eX,dh,aV h,jZ]
theorem Th(l:ak V)(y:V):sl (l++[y]) none (az (-1))=l:=by
 unfold sl
 haveI e1:(none:aH Int).g9 0 (jI (l++[y]).aq)=0:=rfl
 haveI e2:(az (-1:Int)).g9 (l++[y]).aq (jI (l++[y]).aq)=l.aq:=by
  show jI _ (-((1:Nat):Int))=_
  rw[ak.aX]
  exact FG (g7 1 _) Nat.one_pos
 rw[e1,e2,ak.vW,vU,ak.take_left]
abbrev ED(l:ak Nat):ak V:=fM λk=>V.str ⟨#[k]⟩
theorem GJ(l:ak Nat):ED l=(fM λk=>(⟨#[k]⟩:Str)).map V.str:=by
 unfold ED
 rw[ak.pN]
 rfl
theorem uu(x:Str)(u f m:Nat):yd x u (f+1) m=if u+m<x.aq then(if hasB (jP x u (u+m+1))then yd x u f (m+1)else m)else m:=rfl
theorem Ti(x:Str)(u f:Nat):∀m:Nat,u+m<=x.aq->u+yd x u f m<=x.aq:=by
 induction f with
 |lO=>exact λz9 h=>h
 |kU f ih=>
  intro m h
  rw[uu]
  by_cases h1:u+m<x.aq
  ·rw[bJ h1]
   cases hasB (jP x u (u+m+1))with
   |true=>exact ih (m+1) h1
   |false=>exact h
  ·rw[aY h1];exact h
theorem Px(b:aM)(s:V):(if b=true then([]:ak V)else[s]).aq<=1:=by cases b<;>simp
theorem Cy{p:Str}{b e:Nat}(h:qH p b=az e):e<b/\mU (pM e p)=true:=by
 revert h
 revert p b e
 intros p b e
 intro h
 induction b with
 |lO=>cases h
 |kU b ih=>
  haveI h':(if mU (pM b p)then az b else qH p b)=az e:=h
  cases hk:mU (pM b p)with
  |true=>rw[hk,bJ rfl]at h';cases h';exact⟨dY _,hk⟩
  |false=>
   rw[hk,aY (by decide)]at h'
   exact⟨gn (ih h').1,(ih h').2⟩
theorem DI{x:Str}{u m e:Nat}(h:e<=m):pM e (jP x u (u+m))=jP x u (u+e):=by
 unfold pM jP jl
 rw[ak.nQ,ak.take_drop,ak.take_take,aV (by exact(aF λhn=>Lake.n2 [_,_,_] 1 (.a (.a (.v 2) (.v 1)) (.n 1)) (.a (.v 2) (.v 0)) 1 (.v 0) (.v 1) rfl hn h))]
theorem Kc{x:Str}{u e:Nat}(hu:u<=x.aq)(h:mU (jP x u (u+e))=true):1<=e:=by
 rcases Nat.eq_zero_or_pos e with h0|h0
 ·subst h0
  have e1:jP x u (u+0)=⟨#[]⟩:=by
   unfold jP jl
   rw[ak.pP (by rw[ak.eX];exact(aF λhn=>Lake.n2 [_,_] 1 (.a (.v 0) (.n 1)) (.v 1) 1 (.v 1) (.a (.v 0) (.n 0)) rfl hn (oZ _ _)))]
  rw[e1,show mU ⟨#[]⟩=false by decide+dK]at h
  cases h
 ·exact h0
theorem Py{x:Str}{u e:Nat}(he:1<=e)(h:u+e<=x.aq):∃a,x.au[u+e - 1]?=az a/\(jP x u (u+e)).au.getLast?=az a:=by
 haveI hp:0<u+e:=bh he (g7 ..)
 haveI hl:u+e - 1<x.au.aq:=by rw[dh];exact bh (Nat.sub_lt hp Nat.one_pos) h
 refine⟨_,ak.bk hl,?_⟩
 haveI h1:x.au[u+(e - 1)]?=az x.au[u+e - 1]:=by rw[<-Nat.add_sub_assoc he];exact ak.bk hl
 haveI h2:=sub_snoc h1
 rw[dJ,wJ he]at h2
 show(jl x u (u+e)).aJ.nu.getLast?=_
 rw[ak.nQ,h2,ak.getLast?_append]
 rfl
def Vr:V->Str->aM
 |.str s,t=>s==t
 |_,_=>false
theorem Pz{v:V}{t:Str}(h:Vr v t=true):v=.str t:=by
 cases v with
 |str s=>exact bM V.str (cL h)
 |_=>cases h
theorem Tj:zJ.all (λr=>Vr r.2.2.1 (uU r.1))=true:=by decide+dK
theorem IW{p:Str}(h:mU p=true):(p,V.str (uU p))∈IJ:=by
 refine gg (ak.jt (bX h:p∈IJ.map (·.1))) λy hy ig=>?_;obtain rfl:=ig
 refine gg (ak.jt hy) λr hr ig=>?_;obtain rfl:=ig
 exact Pz (ak.bV Tj r hr)▸hy
theorem charAt{x:Str}{u m e:Nat}(hm:u+m<=x.aq)(h:e<=m):(ED (jl x u (u+m))++[rN x (u+m)])[e]?=az (rN x (u+e)):=by
 haveI hl:=sub_len hm
 rcases qx e m with h1|h1
 ·rw[ak.jh (by rw[ak.bT,hl];exact h1),ak.iI]
  haveI MU:u+e<x.au.aq:=by rw[dh];exact(cP λhn=>Lake.n3 [_,_,_,_] 1 (.v 2) (.a (.v 0) (.v 3)) 1 (.a (.v 0) (.v 1)) (.v 2) 1 (.a (.v 3) (.n 1)) (.v 1) rfl hn hm h1)
  have:(jl x u (u+m))[e]?=x.au[u+e]?:=by
   unfold jl
   rw[ak.pA,ak.getElem?_take_of_lt (by exact(cP λhn=>Lake.n2 [_,_,_] 1 (.a (.v 0) (.v 1)) (.a (.v 0) (.v 2)) 1 (.a (.v 2) (.n 1)) (.v 1) rfl hn h1))]
  rw[this]
  unfold rN
  rw[ak.bk MU]
  rfl
 ·have:e=m:=by exact(dU (aF λhn=>Lake.n2 [_,_] 1 (.a (.v 0) (.n 1)) (.v 1) 1 (.v 1) (.v 0) rfl hn h) (aF λhn=>Lake.n2 [_,_] 1 (.a (.v 1) (.n 1)) (.v 0) 1 (.v 0) (.v 1) rfl hn h1))
  subst this
  rw[ak.jy (by rw[ak.bT,hl];exact bz _),ak.bT,hl,lW]
  rfl
theorem Tn{x:Str}{u m e:Nat}(hm:u+m<=x.aq)(h:e<=m):sl (ED (jl x u (u+m))) (az (e:Int)) none=ED (jl x (u+e) (u+m)):=by
 haveI hl:=sub_len hm
 unfold sl
 haveI e1:(az (e:Int)).g9 0 (jI (ED (jl x u (u+m))).aq)=e:=(m7 _ e).trans (aV (by rw[ak.bT,hl];exact h))
 rw[e1]
 show((ED (jl x u (u+m))).fX e).eL ((ED (jl x u (u+m))).aq - e)=_
 rw[ak.dW (by rw[ak.gX];exact bz _)]
 unfold ED
 rw[<-ak.map_drop]
 unfold jl
 rw[ak.drop_drop]
theorem EE{b:aM}{A B:ER}{P:ER->Prop}(h1:P A)(h2:P B):P (if b=true then A else B):=by
 cases b
 ·exact h2
 ·exact h1
theorem GK(x:Str)(u:Nat):(u7 x u).out.aq<=x.aq+10:=by
 unfold u7
 dsimp only
 refine EE (P:=λr=>r.out.aq<=x.aq+10) ?_ ?_
 ·exact aA (GH _) (by exact(aF λhn=>Lake.n1 [_] (.a (.a (.v 0) (.n 10)) (.n 1)) (.n 1) rfl hn))
 ·show(amp _).aq<=_
  rw[Ka]
  exact aA (dZ (nL x _ _|>λh=>aA (aO (ak.bZ ..).symm) h)) (bH (show 1<=10 by decide) _)
theorem GL(x:Str)(u:Nat)(gF:aM):(Cv x u gF).out.aq<=x.aq+10:=by
 revert x u gF
 intros x u gF
 have hs:∀a b,(amp (jl x a b)).aq<=x.aq+10:=λa b=>by
  rw[Ka]
  exact aA (dZ (nL x _ _|>λh=>aA (aO (ak.bZ ..).symm) h)) (bH (show 1<=10 by decide) _)
 unfold Cv
 dsimp only
 split
 ·exact hs _ _
 ·refine EE (P:=λr=>r.out.aq<=x.aq+10) (hs _ _) ?_
  show(_++_:Str).aq<=_
  rw[j4]
  exact aA (bI (Cw _) (nL x _ _)) (aA (aO (eZ _ _)) (bH (aD rfl) _))
set_option tactic.hygienic true in
theorem GN(x:Str)(u:Nat)(al:aH Nat)(gF:aM):(pH x u al gF).out.aq<=x.aq+10:=by
 unfold pH
 refine EE (P:=λr=>r.out.aq<=x.aq+10) ?_ (EE (P:=λr=>r.out.aq<=x.aq+10) (GK x u) (GL x u gF))
 show(aj "&").aq<=_
 rw[show(aj "&").aq=1 by kernel_rfl];exact(aF λhn=>Lake.n1 [_] (.a (.a (.v 0) (.n 10)) (.n 1)) (.n 1) rfl hn)
theorem To{hex:aM}{x:Str}{v:Nat}(h:yD hex (x.au[v]?)=true):fH hex x v≠[]:=by
 refine iU (y9 (hex:=hex) (x:=x) (u:=v) (j:=0) (bC _) h) λh1 bG=>?_
 intro e
 rw[e]at h1
 exact cQ _ h1
theorem Ye(hb:aM)(o:aH Nat):((hb&&ur wX o)||(!hb&&ur Ad o))=yD hb o:=by
 rw[<-Tg]
 unfold uT
 cases hb
 ·rw[aY (by decide)];rfl
 ·rw[bJ rfl];cases ur wX o<;>rfl
def QX(al:aH Nat)(gF:aM)(out cs hx nm ln:aH V):Loc:=[(aj "self",az (.cR 762 0)),(aj "allowedChar",az (Yc al)),(aj "fromAttribute",az (.bF gF)),(aj "output",out),(aj "charStack",cs),(aj "hex",hx),(aj "entityName",nm),(aj "entityLength",ln),(aj "tokenType",none)]
def EJ(al:aH Nat)(gF:aM)(st ct:V)(R:ak AO)(x:Str)(u cC:Nat)(q:ak V)(r:ER)(z1:Loc)(z2:ak AO)(z3:ak AO):Prop:=∀G:Loc->ak AO->ak AO->Prop,(∀(d t e:AO)(T:ak AO)(hv nm ln:aH V)(h:j8 x (u+r.oF) 0 cC d t e),G (QX al gF (az (.str r.out)) (az (.lo 0)) hv nm ln) T (.bO (pW st ct)::d::t::e::.aR (q++r.es)::R))->G z1 z2 z3
theorem EJ.mk{al:aH Nat}{gF:aM}{st ct:V}{R:ak AO}{x:Str}{u cC:Nat}{q:ak V}{r:ER}{d t e:AO}{T:ak AO}{hv nm ln:aH V}(h:j8 x (u+r.oF) 0 cC d t e):EJ al gF st ct R x u cC q r (QX al gF (az (.str r.out)) (az (.lo 0)) hv nm ln) T (.bO (pW st ct)::d::t::e::.aR (q++r.es)::R):=λz9 z=>z d t e T hv nm ln h
def EH(al:aH Nat)(gF:aM)(st ct:V)(R:ak AO)(x:Str)(u cC:Nat)(q:ak V)(hb:aM)(z1:Loc)(z2:ak AO)(z3:ak AO):Prop:=∀G:Loc->ak AO->ak AO->Prop,(∀(d t e:AO)(pre:ak Str)(h:j8 x (min (u+1+(if hb then 1 else 0)+1) x.aq) (if u+1+(if hb then 1 else 0)<x.aq then 1 else 0) cC d t e)(hp:jV pre=jl x u (u+1+(if hb then 1 else 0)))(hl:pre.aq<=2)(hv:u+1+(if hb then 1 else 0)<=x.aq),G (QX al gF (az (.str (aj "&"))) (az (.lo 0)) (az (.bF hb)) none none) [.aR (pre.map V.str++[rN x (u+1+(if hb then 1 else 0))])] (.bO (pW st ct)::d::t::e::.aR q::R))->G z1 z2 z3
theorem EH.mk{al:aH Nat}{gF:aM}{st ct:V}{R:ak AO}{x:Str}{u cC:Nat}{q:ak V}{hb:aM}{d t e:AO}(pre:ak Str)(h:j8 x (min (u+1+(if hb then 1 else 0)+1) x.aq) (if u+1+(if hb then 1 else 0)<x.aq then 1 else 0) cC d t e)(hp:jV pre=jl x u (u+1+(if hb then 1 else 0)))(hl:pre.aq<=2)(hv:u+1+(if hb then 1 else 0)<=x.aq):EH al gF st ct R x u cC q hb (QX al gF (az (.str (aj "&"))) (az (.lo 0)) (az (.bF hb)) none none) [.aR (pre.map V.str++[rN x (u+1+(if hb then 1 else 0))])] (.bO (pW st ct)::d::t::e::.aR q::R):=λz9 z=>z d t e pre h hp hl hv
theorem sub_one{x:Str}{u k:Nat}(h:x.au[u]?=az k):jl x u (u+1)=[k]:=by
 have:=sub_snoc (x:=x) (u:=u) (m:=0) (k:=k) h
 rw[this,show jl x u (u+0)=[] from ak.pP (by rw[ak.eX];exact oZ ..)];rfl
theorem Tp{x:Str}{u k j:Nat}(h:x.au[u]?=az k)(h2:x.au[u+1]?=az j):jl x u (u+1+1)=[k,j]:=by
 rw[sub_snoc h2,sub_one h];rfl
theorem Tq{u v a b:Nat}(h:u<=v):u+(v+a+b - u)=v+a+b:=kB (aA h (aA (cu ..) (cu ..)))
theorem abX{l n p:Nat}{x:Str}(h:l<=x.aq)(hx:x.aq<=600)(hp:p<=n)(hn:n<=2000):l+p<=1048576:=aA (bI (aA h hx) (aA hp hn)) (aD rfl)
theorem IX{l:ak Nat}(h:(⟨l.aJ⟩:Str).aq<=600):(aj "&").aq+(⟨l.aJ⟩:Str).aq<=fu:=aA (bI (show(aj "&").aq<=1 from aD (by kernel_rfl)) h) (qG (by decide))
def EW(al:aH Nat)(gF:aM)(st ct:V)(R:ak AO)(x:Str)(u cC:Nat)(q:ak V)(k:Nat)(z1:Loc)(z2:ak AO)(z3:ak AO):Prop:=∀G:Loc->ak AO->ak AO->Prop,(∀(d t e:AO)(m:Nat)(h:j8 x (min (u+m+1) x.aq) (if u+m<x.aq then 1 else 0) cC d t e)(hm:u+m<=x.aq)(hg:yd x u (x.aq - (u+m)) m=yd x u (x.aq - u) 0)(hk:k=x.aq - (u+m)),G (QX al gF (az (.str (aj "&"))) (az (.lo 0)) none none none) [.aR (ED (jl x u (u+m))++[rN x (u+m)])] (.bO (pW st ct)::d::t::e::.aR q::R))->G z1 z2 z3
theorem EW.mk{al:aH Nat}{gF:aM}{st ct:V}{R:ak AO}{x:Str}{u cC:Nat}{q:ak V}{k:Nat}{d t e:AO}(m:Nat)(h:j8 x (min (u+m+1) x.aq) (if u+m<x.aq then 1 else 0) cC d t e)(hm:u+m<=x.aq)(hg:yd x u (x.aq - (u+m)) m=yd x u (x.aq - u) 0)(hk:k=x.aq - (u+m)):EW al gF st ct R x u cC q k (QX al gF (az (.str (aj "&"))) (az (.lo 0)) none none none) [.aR (ED (jl x u (u+m))++[rN x (u+m)])] (.bO (pW st ct)::d::t::e::.aR q::R):=λz9 z=>z d t e m h hm hg hk
def EX(al:aH Nat)(gF:aM)(st ct:V)(R:ak AO)(x:Str)(u cC:Nat)(q:ak V)(nm ln:aH V)(z1:Loc)(z2:ak AO)(z3:ak AO):Prop:=∀G:Loc->ak AO->ak AO->Prop,(∀(d t e:AO)(m:Nat)(h:j8 x (min (u+m+1) x.aq) (if u+m<x.aq then 1 else 0) cC d t e)(hm:u+m<=x.aq)(hg:m=yd x u (x.aq - u) 0),G (QX al gF (az (.str (aj "&"))) (az (.lo 0)) none nm ln) [.aR (ED (jl x u (u+m))++[rN x (u+m)])] (.bO (pW st ct)::d::t::e::.aR q::R))->G z1 z2 z3
theorem EX.mk{al:aH Nat}{gF:aM}{st ct:V}{R:ak AO}{x:Str}{u cC:Nat}{q:ak V}{nm ln:aH V}{d t e:AO}(m:Nat)(h:j8 x (min (u+m+1) x.aq) (if u+m<x.aq then 1 else 0) cC d t e)(hm:u+m<=x.aq)(hg:m=yd x u (x.aq - u) 0):EX al gF st ct R x u cC q nm ln (QX al gF (az (.str (aj "&"))) (az (.lo 0)) none nm ln) [.aR (ED (jl x u (u+m))++[rN x (u+m)])] (.bO (pW st ct)::d::t::e::.aR q::R):=λz9 z=>z d t e m h hm hg
theorem abY{l v k:Nat}(h:v<l)(hk:k=l - v):l - (v+1)<k:=hk▸qj _ _ h
theorem PA{x:Str}{u m k:Nat}(h:x.au[u+m]?=az k):ED (jl x u (u+m))++[V.str ⟨#[k]⟩]=ED (jl x u (u+m+1)):=by rw[sub_snoc h];unfold ED;rw[ak.ie];rfl
theorem Tr{x:Str}{u m:Nat}(h:u+m<x.aq):yd x u (x.aq - (u+m)) m=if hasB (jP x u (u+m+1))then yd x u (x.aq - (u+(m+1))) (m+1)else m:=by
 refine eO (s9 (jK (xE h))) λf hf=>?_
 rw[hf,uu,bJ h,show x.aq - (u+(m+1))=f by rw[<-dJ,qg,hf];rfl]
theorem PC{x:Str}{u m:Nat}(hm:u+m<=x.aq)(hx:x.aq<=600):(ED (jl x u (u+m))).aq<=600/\(jV ((jl x u (u+m)).map λk=>(⟨#[k]⟩:Str))).aq+((jl x u (u+m)).map λk=>(⟨#[k]⟩:Str)).aq<=1048576:=by
 haveI h:=sub_len hm
 haveI h2:m<=600:=aA (aA (g7 ..) hm) hx
 refine⟨by rw[ak.bT,h];exact h2,?_⟩
 rw[m8,ak.bT,h]
 exact aA (bI h2 h2) (by decide)
theorem abZ{l:Nat}{x:Str}(h:l<=x.aq)(hx:x.aq<=600):l+l<=1048576:=by exact(aF λhn=>Lake.n3 [_,_] 1 (.a (.n 1048576) (.n 1)) (.a (.v 0) (.v 0)) 2 (.v 0) (.v 1) 2 (.v 1) (.n 600) rfl hn h hx)
theorem ab0{v l:Nat}{x:Str}(hv:v<=2)(h:l<=x.aq)(hx:x.aq<=600):v+l<=fu:=qG (by exact(aF λhn=>Lake.n4 [_,_,_] 1 (.a (.n 10000) (.n 1)) (.a (.v 0) (.v 1)) 1 (.v 0) (.n 2) 1 (.v 1) (.v 2) 1 (.v 2) (.n 600) rfl hn hv h hx))
def fdOf(P:dN)(f:aQ):kR:=match(top.heap_1 P).eF f with
 |az ⟨_,_,.w4 fd,_⟩=>fd
 |_=>default
def bodyOf(P:dN)(f:aQ):ak iW:=match(fdOf P f).dO with
 |.stmts b=>b
 |_=>[]
theorem Kd{a:V}:uO [a].aq (0:Int):=je (n:=1) (k:=0) (by decide) (by decide)
theorem eq1(k:Nat){s:Str}{j:Nat}(h:s=⟨#[j]⟩):((⟨#[k]⟩:Str)==s)=(k==j):=h▸Vn k j
theorem PD(x:Str)(u:Nat)(al:aH Nat):(((gP.map λk=>V.str ⟨#[k]⟩).any λy=>vf y (rN x u))||(([V.none,.str (aj "<"),.str (aj "&")].any λy=>vf y (rN x u))||(!qO (Yc al)&&vf (Yc al) (rN x u))))=zq al (x.au[u]?):=by
 rw[za,abW,Te]
theorem PF(c:Cx)(hK:gM=top.heap_1 aL){st ct:V}{R:ak AO}{d t e:AO}{x:Str}{u b cC:Nat}{q:ak V}(h:j8 x u b cC d t e)(hx:x.aq<=600)(hq:q.aq<=4000)(al:aH Nat)(gF:aM){P:V->ak AO->Prop}
  (fin:∀κ:Ct c (fdOf aL 283).bD Ze,(∀l T W,P .none W->κ.Q .next ⟨l,T,W⟩)->∀l T W,EJ al gF st ct R x u cC q (pH x u al gF) l T W->Vd 5 κ (.ex ((bodyOf aL 283).fX 3) l T W)):
  gj c 6 (.ref 283) [.cR 762 0] [(aj "allowedChar",Yc al),(aj "fromAttribute",.bF gF)] P (λz9=>cM) (.bO (pW st ct)::d::t::e::.aR q::R):=by
 revert hK h hx hq fin
 revert c st ct R d t e x u b cC q al gF P
 intros c st ct R d t e x u b cC q al gF P
 intro hK h hx hq fin
 have GG:=h.ule
 refine eO h.fm λs0 bG=>?_;obtain rfl:=bG
 refine pF (bs:=[(aj "self",.cR 762 0),(aj "allowedChar",Yc al),(aj "fromAttribute",.bF gF)]) (cG:=[aj "output",aj "charStack",aj "hex",aj "entityName",aj "entityLength",aj "tokenType"]) hK (nK hK) rfl rfl rfl (by kernel_rfl) (by kernel_rfl) (ae0 (xs:=[.none,.bF false]) hK rfl (by kernel_rfl) (λz9 z9 z9=>rfl) (λz9 z9 z9=>rfl)) ?_
 intro κ hf hQ hN hX
 refine cX 10 (m':=.cl _ _ _ _ _ _) rfl rfl ?_
 refine gH (gA c hK h) rfl rfl λv W' hW=>?_
 apply hW;clear hW;intro d1 t1 e1 h1
 refine eO h1.fm λs1 bG=>?_;obtain rfl:=bG
 refine cX 3 (m':=.ex _ _ _ _) rfl rfl ?_
 refine zH (EJ al gF st ct R x u cC q (pH x u al gF)) ?_ ?_
 ·intro mF kn kr kb kc kx ke
  refine cX 1 (m':=.te _ _ _ _ _) rfl rfl ?_
  refine DB (b:=zq al (x.au[u]?)) ?_ ?_
  ·have hs:=PD x u al
   cases iV:x.au[u]? with
   |none=>
    rw[vq iV]at hs⊢
    rw[iV]at hs
    cases al with
    |none=>exact uQ (k:=12) rfl ⟨Kd,Kd,Kd,trivial⟩ hs
    |az a=>exact uQ (k:=12) rfl ⟨Kd,Kd,Kd,trivial⟩ hs
   |az k=>
    rw[gQ iV]at hs⊢
    rw[iV]at hs
    cases al with
    |none=>exact uQ (k:=12) rfl ⟨Kd,Kd,Kd,trivial⟩ hs
    |az a=>exact uQ (k:=12) rfl ⟨Kd,Kd,Kd,trivial⟩ hs
  cases Vs:zq al (x.au[u]?)with
  |true=>
   have hR:pH x u al gF=⟨[],aj "&",0⟩:=by unfold pH;rw[Vs];rfl
   rw[hR]at kn
   refine mq 9 (m':=.cl _ _ _ _ _ _) rfl rfl ?_ ?_
   ·exact Kd
   refine gH (AP c hK h1 GG) rfl (by unfold rN;cases x.au[u]?<;>rfl) λv W' hW=>?_
   apply hW;clear hW;intro d2 t2 e2 h2
   refine cX 1 (m':=.ex _ _ _ _) rfl rfl ?_
   have hj:=EJ.mk (al:=al) (gF:=gF) (st:=st) (ct:=ct) (R:=R) (q:=q) (r:=⟨[],aj "&",0⟩) (T:=[.aR [rN x u]]) (hv:=none) (nm:=none) (ln:=none) h2
   rw[ak.eu]at hj
   exact gU (kn _ _ _ hj)
  |false=>
   cases iV:x.au[u]? with
   |none=>exfalso;rw[iV]at Vs;unfold zq at Vs;cases al<;>cases Vs
   |az k0=>
   rw[gQ iV]
   have lM:=jf iV
   rw[bJ lM,aV (show u+1<=x.aq from lM)]at h1
   refine mq 3 (m':=.rt _ _ _ _ _) rfl rfl ?_ ?_
   ·exact Kd
   rw[eq1 k0 (j:=35) (by kernel_rfl)]
   cases hsh:(k0==35)with
   |true=>
    have hR:pH x u al gF=u7 x u:=by unfold pH;rw[Vs,iV,show(az k0==az 35)=(k0==35) from rfl,hsh];rfl
    obtain rfl:=cL hsh
    refine cX 13 (m':=.cl _ _ _ _ _ _) rfl rfl ?_
    refine gH (gA c hK h1) rfl rfl λv W' hW=>?_
    apply hW;clear hW;intro d2 t2 e2 h2
    refine eO h2.fm λs2 bG=>?_;obtain rfl:=bG
    refine mq 4 (m':=.ex _ _ _ _) rfl rfl ?_ ?_
    ·exact aD rfl
    refine zH (EH al gF st ct R x u cC q (ur [120,88] (x.au[u+1]?))) ?_ ?_
    ·intro QW en er eb ec ex ee
     have hs1:=sub_one iV
     cases QY:x.au[u+1]? with
     |none=>
      rw[vq QY]
      rw[QY]at en
      refine mq 3 (m':=.ex _ _ _ _) rfl rfl ?_ ?_
      ·exact iR (n:=2) (by decide) (by decide)
      have hE:=EH.mk (al:=al) (gF:=gF) (st:=st) (ct:=ct) (R:=R) (x:=x) (u:=u) (cC:=cC) (q:=q) (hb:=false) [⟨#[35]⟩] h2 hs1.symm (aD rfl) lM
      rw[show u+1+(if false=true then 1 else 0)=u+1 from rfl,vq QY]at hE
      exact gU (en _ _ _ hE)
     |az k1=>
      have Za:=jf QY
      have hha:=Tf x (u+1)
      rw[gQ QY,QY]at hha
      rw[gQ QY]
      rw[QY]at en
      refine mq 2 (m':=.rt _ _ _ _ _) rfl rfl ?_ ?_
      ·exact iR (n:=2) (by decide) (by decide)
      rw[hha]
      cases hh:ur [120,88] (az k1)with
      |true=>
       rw[hh]at en
       rw[bJ Za,aV (show u+1+1<=x.aq from Za)]at h2
       refine cX 13 (m':=.cl _ _ _ _ _ _) rfl rfl ?_
       refine gH (gA c hK h2) rfl rfl λv W' hW=>?_
       apply hW;clear hW;intro d3 t3 e3 h3
       refine mq 4 (m':=.ex _ _ _ _) rfl rfl ?_ ?_
       ·exact aD rfl
       exact gU (en _ _ _ (EH.mk (hb:=true) [⟨#[35]⟩,⟨#[k1]⟩] h3 (Tp iV QY).symm (aD rfl) Za))
      |false=>
       rw[hh]at en
       refine cX 1 (m':=.ex _ _ _ _) rfl rfl ?_
       have hE:=EH.mk (al:=al) (gF:=gF) (st:=st) (ct:=ct) (R:=R) (x:=x) (u:=u) (cC:=cC) (q:=q) (hb:=false) [⟨#[35]⟩] h2 hs1.symm (aD rfl) lM
       rw[show u+1+(if false=true then 1 else 0)=u+1 from rfl,gQ QY]at hE
       exact gU (en _ _ _ hE)
    ·intro _ _ _ hE
     unfold u7 at hR
     generalize ur [120,88] (x.au[u+1]?)=hb at hR hE
     apply hE;clear hE;intro d3 t3 e3 pre h3 hp hl hv
     refine eO h3.fm λs3 bG=>?_;obtain rfl:=bG
     dsimp only at hR
     have huv:u<=u+1+(if hb=true then 1 else 0):=aA (xy u) (cu ..)
     generalize u+1+(if hb=true then 1 else 0)=v at hR h3 hp hv huv⊢
     have hpz:(pre.map V.str).aq<=5000:=by rw[ak.bT];exact aA hl (by decide)
     refine cX 1 (m':=.te _ _ _ _ _) rfl rfl ?_
     have hg (cs:ak Nat):((p9 λk=>V.str ⟨#[k]⟩).any λy=>vf y (rN x v))=ur cs (x.au[v]?):=za x v cs
     refine DB (b:=yD hb (x.au[v]?)) ?_ ?_
     ·rw[<-Ye,<-hg,<-hg]
      refine qP (Cd (qP (wV (uQ (k:=3) rfl trivial rfl) (tY ?_))) (tY (qP (wV (uQ (k:=3) rfl trivial rfl) (tY ?_)))))
      ·exact JX rfl (yY (eU (k:=3) rfl) (eU (k:=3) rfl) (Bu rfl hpz)) (eU (k:=3) rfl) (Cp _) (yC ..)
      ·exact JX rfl (yY (eU (k:=3) rfl) (eU (k:=3) rfl) (Bu rfl hpz)) (eU (k:=3) rfl) (Cp _) (yC ..)
     cases OT:yD hb (x.au[v]?)with
     |true=>
      rw[OT,bJ rfl]at hR
      refine cX 6 (m':=.ev _ _ _ _ _) rfl rfl ?_
      refine Ek ?_
      refine cX 3 (m':=.rt _ _ _ _ _) rfl rfl ?_
      refine aba rfl hpz ?_
      refine cX 2 (m':=.cl _ _ _ _ _ _) rfl rfl ?_
      refine gH (AP c hK h3 hv) rfl (by unfold rN;cases x.au[v]?<;>rfl) λv' W' hW=>?_
      apply hW;clear hW;intro d4 t4 e4 h4
      refine eO h4.fm λs4 bG=>?_;obtain rfl:=bG
      refine cX 9 (m':=.cl _ _ _ _ _ _) rfl rfl ?_
      refine gH (Pw c hK h4 hb hx (aA hq (by decide)) (To OT)) rfl rfl λv' W' hW=>?_
      apply hW;clear hW;intro d5 t5 e5 h5
      refine cX 1 (m':=.ex _ _ _ _) rfl rfl ?_
      rw[hR]at kn
      refine gU (kn _ _ _ ?_)
      rw[ak.cV]
      refine EJ.mk (r:=⟨_,_,_⟩) ?_
      show j8 x (u+(v+(fH hb x v).aq+semN x (v+(fH hb x v).aq) - u)) 0 cC _ _ _
      rwa [show u+(v+(fH hb x v).aq+semN x (v+(fH hb x v).aq) - u)=v+(fH hb x v).aq+semN x (v+(fH hb x v).aq) from Tq huv]
     |false=>
      rw[OT,aY (by decide)]at hR
      refine mq 31 (m':=.cl _ _ _ _ _ _) rfl rfl ?_ ?_
      ·exact aA hq (by decide)
      refine Sw rfl (aA hpz (by decide)) ?_
      refine cX 2 (m':=.cl _ _ _ _ _ _) rfl rfl ?_
      refine gH (AP c hK h3 hv) rfl (by unfold rN;cases x.au[v]?<;>rfl) λv' W' hW=>?_
      apply hW;clear hW;intro d4 t4 e4 h4
      refine cX 12 (m':=.cl _ _ _ _ _ _) rfl rfl ?_
      refine yw (ys:=pre) (.lo rfl) (by decide) ?_ ?_
      ·rw[nT,hp];exact abX (n:=2) (nL x u v) hx hl (aD rfl)
      rw[q7,hp]
      refine mq 2 (m':=.ex _ _ _ _) rfl rfl ?_ ?_
      ·exact IX (aA (nL x u v) hx)
      rw[EC]
      rw[hR]at kn
      refine gU (kn _ _ _ ?_)
      refine EJ.mk (r:=⟨_,_,_⟩) ?_
      show j8 x (u+(v - u)) 0 cC _ _ _
      rwa [kB huv]
   |false=>
    have hR:pH x u al gF=Cv x u gF:=by unfold pH;rw[Vs,iV,show(az k0==az 35)=(k0==35) from rfl,hsh];rfl
    refine cX 1 (m':=.ex _ _ _ _) rfl rfl ?_
    refine zH (EX al gF st ct R x u cC q none none) ?_ ?_
    ·intro QW en er eb ec ex ee
     haveI e0:jl x u (u+0)=[]:=ak.pP (by rw[ak.eX];exact oZ ..)
     refine zI (EW al gF st ct R x u cC q) (x.aq - u) ?_ ?_
     ·have hw:=EW.mk (al:=al) (gF:=gF) (st:=st) (ct:=ct) (R:=R) (q:=q) (k:=x.aq - u) (cC:=cC) (d:=sD s1) (t:=t1) (e:=e1) 0 (by rw[bJ (show u+0<x.aq from lM),aV (show u+0+1<=x.aq from lM)];exact h1) GG rfl rfl
      rw[e0,show rN x (u+0)=_ from gQ iV]at hw
      exact hw
     intro k _ _ _ hI QV tn tc tb tr
     apply hI;clear hI;intro d2 t2 e2 m h2 hm hg hk
     refine eO h2.fm λs2 bG=>?_;obtain rfl:=bG
     refine iU (PC hm hx) λz1 z2=>?_
     refine DB (OQ rfl (yY (eU (k:=3) rfl) (eU (k:=3) rfl) (Bu rfl (aA z1 (by decide)))) (eU (k:=3) rfl) (X6 ..)) ?_
     rw[Po]
     cases Zh:x.au[u+m]? with
     |none=>
      refine yx (tb _ _ _ (gU (en _ _ _ (.mk m h2 hm ?_))))
      rw[<-hg,Nat.sub_eq_zero_of_le (AM Zh)];rfl
     |az k=>
      have L2:=jf Zh
      rw[gQ Zh,PA Zh]
      rw[Tr L2]at hg
      have Vk:=h2
      rw[bJ L2,aV (show u+m+1<=x.aq from L2)]at Vk
      refine iU (PC (x:=x) (u:=u) (m:=m+1) L2 hx) λy1 y2=>?_
      refine cX 15 (m':=.cl _ _ _ _ _ _) rfl rfl ?_
      refine yw (ys:=(jl x u (u+(m+1))).map λk=>⟨#[k]⟩) (.lo (bM az (bM AO.aR (GJ _)))) (by decide) ?_ ?_
      ·rw[nT];exact y2
      rw[q7,m8]
      refine cX 2 (m':=.cl _ _ _ _ _ _) rfl rfl ?_
      refine fW (abS c hK (jP x u (u+m+1)) _) rfl rfl ?_
      refine cX 2 (m':=.rt _ _ _ _ _) rfl rfl ?_
      cases hhb:hasB (jP x u (u+m+1))with
      |true=>
       rw[hhb,bJ rfl]at hg
       refine cX 10 (m':=.cl _ _ _ _ _ _) rfl rfl ?_
       refine gH (gA c hK Vk) rfl rfl λv W' hW=>?_
       apply hW;clear hW;intro d3 t3 e3 h3
       refine mq 4 (m':=.ex _ _ _ _) rfl rfl ?_ ?_
       ·exact aA y1 (by decide)
       exact gU (tn _ _ _ _ (abY L2 hk) (.mk (m+1) h3 L2 hg rfl))
      |false=>
       rw[hhb,aY (by decide)]at hg
       refine cX 1 (m':=.ex _ _ _ _) rfl rfl ?_
       have hw:=EX.mk (al:=al) (gF:=gF) (st:=st) (ct:=ct) (R:=R) (q:=q) (nm:=none) (ln:=none) m h2 hm hg
       rw[gQ Zh,PA Zh]at hw
       exact El (tb _ _ _ (gU (en _ _ _ hw)))
    ·intro _ _ _ hE
     apply hE;clear hE;intro d2 t2 e2 m h2 hm hg
     refine eO h2.fm λs2 bG=>?_;obtain rfl:=bG
     refine iU (PC hm hx) λz1 z2=>?_
     have hPl:(jP x u (u+m)).aq=m:=sub_len hm
     have Wm:(ED (jl x u (u+m))++[rN x (u+m)]).aq<=10000:=by rw[ak.aX];exact aA (dZ z1) (by decide)
     refine aew (ke▸hf) (by kernel_rfl) (by rw[hK];kernel_rfl) (by kernel_rfl) λQV tn tr tx=>?_
     refine mq 12 (m':=.cl _ _ _ _ _ _) rfl rfl ?_ ?_
     ·exact Wm
     rw[Th]
     refine yw (ys:=(jl x u (u+m)).map λk=>⟨#[k]⟩) (by rw[<-GJ];exact .aR) (by decide) (by rw[nT];exact z2) ?_
     rw[q7,m8]
     refine cX 2 (m':=.cl _ _ _ _ _ _) rfl rfl ?_
     refine Xi (Mm c hK (jP x u (u+m)) (by rw[hPl];exact aA (aA (g7 ..) hm) (aA hx (by decide))) _) rfl rfl ?_ ?_
     ·intro v W' hW
      apply hW;clear hW;intro e hle
      rw[hPl]at hle
      refine iU (Cy hle) λhe1 hek=>?_
      have hem:e<=m:=fC he1
      rw[DI hem]at hek⊢
      have he0:=Kc GG hek
      have heu:u+e<=x.aq:=aA (bH hem u) hm
      refine gg (Py he0 heu) λa hxa ab1=>?_
      refine mq 11 (m':=.ex _ _ _ _) rfl rfl ?_ ?_
      ·exact aA (nL ..) (aA hx (by decide))
      have hel:(jP x u (u+e)).aq=e:=sub_len heu
      have hix:uO (jP x u (u+e)).aq (-1):=by rw[hel];exact iR he0 (aA (aA (g7 ..) heu) (aA hx (by decide)))
      have hgd:(jP x u (u+e)).au.xV (zo (jP x u (u+e)).aq (-1)) 0=a:=by
       rw[zZ,ak.iY,<-dh,<-ak.getLast?_eq_getElem?,ab1];rfl
      have Zi:pH x u al gF=if(!(a==59)&&(gF&&yF (x.au[u+e]?)))=true then⟨if(a==59)=true then[]else[qR (aj "named-entity-without-semicolon")],amp (jl x u (u+m)),m⟩else⟨if(a==59)=true then[]else[qR (aj "named-entity-without-semicolon")],uU (jP x u (u+e))++jP x (u+e) (u+m),m⟩:=by
       rw[hR]
       unfold Cv
       rw[<-hg]
       dsimp only
       rw[hle]
       dsimp only
       rw[hxa]
       rfl
      refine gU (tn _ _ _ ?_)
      rw[hel]
      refine cX 3 (m':=.ex _ _ _ _) rfl rfl ?_
      refine zH (λl T W=>l=QX al gF (az (.str (aj "&"))) (az (.lo 0)) none (az (.str (jP x u (u+e)))) (az (.int e))/\T=[.aR (ED (jl x u (u+m))++[rN x (u+m)])]/\W=.bO (pW st ct)::sD s2::t2::e2::.aR (q++if(a==59)=true then[]else[qR (aj "named-entity-without-semicolon")])::R) ?_ ?_
      ·intro κ4 en er eb ec ex ee
       refine mq 2 (m':=.rt _ _ _ _ _) rfl rfl ?_ ?_
       ·exact hix
       rw[hgd,Bw]
       cases ha:(a==59)with
       |true=>
        rw[ha,bJ rfl,ak.eu]at en
        refine cX 1 (m':=.ex _ _ _ _) rfl rfl ?_
        exact gU (en _ _ _ ⟨rfl,rfl,rfl⟩)
       |false=>
        rw[ha,aY (by decide)]at en
        refine mq 22 (m':=.ex _ _ _ _) rfl rfl ?_ ?_
        ·exact aA hq (by decide)
        exact gU (en _ _ _ ⟨rfl,rfl,rfl⟩)
      ·rintro _ _ _ ⟨rfl,rfl,rfl⟩
       refine cX 1 (m':=.te _ _ _ _ _) rfl rfl ?_
       refine DB (b:=(!(a==59)&&(gF&&yF (x.au[u+e]?)))) ?_ ?_
       ·unfold yF
        rw[<-za,<-za,<-X8 (s:=aj "=") (k:=61) (by kernel_rfl)]
        have Zj:=charAt hm hem
        refine qP (wV (uQ (k:=6) rfl ⟨hix,trivial⟩ (by rw[hgd];exact Bw a)) (wV (uQ (k:=3) rfl trivial rfl) (tY (qP (Cd ?_ (Cd ?_ (tY ?_)))))))
        ·exact JX rfl (yY (eU (k:=3) rfl) (eU (k:=3) rfl) (Iu rfl Zj Wm)) (eU (k:=3) rfl) (Cp _) (yC ..)
        ·exact JX rfl (yY (eU (k:=3) rfl) (eU (k:=3) rfl) (Iu rfl Zj Wm)) (eU (k:=3) rfl) (Cp _) (yC ..)
        ·exact aa9 rfl (yY (eU (k:=3) rfl) (eU (k:=3) rfl) (Iu rfl Zj Wm)) (eU (k:=3) rfl) (Yb ..) rfl
       cases htb:(!(a==59)&&(gF&&yF (x.au[u+e]?)))with
       |true=>
        rw[htb,bJ rfl]at Zi
        rw[Zi]at kn
        refine cX 10 (m':=.cl _ _ _ _ _ _) rfl rfl ?_
        refine Sw rfl (aA z1 (by decide)) ?_
        refine cX 2 (m':=.cl _ _ _ _ _ _) rfl rfl ?_
        refine gH (AP c hK h2 hm) rfl (by unfold rN;cases x.au[u+m]?<;>rfl) λv' W' hW=>?_
        apply hW;clear hW;intro d4 t4 e4 h4
        refine cX 12 (m':=.cl _ _ _ _ _ _) rfl rfl ?_
        refine yw (ys:=(jl x u (u+m)).map λk=>⟨#[k]⟩) (.lo (bM az (bM AO.aR (GJ _)))) (by decide) (by rw[nT];exact z2) ?_
        rw[q7,m8]
        refine mq 2 (m':=.ex _ _ _ _) rfl rfl ?_ ?_
        ·exact IX (aA (nL ..) hx)
        rw[EC]
        exact gU (kn _ _ _ (EJ.mk (r:=⟨_,_,_⟩) h4))
       |false=>
        rw[htb,aY (by decide)]at Zi
        rw[Zi]at kn
        refine cX 2 (m':=.ev _ _ _ _ _) rfl rfl ?_
        refine Ek ?_
        refine cX 3 (m':=.rt _ _ _ _ _) rfl rfl ?_
        refine LV (IW hek) ?_
        refine cX 10 (m':=.cl _ _ _ _ _ _) rfl rfl ?_
        refine Sw rfl (aA z1 (by decide)) ?_
        refine cX 2 (m':=.cl _ _ _ _ _ _) rfl rfl ?_
        refine gH (AP c hK h2 hm) rfl (by unfold rN;cases x.au[u+m]?<;>rfl) λv' W' hW=>?_
        apply hW;clear hW;intro d4 t4 e4 h4
        refine mq 9 (m':=.cl _ _ _ _ _ _) rfl rfl ?_ ?_
        ·exact aA z1 (by decide)
        rw[Tn hm hem]
        refine yw (ys:=(jl x (u+e) (u+m)).map λk=>⟨#[k]⟩) (by rw[<-GJ];exact .aR) (by decide) ?_ ?_
        ·rw[nT,m8,ak.bT];exact abZ (nL x (u+e) (u+m)) hx
        rw[q7,m8]
        refine mq 1 (m':=.ex _ _ _ _) rfl rfl ?_ ?_
        ·exact ab0 (Cw _) (nL x (u+e) (u+m)) hx
        exact gU (kn _ _ _ (EJ.mk (r:=⟨_,_,_⟩) h4))
     ·rintro _ ⟨QN,rfl⟩
      haveI Zi:pH x u al gF=⟨[qR (aj "expected-named-entity")],amp (jl x u (u+m)),m⟩:=by
       rw[hR]
       unfold Cv
       rw[<-hg]
       dsimp only
       rw[hPl]at QN
       rw[QN]
      rw[Zi]at kn
      refine tx _ (QX al gF (az (.str (aj "&"))) (az (.lo 0)) none (az .none) none) _ _ (.cI (.cI (.cI (.cI (.cI (.cI .dw)))))) ?_
      refine mq 33 (m':=.cl _ _ _ _ _ _) rfl rfl ?_ ?_
      ·exact aA hq (by decide)
      refine Sw rfl (aA z1 (by decide)) ?_
      refine cX 2 (m':=.cl _ _ _ _ _ _) rfl rfl ?_
      refine gH (AP c hK h2 hm) rfl (by unfold rN;cases x.au[u+m]?<;>rfl) λv' W' hW=>?_
      apply hW;clear hW;intro d4 t4 e4 h4
      refine cX 12 (m':=.cl _ _ _ _ _ _) rfl rfl ?_
      refine yw (ys:=(jl x u (u+m)).map λk=>⟨#[k]⟩) (.lo (bM az (bM AO.aR (GJ _)))) (by decide) (by rw[nT];exact z2) ?_
      rw[q7,m8]
      refine mq 2 (m':=.ex _ _ _ _) rfl rfl ?_ ?_
      ·exact IX (aA (nL ..) hx)
      rw[EC]
      exact gU (kn _ _ _ (EJ.mk (r:=⟨_,_,_⟩) h4))
 ·exact fin κ hN
def IY(ty:Int)(nm:Str)(d:V)(r:ak (Str×V)):ak (Str×V):=(aj "type",.int ty)::(aj "name",.str nm)::(aj "data",d)::r
def obQ:Nat->ak V
 |0=>[]
 |1=>[.ob 7]
 |2=>[.ob 7,.ob 8]
 |_=>[.ob 7,.ob 8,.ob 9]
def Vt(p:Str×Str):AO:=.aR [.str p.1,.str p.2]
def gI(ty:Int)(nm:Str)(r:ak (Str×V))(ps:ak (Str×Str)):ak AO:=.aR (obQ ps.aq)::.bO (IY ty nm (.ob 5) r)::ps.map Vt
theorem kJ{α:Type}{ps:ak α}(h:ps.aq<=2):ps=[]\/(∃a,ps=[a])\/∃a b,ps=[a,b]:=by
 cases ps with
 |nil=>exact .inl rfl
 |br a t=>cases t with
  |nil=>exact .inr (.inl ⟨a,rfl⟩)
  |br b t=>cases t with
   |nil=>exact .inr (.inr ⟨a,b,rfl⟩)
   |br=>exact(Nat.not_succ_le_zero _ (eN (eN h))).g9
@[elab_as_elim] theorem Yg{P:Nat->Prop}(h0:P 0)(h1:P 1)(h2:P 2){i:Nat}(h:i<3):P i:=by
 cases i with
 |zero=>exact h0
 |succ i=>cases i with
  |zero=>exact h1
  |succ i=>cases i with
   |zero=>exact h2
   |succ=>exact(Nat.not_succ_le_zero _ (Nat.le_of_succ_le_succ (Nat.le_of_succ_le_succ (Nat.le_of_succ_le_succ h)))).elim
theorem Yh(c:Cx)(hK:gM=top.heap_1 aL){st:V}{ty:Int}{nm an av:Str}{r:ak (Str×V)}{ps:ak (Str×Str)}(tL:ps.aq<=2){d t e:AO}{x:Str}{u b cC:Nat}{q:ak V}(h:j8 x u b cC d t e)(hx:x.aq<=600)(hq:q.aq<=4000)(ha:av.aq<=2000)(al:Nat):
  gj c 6 (.ref 283) [.cR 762 0] [(aj "allowedChar",.str ⟨#[al]⟩),(aj "fromAttribute",.bF true)] (RT st (.ob 6) (gI ty nm r (ps++[(an,av++(pH x u (az al) true).out)])) x (u+(pH x u (az al) true).oF) 0 cC (q++(pH x u (az al) true).es) .none) (λz9=>cM) (.bO (pW st (.ob 6))::d::t::e::.aR q::gI ty nm r (ps++[(an,av)])):=by
 revert hK tL h hx hq ha
 revert c st ty nm an av r ps d t e x u b cC q al
 intros c st ty nm an av r ps d t e x u b cC q al
 intro hK tL h hx hq ha
 have hz:=GN x u (az al) true
 refine PF c hK h hx hq (az al) true λκ hN l T W hj=>?_
 generalize pH x u (az al) true=rr at hj hz hN
 apply hj;clear hj;intro d t e T hv nm' ln h
 refine eO h.fm λs bG=>?_;obtain rfl:=bG
 have o1:∀n:Nat,0<n->n<=10000->uO n (-1):=λn h0 h1=>iR h0 h1
 have o2:uO [V.str an,V.str av].aq (1:Int):=je (n:=2) (k:=1) (by decide) (by decide)
 have o3:av.aq+rr.out.aq<=fu:=qG (aA (bI ha (aA hz (dz hx 10))) (by decide))
 have o4:(0:Int)<=1/\(1:Int)<([V.str an,V.str av].aq:Nat)/\[V.str an,V.str av].aq<=10000:=⟨Int.le_of_lt Int.one_pos,dF.mpr (aD rfl),aD rfl⟩
 unfold gI at hN⊢
 rcases kJ tL with rfl|⟨p1,rfl⟩|⟨p1,p2,rfl⟩
 ·refine go _ _ 20 (m':=.ex _ _ _ _) rfl ⟨o1 1 (by decide) (by decide),o2,o3,o4,trivial⟩ ?_
  exact gU (hN _ _ _ (.mk h))
 ·refine go _ _ 20 (m':=.ex _ _ _ _) rfl ⟨o1 2 (by decide) (by decide),o2,o3,o4,trivial⟩ ?_
  exact gU (hN _ _ _ (.mk h))
 ·refine go _ _ 20 (m':=.ex _ _ _ _) rfl ⟨o1 3 (by decide) (by decide),o2,o3,o4,trivial⟩ ?_
  exact gU (hN _ _ _ (.mk h))
theorem EF(c:Cx)(hK:gM=top.heap_1 aL){st:V}{ty:Int}{nm an av:Str}{r:ak (Str×V)}{ps:ak (Str×Str)}(tL:ps.aq<=2){d t e:AO}{x:Str}{u b cC:Nat}{q:ak V}(h:j8 x u b cC d t e)(hx:x.aq<=600)(hq:q.aq<=4000)(ha:av.aq<=2000)(al:Nat):
  gj c 7 (.ref 290) [.cR 762 0,.str ⟨#[al]⟩] [] (RT st (.ob 6) (gI ty nm r (ps++[(an,av++(pH x u (az al) true).out)])) x (u+(pH x u (az al) true).oF) 0 cC (q++(pH x u (az al) true).es) .none) (λz9=>cM) (.bO (pW st (.ob 6))::d::t::e::.aR q::gI ty nm r (ps++[(an,av)])):=by
 revert hK tL h hx hq ha
 revert c st ty nm an av r ps d t e x u b cC q al
 intros c st ty nm an av r ps d t e x u b cC q al
 intro hK tL h hx hq ha
 refine pF (bs:=[(aj "self",.cR 762 0),(aj "allowedChar",.str ⟨#[al]⟩)]) (cG:=[]) hK (nK hK) rfl rfl rfl (by kernel_rfl) (by kernel_rfl) (nU (λs X a b=>bf rfl) .nil) ?_
 intro κ hf hQ hN hX
 refine cX 1 (m':=.ev _ _ _ _ _) rfl rfl ?_
 refine XC (v:=.cR 762 0) (v1:=.str ⟨#[al]⟩) (v2:=.bF true) (f:=283) rfl rfl (eU (k:=3) rfl) (λQ q=>Jy (κ.ok.mt (762,aj "consumeEntity",283) (ak.g6 (by kernel_rfl))).1 rfl (F4 (by kernel_rfl)) q) (by kernel_rfl) (eU (k:=3) rfl) (eU (k:=3) rfl) rfl rfl rfl (Yh c hK tL h hx hq ha al) rfl λv W' hW=>?_
 haveI hv:v=.none:=hW (λz z9=>z=.none) λd t e h=>rfl
 subst hv
 refine cX 1 (m':=.ex _ _ _ _) rfl rfl ?_
 exact gU (hN _ _ _ hW)
def xm(k:Nat):ak Nat:=[k,38,0]
def TS(ct:V)(R:ak AO)(x:Str)(u cC:Nat)(q:ak V)(f:aQ)(v:V)(z1:V)(z2:ak AO):Prop:=∀G:V->ak AO->Prop,(∀(d t e:AO)(h:j8 x u 0 cC d t e),G v (.bO (pW (vO f) ct)::d::t::e::.aR q::R))->G z1 z2
theorem TS.mk{ct:V}{R:ak AO}{x:Str}{u cC:Nat}{q:ak V}{f:aQ}{v:V}{d t e:AO}(h:j8 x u 0 cC d t e):TS ct R x u cC q f v v (.bO (pW (vO f) ct)::d::t::e::.aR q::R):=λz9 z=>z d t e h
theorem qT{q:ak V}(h:q.aq<=4000):q.aq<=10000:=aA h (by decide)
theorem qU(k:Nat)(l:ak Nat):(⟨#[k]⟩:Str)++⟨l.aJ⟩=⟨(k::l).aJ⟩:=by
 show(⟨#[k]++l.aJ⟩:Str)=_
 exact bM Str.mk (dX.toList_inj.mp (by simp))
theorem Ai{x:Str}{u k:Nat}{l:ak Nat}(h:u+1+l.aq<=x.aq)(hx:x.aq<=600):(⟨#[k]⟩:Str).aq+(⟨l.aJ⟩:Str).aq<=fu:=by
 show 1+l.aJ.dM<=fu
 rw[ak.bZ]
 exact qG (aA (aA (dz (g7 1 u) _) h) (aA hx (by decide)))
def AQ:ak (Str×V):=[(aj "selfClosing",.bF false)]
def Aj:ak (Str×V):=[(aj "selfClosing",.bF false),(aj "selfClosingAcknowledged",.bF false)]
section
variable(c:Cx)(hK:c.K=top.heap_1 c.w.params){ct:V}{R:List AO}{d t e:AO}{x:Str}{u b told:Nat}{q:List V}(h:j8 x u b told d t e)
include hK h
theorem Tt(iV:x.au[u]?=none):
  gj c 5 (.ref 304) [.cR 762 0] [] (TS ct R x x.aq cC q 304 (.bF false)) (λz9=>cM) (.bO (pW (vO 304) ct)::d::t::e::.aR q::R):=by
 refine eO h.fm λs0 bG=>?_;obtain rfl:=bG
 refine pF (bs:=[(aj "self",.cR 762 0)]) (cG:=[aj "data",aj "chars"]) hK (nK hK) rfl rfl rfl (by kernel_rfl) (by kernel_rfl) (gz (λs X a=>bf rfl) .nil) ?_
 intro κ hf hQ hN hX
 refine cX 5 (m':=.cl _ _ _ _ _ _) rfl rfl ?_
 refine gH (gA c hK h) rfl rfl λv W' hW=>?_
 apply hW;clear hW;intro d1 t1 e1 h1
 refine eO h1.fm λs1 bG=>?_;obtain rfl:=bG
 haveI hl:x.aq<=u:=by rw[<-dh];exact ak.rU iV
 rw[vq iV]
 rw[kW (fR hl)]at h1
 refine cX 15 (m':=.rt _ _ _ _ _) rfl rfl ?_
 exact hQ _ _ _ _ _ (.eG rfl) (.mk h1.qA)
theorem PG(iV:x.au[u]?=az 60):
  gj c 5 (.ref 304) [.cR 762 0] [] (TS ct R x (u+1) cC q 353 (.bF true)) (λz9=>cM) (.bO (pW (vO 304) ct)::d::t::e::.aR q::R):=by
 refine eO h.fm λs0 bG=>?_;obtain rfl:=bG
 refine pF (bs:=[(aj "self",.cR 762 0)]) (cG:=[aj "data",aj "chars"]) hK (nK hK) rfl rfl rfl (by kernel_rfl) (by kernel_rfl) (gz (λs X a=>bf rfl) .nil) ?_
 intro κ hf hQ hN hX
 refine cX 5 (m':=.cl _ _ _ _ _ _) rfl rfl ?_
 refine gH (gA c hK h) rfl rfl λv W' hW=>?_
 apply hW;clear hW;intro d1 t1 e1 h1
 refine eO h1.fm λs1 bG=>?_;obtain rfl:=bG
 rw[gQ iV]
 rw[aV (cB (jf iV))]at h1
 refine cX 99 (m':=.rt _ _ _ _ _) rfl rfl ?_
 exact hQ _ _ _ _ _ (.eG rfl) (.mk h1.qA)
theorem Mq(iV:x.au[u]?=az 97):
  gj c 5 (.ref 353) [.cR 762 0] [] (TS (.ob 6) (gI 3 ⟨#[97]⟩ Aj []) x (u+1) cC q 367 (.bF true)) (λz9=>cM) [.bO (pW (vO 353) ct),d,t,e,.aR q]:=by
 refine eO h.fm λs0 bG=>?_;obtain rfl:=bG
 refine pF (bs:=[(aj "self",.cR 762 0)]) (cG:=[aj "data"]) hK (nK hK) rfl rfl rfl (by kernel_rfl) (by kernel_rfl) (gz (λs X a=>bf rfl) .nil) ?_
 intro κ hf hQ hN hX
 refine cX 5 (m':=.cl _ _ _ _ _ _) rfl rfl ?_
 refine gH (gA c hK h) rfl rfl λv W' hW=>?_
 apply hW;clear hW;intro d1 t1 e1 h1
 refine eO h1.fm λs1 bG=>?_;obtain rfl:=bG
 rw[gQ iV]
 rw[aV (cB (jf iV))]at h1
 refine cX 99 (m':=.rt _ _ _ _ _) rfl rfl ?_
 exact hQ _ _ _ _ _ (.eG rfl) (.mk h1.qA)
theorem IZ(iV:x.au[u]?=az 47):
  gj c 5 (.ref 353) [.cR 762 0] [] (TS ct R x (u+1) cC q 360 (.bF true)) (λz9=>cM) (.bO (pW (vO 353) ct)::d::t::e::.aR q::R):=by
 refine eO h.fm λs0 bG=>?_;obtain rfl:=bG
 refine pF (bs:=[(aj "self",.cR 762 0)]) (cG:=[aj "data"]) hK (nK hK) rfl rfl rfl (by kernel_rfl) (by kernel_rfl) (gz (λs X a=>bf rfl) .nil) ?_
 intro κ hf hQ hN hX
 refine cX 5 (m':=.cl _ _ _ _ _ _) rfl rfl ?_
 refine gH (gA c hK h) rfl rfl λv W' hW=>?_
 apply hW;clear hW;intro d1 t1 e1 h1
 refine eO h1.fm λs1 bG=>?_;obtain rfl:=bG
 rw[gQ iV]
 rw[aV (cB (jf iV))]at h1
 refine cX 99 (m':=.rt _ _ _ _ _) rfl rfl ?_
 exact hQ _ _ _ _ _ (.eG rfl) (.mk h1.qA)
theorem GO(iV:x.au[u]?=az 97):
  gj c 5 (.ref 360) [.cR 762 0] [] (TS (.ob 6) (gI 4 ⟨#[97]⟩ AQ []) x (u+1) cC q 367 (.bF true)) (λz9=>cM) [.bO (pW (vO 360) ct),d,t,e,.aR q]:=by
 refine eO h.fm λs0 bG=>?_;obtain rfl:=bG
 refine pF (bs:=[(aj "self",.cR 762 0)]) (cG:=[aj "data"]) hK (nK hK) rfl rfl rfl (by kernel_rfl) (by kernel_rfl) (gz (λs X a=>bf rfl) .nil) ?_
 intro κ hf hQ hN hX
 refine cX 5 (m':=.cl _ _ _ _ _ _) rfl rfl ?_
 refine gH (gA c hK h) rfl rfl λv W' hW=>?_
 apply hW;clear hW;intro d1 t1 e1 h1
 refine eO h1.fm λs1 bG=>?_;obtain rfl:=bG
 rw[gQ iV]
 rw[aV (cB (jf iV))]at h1
 refine cX 99 (m':=.rt _ _ _ _ _) rfl rfl ?_
 exact hQ _ _ _ _ _ (.eG rfl) (.mk h1.qA)
theorem Mr(iV:x.au[u]?=az 32):
  gj c 5 (.ref 367) [.cR 762 0] [] (TS ct R x (u+1) cC q 535 (.bF true)) (λz9=>cM) (.bO (pW (vO 367) ct)::d::t::e::.aR q::R):=by
 refine eO h.fm λs0 bG=>?_;obtain rfl:=bG
 refine pF (bs:=[(aj "self",.cR 762 0)]) (cG:=[aj "data"]) hK (nK hK) rfl rfl rfl (by kernel_rfl) (by kernel_rfl) (gz (λs X a=>bf rfl) .nil) ?_
 intro κ hf hQ hN hX
 refine cX 5 (m':=.cl _ _ _ _ _ _) rfl rfl ?_
 refine gH (gA c hK h) rfl rfl λv W' hW=>?_
 apply hW;clear hW;intro d1 t1 e1 h1
 refine eO h1.fm λs1 bG=>?_;obtain rfl:=bG
 rw[gQ iV]
 rw[aV (cB (jf iV))]at h1
 refine cX 99 (m':=.rt _ _ _ _ _) rfl rfl ?_
 exact hQ _ _ _ _ _ (.eG rfl) (.mk h1.qA)
end
def o9:ak Str->ak (Str×Str)
 |[]=>[]
 |[a]=>[(⟨#[98]⟩,a)]
 |[a,b]=>[(⟨#[98]⟩,a),(⟨#[99]⟩,b)]
 |a::b::c::_=>[(⟨#[98]⟩,a),(⟨#[99]⟩,b),(⟨#[100]⟩,c)]
theorem Ke(vs:ak Str)(h:vs.aq<=2):(o9 vs).aq<=2:=by
 rcases kJ h with rfl|⟨a,rfl⟩|⟨a,b,rfl⟩<;>exact aD rfl
theorem Cz{vs:ak Str}(h:vs.aq<=2)(av:Str):o9 (vs++[av])=o9 vs++[(⟨#[98+vs.aq]⟩,av)]:=by
 rcases kJ h with rfl|⟨a,rfl⟩|⟨a,b,rfl⟩<;>rfl
theorem tZ(c:Cx)(hK:gM=top.heap_1 aL){k:Nat}(hz:k=97\/k=98\/k=99\/k=100)(W:ak AO):jO c 2 42 [.str ⟨#[k]⟩] W (.str ⟨#[k]⟩) W:=by
 revert hK hz
 revert c k W
 intros c k W
 intro hK hz
 refine pF (bs:=[(aj "text",.str ⟨#[k]⟩)]) (cG:=[]) hK (nK hK) rfl rfl rfl (by kernel_rfl) (by kernel_rfl) (gz (λs X a=>bf rfl) .nil) ?_
 intro κ hf hQ hN hX
 refine cX 9 (m':=.ev _ _ _ _ _) rfl rfl ?_
 refine XD (v:=.str ⟨#[k]⟩) (bY:=[.str ⟨#[k]⟩]) (λv=>v) rfl (by kernel_rfl) (eU (k:=3) rfl) (.str (x:=⟨#[k]⟩)) (aD rfl) (λmF u hu q=>?_) ?_
 ·obtain rfl:=ak.bR hu
  refine cX 1 (m':=.te _ _ _ _ _) rfl rfl ?_
  refine DB (b:=false) ?_ ?_
  ·refine uQ (k:=12) rfl trivial ?_
   rcases hz with rfl|rfl|rfl|rfl<;>decide+dK
  refine cX 2 (m':=.rt _ _ _ _ _) rfl rfl ?_
  exact q _
 ·refine cX 2 (m':=.cl _ _ _ _ _ _) rfl rfl ?_
  refine yw (ys:=[⟨#[k]⟩]) .aR (by decide) (aD rfl) ?_
  rw[q7]
  exact hQ _ _ _ _ _ (.eG rfl) ⟨rfl,rfl⟩
section
variable(c:Cx)(hK:c.K=top.heap_1 c.w.params){ct:V}{R:List AO}{d t e:AO}{x:Str}{u b told:Nat}{q:List V}(h:j8 x u b told d t e)
include hK h
theorem EG{ty:Int}{nm:Str}{r:ak (Str×V)}{vs:ak Str}(hv:vs.aq<=2)(iV:x.au[u]?=az (98+vs.aq)):
  gj c 5 (.ref 535) [.cR 762 0] [] (TS (.ob 6) (gI ty nm r (o9 (vs++[aj ""]))) x (u+1) cC q 542 (.bF true)) (λz9=>cM) (.bO (pW (vO 535) (.ob 6))::d::t::e::.aR q::gI ty nm r (o9 vs)):=by
 revert hK h hv iV
 revert c d t e x u b cC q ty nm r vs
 intros c d t e x u b cC q ty nm r vs
 intro hK h hv iV
 refine eO h.fm λs0 bG=>?_;obtain rfl:=bG
 refine pF (bs:=[(aj "self",.cR 762 0)]) (cG:=[aj "data"]) hK (nK hK) rfl rfl rfl (by kernel_rfl) (by kernel_rfl) (gz (λs X a=>bf rfl) .nil) ?_
 intro κ hf hQ hN hX
 unfold gI at hQ⊢
 refine cX 5 (m':=.cl _ _ _ _ _ _) rfl rfl ?_
 refine gH (gA c hK h) rfl rfl λv W' hW=>?_
 apply hW;clear hW;intro d1 t1 e1 h1
 refine eO h1.fm λs1 bG=>?_;obtain rfl:=bG
 rw[gQ iV]
 rw[aV (cB (jf iV))]at h1
 rcases kJ hv with rfl|⟨a1,rfl⟩|⟨a1,a2,rfl⟩
 ·refine mq 99 (m':=.rt _ _ _ _ _) rfl rfl ?_ ?_
  ·exact bC _
  exact hQ _ _ _ _ _ (.eG rfl) (.mk h1.qA)
 ·refine mq 99 (m':=.rt _ _ _ _ _) rfl rfl ?_ ?_
  ·exact aD rfl
  exact hQ _ _ _ _ _ (.eG rfl) (.mk h1.qA)
 ·refine mq 99 (m':=.rt _ _ _ _ _) rfl rfl ?_ ?_
  ·exact aD rfl
  exact hQ _ _ _ _ _ (.eG rfl) (.mk h1.qA)
theorem I0{ty:Int}{nm:Str}{r:ak (Str×V)}{vs:ak Str}(hv:vs.aq<=2)(iV:x.au[u]?=az 61):
  gj c 5 (.ref 542) [.cR 762 0] [] (TS (.ob 6) (gI ty nm r (o9 (vs++[aj ""]))) x (u+1) cC q 556 (.bF true)) (λz9=>cM) (.bO (pW (vO 542) (.ob 6))::d::t::e::.aR q::gI ty nm r (o9 (vs++[aj ""]))):=by
 revert hK h hv iV
 revert c d t e x u b cC q ty nm r vs
 intros c d t e x u b cC q ty nm r vs
 intro hK h hv iV
 refine eO h.fm λs0 bG=>?_;obtain rfl:=bG
 refine pF (bs:=[(aj "self",.cR 762 0)]) (cG:=[aj "data",aj "leavingThisState",aj "emitToken",aj "name",aj "_"]) hK (nK hK) rfl rfl rfl (by kernel_rfl) (by kernel_rfl) (gz (λs X a=>bf rfl) .nil) ?_
 intro κ hf hQ hN hX
 unfold gI at hQ⊢
 refine cX 5 (m':=.cl _ _ _ _ _ _) rfl rfl ?_
 refine gH (gA c hK h) rfl rfl λv W' hW=>?_
 apply hW;clear hW;intro d1 t1 e1 h1
 refine eO h1.fm λs1 bG=>?_;obtain rfl:=bG
 rw[gQ iV]
 rw[aV (cB (jf iV))]at h1
 rcases kJ hv with rfl|⟨a1,rfl⟩|⟨a1,a2,rfl⟩
 ·refine cX 99 (m':=.ex _ _ _ _) rfl rfl ?_
  refine r8 (v:=.str ⟨#[98]⟩) (ov:=.ob 7) (iv:=.int 0) rfl (mH λmF q=>?_) (Em (k:=9) rfl ⟨iR (n:=1) (by decide) (by decide),trivial⟩) (eU (k:=3) rfl) (Cm (xs:=[.str ⟨#[98]⟩,.str (aj "")]) rfl (Int.le_refl 0) (dF.mpr (aD rfl)) (aD rfl) rfl ?_)
  ·refine go _ _ 99 (m':=.cl _ _ _ _ _ _) rfl ⟨?_,?_,trivial⟩ ?_
   ·exact iR (n:=1) (by decide) (by decide)
   ·exact je (n:=2) (k:=0) (by decide) (by decide)
   refine fW (tZ c hK (by decide) _) rfl rfl ?_
   exact q
  ·refine mq 99 (m':=.rt _ _ _ _ _) rfl rfl ?_ ?_
   ·exact aD rfl
   refine Gg (bY:=[]) .aR (z0 (λz9 l' T' W'=>(∃QZ Q0,l'=[(aj "self",az (V.cR 762 0)),(aj "data",az (V.str ⟨#[61]⟩)),(aj "leavingThisState",az (V.bF true)),(aj "emitToken",az (V.bF false)),(aj "name",QZ),(aj "_",Q0)])/\T'=_/\W'=_) ⟨⟨_,_,rfl⟩,rfl,rfl⟩ ?_ ?_)
   ·exact λi l T W u hu=>nomatch hu
   ·rintro _ _ _ ⟨⟨QZ,Q0,rfl⟩,rfl,rfl⟩
    refine cX 99 (m':=.rt _ _ _ _ _) rfl rfl ?_
    exact hQ _ _ _ _ _ (.eG rfl) (.mk h1.qA)
 ·refine cX 99 (m':=.ex _ _ _ _) rfl rfl ?_
  refine r8 (v:=.str ⟨#[99]⟩) (ov:=.ob 8) (iv:=.int 0) rfl (mH λmF q=>?_) (Em (k:=9) rfl ⟨iR (n:=2) (by decide) (by decide),trivial⟩) (eU (k:=3) rfl) (Cm (xs:=[.str ⟨#[99]⟩,.str (aj "")]) rfl (Int.le_refl 0) (dF.mpr (aD rfl)) (aD rfl) rfl ?_)
  ·refine go _ _ 99 (m':=.cl _ _ _ _ _ _) rfl ⟨?_,?_,trivial⟩ ?_
   ·exact iR (n:=2) (by decide) (by decide)
   ·exact je (n:=2) (k:=0) (by decide) (by decide)
   refine fW (tZ c hK (by decide) _) rfl rfl ?_
   exact q
  ·refine mq 99 (m':=.rt _ _ _ _ _) rfl rfl ?_ ?_
   ·exact aD rfl
   refine Gg (bY:=[.ob 7]) .aR (z0 (λz9 l' T' W'=>(∃QZ Q0,l'=[(aj "self",az (V.cR 762 0)),(aj "data",az (V.str ⟨#[61]⟩)),(aj "leavingThisState",az (V.bF true)),(aj "emitToken",az (V.bF false)),(aj "name",QZ),(aj "_",Q0)])/\T'=_/\W'=_) ⟨⟨_,_,rfl⟩,rfl,rfl⟩ ?_ ?_)
   ·rintro i _ _ _ w hw ⟨⟨QZ,Q0,rfl⟩,rfl,rfl⟩ mF tn tc tb tr
    obtain rfl:w=.ob 7:=ak.bR (ak.cg hw)
    refine XE (a:=.str ⟨#[98]⟩) (b:=.str a1) rfl rfl (.ob rfl) ?_
    refine go _ _ 99 (m':=.ex _ _ _ _) rfl ⟨iR (n:=2) (by decide) (by decide),je (n:=2) (k:=0) (by decide) (by decide),trivial⟩ ?_
    exact gU (tn _ _ _ ⟨⟨_,_,rfl⟩,rfl,rfl⟩)
   ·rintro _ _ _ ⟨⟨QZ,Q0,rfl⟩,rfl,rfl⟩
    refine cX 99 (m':=.rt _ _ _ _ _) rfl rfl ?_
    exact hQ _ _ _ _ _ (.eG rfl) (.mk h1.qA)
 ·refine cX 99 (m':=.ex _ _ _ _) rfl rfl ?_
  refine r8 (v:=.str ⟨#[100]⟩) (ov:=.ob 9) (iv:=.int 0) rfl (mH λmF q=>?_) (Em (k:=9) rfl ⟨iR (n:=3) (by decide) (by decide),trivial⟩) (eU (k:=3) rfl) (Cm (xs:=[.str ⟨#[100]⟩,.str (aj "")]) rfl (Int.le_refl 0) (dF.mpr (aD rfl)) (aD rfl) rfl ?_)
  ·refine go _ _ 99 (m':=.cl _ _ _ _ _ _) rfl ⟨?_,?_,trivial⟩ ?_
   ·exact iR (n:=3) (by decide) (by decide)
   ·exact je (n:=2) (k:=0) (by decide) (by decide)
   refine fW (tZ c hK (by decide) _) rfl rfl ?_
   exact q
  ·refine mq 99 (m':=.rt _ _ _ _ _) rfl rfl ?_ ?_
   ·exact aD rfl
   refine Gg (bY:=[.ob 7,.ob 8]) .aR (z0 (λz9 l' T' W'=>(∃QZ Q0,l'=[(aj "self",az (V.cR 762 0)),(aj "data",az (V.str ⟨#[61]⟩)),(aj "leavingThisState",az (V.bF true)),(aj "emitToken",az (V.bF false)),(aj "name",QZ),(aj "_",Q0)])/\T'=_/\W'=_) ⟨⟨_,_,rfl⟩,rfl,rfl⟩ ?_ ?_)
   ·rintro i _ _ _ w hw ⟨⟨QZ,Q0,rfl⟩,rfl,rfl⟩ mF tn tc tb tr
    haveI Zk:w=.ob 7\/w=.ob 8:=by
     rcases ak.bB (ak.cg hw)with h|h
     ·exact .inl h
     ·exact .inr (ak.bR h)
    rcases Zk with rfl|rfl
    ·refine XE (a:=.str ⟨#[98]⟩) (b:=.str a1) rfl rfl (.ob rfl) ?_
     refine go _ _ 99 (m':=.ex _ _ _ _) rfl ⟨iR (n:=3) (by decide) (by decide),je (n:=2) (k:=0) (by decide) (by decide),trivial⟩ ?_
     exact gU (tn _ _ _ ⟨⟨_,_,rfl⟩,rfl,rfl⟩)
    ·refine XE (a:=.str ⟨#[99]⟩) (b:=.str a2) rfl rfl (.ob rfl) ?_
     refine go _ _ 99 (m':=.ex _ _ _ _) rfl ⟨iR (n:=3) (by decide) (by decide),je (n:=2) (k:=0) (by decide) (by decide),trivial⟩ ?_
     exact gU (tn _ _ _ ⟨⟨_,_,rfl⟩,rfl,rfl⟩)
   ·rintro _ _ _ ⟨⟨QZ,Q0,rfl⟩,rfl,rfl⟩
    refine cX 99 (m':=.rt _ _ _ _ _) rfl rfl ?_
    exact hQ _ _ _ _ _ (.eG rfl) (.mk h1.qA)
end
def vA:ak Nat:=[34,39,61,60,96]
def GP:ak Nat:=[38,62,34,39,61,60,96,0]++gP
theorem Kf{x:Str}{u k:Nat}(cs:ak Nat)(iV:x.au[u]?=az k):((p9 λk=>V.str ⟨#[k]⟩).any λy=>vf y (.str ⟨#[k]⟩))=ur cs (az k):=by
 have:=za x u cs
 rw[gQ iV,iV]at this;exact this
theorem pZ{a b:V}:uO [a,b].aq (1:Int):=je (n:=2) (k:=1) (by decide) (by decide)
theorem p5{a b:V}:(0:Int)<=1/\(1:Int)<([a,b].aq:Nat)/\[a,b].aq<=10000:=⟨Int.le_of_lt Int.one_pos,dF.mpr (aD rfl),aD rfl⟩
theorem De{n:Nat}(h0:0<n)(h:n<=10000):uO n (-1):=iR h0 h
theorem I1{av:Str}(ha:av.aq<=2000)(k:Nat):av.aq+(⟨#[k]⟩:Str).aq<=fu:=qG (aA (dz ha 1) (by decide))
theorem uc{av:Str}(ha:av.aq<=2000){k:Nat}{x:Str}{l:ak Nat}{u:Nat}(h:u+1+l.aq<=x.aq)(hx:x.aq<=600):av.aq+((⟨#[k]⟩:Str)++⟨l.aJ⟩).aq<=fu:=by
 refine qG (aA (bI ha (show(#[k]++l.aJ).dM<=601 from ?_)) (by decide))
 rw[dX.size_append,ak.bZ,eZ]
 exact dZ (aA (aA (g7 _ _) h) hx)
section
variable(c:Cx)(hK:c.K=top.heap_1 c.w.params){ct:V}{R:List AO}{d t e:AO}{x:Str}{u b told:Nat}{q:List V}(h:j8 x u b told d t e)
include hK h
theorem Df(iV:x.au[u]?=az 34):
  gj c 8 (.ref 556) [.cR 762 0] [] (TS ct R x (u+1) cC q 563 (.bF true)) (λz9=>cM) (.bO (pW (vO 556) ct)::d::t::e::.aR q::R):=by
 refine eO h.fm λs0 bG=>?_;obtain rfl:=bG
 refine pF (bs:=[(aj "self",.cR 762 0)]) (cG:=[aj "data"]) hK (nK hK) rfl rfl rfl (by kernel_rfl) (by kernel_rfl) (gz (λs X a=>bf rfl) .nil) ?_
 intro κ hf hQ hN hX
 refine cX 5 (m':=.cl _ _ _ _ _ _) rfl rfl ?_
 refine gH (gA c hK h) rfl rfl λv W' hW=>?_
 apply hW;clear hW;intro d1 t1 e1 h1
 refine eO h1.fm λs1 bG=>?_;obtain rfl:=bG
 rw[gQ iV]
 rw[aV (cB (jf iV))]at h1
 refine cX 99 (m':=.rt _ _ _ _ _) rfl rfl ?_
 exact hQ _ _ _ _ _ (.eG rfl) (.mk h1.qA)
theorem I2(iV:x.au[u]?=az 34):
  gj c 8 (.ref 563) [.cR 762 0] [] (TS ct R x (u+1) cC q 584 (.bF true)) (λz9=>cM) (.bO (pW (vO 563) ct)::d::t::e::.aR q::R):=by
 refine eO h.fm λs0 bG=>?_;obtain rfl:=bG
 refine pF (bs:=[(aj "self",.cR 762 0)]) (cG:=[aj "data"]) hK (nK hK) rfl rfl rfl (by kernel_rfl) (by kernel_rfl) (gz (λs X a=>bf rfl) .nil) ?_
 intro κ hf hQ hN hX
 refine cX 5 (m':=.cl _ _ _ _ _ _) rfl rfl ?_
 refine gH (gA c hK h) rfl rfl λv W' hW=>?_
 apply hW;clear hW;intro d1 t1 e1 h1
 refine eO h1.fm λs1 bG=>?_;obtain rfl:=bG
 rw[gQ iV]
 rw[aV (cB (jf iV))]at h1
 refine cX 99 (m':=.rt _ _ _ _ _) rfl rfl ?_
 exact hQ _ _ _ _ _ (.eG rfl) (.mk h1.qA)
theorem Dg(iV:x.au[u]?=az 39):
  gj c 8 (.ref 556) [.cR 762 0] [] (TS ct R x (u+1) cC q 570 (.bF true)) (λz9=>cM) (.bO (pW (vO 556) ct)::d::t::e::.aR q::R):=by
 refine eO h.fm λs0 bG=>?_;obtain rfl:=bG
 refine pF (bs:=[(aj "self",.cR 762 0)]) (cG:=[aj "data"]) hK (nK hK) rfl rfl rfl (by kernel_rfl) (by kernel_rfl) (gz (λs X a=>bf rfl) .nil) ?_
 intro κ hf hQ hN hX
 refine cX 5 (m':=.cl _ _ _ _ _ _) rfl rfl ?_
 refine gH (gA c hK h) rfl rfl λv W' hW=>?_
 apply hW;clear hW;intro d1 t1 e1 h1
 refine eO h1.fm λs1 bG=>?_;obtain rfl:=bG
 rw[gQ iV]
 rw[aV (cB (jf iV))]at h1
 refine cX 99 (m':=.rt _ _ _ _ _) rfl rfl ?_
 exact hQ _ _ _ _ _ (.eG rfl) (.mk h1.qA)
theorem I3(iV:x.au[u]?=az 39):
  gj c 8 (.ref 570) [.cR 762 0] [] (TS ct R x (u+1) cC q 584 (.bF true)) (λz9=>cM) (.bO (pW (vO 570) ct)::d::t::e::.aR q::R):=by
 refine eO h.fm λs0 bG=>?_;obtain rfl:=bG
 refine pF (bs:=[(aj "self",.cR 762 0)]) (cG:=[aj "data"]) hK (nK hK) rfl rfl rfl (by kernel_rfl) (by kernel_rfl) (gz (λs X a=>bf rfl) .nil) ?_
 intro κ hf hQ hN hX
 refine cX 5 (m':=.cl _ _ _ _ _ _) rfl rfl ?_
 refine gH (gA c hK h) rfl rfl λv W' hW=>?_
 apply hW;clear hW;intro d1 t1 e1 h1
 refine eO h1.fm λs1 bG=>?_;obtain rfl:=bG
 rw[gQ iV]
 rw[aV (cB (jf iV))]at h1
 refine cX 99 (m':=.rt _ _ _ _ _) rfl rfl ?_
 exact hQ _ _ _ _ _ (.eG rfl) (.mk h1.qA)
theorem EI(iV:x.au[u]?=az 32):
  gj c 8 (.ref 584) [.cR 762 0] [] (TS ct R x (u+1) cC q 535 (.bF true)) (λz9=>cM) (.bO (pW (vO 584) ct)::d::t::e::.aR q::R):=by
 refine eO h.fm λs0 bG=>?_;obtain rfl:=bG
 refine pF (bs:=[(aj "self",.cR 762 0)]) (cG:=[aj "data"]) hK (nK hK) rfl rfl rfl (by kernel_rfl) (by kernel_rfl) (gz (λs X a=>bf rfl) .nil) ?_
 intro κ hf hQ hN hX
 refine cX 5 (m':=.cl _ _ _ _ _ _) rfl rfl ?_
 refine gH (gA c hK h) rfl rfl λv W' hW=>?_
 apply hW;clear hW;intro d1 t1 e1 h1
 refine eO h1.fm λs1 bG=>?_;obtain rfl:=bG
 rw[gQ iV]
 rw[aV (cB (jf iV))]at h1
 refine cX 99 (m':=.rt _ _ _ _ _) rfl rfl ?_
 exact hQ _ _ _ _ _ (.eG rfl) (.mk h1.qA)
theorem I4(iV:x.au[u]?=az 32):
  gj c 8 (.ref 577) [.cR 762 0] [] (TS ct R x (u+1) cC q 535 (.bF true)) (λz9=>cM) (.bO (pW (vO 577) ct)::d::t::e::.aR q::R):=by
 refine eO h.fm λs0 bG=>?_;obtain rfl:=bG
 refine pF (bs:=[(aj "self",.cR 762 0)]) (cG:=[aj "data"]) hK (nK hK) rfl rfl rfl (by kernel_rfl) (by kernel_rfl) (gz (λs X a=>bf rfl) .nil) ?_
 intro κ hf hQ hN hX
 refine cX 5 (m':=.cl _ _ _ _ _ _) rfl rfl ?_
 refine gH (gA c hK h) rfl rfl λv W' hW=>?_
 apply hW;clear hW;intro d1 t1 e1 h1
 refine eO h1.fm λs1 bG=>?_;obtain rfl:=bG
 rw[gQ iV]
 rw[aV (cB (jf iV))]at h1
 refine cX 99 (m':=.rt _ _ _ _ _) rfl rfl ?_
 exact hQ _ _ _ _ _ (.eG rfl) (.mk h1.qA)
theorem Dh(iV:x.au[u]?=az 38):
  gj c 8 (.ref 556) [.cR 762 0] [] (TS ct R x u cC q 577 (.bF true)) (λz9=>cM) (.bO (pW (vO 556) ct)::d::t::e::.aR q::R):=by
 refine eO h.fm λs0 bG=>?_;obtain rfl:=bG
 refine pF (bs:=[(aj "self",.cR 762 0)]) (cG:=[aj "data"]) hK (nK hK) rfl rfl rfl (by kernel_rfl) (by kernel_rfl) (gz (λs X a=>bf rfl) .nil) ?_
 intro κ hf hQ hN hX
 refine cX 5 (m':=.cl _ _ _ _ _ _) rfl rfl ?_
 refine gH (gA c hK h) rfl rfl λv W' hW=>?_
 apply hW;clear hW;intro d1 t1 e1 h1
 refine eO h1.fm λs1 bG=>?_;obtain rfl:=bG
 rw[gQ iV]
 rw[aV (cB (jf iV)),bJ (jf iV)]at h1
 refine cX 99 (m':=.cl _ _ _ _ _ _) rfl rfl ?_
 refine gH (Co c hK h1 iV) rfl rfl λv W' hW=>?_
 apply hW;clear hW;intro d2 t2 e2 h2
 refine cX 99 (m':=.rt _ _ _ _ _) rfl rfl ?_
 exact hQ _ _ _ _ _ (.eG rfl) (.mk h2)
theorem I5{ty:Int}{nm an av:Str}{r:ak (Str×V)}{ps:ak (Str×Str)}(tL:ps.aq<=2)(hx:x.aq<=600)(hq:q.aq<=4000)(ha:av.aq<=2000)(iV:x.au[u]?=az 38):
  gj c 8 (.ref 563) [.cR 762 0] [] (TS (.ob 6) (gI ty nm r (ps++[(an,av++(pH x (u+1) (az 34) true).out)])) x (u+1+(pH x (u+1) (az 34) true).oF) cC (q++(pH x (u+1) (az 34) true).es) 563 (.bF true)) (λz9=>cM) (.bO (pW (vO 563) (.ob 6))::d::t::e::.aR q::gI ty nm r (ps++[(an,av)])):=by
 refine eO h.fm λs0 bG=>?_;obtain rfl:=bG
 refine pF (bs:=[(aj "self",.cR 762 0)]) (cG:=[aj "data"]) hK (nK hK) rfl rfl rfl (by kernel_rfl) (by kernel_rfl) (gz (λs X a=>bf rfl) .nil) ?_
 intro κ hf hQ hN hX
 refine cX 5 (m':=.cl _ _ _ _ _ _) rfl rfl ?_
 refine gH (gA c hK h) rfl rfl λv W' hW=>?_
 apply hW;clear hW;intro d1 t1 e1 h1
 refine eO h1.fm λs1 bG=>?_;obtain rfl:=bG
 rw[gQ iV]
 rw[aV (cB (jf iV))]at h1
 refine cX 99 (m':=.cl _ _ _ _ _ _) rfl rfl ?_
 refine gH (EF c hK tL h1 hx hq ha 34) rfl rfl λv W' hW=>?_
 apply hW;clear hW;intro d2 t2 e2 h2
 refine cX 99 (m':=.rt _ _ _ _ _) rfl rfl ?_
 exact hQ _ _ _ _ _ (.eG rfl) (.mk h2)
theorem I6{ty:Int}{nm an av:Str}{r:ak (Str×V)}{ps:ak (Str×Str)}(tL:ps.aq<=2)(hq:q.aq<=4000)(ha:av.aq<=2000)(iV:x.au[u]?=az 0):
  gj c 8 (.ref 563) [.cR 762 0] [] (TS (.ob 6) (gI ty nm r (ps++[(an,av++aj "�")])) x (u+1) cC (q++[qR (aj "invalid-codepoint")]) 563 (.bF true)) (λz9=>cM) (.bO (pW (vO 563) (.ob 6))::d::t::e::.aR q::gI ty nm r (ps++[(an,av)])):=by
 refine eO h.fm λs0 bG=>?_;obtain rfl:=bG
 refine pF (bs:=[(aj "self",.cR 762 0)]) (cG:=[aj "data"]) hK (nK hK) rfl rfl rfl (by kernel_rfl) (by kernel_rfl) (gz (λs X a=>bf rfl) .nil) ?_
 intro κ hf hQ hN hX
 refine cX 5 (m':=.cl _ _ _ _ _ _) rfl rfl ?_
 refine gH (gA c hK h) rfl rfl λv W' hW=>?_
 apply hW;clear hW;intro d1 t1 e1 h1
 refine eO h1.fm λs1 bG=>?_;obtain rfl:=bG
 rw[gQ iV]
 rw[aV (cB (jf iV))]at h1
 have o3:av.aq+(aj "�").aq<=fu:=qG (aA (bI ha (show(aj "�").aq<=1 from aD (by kernel_rfl))) (by decide))
 unfold gI at hQ⊢
 rcases kJ tL with rfl|⟨p1,rfl⟩|⟨p1,p2,rfl⟩
 ·refine go _ _ 99 (m':=.rt _ _ _ _ _) rfl ⟨qT hq,De (n:=1) (by decide) (by decide),pZ,o3,p5,trivial⟩ ?_
  exact hQ _ _ _ _ _ (.eG rfl) (.mk h1.qA)
 ·refine go _ _ 99 (m':=.rt _ _ _ _ _) rfl ⟨qT hq,De (n:=2) (by decide) (by decide),pZ,o3,p5,trivial⟩ ?_
  exact hQ _ _ _ _ _ (.eG rfl) (.mk h1.qA)
 ·refine go _ _ 99 (m':=.rt _ _ _ _ _) rfl ⟨qT hq,De (n:=3) (by decide) (by decide),pZ,o3,p5,trivial⟩ ?_
  exact hQ _ _ _ _ _ (.eG rfl) (.mk h1.qA)
theorem GQ{ty:Int}{nm an av:Str}{r:ak (Str×V)}{ps:ak (Str×Str)}(tL:ps.aq<=2){k:Nat}(hx:x.aq<=600)(ha:av.aq<=2000)(iV:x.au[u]?=az k)(kq:(k==34)=false)(Ms:(k==38)=false)(k0:(k==0)=false):
  gj c 8 (.ref 563) [.cR 762 0] [] (TS (.ob 6) (gI ty nm r (ps++[(an,av++⟨(k::yj (xm 34) false x (u+1)).aJ⟩)])) x (u+1+(yj (xm 34) false x (u+1)).aq) cC (q) 563 (.bF true)) (λz9=>cM) (.bO (pW (vO 563) (.ob 6))::d::t::e::.aR q::gI ty nm r (ps++[(an,av)])):=by
 refine eO h.fm λs0 bG=>?_;obtain rfl:=bG
 refine pF (bs:=[(aj "self",.cR 762 0)]) (cG:=[aj "data"]) hK (nK hK) rfl rfl rfl (by kernel_rfl) (by kernel_rfl) (gz (λs X a=>bf rfl) .nil) ?_
 intro κ hf hQ hN hX
 refine cX 5 (m':=.cl _ _ _ _ _ _) rfl rfl ?_
 refine gH (gA c hK h) rfl rfl λv W' hW=>?_
 apply hW;clear hW;intro d1 t1 e1 h1
 refine eO h1.fm λs1 bG=>?_;obtain rfl:=bG
 rw[gQ iV]
 rw[aV (cB (jf iV))]at h1
 refine cX 3 (m':=.rt _ _ _ _ _) rfl rfl ?_
 rw[eq1 k (s:=aj "\"") (j:=34) (by kernel_rfl),kq]
 refine cX 3 (m':=.rt _ _ _ _ _) rfl rfl ?_
 rw[eq1 k (s:=aj "&") (j:=38) (by kernel_rfl),Ms]
 refine cX 3 (m':=.rt _ _ _ _ _) rfl rfl ?_
 rw[eq1 k (s:=aj "\x00") (j:=0) (by kernel_rfl),k0]
 unfold gI at hQ⊢
 rcases kJ tL with rfl|⟨p1,rfl⟩|⟨p1,p2,rfl⟩
 ·refine go _ _ 99 (m':=.cl _ _ _ _ _ _) rfl ⟨De (n:=1) (by decide) (by decide),pZ,trivial⟩ ?_
  refine gH (lC c hK h1 (xm 34) false (.inr ⟨by kernel_rfl,rfl⟩)) rfl rfl λv W' hW=>?_
  apply hW;clear hW;intro d2 t2 e2 h2
  have hz:=h2.ule
  refine eO h2.fm λs2 bG=>?_;obtain rfl:=bG
  refine go _ _ 99 (m':=.rt _ _ _ _ _) rfl ⟨Ai (k:=k) hz hx,uc ha hz hx,p5,trivial⟩ ?_
  rw[qU]
  exact hQ _ _ _ _ _ (.eG rfl) (.mk h2)
 ·refine go _ _ 99 (m':=.cl _ _ _ _ _ _) rfl ⟨De (n:=2) (by decide) (by decide),pZ,trivial⟩ ?_
  refine gH (lC c hK h1 (xm 34) false (.inr ⟨by kernel_rfl,rfl⟩)) rfl rfl λv W' hW=>?_
  apply hW;clear hW;intro d2 t2 e2 h2
  have hz:=h2.ule
  refine eO h2.fm λs2 bG=>?_;obtain rfl:=bG
  refine go _ _ 99 (m':=.rt _ _ _ _ _) rfl ⟨Ai (k:=k) hz hx,uc ha hz hx,p5,trivial⟩ ?_
  rw[qU]
  exact hQ _ _ _ _ _ (.eG rfl) (.mk h2)
 ·refine go _ _ 99 (m':=.cl _ _ _ _ _ _) rfl ⟨De (n:=3) (by decide) (by decide),pZ,trivial⟩ ?_
  refine gH (lC c hK h1 (xm 34) false (.inr ⟨by kernel_rfl,rfl⟩)) rfl rfl λv W' hW=>?_
  apply hW;clear hW;intro d2 t2 e2 h2
  have hz:=h2.ule
  refine eO h2.fm λs2 bG=>?_;obtain rfl:=bG
  refine go _ _ 99 (m':=.rt _ _ _ _ _) rfl ⟨Ai (k:=k) hz hx,uc ha hz hx,p5,trivial⟩ ?_
  rw[qU]
  exact hQ _ _ _ _ _ (.eG rfl) (.mk h2)
theorem I7{ty:Int}{nm an av:Str}{r:ak (Str×V)}{ps:ak (Str×Str)}(tL:ps.aq<=2)(hx:x.aq<=600)(hq:q.aq<=4000)(ha:av.aq<=2000)(iV:x.au[u]?=az 38):
  gj c 8 (.ref 570) [.cR 762 0] [] (TS (.ob 6) (gI ty nm r (ps++[(an,av++(pH x (u+1) (az 39) true).out)])) x (u+1+(pH x (u+1) (az 39) true).oF) cC (q++(pH x (u+1) (az 39) true).es) 570 (.bF true)) (λz9=>cM) (.bO (pW (vO 570) (.ob 6))::d::t::e::.aR q::gI ty nm r (ps++[(an,av)])):=by
 refine eO h.fm λs0 bG=>?_;obtain rfl:=bG
 refine pF (bs:=[(aj "self",.cR 762 0)]) (cG:=[aj "data"]) hK (nK hK) rfl rfl rfl (by kernel_rfl) (by kernel_rfl) (gz (λs X a=>bf rfl) .nil) ?_
 intro κ hf hQ hN hX
 refine cX 5 (m':=.cl _ _ _ _ _ _) rfl rfl ?_
 refine gH (gA c hK h) rfl rfl λv W' hW=>?_
 apply hW;clear hW;intro d1 t1 e1 h1
 refine eO h1.fm λs1 bG=>?_;obtain rfl:=bG
 rw[gQ iV]
 rw[aV (cB (jf iV))]at h1
 refine cX 99 (m':=.cl _ _ _ _ _ _) rfl rfl ?_
 refine gH (EF c hK tL h1 hx hq ha 39) rfl rfl λv W' hW=>?_
 apply hW;clear hW;intro d2 t2 e2 h2
 refine cX 99 (m':=.rt _ _ _ _ _) rfl rfl ?_
 exact hQ _ _ _ _ _ (.eG rfl) (.mk h2)
theorem I8{ty:Int}{nm an av:Str}{r:ak (Str×V)}{ps:ak (Str×Str)}(tL:ps.aq<=2)(hq:q.aq<=4000)(ha:av.aq<=2000)(iV:x.au[u]?=az 0):
  gj c 8 (.ref 570) [.cR 762 0] [] (TS (.ob 6) (gI ty nm r (ps++[(an,av++aj "�")])) x (u+1) cC (q++[qR (aj "invalid-codepoint")]) 570 (.bF true)) (λz9=>cM) (.bO (pW (vO 570) (.ob 6))::d::t::e::.aR q::gI ty nm r (ps++[(an,av)])):=by
 refine eO h.fm λs0 bG=>?_;obtain rfl:=bG
 refine pF (bs:=[(aj "self",.cR 762 0)]) (cG:=[aj "data"]) hK (nK hK) rfl rfl rfl (by kernel_rfl) (by kernel_rfl) (gz (λs X a=>bf rfl) .nil) ?_
 intro κ hf hQ hN hX
 refine cX 5 (m':=.cl _ _ _ _ _ _) rfl rfl ?_
 refine gH (gA c hK h) rfl rfl λv W' hW=>?_
 apply hW;clear hW;intro d1 t1 e1 h1
 refine eO h1.fm λs1 bG=>?_;obtain rfl:=bG
 rw[gQ iV]
 rw[aV (cB (jf iV))]at h1
 have o3:av.aq+(aj "�").aq<=fu:=qG (aA (bI ha (show(aj "�").aq<=1 from aD (by kernel_rfl))) (by decide))
 unfold gI at hQ⊢
 rcases kJ tL with rfl|⟨p1,rfl⟩|⟨p1,p2,rfl⟩
 ·refine go _ _ 99 (m':=.rt _ _ _ _ _) rfl ⟨qT hq,De (n:=1) (by decide) (by decide),pZ,o3,p5,trivial⟩ ?_
  exact hQ _ _ _ _ _ (.eG rfl) (.mk h1.qA)
 ·refine go _ _ 99 (m':=.rt _ _ _ _ _) rfl ⟨qT hq,De (n:=2) (by decide) (by decide),pZ,o3,p5,trivial⟩ ?_
  exact hQ _ _ _ _ _ (.eG rfl) (.mk h1.qA)
 ·refine go _ _ 99 (m':=.rt _ _ _ _ _) rfl ⟨qT hq,De (n:=3) (by decide) (by decide),pZ,o3,p5,trivial⟩ ?_
  exact hQ _ _ _ _ _ (.eG rfl) (.mk h1.qA)
theorem GR{ty:Int}{nm an av:Str}{r:ak (Str×V)}{ps:ak (Str×Str)}(tL:ps.aq<=2){k:Nat}(hx:x.aq<=600)(ha:av.aq<=2000)(iV:x.au[u]?=az k)(kq:(k==39)=false)(Ms:(k==38)=false)(k0:(k==0)=false):
  gj c 8 (.ref 570) [.cR 762 0] [] (TS (.ob 6) (gI ty nm r (ps++[(an,av++⟨(k::yj (xm 39) false x (u+1)).aJ⟩)])) x (u+1+(yj (xm 39) false x (u+1)).aq) cC (q) 570 (.bF true)) (λz9=>cM) (.bO (pW (vO 570) (.ob 6))::d::t::e::.aR q::gI ty nm r (ps++[(an,av)])):=by
 refine eO h.fm λs0 bG=>?_;obtain rfl:=bG
 refine pF (bs:=[(aj "self",.cR 762 0)]) (cG:=[aj "data"]) hK (nK hK) rfl rfl rfl (by kernel_rfl) (by kernel_rfl) (gz (λs X a=>bf rfl) .nil) ?_
 intro κ hf hQ hN hX
 refine cX 5 (m':=.cl _ _ _ _ _ _) rfl rfl ?_
 refine gH (gA c hK h) rfl rfl λv W' hW=>?_
 apply hW;clear hW;intro d1 t1 e1 h1
 refine eO h1.fm λs1 bG=>?_;obtain rfl:=bG
 rw[gQ iV]
 rw[aV (cB (jf iV))]at h1
 refine cX 3 (m':=.rt _ _ _ _ _) rfl rfl ?_
 rw[eq1 k (s:=aj "'") (j:=39) (by kernel_rfl),kq]
 refine cX 3 (m':=.rt _ _ _ _ _) rfl rfl ?_
 rw[eq1 k (s:=aj "&") (j:=38) (by kernel_rfl),Ms]
 refine cX 3 (m':=.rt _ _ _ _ _) rfl rfl ?_
 rw[eq1 k (s:=aj "\x00") (j:=0) (by kernel_rfl),k0]
 unfold gI at hQ⊢
 rcases kJ tL with rfl|⟨p1,rfl⟩|⟨p1,p2,rfl⟩
 ·refine go _ _ 99 (m':=.cl _ _ _ _ _ _) rfl ⟨De (n:=1) (by decide) (by decide),pZ,trivial⟩ ?_
  refine gH (lC c hK h1 (xm 39) false (.inr ⟨by kernel_rfl,rfl⟩)) rfl rfl λv W' hW=>?_
  apply hW;clear hW;intro d2 t2 e2 h2
  have hz:=h2.ule
  refine eO h2.fm λs2 bG=>?_;obtain rfl:=bG
  refine go _ _ 99 (m':=.rt _ _ _ _ _) rfl ⟨Ai (k:=k) hz hx,uc ha hz hx,p5,trivial⟩ ?_
  rw[qU]
  exact hQ _ _ _ _ _ (.eG rfl) (.mk h2)
 ·refine go _ _ 99 (m':=.cl _ _ _ _ _ _) rfl ⟨De (n:=2) (by decide) (by decide),pZ,trivial⟩ ?_
  refine gH (lC c hK h1 (xm 39) false (.inr ⟨by kernel_rfl,rfl⟩)) rfl rfl λv W' hW=>?_
  apply hW;clear hW;intro d2 t2 e2 h2
  have hz:=h2.ule
  refine eO h2.fm λs2 bG=>?_;obtain rfl:=bG
  refine go _ _ 99 (m':=.rt _ _ _ _ _) rfl ⟨Ai (k:=k) hz hx,uc ha hz hx,p5,trivial⟩ ?_
  rw[qU]
  exact hQ _ _ _ _ _ (.eG rfl) (.mk h2)
 ·refine go _ _ 99 (m':=.cl _ _ _ _ _ _) rfl ⟨De (n:=3) (by decide) (by decide),pZ,trivial⟩ ?_
  refine gH (lC c hK h1 (xm 39) false (.inr ⟨by kernel_rfl,rfl⟩)) rfl rfl λv W' hW=>?_
  apply hW;clear hW;intro d2 t2 e2 h2
  have hz:=h2.ule
  refine eO h2.fm λs2 bG=>?_;obtain rfl:=bG
  refine go _ _ 99 (m':=.rt _ _ _ _ _) rfl ⟨Ai (k:=k) hz hx,uc ha hz hx,p5,trivial⟩ ?_
  rw[qU]
  exact hQ _ _ _ _ _ (.eG rfl) (.mk h2)
theorem PI{ty:Int}{nm an av:Str}{r:ak (Str×V)}{ps:ak (Str×Str)}(tL:ps.aq<=2)(hx:x.aq<=600)(hq:q.aq<=4000)(ha:av.aq<=2000)(iV:x.au[u]?=az 38):
  gj c 8 (.ref 577) [.cR 762 0] [] (TS (.ob 6) (gI ty nm r (ps++[(an,av++(pH x (u+1) (az 62) true).out)])) x (u+1+(pH x (u+1) (az 62) true).oF) cC (q++(pH x (u+1) (az 62) true).es) 577 (.bF true)) (λz9=>cM) (.bO (pW (vO 577) (.ob 6))::d::t::e::.aR q::gI ty nm r (ps++[(an,av)])):=by
 refine eO h.fm λs0 bG=>?_;obtain rfl:=bG
 refine pF (bs:=[(aj "self",.cR 762 0)]) (cG:=[aj "data"]) hK (nK hK) rfl rfl rfl (by kernel_rfl) (by kernel_rfl) (gz (λs X a=>bf rfl) .nil) ?_
 intro κ hf hQ hN hX
 refine cX 5 (m':=.cl _ _ _ _ _ _) rfl rfl ?_
 refine gH (gA c hK h) rfl rfl λv W' hW=>?_
 apply hW;clear hW;intro d1 t1 e1 h1
 refine eO h1.fm λs1 bG=>?_;obtain rfl:=bG
 rw[gQ iV]
 rw[aV (cB (jf iV))]at h1
 refine cX 99 (m':=.cl _ _ _ _ _ _) rfl rfl ?_
 refine gH (EF c hK tL h1 hx hq ha 62) rfl rfl λv W' hW=>?_
 apply hW;clear hW;intro d2 t2 e2 h2
 refine cX 99 (m':=.rt _ _ _ _ _) rfl rfl ?_
 exact hQ _ _ _ _ _ (.eG rfl) (.mk h2)
theorem PK{ty:Int}{nm an av:Str}{r:ak (Str×V)}{ps:ak (Str×Str)}(tL:ps.aq<=2)(hq:q.aq<=4000)(ha:av.aq<=2000)(iV:x.au[u]?=az 0):
  gj c 8 (.ref 577) [.cR 762 0] [] (TS (.ob 6) (gI ty nm r (ps++[(an,av++aj "�")])) x (u+1) cC (q++[qR (aj "invalid-codepoint")]) 577 (.bF true)) (λz9=>cM) (.bO (pW (vO 577) (.ob 6))::d::t::e::.aR q::gI ty nm r (ps++[(an,av)])):=by
 refine eO h.fm λs0 bG=>?_;obtain rfl:=bG
 refine pF (bs:=[(aj "self",.cR 762 0)]) (cG:=[aj "data"]) hK (nK hK) rfl rfl rfl (by kernel_rfl) (by kernel_rfl) (gz (λs X a=>bf rfl) .nil) ?_
 intro κ hf hQ hN hX
 refine cX 5 (m':=.cl _ _ _ _ _ _) rfl rfl ?_
 refine gH (gA c hK h) rfl rfl λv W' hW=>?_
 apply hW;clear hW;intro d1 t1 e1 h1
 refine eO h1.fm λs1 bG=>?_;obtain rfl:=bG
 rw[gQ iV]
 rw[aV (cB (jf iV))]at h1
 have o3:av.aq+(aj "�").aq<=fu:=qG (aA (bI ha (show(aj "�").aq<=1 from aD (by kernel_rfl))) (by decide))
 unfold gI at hQ⊢
 rcases kJ tL with rfl|⟨p1,rfl⟩|⟨p1,p2,rfl⟩
 ·refine go _ _ 99 (m':=.rt _ _ _ _ _) rfl ⟨qT hq,De (n:=1) (by decide) (by decide),pZ,o3,p5,trivial⟩ ?_
  exact hQ _ _ _ _ _ (.eG rfl) (.mk h1.qA)
 ·refine go _ _ 99 (m':=.rt _ _ _ _ _) rfl ⟨qT hq,De (n:=2) (by decide) (by decide),pZ,o3,p5,trivial⟩ ?_
  exact hQ _ _ _ _ _ (.eG rfl) (.mk h1.qA)
 ·refine go _ _ 99 (m':=.rt _ _ _ _ _) rfl ⟨qT hq,De (n:=3) (by decide) (by decide),pZ,o3,p5,trivial⟩ ?_
  exact hQ _ _ _ _ _ (.eG rfl) (.mk h1.qA)
theorem Mt{ty:Int}{nm an av:Str}{r:ak (Str×V)}{ps:ak (Str×Str)}(tL:ps.aq<=2){k:Nat}(hq:q.aq<=4000)(ha:av.aq<=2000)(iV:x.au[u]?=az k)(ks:ur gP (az k)=false)(Ms:(k==38)=false)(Q3:(k==62)=false)(kp:ur vA (az k)=true):
  gj c 8 (.ref 577) [.cR 762 0] [] (TS (.ob 6) (gI ty nm r (ps++[(an,av++⟨#[k]⟩)])) x (u+1) cC (q++[qR (aj "unexpected-character-in-unquoted-attribute-value")]) 577 (.bF true)) (λz9=>cM) (.bO (pW (vO 577) (.ob 6))::d::t::e::.aR q::gI ty nm r (ps++[(an,av)])):=by
 revert hK h tL hq ha iV ks Ms Q3 kp
 revert c d t e x u b cC q ty nm an av r ps k
 intros c d t e x u b cC q ty nm an av r ps k
 intro hK h tL hq ha iV ks Ms Q3 kp
 refine eO h.fm λs0 bG=>?_;obtain rfl:=bG
 refine pF (bs:=[(aj "self",.cR 762 0)]) (cG:=[aj "data"]) hK (nK hK) rfl rfl rfl (by kernel_rfl) (by kernel_rfl) (gz (λs X a=>bf rfl) .nil) ?_
 intro κ hf hQ hN hX
 refine cX 5 (m':=.cl _ _ _ _ _ _) rfl rfl ?_
 refine gH (gA c hK h) rfl rfl λv W' hW=>?_
 apply hW;clear hW;intro d1 t1 e1 h1
 refine eO h1.fm λs1 bG=>?_;obtain rfl:=bG
 rw[gQ iV]
 rw[aV (cB (jf iV))]at h1
 refine cX 3 (m':=.rt _ _ _ _ _) rfl rfl ?_
 rw[Kf gP iV,ks]
 refine cX 3 (m':=.rt _ _ _ _ _) rfl rfl ?_
 rw[eq1 k (s:=aj "&") (j:=38) (by kernel_rfl),Ms]
 refine cX 3 (m':=.rt _ _ _ _ _) rfl rfl ?_
 rw[eq1 k (s:=aj ">") (j:=62) (by kernel_rfl),Q3]
 refine cX 3 (m':=.rt _ _ _ _ _) rfl rfl ?_
 rw[show([V.str (aj "\""),V.str (aj "'"),V.str (aj "="),V.str (aj "<"),V.str (aj "`")]:ak V)=vA.map (λk=>V.str ⟨#[k]⟩) by kernel_rfl,Kf vA iV,kp]
 unfold gI at hQ⊢
 rcases kJ tL with rfl|⟨p1,rfl⟩|⟨p1,p2,rfl⟩
 ·refine go _ _ 99 (m':=.rt _ _ _ _ _) rfl ⟨qT hq,De (n:=1) (by decide) (by decide),pZ,I1 ha k,p5,trivial⟩ ?_
  exact hQ _ _ _ _ _ (.eG rfl) (.mk h1.qA)
 ·refine go _ _ 99 (m':=.rt _ _ _ _ _) rfl ⟨qT hq,De (n:=2) (by decide) (by decide),pZ,I1 ha k,p5,trivial⟩ ?_
  exact hQ _ _ _ _ _ (.eG rfl) (.mk h1.qA)
 ·refine go _ _ 99 (m':=.rt _ _ _ _ _) rfl ⟨qT hq,De (n:=3) (by decide) (by decide),pZ,I1 ha k,p5,trivial⟩ ?_
  exact hQ _ _ _ _ _ (.eG rfl) (.mk h1.qA)
theorem Mu{ty:Int}{nm an av:Str}{r:ak (Str×V)}{ps:ak (Str×Str)}(tL:ps.aq<=2){k:Nat}(hx:x.aq<=600)(ha:av.aq<=2000)(iV:x.au[u]?=az k)(ks:ur gP (az k)=false)(Ms:(k==38)=false)(Q3:(k==62)=false)(kp:ur vA (az k)=false)(k0:(k==0)=false):
  gj c 8 (.ref 577) [.cR 762 0] [] (TS (.ob 6) (gI ty nm r (ps++[(an,av++⟨(k::yj GP false x (u+1)).aJ⟩)])) x (u+1+(yj GP false x (u+1)).aq) cC (q) 577 (.bF true)) (λz9=>cM) (.bO (pW (vO 577) (.ob 6))::d::t::e::.aR q::gI ty nm r (ps++[(an,av)])):=by
 revert hK h tL hx ha iV ks Ms Q3 kp k0
 revert c d t e x u b cC q ty nm an av r ps k
 intros c d t e x u b cC q ty nm an av r ps k
 intro hK h tL hx ha iV ks Ms Q3 kp k0
 refine eO h.fm λs0 bG=>?_;obtain rfl:=bG
 refine pF (bs:=[(aj "self",.cR 762 0)]) (cG:=[aj "data"]) hK (nK hK) rfl rfl rfl (by kernel_rfl) (by kernel_rfl) (gz (λs X a=>bf rfl) .nil) ?_
 intro κ hf hQ hN hX
 refine cX 5 (m':=.cl _ _ _ _ _ _) rfl rfl ?_
 refine gH (gA c hK h) rfl rfl λv W' hW=>?_
 apply hW;clear hW;intro d1 t1 e1 h1
 refine eO h1.fm λs1 bG=>?_;obtain rfl:=bG
 rw[gQ iV]
 rw[aV (cB (jf iV))]at h1
 refine cX 3 (m':=.rt _ _ _ _ _) rfl rfl ?_
 rw[Kf gP iV,ks]
 refine cX 3 (m':=.rt _ _ _ _ _) rfl rfl ?_
 rw[eq1 k (s:=aj "&") (j:=38) (by kernel_rfl),Ms]
 refine cX 3 (m':=.rt _ _ _ _ _) rfl rfl ?_
 rw[eq1 k (s:=aj ">") (j:=62) (by kernel_rfl),Q3]
 refine cX 3 (m':=.rt _ _ _ _ _) rfl rfl ?_
 rw[show([V.str (aj "\""),V.str (aj "'"),V.str (aj "="),V.str (aj "<"),V.str (aj "`")]:ak V)=vA.map (λk=>V.str ⟨#[k]⟩) by kernel_rfl,Kf vA iV,kp]
 refine cX 3 (m':=.rt _ _ _ _ _) rfl rfl ?_
 rw[eq1 k (s:=aj "\x00") (j:=0) (by kernel_rfl),k0]
 unfold gI at hQ⊢
 rcases kJ tL with rfl|⟨p1,rfl⟩|⟨p1,p2,rfl⟩
 ·refine go _ _ 99 (m':=.rt _ _ _ _ _) rfl ⟨De (n:=1) (by decide) (by decide),pZ,trivial⟩ ?_
  refine Cn nofun nofun (aD rfl) ?_
  refine cX 2 (m':=.cl _ _ _ _ _ _) rfl rfl ?_
  refine gH (lC c hK h1 GP false (.inr ⟨by kernel_rfl,rfl⟩)) rfl rfl λv W' hW=>?_
  apply hW;clear hW;intro d2 t2 e2 h2
  have hz:=h2.ule
  refine eO h2.fm λs2 bG=>?_;obtain rfl:=bG
  refine go _ _ 99 (m':=.rt _ _ _ _ _) rfl ⟨Ai (k:=k) hz hx,uc ha hz hx,p5,trivial⟩ ?_
  rw[qU]
  exact hQ _ _ _ _ _ (.eG rfl) (.mk h2)
 ·refine go _ _ 99 (m':=.rt _ _ _ _ _) rfl ⟨De (n:=2) (by decide) (by decide),pZ,trivial⟩ ?_
  refine Cn nofun nofun (aD rfl) ?_
  refine cX 2 (m':=.cl _ _ _ _ _ _) rfl rfl ?_
  refine gH (lC c hK h1 GP false (.inr ⟨by kernel_rfl,rfl⟩)) rfl rfl λv W' hW=>?_
  apply hW;clear hW;intro d2 t2 e2 h2
  have hz:=h2.ule
  refine eO h2.fm λs2 bG=>?_;obtain rfl:=bG
  refine go _ _ 99 (m':=.rt _ _ _ _ _) rfl ⟨Ai (k:=k) hz hx,uc ha hz hx,p5,trivial⟩ ?_
  rw[qU]
  exact hQ _ _ _ _ _ (.eG rfl) (.mk h2)
 ·refine go _ _ 99 (m':=.rt _ _ _ _ _) rfl ⟨De (n:=3) (by decide) (by decide),pZ,trivial⟩ ?_
  refine Cn nofun nofun (aD rfl) ?_
  refine cX 2 (m':=.cl _ _ _ _ _ _) rfl rfl ?_
  refine gH (lC c hK h1 GP false (.inr ⟨by kernel_rfl,rfl⟩)) rfl rfl λv W' hW=>?_
  apply hW;clear hW;intro d2 t2 e2 h2
  have hz:=h2.ule
  refine eO h2.fm λs2 bG=>?_;obtain rfl:=bG
  refine go _ _ 99 (m':=.rt _ _ _ _ _) rfl ⟨Ai (k:=k) hz hx,uc ha hz hx,p5,trivial⟩ ?_
  rw[qU]
  exact hQ _ _ _ _ _ (.eG rfl) (.mk h2)
end
def yG(ps:ak (Str×Str)):ak (Str×V):=ps.map λp=>(p.1,V.str p.2)
def PM(nm:Str)(r:ak (Str×V))(ps:ak (Str×Str)):ak AO:=.aR (obQ ps.aq)::.bO (IY 3 nm (.bO (yG ps)) r)::ps.map Vt
def GS:V:=qR (aj "attributes-in-end-tag")
theorem Kg(c:Cx)(hK:gM=top.heap_1 aL){st:V}{vs:ak Str}{av:Str}{d t e:AO}{q:ak V}(hq:q.aq<=4000)(hv:vs.aq<=2):jO c 5 297 [.cR 762 0] (.bO (pW st (.ob 6))::d::t::e::.aR q::gI 3 ⟨#[97]⟩ Aj (o9 (vs++[av]))) .none (.bO (pW (vO 304) (.ob 6))::d::t::e::.aR (q++[.ob 6])::PM ⟨#[97]⟩ Aj (o9 (vs++[av]))):=by
 refine pF (bs:=[(aj "self",.cR 762 0)]) (cG:=[aj "token",aj "raw",aj "data"]) hK (nK hK) rfl rfl rfl (by kernel_rfl) (by kernel_rfl) (gz (λs X a=>bf rfl) .nil) ?_
 intro κ hf hQ hN hX
 unfold gI IY
 rcases kJ hv with rfl|⟨a1,rfl⟩|⟨a1,a2,rfl⟩
 ·refine cX 99 (m':=.ex _ _ _ _) rfl rfl ?_
  refine r8 (v:=.str ⟨#[97]⟩) (ov:=.ob 6) (iv:=.str (aj "name")) rfl (mH λmF q=>?_) (eU (k:=3) rfl) (eU (k:=3) rfl) (qQ rfl (.cI .dw) rfl rfl ?_)
  ·refine cX 99 (m':=.cl _ _ _ _ _ _) rfl rfl ?_
   refine fW (tZ c hK (by decide) _) rfl rfl ?_
   exact q
  refine cX 99 (m':=.cl _ _ _ _ _ _) rfl rfl ?_
  refine IF [(.ob 7,⟨#[98]⟩,.str av)] (.ob rfl) (ak.ku ⟨.ob rfl,ak.forall_mem_nil _⟩) (nodupB_iff (by kernel_rfl)) (aD rfl) ?_
  refine mq 99 (m':=.cl _ _ _ _ _ _) rfl rfl ?_ ?_
  ·exact aD rfl
  refine AK .bO (aD rfl) ?_
  refine cX 99 (m':=.ex _ _ _ _) rfl rfl ?_
  refine r8 (v:=.bO _) (ov:=.ob 6) (iv:=.str (aj "data")) rfl (eU (k:=3) rfl) (eU (k:=3) rfl) (eU (k:=3) rfl) (qQ rfl (.cI (.cI .dw)) rfl rfl ?_)
  refine mq 99 (m':=.ex _ _ _ _) rfl rfl ?_ ?_
  ·exact qT hq
  exact gU (hN _ _ _ ⟨rfl,rfl⟩)
 ·refine cX 99 (m':=.ex _ _ _ _) rfl rfl ?_
  refine r8 (v:=.str ⟨#[97]⟩) (ov:=.ob 6) (iv:=.str (aj "name")) rfl (mH λmF q=>?_) (eU (k:=3) rfl) (eU (k:=3) rfl) (qQ rfl (.cI .dw) rfl rfl ?_)
  ·refine cX 99 (m':=.cl _ _ _ _ _ _) rfl rfl ?_
   refine fW (tZ c hK (by decide) _) rfl rfl ?_
   exact q
  refine cX 99 (m':=.cl _ _ _ _ _ _) rfl rfl ?_
  refine IF [(.ob 7,⟨#[98]⟩,.str a1),(.ob 8,⟨#[99]⟩,.str av)] (.ob rfl) (ak.ku ⟨.ob rfl,ak.ku ⟨.ob rfl,ak.forall_mem_nil _⟩⟩) (nodupB_iff (by kernel_rfl)) (aD rfl) ?_
  refine mq 99 (m':=.cl _ _ _ _ _ _) rfl rfl ?_ ?_
  ·exact aD rfl
  refine AK .bO (aD rfl) ?_
  refine cX 99 (m':=.ex _ _ _ _) rfl rfl ?_
  refine r8 (v:=.bO _) (ov:=.ob 6) (iv:=.str (aj "data")) rfl (eU (k:=3) rfl) (eU (k:=3) rfl) (eU (k:=3) rfl) (qQ rfl (.cI (.cI .dw)) rfl rfl ?_)
  refine mq 99 (m':=.ex _ _ _ _) rfl rfl ?_ ?_
  ·exact qT hq
  exact gU (hN _ _ _ ⟨rfl,rfl⟩)
 ·refine cX 99 (m':=.ex _ _ _ _) rfl rfl ?_
  refine r8 (v:=.str ⟨#[97]⟩) (ov:=.ob 6) (iv:=.str (aj "name")) rfl (mH λmF q=>?_) (eU (k:=3) rfl) (eU (k:=3) rfl) (qQ rfl (.cI .dw) rfl rfl ?_)
  ·refine cX 99 (m':=.cl _ _ _ _ _ _) rfl rfl ?_
   refine fW (tZ c hK (by decide) _) rfl rfl ?_
   exact q
  refine cX 99 (m':=.cl _ _ _ _ _ _) rfl rfl ?_
  refine IF [(.ob 7,⟨#[98]⟩,.str a1),(.ob 8,⟨#[99]⟩,.str a2),(.ob 9,⟨#[100]⟩,.str av)] (.ob rfl) (ak.ku ⟨.ob rfl,ak.ku ⟨.ob rfl,ak.ku ⟨.ob rfl,ak.forall_mem_nil _⟩⟩⟩) (nodupB_iff (by kernel_rfl)) (aD rfl) ?_
  refine mq 99 (m':=.cl _ _ _ _ _ _) rfl rfl ?_ ?_
  ·exact aD rfl
  refine AK .bO (aD rfl) ?_
  refine cX 99 (m':=.ex _ _ _ _) rfl rfl ?_
  refine r8 (v:=.bO _) (ov:=.ob 6) (iv:=.str (aj "data")) rfl (eU (k:=3) rfl) (eU (k:=3) rfl) (eU (k:=3) rfl) (qQ rfl (.cI (.cI .dw)) rfl rfl ?_)
  refine mq 99 (m':=.ex _ _ _ _) rfl rfl ?_ ?_
  ·exact qT hq
  exact gU (hN _ _ _ ⟨rfl,rfl⟩)
theorem Kh(c:Cx)(hK:gM=top.heap_1 aL){st:V}{vs:ak Str}{av:Str}{d t e:AO}{q:ak V}(hq:q.aq<=4000)(hv:vs.aq<=2):jO c 5 297 [.cR 762 0] (.bO (pW st (.ob 6))::d::t::e::.aR q::gI 4 ⟨#[97]⟩ AQ (o9 (vs++[av]))) .none (.bO (pW (vO 304) (.ob 6))::d::t::e::.aR (q++[GS,.ob 6])::gI 4 ⟨#[97]⟩ AQ (o9 (vs++[av]))):=by
 refine pF (bs:=[(aj "self",.cR 762 0)]) (cG:=[aj "token",aj "raw",aj "data"]) hK (nK hK) rfl rfl rfl (by kernel_rfl) (by kernel_rfl) (gz (λs X a=>bf rfl) .nil) ?_
 intro κ hf hQ hN hX
 unfold gI IY
 rcases kJ hv with rfl|⟨a1,rfl⟩|⟨a1,a2,rfl⟩
 ·refine cX 99 (m':=.ex _ _ _ _) rfl rfl ?_
  refine r8 (v:=.str ⟨#[97]⟩) (ov:=.ob 6) (iv:=.str (aj "name")) rfl (mH λmF q=>?_) (eU (k:=3) rfl) (eU (k:=3) rfl) (qQ rfl (.cI .dw) rfl rfl ?_)
  ·refine cX 99 (m':=.cl _ _ _ _ _ _) rfl rfl ?_
   refine fW (tZ c hK (by decide) _) rfl rfl ?_
   exact q
  refine go _ _ 99 (m':=.ex _ _ _ _) rfl ⟨?_,?_,?_,trivial⟩ ?_
  ·exact aD rfl
  ·exact qT hq
  ·rw[ak.aX];exact aA (dz hq 1) (by decide)
  rw[ak.cV]
  exact gU (hN _ _ _ ⟨rfl,rfl⟩)
 ·refine cX 99 (m':=.ex _ _ _ _) rfl rfl ?_
  refine r8 (v:=.str ⟨#[97]⟩) (ov:=.ob 6) (iv:=.str (aj "name")) rfl (mH λmF q=>?_) (eU (k:=3) rfl) (eU (k:=3) rfl) (qQ rfl (.cI .dw) rfl rfl ?_)
  ·refine cX 99 (m':=.cl _ _ _ _ _ _) rfl rfl ?_
   refine fW (tZ c hK (by decide) _) rfl rfl ?_
   exact q
  refine go _ _ 99 (m':=.ex _ _ _ _) rfl ⟨?_,?_,?_,trivial⟩ ?_
  ·exact aD rfl
  ·exact qT hq
  ·rw[ak.aX];exact aA (dz hq 1) (by decide)
  rw[ak.cV]
  exact gU (hN _ _ _ ⟨rfl,rfl⟩)
 ·refine cX 99 (m':=.ex _ _ _ _) rfl rfl ?_
  refine r8 (v:=.str ⟨#[97]⟩) (ov:=.ob 6) (iv:=.str (aj "name")) rfl (mH λmF q=>?_) (eU (k:=3) rfl) (eU (k:=3) rfl) (qQ rfl (.cI .dw) rfl rfl ?_)
  ·refine cX 99 (m':=.cl _ _ _ _ _ _) rfl rfl ?_
   refine fW (tZ c hK (by decide) _) rfl rfl ?_
   exact q
  refine go _ _ 99 (m':=.ex _ _ _ _) rfl ⟨?_,?_,?_,trivial⟩ ?_
  ·exact aD rfl
  ·exact qT hq
  ·rw[ak.aX];exact aA (dz hq 1) (by decide)
  rw[ak.cV]
  exact gU (hN _ _ _ ⟨rfl,rfl⟩)
theorem I9(c:Cx)(hK:gM=top.heap_1 aL){vs:ak Str}{av:Str}{d t e:AO}{x:Str}{u b cC:Nat}{q:ak V}(h:j8 x u b cC d t e)(hq:q.aq<=4000)(hv:vs.aq<=2)(iV:x.au[u]?=az 62):
  gj c 7 (.ref 584) [.cR 762 0] [] (TS (.ob 6) (PM ⟨#[97]⟩ Aj (o9 (vs++[av]))) x (u+1) cC (q++[.ob 6]) 304 (.bF true)) (λz9=>cM) (.bO (pW (vO 584) (.ob 6))::d::t::e::.aR q::gI 3 ⟨#[97]⟩ Aj (o9 (vs++[av]))):=by
 refine eO h.fm λs0 bG=>?_;obtain rfl:=bG
 refine pF (bs:=[(aj "self",.cR 762 0)]) (cG:=[aj "data"]) hK (nK hK) rfl rfl rfl (by kernel_rfl) (by kernel_rfl) (gz (λs X a=>bf rfl) .nil) ?_
 intro κ hf hQ hN hX
 refine cX 5 (m':=.cl _ _ _ _ _ _) rfl rfl ?_
 refine gH (gA c hK h) rfl rfl λv W' hW=>?_
 apply hW;clear hW;intro d1 t1 e1 h1
 refine eO h1.fm λs1 bG=>?_;obtain rfl:=bG
 rw[gQ iV]
 rw[aV (cB (jf iV))]at h1
 refine cX 99 (m':=.cl _ _ _ _ _ _) rfl rfl ?_
 refine fW (Kg c hK hq hv) rfl rfl ?_
 refine cX 99 (m':=.rt _ _ _ _ _) rfl rfl ?_
 exact hQ _ _ _ _ _ (.eG rfl) (.mk h1.qA)
theorem Ja(c:Cx)(hK:gM=top.heap_1 aL){vs:ak Str}{av:Str}{d t e:AO}{x:Str}{u b cC:Nat}{q:ak V}(h:j8 x u b cC d t e)(hq:q.aq<=4000)(hv:vs.aq<=2)(iV:x.au[u]?=az 62):
  gj c 7 (.ref 584) [.cR 762 0] [] (TS (.ob 6) (gI 4 ⟨#[97]⟩ AQ (o9 (vs++[av]))) x (u+1) cC (q++[GS,.ob 6]) 304 (.bF true)) (λz9=>cM) (.bO (pW (vO 584) (.ob 6))::d::t::e::.aR q::gI 4 ⟨#[97]⟩ AQ (o9 (vs++[av]))):=by
 refine eO h.fm λs0 bG=>?_;obtain rfl:=bG
 refine pF (bs:=[(aj "self",.cR 762 0)]) (cG:=[aj "data"]) hK (nK hK) rfl rfl rfl (by kernel_rfl) (by kernel_rfl) (gz (λs X a=>bf rfl) .nil) ?_
 intro κ hf hQ hN hX
 refine cX 5 (m':=.cl _ _ _ _ _ _) rfl rfl ?_
 refine gH (gA c hK h) rfl rfl λv W' hW=>?_
 apply hW;clear hW;intro d1 t1 e1 h1
 refine eO h1.fm λs1 bG=>?_;obtain rfl:=bG
 rw[gQ iV]
 rw[aV (cB (jf iV))]at h1
 refine cX 99 (m':=.cl _ _ _ _ _ _) rfl rfl ?_
 refine fW (Kh c hK hq hv) rfl rfl ?_
 refine cX 99 (m':=.rt _ _ _ _ _) rfl rfl ?_
 exact hQ _ _ _ _ _ (.eG rfl) (.mk h1.qA)
theorem PN(c:Cx)(hK:gM=top.heap_1 aL){vs:ak Str}{av:Str}{d t e:AO}{x:Str}{u b cC:Nat}{q:ak V}(h:j8 x u b cC d t e)(hq:q.aq<=4000)(hv:vs.aq<=2)(iV:x.au[u]?=az 62):
  gj c 7 (.ref 577) [.cR 762 0] [] (TS (.ob 6) (PM ⟨#[97]⟩ Aj (o9 (vs++[av]))) x (u+1) cC (q++[.ob 6]) 304 (.bF true)) (λz9=>cM) (.bO (pW (vO 577) (.ob 6))::d::t::e::.aR q::gI 3 ⟨#[97]⟩ Aj (o9 (vs++[av]))):=by
 refine eO h.fm λs0 bG=>?_;obtain rfl:=bG
 refine pF (bs:=[(aj "self",.cR 762 0)]) (cG:=[aj "data"]) hK (nK hK) rfl rfl rfl (by kernel_rfl) (by kernel_rfl) (gz (λs X a=>bf rfl) .nil) ?_
 intro κ hf hQ hN hX
 refine cX 5 (m':=.cl _ _ _ _ _ _) rfl rfl ?_
 refine gH (gA c hK h) rfl rfl λv W' hW=>?_
 apply hW;clear hW;intro d1 t1 e1 h1
 refine eO h1.fm λs1 bG=>?_;obtain rfl:=bG
 rw[gQ iV]
 rw[aV (cB (jf iV))]at h1
 refine cX 99 (m':=.cl _ _ _ _ _ _) rfl rfl ?_
 refine fW (Kg c hK hq hv) rfl rfl ?_
 refine cX 99 (m':=.rt _ _ _ _ _) rfl rfl ?_
 exact hQ _ _ _ _ _ (.eG rfl) (.mk h1.qA)
theorem PO(c:Cx)(hK:gM=top.heap_1 aL){vs:ak Str}{av:Str}{d t e:AO}{x:Str}{u b cC:Nat}{q:ak V}(h:j8 x u b cC d t e)(hq:q.aq<=4000)(hv:vs.aq<=2)(iV:x.au[u]?=az 62):
  gj c 7 (.ref 577) [.cR 762 0] [] (TS (.ob 6) (gI 4 ⟨#[97]⟩ AQ (o9 (vs++[av]))) x (u+1) cC (q++[GS,.ob 6]) 304 (.bF true)) (λz9=>cM) (.bO (pW (vO 577) (.ob 6))::d::t::e::.aR q::gI 4 ⟨#[97]⟩ AQ (o9 (vs++[av]))):=by
 refine eO h.fm λs0 bG=>?_;obtain rfl:=bG
 refine pF (bs:=[(aj "self",.cR 762 0)]) (cG:=[aj "data"]) hK (nK hK) rfl rfl rfl (by kernel_rfl) (by kernel_rfl) (gz (λs X a=>bf rfl) .nil) ?_
 intro κ hf hQ hN hX
 refine cX 5 (m':=.cl _ _ _ _ _ _) rfl rfl ?_
 refine gH (gA c hK h) rfl rfl λv W' hW=>?_
 apply hW;clear hW;intro d1 t1 e1 h1
 refine eO h1.fm λs1 bG=>?_;obtain rfl:=bG
 rw[gQ iV]
 rw[aV (cB (jf iV))]at h1
 refine cX 99 (m':=.cl _ _ _ _ _ _) rfl rfl ?_
 refine fW (Kh c hK hq hv) rfl rfl ?_
 refine cX 99 (m':=.rt _ _ _ _ _) rfl rfl ?_
 exact hQ _ _ _ _ _ (.eG rfl) (.mk h1.qA)
theorem Jb{K:xP}{h:c8}{N:aQ}{mg:Str->aH aI}{n:Str}{v:aI}(X:K.In h)(G:h.Ns N mg)(e:nsIn K N n=az (az v)):mg n=az v:=by
 revert X G e
 revert K h N mg n v
 intros K h N mg n v
 intro X G e
 refine E3 G λo es ep ho hd MN hf=>?_;clear G
 unfold nsIn at e
 cases q:ak.eF N K with
 |none=>rw[q]at e;cases e
 |az o2=>
  rw[q]at e
  haveI hx:=X _ _ q
  rw[ho]at hx
  cases hx
  obtain⟨c,d,dt,sl⟩:=o
  obtain rfl:=hd
  rw[<-hf]
  unfold nsFind findBy
  rw[<-dX.find?_toList]
  revert e
  show(match ak.find? (λd:gh=>d.yL n) es.nu with|az e=>az (az e.val)|none=>_)=az (az v)->_
  cases ak.find? (λd:gh=>d.yL n) es.nu with
  |az en=>intro e;cases e;rfl
  |none=>
   intro e
   cases hb:es.nu.any (λd:gh=>d.refKey)with
   |true=>rw[hb,bJ rfl]at e;cases e
   |false=>rw[hb,aY aM.bK]at e;cases e
theorem GU{K:xP}{h:c8}{x C f N:aQ}{o of:Obj}{name nm q:Str}{bs bm:ak aI}{Tu:aM}{sn:ak Str}{sub:ak aI}{ab:aM}{col:aH aM}{dd:aH aQ}{k0 k1 k2 k3 k5:aH aI}{newId:u9}{y:aH aI}(X:K.In h)(hx:h.cF x=az o)(hc:o.cls=.ref C)
  (hC:K.eF C=az (excClassObj nm q C N bs bm Tu sn sub ab col dd k0 k1 k2 k3 k5 newId))(hN:nsOkIn K N=true)(hn:nsIn K N name=az (az (.ref f)))(hf:K.eF f=az of)(ht:of.cls=.dg "function")(hbm:mroOf (.dg "object")=gB bm)(hy:wz (.dg "object") name=gB y):h.OwnSpecial x C f "object" name:=by
 revert X hx hc hC hN hn hf ht hbm hy
 revert K h x C f N o of name nm q bs bm Tu sn sub ab col dd k0 k1 k2 k3 k5 newId y
 intros K h x C f N o of name nm q bs bm
 intros Tu sn sub ab col dd k0 k1 k2 k3 k5 newId y
 intro X hx hc hC hN hn hf ht hbm hy
 exact⟨o,of,nm,q,N,bs,bm,Tu,sn,sub,ab,col,dd,k0,k1,k2,k3,k5,newId,_,y,hx,hc,X _ _ hC,.of_isNs (isNs_of_in X hN),Jb X (.of_isNs (isNs_of_in X hN)) hn,X _ _ hf,ht,hbm,hy⟩
theorem Tv:wz (.dg "object") (aj "__iter__")=gB none:=by rw[vd,pK];kernel_rfl
theorem Yi(c:Cx)(hK:gM=top.heap_1 aL)(h:c8)(xi d:aQ)(X:gM.In h)(hx:h.cF xi=az ⟨.ref 762,az d,.plain,#[]⟩):h.OwnSpecial xi 762 268 "object" (aj "__iter__"):=by
 rw[hK]at X
 exact GU X hx rfl (by exact rfl) (by kernel_rfl) (by kernel_rfl) (by exact rfl) rfl (by kernel_rfl:mroOf (.dg "object")=gB [.dg "object"]) Tv
structure Cf where
 f:aQ
 u:Nat
 ct:V
 R:ak AO
structure Go(c:Cx)(x:Str)(cf Hw:Cf)(q:ak V):Prop where
 hf:kp1.jG cf.f=true
 hu:0<Hw.u
 hq:q.aq<=4000
 go:∀d t,j8 x cf.u 0 0 d t (.aR [])->gj c 8 (.ref cf.f) [.cR 762 0] [] (TS Hw.ct Hw.R x Hw.u 0 q Hw.f (.bF true)) (λz9=>cM) (.bO (pW (vO cf.f) cf.ct)::d::t::.aR []::.aR []::cf.R)
def Run(c:Cx)(x:Str)(Rf:ak AO):Nat->Cf->ak V->Prop
 |0,_,_=>cM
 |k+1,cf,i=>(cf.f=304/\cf.R=Rf/\x.au[cf.u]?=none/\i=[])\/∃q Hw i',i=q++i'/\Go c x cf Hw q/\Run c x Rf k Hw i'
theorem j8.Vu{x:Str}(h0:invN x.au=0){u b:Nat}{d t e:AO}(h:j8 x u b 0 d t e):e=.aR []:=by
 apply h;clear h;intro s pre post a hb
 haveI h1:=a.m
 haveI h2:invN (x.au.eL s.p)+invN (x.au.fX s.p)=0:=by rw[<-A5,ak.take_append_drop];exact h0
 rw[(Nat.add_eq_zero_iff.mp h2).1,dD]at h1
 show AO.aR (zK s.m)=_
 rw[h1];rfl
def P1l(c:Cx)(x:Str)(Rf:ak AO)(i:ak V)(k:Nat)(z1:ak AO):Prop:=∀G:ak AO->Prop,(∀(cf:Cf)(d t:AO)(h:j8 x cf.u 0 0 d t (.aR []))(hr:Run c x Rf k cf i),G (.bO (pW (vO cf.f) cf.ct)::d::t::.aR []::.aR []::cf.R))->G z1
theorem P1l.mk{c:Cx}{x:Str}{Rf:ak AO}{i:ak V}{k:Nat}(cf:Cf){d t:AO}(h:j8 x cf.u 0 0 d t (.aR []))(hr:Run c x Rf k cf i):P1l c x Rf i k (.bO (pW (vO cf.f) cf.ct)::d::t::.aR []::.aR []::cf.R):=λz9 z=>z cf d t h hr
def Yj(c:Cx)(x:Str)(Rf:ak AO)(i:ak V)(k:Nat)(z1:ak AO):Prop:=∀G:ak AO->Prop,(∀(cf:Cf)(q i':ak V)(d t:AO)(h:j8 x cf.u 0 0 d t (.aR []))(hq:q.aq<=4000)(hi:i=q++i')(hr:Run c x Rf k cf i'),G (.bO (pW (vO cf.f) cf.ct)::d::t::.aR []::.aR q::cf.R))->G z1
theorem Yj.mk{c:Cx}{x:Str}{Rf:ak AO}{i:ak V}{k:Nat}(cf:Cf)(q i':ak V){d t:AO}(h:j8 x cf.u 0 0 d t (.aR []))(hq:q.aq<=4000)(hi:i=q++i')(hr:Run c x Rf k cf i'):Yj c x Rf i k (.bO (pW (vO cf.f) cf.ct)::d::t::.aR []::.aR q::cf.R):=λz9 z=>z cf q i' d t h hq hi hr
def En2(x:Str)(Rf:ak AO)(z1:ak AO):Prop:=∀G:ak AO->Prop,(∀(st ct:V)(d t:AO)(h:j8 x x.aq 0 0 d t (.aR [])),G (.bO (pW st ct)::d::t::.aR []::.aR []::Rf))->G z1
theorem En2.mk{x:Str}{Rf:ak AO}(st ct:V){d t:AO}(h:j8 x x.aq 0 0 d t (.aR [])):En2 x Rf (.bO (pW st ct)::d::t::.aR []::.aR []::Rf):=λz9 z=>z st ct d t h
def StP(c:Cx)(x:Str)(Rf:ak AO)(i:ak V)(k:Nat)(v:V)(W':ak AO):Prop:=∃b,v=.bF b/\(b=true->∃k',k=k'+1/\Yj c x Rf i k' W')/\(b=false->i=[]/\En2 x Rf W')
theorem Tw(c:Cx)(hK:gM=top.heap_1 aL){x:Str}{Rf:ak AO}{cf:Cf}{i:ak V}{k:Nat}{d t:AO}(h0:invN x.au=0)(hx:0<x.aq)(h:j8 x cf.u 0 0 d t (.aR []))(hr:Run c x Rf k cf i):
  fnIn gM cf.f=true/\gj c 8 (.ref cf.f) [.cR 762 0] [] (StP c x Rf i k) (λz9=>cM) (.bO (pW (vO cf.f) cf.ct)::d::t::.aR []::.aR []::cf.R):=by
 cases k with
 |lO=>exact hr.g9
 |kU k=>
  rcases hr with⟨h1,h2,h3,rfl⟩|⟨q,Hw,i',rfl,g,hr⟩
  ·obtain⟨f,u,ct,R⟩:=cf
   obtain rfl:=h1
   obtain rfl:=h2
   refine⟨((nK hK).kp 304 (ak.g6 (by kernel_rfl))).2,((Tt c hK h h3).eW (λv W' z=>?_) λz9 z=>z).up (by decide)⟩
   apply z;clear z;intro d t e h
   obtain rfl:=h.Vu h0
   exact⟨false,rfl,nofun,λz9=>⟨rfl,.mk _ _ h⟩⟩
  ·refine⟨((nK hK).kp _ (ak.g6 g.hf)).2,(g.go d t h).eW (λv W' z=>?_) λz9 z=>z⟩
   apply z;clear z;intro d t e h
   obtain rfl:=h.Vu h0
   exact⟨true,rfl,λz9=>⟨k,rfl,.mk Hw q i' h g.hq rfl hr⟩,nofun⟩
theorem afr{c:Cx}{n:Nat}{sc:gO}{τ:qI}{κ:Ct c sc τ}{l:Loc}{T W:ak AO}{ks:ak Fr}{f:V}{acc:ak V}{pos:Pos}(h:Kp c f)(q:Vd n κ (.cl f (acc.rL []) ks l T W)):Vd n κ (.al (.call f) acc [] pos ks l T W):=uJ ⟨h,q⟩
def Bv(c:Cx)(x:Str)(Rf:ak AO)(i:ak V)(k:Nat)(W:ak AO):Prop:=Yj c x Rf i k W/\∃a l,W[3]?=az (.aR (a::l))
def Cj(c:Cx)(x:Str)(Rf:ak AO)(i:ak V)(k:Nat)(W:ak AO):Prop:=Yj c x Rf i k W/\Er 3 W/\∃t q,W[4]?=az (.aR (t::q))
def lcG:Loc:=[(aj "self",az (.cR 762 0))]
theorem PR{c:Cx}{x:Str}{Rf:ak AO}{i:ak V}{k:Nat}{W:ak AO}(h:Bv c x Rf i k W):cM:=by
 refine iU h λhP iZ=>?_;clear h;refine E1 iZ λa l e=>?_;clear iZ
 revert e;apply hP;clear hP;intro cf q i' d t _ _ _ _ e
 cases AO.aR.inj (aH.az.inj e)
inductive ab2(c:Cx)(x:Str)(Rf:ak AO):Prop
 |mk (fd:kR) (s1:iW) (t1 t2 t3 e1 e2:aB) (q1 q2 q3 y1 y2 z1 z2:Pos) (D:GD c 268 fd fd.bD [s1,.oY t1 [.oY t2 [.tG (.n7 (az e1) y1) z1] [] q2,.oY t3 [.tG (.n7 (az e2) y2) z2] [] q3] [] q1] (aj "self"))
  (G:∀nF,fU nF fd.bD->qL nF->GW c 28 nF (aj "self") (.cR 762 0) (P1l c x Rf) (Yj c x Rf) (Bv c x Rf) (Cj c x Rf) (En2 x Rf) 3 t1 t2 t3 e1 e2)
  (S:∀nF,fU nF fd.bD->qL nF->∀(st ct:V)(d t e:AO),WS c 28 nF [s1] (λfl σ=>fl=.next/\σ=⟨lcG,[],[.bO (pW st ct),d,t,e,.aR []]⟩) (λz9=>cM) ⟨lcG,[],[.bO (Pc st ct),d,t,e]⟩):ab2 c x Rf
theorem Yk(c:Cx)(hK:gM=top.heap_1 aL){x:Str}{Rf:ak AO}(hx:0<x.aq)(h0:invN x.au=0):ab2 c x Rf:=by
 revert hK hx h0
 revert c x Rf
 intros c x Rf
 intro hK hx h0
 refine⟨_,_,_,_,_,_,_,_,_,_,_,_,_,_,GD.of hK rfl rfl rfl (by kernel_rfl) (by kernel_rfl) (λs v=>bf rfl),λnF he hf=>⟨?_,?_,?_,?_,?_,?_,?_,?_⟩,?_⟩
 ·intro i k W hP
  apply hP;clear hP;intro cf d t h hr
  refine eO h.fm λs0 bG=>?_;obtain rfl:=bG
  refine OZ he (nK hK) λκ hκ hQ=>?_
  refine iU (Tw c hK h0 hx h hr) λhk hc=>?_
  obtain⟨f,u,ct,R⟩:=cf
  refine cX 4 (m':=.al _ _ _ _ _ _ _ _) rfl rfl ?_
  refine afr (.meth hk) ?_
  refine OO hc rfl rfl λv W' hv=>?_
  refine uE hv λb bG hb1 hb2=>?_;clear hv;obtain rfl:=bG
  refine cX 1 (m':=.rt _ _ _ _ _) rfl rfl ?_
  exact hQ b _ ⟨W',rfl,hb1,hb2⟩
 ·intro i k W hP
  apply hP;clear hP;intro cf q i' d t h hq hi hr
  refine eO h.fm λs0 bG=>?_;obtain rfl:=bG
  obtain⟨f,u,ct,R⟩:=cf
  refine OZ he (nK hK) λκ hκ hQ=>?_
  refine mq 1 (m':=.rt _ _ _ _ _) rfl rfl ?_ ?_
  ·exact bC _
  exact hQ false _ ⟨_,rfl,nofun,λz9=>⟨.mk ⟨f,u,ct,R⟩ q i' h hq hi hr,rfl⟩⟩
 ·intro i k W hP _
  apply hP;clear hP;intro cf q i' d t h hq hi hr
  refine eO h.fm λs0 bG=>?_;obtain rfl:=bG
  obtain⟨f,u,ct,R⟩:=cf
  refine OZ he (nK hK) λκ hκ hQ=>?_
  refine mq 1 (m':=.rt _ _ _ _ _) rfl rfl ?_ ?_
  ·exact qT hq
  cases q with
  |nil=>exact hQ false _ ⟨_,rfl,nofun,λz9=>hi▸.mk ⟨f,u,ct,R⟩ h hr⟩
  |br a q=>exact hQ true _ ⟨_,rfl,(λz9=>⟨.mk ⟨f,u,ct,R⟩ (a::q) i' h hq hi hr,rfl,a,q,rfl⟩),nofun⟩
 ·exact λi k W hP=>(PR hP).g9
 ·intro i k W hP
  obtain⟨hP,hr,t0,q0,Yl⟩:=hP
  revert Yl;apply hP;clear hP;intro cf q i' d t h hq hi hr Yl
  obtain rfl:q=t0::q0:=AO.aR.inj (aH.az.inj Yl)
  exact⟨t0,_,hi⟩
 ·exact λv j k W hP=>(PR hP).g9
 ·intro v j k W hP
  obtain⟨hP,hr,t0,q0,Yl⟩:=hP
  generalize hj:v::j=i at hP
  revert Yl;apply hP;clear hP;intro cf q i' d t h hq hi hr Yl
  obtain rfl:q=t0::q0:=AO.aR.inj (aH.az.inj Yl)
  refine eO h.fm λs0 bG=>?_;obtain rfl:=bG
  obtain⟨f,u,ct,R⟩:=cf
  refine abt he (nK hK) λκ hκ hQ=>?_
  refine cX 7 (m':=.cl _ _ _ _ _ _) rfl rfl ?_
  haveI XY:q0.aq<=4000:=aA (xy _) hq
  refine abr (i:=4) rfl (aA XY (by decide)) ?_
  haveI e:v=t0/\j=q0++i':=ak.br.inj (hj.trans hi)
  exact hQ _ _ ⟨e.1.symm,_,rfl,.mk ⟨f,u,ct,R⟩ q0 i' h XY e.2 hr,rfl⟩
 ·intro i k W hP
  apply hP;clear hP;intro cf q i' d t h hq hi hr
  exact⟨_,rfl⟩
 ·intro nF he hf st ct d t e
  refine abu he (nK hK) λκ hκ hQ hX=>?_
  unfold lcG Pc
  refine cX 4 (m':=.ex _ _ _ _) rfl rfl ?_
  exact gU (hQ _ _ ⟨rfl,rfl⟩)
def lN:ak (Str×Str×aM):=[(⟨#[110,111,116]⟩,⟨#[172]⟩,true),(⟨#[110,111,116,105,110]⟩,⟨#[8713]⟩,false),(⟨#[110,111,116,110,105]⟩,⟨#[8716]⟩,false),(⟨#[115,117,112]⟩,⟨#[8835]⟩,false),(⟨#[115,117,112,49]⟩,⟨#[185]⟩,true),(⟨#[115,117,112,50]⟩,⟨#[178]⟩,true),(⟨#[116,105,109,101,115]⟩,⟨#[215]⟩,true),(⟨#[116,105,109,101,115,98]⟩,⟨#[8864]⟩,false),(⟨#[97,109,112]⟩,⟨#[38]⟩,true),(⟨#[97,110,103]⟩,⟨#[8736]⟩,false),(⟨#[97,110,103,108,101]⟩,⟨#[8736]⟩,false),(⟨#[97,99]⟩,⟨#[8766]⟩,false),(⟨#[97,99,69]⟩,⟨#[8766,819]⟩,false),(⟨#[97,99,117,116,101]⟩,⟨#[180]⟩,true),(⟨#[112,97,114,97]⟩,⟨#[182]⟩,true),(⟨#[112,97,114,97,108,108,101,108]⟩,⟨#[8741]⟩,false),(⟨#[108,116]⟩,⟨#[60]⟩,true),(⟨#[103,116]⟩,⟨#[62]⟩,true),(⟨#[113,117,111,116]⟩,⟨#[34]⟩,true),(⟨#[65,77,80]⟩,⟨#[38]⟩,true),(⟨#[99,111,112,121]⟩,⟨#[169]⟩,true),(⟨#[110,98,115,112]⟩,⟨#[160]⟩,true),(⟨#[101,97,99,117,116,101]⟩,⟨#[233]⟩,true),(⟨#[69,97,99,117,116,101]⟩,⟨#[201]⟩,true),(⟨#[102,114,97,99,49,50]⟩,⟨#[189]⟩,true),(⟨#[77,111,112,102]⟩,⟨#[120132]⟩,false),(⟨#[98,110,101]⟩,⟨#[61,8421]⟩,false)]
def GV:ak Str:=[⟨#[61]⟩,⟨#[38]⟩,⟨#[59]⟩,⟨#[35,120]⟩,⟨#[49]⟩,⟨#[97]⟩,⟨#[35,51,56]⟩,⟨#[35,120,50,54,59]⟩,⟨#[10]⟩,⟨#[35]⟩,⟨#[60]⟩,⟨#[38,35,88,56]⟩,⟨#[35,53,53,50,57,54,59]⟩,⟨#[34]⟩,⟨#[39]⟩,⟨#[62]⟩,⟨#[96]⟩,⟨#[0]⟩,⟨#[9]⟩,⟨#[12]⟩,⟨#[233]⟩,⟨#[38,110,111,116]⟩]
def DJ(r:Str×Str×aM):V:=.tup [.str r.1,.str r.2.1,.bF r.2.2]
def Jc(s:Str):Prop:=∀a∈s.au,(a≠13/\¬(55296<=a/\a<=56319))/\pY (a:Int)=false
def okB(s:Str)(m:Nat):aM:=s.au.all (λa=>decide ((a≠13/\¬(55296<=a/\a<=56319))/\pY (a:Int)=false))&&decide (s.aq<=m)
theorem EK{s:Str}{m:Nat}(h:okB s m=true):Jc s/\s.aq<=m:=by
 unfold okB at h
 rw[aM.bN]at h
 exact⟨λa ha=>bX (ak.bV h.1 a ha),bX h.2⟩
theorem Tz{a b:Str}(ha:Jc a)(hb:Jc b):Jc (a++b):=by
 intro k hk
 have:k∈(a.cps++b.cps).nu:=hk
 rw[dX.toList_append]at this
 rcases ak.cJ this with h|h
 ·exact ha k h
 ·exact hb k h
theorem Ym{a:Str}(ha:Jc a)(x y:aH Int):Jc (w7 a x y):=by
 intro k hk
 have:k∈sl a.au x y:=hk
 unfold sl at this
 exact ha k (ak.vh (ak.o8 this))
theorem fm(a:Int){b:Int}(hb:0<b):0<=a.um b/\a.um b<b:=⟨Int.fmod_nonneg_of_pos a hb,Int.fmod_lt_of_pos a hb⟩
theorem Yn{α:Type}(l:ak α)(a b:Int)(hb:0<b)(hl:l.aq=b.gR):∃r,l[(a.um b).gR]?=az r/\r∈l:=by
 haveI h:=fm a hb
 have lM:(a.um b).gR<l.aq:=by rw[hl];exact(Int.toNat_lt_toNat hb).mpr h.2
 exact⟨l[(a.um b).gR],ak.bk lM,ak.getElem_mem lM⟩
theorem PS(r:Str×Str×aM)(h:r∈lN):Jc r.1/\r.1.aq<=8:=EK (ak.bV (show lN.all (λr=>okB r.1 8)=true by decide+dK) r h)
theorem GX(s:Str)(h:s∈GV):Jc s/\s.aq<=10:=EK (ak.bV (show GV.all (λs=>okB s 10)=true by decide+dK) s h)
theorem TF{c:Cx}{n:Nat}{sc:gO}{τ:qI}{κ:Ct c sc τ}{ks:ak Fr}{l:Loc}{T W:ak AO}{e:aB}{v:V}(h:R7 4 e=az v)(q:Vd n κ (.rt v ks l T W)):Vd n κ (.ev e ks l T W):=aaO 4 e v _ _ h q
theorem TH{c:Cx}{n:Nat}{sc:gO}{τ:qI}{κ:Ct c sc τ}{l:Loc}{T W:ak AO}{e:aB}{pos:Pos}{aU:ak iW}(q:Vd n κ (.ev e [.ret] l T W)):Vd n κ (.ex (.Return (az e) pos::aU) l T W):=Fq q
theorem A7(c:Cx)(hK:gM=top.heap_1 aL)(W:ak AO):jO c 1 773 [] W (.aR (lN.map DJ)) W:=by
 refine pF (bs:=[]) (cG:=[]) hK (nK hK) rfl rfl rfl (by kernel_rfl) (by kernel_rfl) (Ec (λs X=>bf rfl) .nil) ?_
 intro κ hf hQ hN hX
 refine TH ?_
 with_reducible refine TF (v:=.aR (lN.map DJ)) ?_ ?_
 ·kernel_rfl
 ·exact hQ _ _ _ _ _ (.eG (by kernel_rfl)) ⟨rfl,rfl⟩
theorem Je(c:Cx)(hK:gM=top.heap_1 aL)(W:ak AO):jO c 1 780 [] W (.aR (GV.map .str)) W:=by
 refine pF (bs:=[]) (cG:=[]) hK (nK hK) rfl rfl rfl (by kernel_rfl) (by kernel_rfl) (Ec (λs X=>bf rfl) .nil) ?_
 intro κ hf hQ hN hX
 refine TH ?_
 with_reducible refine TF (v:=.aR (GV.map .str)) ?_ ?_
 ·kernel_rfl
 ·exact hQ _ _ _ _ _ (.eG (by kernel_rfl)) ⟨rfl,rfl⟩
def PU:ak (ak Nat):=[[34],[39],[9,10,12,32,62]]
def Jf:ak Str:=[⟨#[34]⟩,⟨#[39]⟩,⟨#[]⟩]
def GY(l:ak Nat):V:=.tup (fM λk=>.str ⟨#[k]⟩)
theorem Jg(c:Cx)(hK:gM=top.heap_1 aL)(W:ak AO):jO c 1 787 [] W (.aR (PU.map GY)) W:=by
 refine pF (bs:=[]) (cG:=[]) hK (nK hK) rfl rfl rfl (by kernel_rfl) (by kernel_rfl) (Ec (λs X=>bf rfl) .nil) ?_
 intro κ hf hQ hN hX
 refine TH ?_
 with_reducible refine TF (v:=.aR (PU.map GY)) ?_ ?_
 ·kernel_rfl
 ·exact hQ _ _ _ _ _ (.eG (by kernel_rfl)) ⟨rfl,rfl⟩
theorem A8(c:Cx)(hK:gM=top.heap_1 aL)(W:ak AO):jO c 1 794 [] W (.aR (Jf.map .str)) W:=by
 refine pF (bs:=[]) (cG:=[]) hK (nK hK) rfl rfl rfl (by kernel_rfl) (by kernel_rfl) (Ec (λs X=>bf rfl) .nil) ?_
 intro κ hf hQ hN hX
 refine TH ?_
 with_reducible refine TF (v:=.aR (Jf.map .str)) ?_ ?_
 ·kernel_rfl
 ·exact hQ _ _ _ _ _ (.eG (by kernel_rfl)) ⟨rfl,rfl⟩
theorem Vv{α:Type}(l:ak α)(a b:Int)(hb:0<b)(hl:(l.aq:Int)=b)(hz:l.aq<=10000):∃r,uO l.aq (a.um b)/\l[zo l.aq (a.um b)]?=az r/\r∈l:=by
 have h:=fm a hb
 refine gg (Yn l a b hb (bM Int.gR hl)) λr h1 h2=>?_
 refine⟨r,⟨⟨qz (Int.neg_nonpos_of_nonneg (cH _)) h.1,hl▸h.2⟩,hz⟩,?_,h2⟩
 unfold zo
 rw[aY (Int.fG h.1)]
 exact h1
theorem GZ{b:Int}(a:Int)(h0:b≠0)(h:b.natAbs<2^30):b≠0/\dI.u5 a b=false:=⟨h0,PyProof.noPylong_small h⟩
def PcR(W:ak AO)(z1:V)(z2:ak AO):Prop:=∀G:V->ak AO->Prop,(∀(s:Str)(h:Jc s)(hz:s.aq<=10),G (.str s) W)->G z1 z2
theorem PcR.mk{W:ak AO}(s:Str)(h:Jc s)(hz:s.aq<=10):PcR W (.str s) W:=λz9 z=>z s h hz
theorem G1(c:Cx)(hK:gM=top.heap_1 aL)(m:Int)(W:ak AO):gj c 2 (.ref 801) [.int m] [] (PcR W) (λz9=>cM) W:=by
 revert hK
 revert c m W
 intros c m W
 intro hK
 refine pF (bs:=[(aj "n",.int m)]) (cG:=[aj "q",aj "name"]) hK (nK hK) rfl rfl rfl (by kernel_rfl) (by kernel_rfl) (gz (λs X a=>bf rfl) .nil) ?_
 intro κ hf hQ hN hX
 have L1:(aj ";").aq=1:=by kernel_rfl
 refine mq 10 (m':=.cl _ _ _ _ _ _) rfl rfl ?_ ?_
 ·exact GZ m (by decide) (by decide)
 refine fW (A7 c hK W) rfl rfl ?_
 refine mq 2 (m':=.rt _ _ _ _ _) rfl rfl ?_ ?_
 ·decide
 refine uE (Vv (lN.map DJ) (m.xU 5) 27 (by decide) rfl (by decide)) λr hx hr hm=>?_
 refine gg (ak.jt hm) λr hrm ig=>?_;obtain rfl:=ig
 refine iU (PS r hrm) λho hz=>?_
 have hs:=(EK (s:=aj ";") (m:=1) (by decide+dK)).1
 have Bt:=Tz ho hs
 have jW:(r.1++aj ";").aq<=9:=by rw[j4];exact(aF λhn=>Lake.n3 [_,_] 1 (.a (.n 9) (.n 1)) (.a (.v 1) (.v 0)) 1 (.v 0) (.n 1) 1 (.v 1) (.n 8) rfl hn (aO L1) hz)
 have yW:r.1.aq+(aj ";").aq<=fu:=qG (by exact(aF λhn=>Lake.n3 [_,_] 1 (.a (.n 10000) (.n 1)) (.a (.v 1) (.v 0)) 1 (.v 0) (.n 1) 1 (.v 1) (.n 8) rfl hn (aO L1) hz))
 refine pG (w:=DJ r) hx hr ?_
 unfold DJ
 refine go2 6 (m':=.rt _ _ _ _ _) rfl rfl ?_ ?_ ?_
 ·exact⟨by decide,show 3<=10000 by decide⟩
 ·decide
 cases h0:(m.um 5==0)with
 |true=>
  refine mq 99 (m':=.rt _ _ _ _ _) rfl rfl ?_ ?_
  ·exact yW
  exact hQ _ _ _ _ _ (.eG rfl) (.mk _ Bt (fR jW))
 |false=>
  refine mq 3 (m':=.rt _ _ _ _ _) rfl rfl ?_ ?_
  ·decide
  cases h1:(m.um 5==1)with
  |true=>
   refine cX 99 (m':=.rt _ _ _ _ _) rfl rfl ?_
   exact hQ _ _ _ _ _ (.eG rfl) (.mk _ ho (aA hz (by decide)))
  |false=>
   refine mq 3 (m':=.rt _ _ _ _ _) rfl rfl ?_ ?_
   ·decide
   cases h2:(m.um 5==2)with
   |true=>
    refine go _ _ 3 (m':=.rt _ _ _ _ _) rfl ⟨?_,?_,?_,trivial⟩ ?_
    ·exact yW
    ·decide
    ·exact aA jW (by decide)
    exact hQ _ _ _ _ _ (.eG rfl) (.mk _ (Ym Bt _ _) (Ef (fR jW)))
   |false=>
    refine mq 3 (m':=.rt _ _ _ _ _) rfl rfl ?_ ?_
    ·decide
    cases h3:(m.um 5==3)with
    |true=>
     have hf:=fm (m.xU 5) (b:=95) (by decide)
     have h32:(32:Int)<=32+(m.xU 5).um 95:=Int.le_add_of_nonneg_right hf.1
     have ab3:32+(m.xU 5).um 95<127:=Int.add_lt_add_left hf.2 32
     have h0:(0:Int)<=32+(m.xU 5).um 95:=qz (by decide) h32
     refine go2 10 (m':=.rt _ _ _ _ _) rfl rfl ?_ ?_ ?_
     ·decide
     ·rw[cK (Int.fG h0),cK (Int.fG (Int.le_of_lt (Int.wC ab3 (by decide))))];rfl
     refine hQ _ _ _ _ _ (.eG rfl) (.mk _ ?_ (by show 1<=10;decide))
     intro a ha
     rw[ak.bR ha]
     have:=ak.bV (show(ak.tO 127).all (λa=>decide (a<32)||decide ((a≠13/\¬(55296<=a/\a<=56319))/\pY (a:Int)=false))=true by decide+dK) _ (ak.k7 ((Int.toNat_lt h0).mpr ab3))
     rw[aM.lJ,cA,cA]at this
     exact this.g9 (λz=>cO z (Nat.fG ((Int.le_toNat h0).mpr h32))) id
    |false=>
     refine cX 7 (m':=.cl _ _ _ _ _ _) rfl rfl ?_
     refine fW (Je c hK W) rfl rfl ?_
     refine mq 2 (m':=.rt _ _ _ _ _) rfl rfl ?_ ?_
     ·decide
     refine uE (Vv (GV.map V.str) (m.xU 5) 22 (by decide) rfl (by decide)) λv hx2 hs hsm=>?_
     refine gg (ak.jt hsm) λt htm ig=>?_;obtain rfl:=ig
     refine pG hx2 hs ?_
     exact hQ _ _ _ _ _ (.eG rfl) (.mk _ ((GX t htm).1) ((GX t htm).2))
theorem oR(c:Cx)(hK:gM=top.heap_1 aL)(s:Str)(W:ak AO):jO c 1 808 [.str s] W (qR s) W:=by
 refine pF (bs:=[(aj "name",.str s)]) (cG:=[]) hK (nK hK) rfl rfl rfl (by kernel_rfl) (by kernel_rfl) (gz (λs X a=>bf rfl) .nil) ?_
 intro κ hf hQ hN hX
 refine cX 13 (m':=.rt _ _ _ _ _) rfl rfl ?_
 exact hQ _ _ _ _ _ (.eG rfl) ⟨rfl,rfl⟩
def wZ(hex:aM)(k:Nat):Int:=if jN hex k then(figVal k:Nat)else -1
def wI(hex:aM)(k:Int):Int:=if(decide (48<=k)&&decide (k<=57))=true then k - 48 else if(hex&&(decide (65<=k)&&decide (k<=70)))=true then k - 55 else if(hex&&(decide (97<=k)&&decide (k<=102)))=true then k - 87 else -1
theorem Jh{a b:Nat}{x y:aM}(h:b<a):(x&&(y&&decide ((a:Int)<=(b:Nat))))=false:=by
 rw[cK (λe=>Nat.not_le.mpr h (fO.mp e)),aM.uo,aM.uo]
theorem ab4(hex:aM)(k:Nat):wI hex k=wZ hex k:=by
 revert hex k
 intros hex k
 rcases qx k 128 with h|h
 ·haveI key:(ak.tO 128).all (λk=>decide (wI true k=wZ true k)&&decide (wI false k=wZ false k))=true:=by decide+dK
  have:=(aM.bN _ _).mp (ak.bV key k (ak.k7 h))
  cases hex
  ·exact bX this.2
  ·exact bX this.1
 ·unfold wI wZ
  haveI e1:jN hex k=false:=by
   cases hx:jN hex k with
   |false=>rfl
   |true=>
    exfalso
    rcases AD hx with h1|⟨_,h1|h1⟩
    ·exact Nat.fG h (b9 h1.2 (by decide))
    ·exact Nat.fG h (b9 h1.2 (by decide))
    ·exact Nat.fG h (b9 h1.2 (by decide))
  haveI e2:(decide ((48:Int)<=k)&&decide ((k:Int)<=57))=false:=Jh (b:=57) (x:=true) (y:=decide ((48:Int)<=k)) (bh (by decide) h)
  haveI e3:(hex&&(decide ((65:Int)<=k)&&decide ((k:Int)<=70)))=false:=Jh (b:=70) (x:=hex) (y:=decide ((65:Int)<=k)) (bh (by decide) h)
  haveI e4:(hex&&(decide ((97:Int)<=k)&&decide ((k:Int)<=102)))=false:=Jh (b:=102) (x:=hex) (y:=decide ((97:Int)<=k)) (bh (by decide) h)
  rw[aY (ne_true_of_eq_false e2),aY (ne_true_of_eq_false e3),aY (ne_true_of_eq_false e4),e1]
  rfl
theorem A9(c:Cx)(hK:gM=top.heap_1 aL)(hex:aM)(k:Nat)(W:ak AO):jO c 1 815 [.str ⟨#[k]⟩,.int (ji hex:Nat)] W (.int (wZ hex k)) W:=by
 revert hK
 revert c hex k W
 intros c hex k W
 intro hK
 refine pF (bs:=[(aj "sign",.str ⟨#[k]⟩),(aj "base",.int (ji hex:Nat))]) (cG:=[aj "point"]) hK (nK hK) rfl rfl rfl (by kernel_rfl) (by kernel_rfl) (nU (λs X a b=>bf rfl) .nil) ?_
 intro κ hf hQ hN hX
 have hb:(((ji hex:Nat):Int)==16)=hex:=by cases hex<;>rfl
 rw[<-ab4]at hQ
 unfold wI at hQ
 refine cX 12 (m':=.rt _ _ _ _ _) rfl rfl ?_
 cases h1:(decide ((48:Int)<=k)&&decide ((k:Int)<=57))with
 |true=>
  rw[h1]at hQ
  refine cX 3 (m':=.rt _ _ _ _ _) rfl rfl ?_
  exact hQ _ _ _ _ _ (.eG rfl) ⟨rfl,rfl⟩
 |false=>
  rw[h1]at hQ
  refine cX 3 (m':=.rt _ _ _ _ _) rfl rfl ?_
  rw[hb]
  cases h2:(hex&&(decide ((65:Int)<=k)&&decide ((k:Int)<=70)))with
  |true=>
   rw[h2]at hQ
   refine cX 3 (m':=.rt _ _ _ _ _) rfl rfl ?_
   exact hQ _ _ _ _ _ (.eG rfl) ⟨rfl,rfl⟩
  |false=>
   rw[h2]at hQ
   refine cX 3 (m':=.rt _ _ _ _ _) rfl rfl ?_
   rw[hb]
   cases h3:(hex&&(decide ((97:Int)<=k)&&decide ((k:Int)<=102)))with
   |true=>
    rw[h3]at hQ
    refine cX 3 (m':=.rt _ _ _ _ _) rfl rfl ?_
    exact hQ _ _ _ _ _ (.eG rfl) ⟨rfl,rfl⟩
   |false=>
    rw[h3]at hQ
    refine cX 3 (m':=.rt _ _ _ _ _) rfl rfl ?_
    exact hQ _ _ _ _ _ (.eG rfl) ⟨rfl,rfl⟩
def cC(k:Nat):aM:=k==0||(decide (1114111<k)||k/2048==27)
theorem PW{k:Nat}:cC k=true↔k=0\/1114111<k\/k/2048=27:=by
 unfold cC
 rw[aM.lJ,aM.lJ,iX,cA,iX]
def yH(k:Nat):Str×aM:=
 if cC k then(⟨#[65533]⟩,true)
 else if k/32=4 then(⟨#[XR[k%32]?.xV 0]⟩,true)
 else if k<32 then(⟨#[k]⟩,!(k==9||(k==10||k==12)))
 else(⟨#[k]⟩,k==127||((k/16==4061||k/16==4062)||decide (65533<k%65536)))
theorem CA(k b:Nat):(k:Int).xU (b:Nat)=((k/b:Nat):Int):=by rw[Int.fdiv_eq_ediv_of_nonneg _ (cH b)];rfl
theorem CB(k b:Nat):(k:Int).um (b:Nat)=((k%b:Nat):Int):=by rw[Int.fmod_eq_emod_of_nonneg _ (cH b)];rfl
theorem ud(a b:Nat):((a:Int)==(b:Nat))=(a==b):=by
 by_cases h:a=b
 ·subst h;rw[cU,cU]
 ·rw[eK h];exact eK λe=>h (yg.mp e)
theorem CC(a b:Nat):decide ((a:Int)>(b:Nat))=decide (b<a):=lu dF
theorem PX(k:Nat):((k:Int)==0||(decide ((k:Int)>1114111)||((k:Int).xU 2048==27)))=cC k:=by
 rw[show(k:Int).xU 2048=((k/2048:Nat):Int) from CA k 2048,show((k:Int)==0)=_ from ud k 0,show decide ((k:Int)>1114111)=_ from CC k 1114111,show(((k/2048:Nat):Int)==27)=_ from ud (k/2048) 27]
 rfl
theorem TJ(k:Nat):([p8 9,p8 10,p8 12].any λy=>vf y (.int k))=(k==9||(k==10||k==12)):=by
 show((9==(k:Int))||((10==(k:Int))||((12==(k:Int))||false)))=_
 rw[aM.oW,show((9:Int)==(k:Int))=(k==9) from(ud 9 k).trans aM.beq_comm,show((10:Int)==(k:Int))=(k==10) from(ud 10 k).trans aM.beq_comm,show((12:Int)==(k:Int))=(k==12) from(ud 12 k).trans aM.beq_comm]
theorem TL(k:Nat):((k:Int)==127||(([p8 4061,p8 4062].any λy=>vf y (.int ((k:Int).xU 16)))||decide ((k:Int).um 65536>65533)))=(k==127||((k/16==4061||k/16==4062)||decide (65533<k%65536))):=by
 rw[show(k:Int).xU 16=((k/16:Nat):Int) from CA k 16,show(k:Int).um 65536=((k%65536:Nat):Int) from CB k 65536]
 show((k:Int)==127||(((4061:Int)==((k/16:Nat):Int))||(((4062:Int)==((k/16:Nat):Int))||false)||_))=_
 rw[aM.oW,show((k:Int)==127)=(k==127) from ud k 127,show((4061:Int)==((k/16:Nat):Int))=(k/16==4061) from(ud 4061 (k/16)).trans aM.beq_comm,show((4062:Int)==((k/16:Nat):Int))=(k/16==4062) from(ud 4062 (k/16)).trans aM.beq_comm]
 rw[show decide ((((k%65536:Nat)):Int)>65533)=_ from CC (k%65536) 65533]
theorem Yo{k:Nat}(h:k<=1114111):(decide ((k:Int)<0)||decide ((k:Int)>1114111))=false:=by
 rw[cK (Int.fG (cH k)),show decide ((k:Int)>1114111)=_ from CC k 1114111,cK (Nat.fG h)]
 rfl
theorem Ji(c:Cx)(hK:gM=top.heap_1 aL)(k:Nat)(W:ak AO):jO c 1 822 [.int k] W (.tup [.str (yH k).1,.bF (yH k).2]) W:=by
 revert hK
 revert c k W
 intros c k W
 intro hK
 refine pF (bs:=[(aj "value",.int k)]) (cG:=[]) hK (nK hK) rfl rfl rfl (by kernel_rfl) (by kernel_rfl) (gz (λs X a=>bf rfl) .nil) ?_
 intro κ hf hQ hN hX
 have ret:∀(a:Str)(b:aM),yH k=(a,b)->∀l T,κ.Q (.ret (.tup [.str a,.bF b])) ⟨l,T,W⟩:=λa b e l T=>hQ _ _ _ _ _ (.eG rfl) ⟨by rw[e],rfl⟩
 clear hQ
 unfold yH at ret
 refine mq 2 (m':=.rt _ _ _ _ _) rfl rfl ?_ ?_
 ·exact GZ _ (by decide) (by decide)
 refine vb (PX k) ?_
 cases h1:cC k with
 |true=>
  rw[h1]at ret
  refine cX 3 (m':=.rt _ _ _ _ _) rfl rfl ?_
  rw[show aj "�"=⟨#[65533]⟩ by kernel_rfl]
  exact ret _ _ rfl _ _
 |false=>
  have Zj:=Yo (k:=k) (aF λh=>cO (PW.mpr (.inr (.inl h))) (by rw[h1];decide))
  rw[h1,aY (by decide)]at ret
  refine mq 3 (m':=.rt _ _ _ _ _) rfl rfl ?_ ?_
  ·exact GZ _ (by decide) (by decide)
  refine vb (b':=(k/32==4)) (by rw[show(k:Int).xU 32=((k/32:Nat):Int) from CA k 32];exact ud (k/32) 4) ?_
  cases h2:(k/32==4)with
  |true=>
   haveI lM:k%32<32:=Nat.mod_lt _ (by decide)
   rw[bJ (cL h2)]at ret
   refine go2 3 (m':=.rt _ _ _ _ _) rfl rfl ?_ ?_ ?_
   ·decide
   ·rw[show(k:Int).um 32=((k%32:Nat):Int) from CB k 32];exact je (n:=32) lM (by decide)
   rw[show(k:Int).um 32=((k%32:Nat):Int) from CB k 32,tD,ak.iY]
   exact ret _ _ rfl _ _
  |false=>
   rw[aY (ne_of_beq_false h2)]at ret
   refine cX 3 (m':=.rt _ _ _ _ _) rfl rfl ?_
   refine vb (b':=decide (k<32)) (CC 32 k) ?_
   cases h3:decide (k<32)with
   |true=>
    rw[bJ (bX h3)]at ret
    refine mq 17 (m':=.rt _ _ _ _ _) rfl rfl ?_ ?_
    ·exact Zj
    rw[Int.toNat_natCast,TJ]
    exact ret _ _ rfl _ _
   |false=>
    rw[aY (wM h3)]at ret
    refine go _ _ 17 (m':=.rt _ _ _ _ _) rfl ⟨?_,?_,?_,trivial⟩ ?_
    ·exact Zj
    ·exact GZ _ (by decide) (by decide)
    ·decide
    rw[Int.toNat_natCast,TL]
    exact ret _ _ rfl _ _
theorem TM(l:ak Int)(n:Int):((fM p8).any λy=>vf y (.int n))=decide (n∈l):=by
 rw[ak.any_map]
 induction l with
 |nil=>rfl
 |br a l ih=>
  rw[ak.any_cons,ih]
  show((a==n)||_)=_
  by_cases h:a=n
  ·subst h
   rw[cU,aM.true_or]
   exact(cN ak.mem_cons_self).symm
  ·rw[eK h,aM.false_or]
   rw[aM.uq,cA,cA,ak.mem_cons]
   exact⟨.inr,λh'=>h'.g9 (λe=>cO e.symm h) id⟩
theorem TN{k:Nat}(h1:160<=k)(h2:k<=1114111):decide ((k:Int)∈Pn)=decide (65533<k%65536):=by
 haveI hq:k/65536<17:=by exact(cP λhn=>Lake.n3 [_,_,_] 65536 (.n 17) (.v 1) 1 (.v 0) (.n 1114111) 1 (.a (.m 65536 (.v 1)) (.v 2)) (.v 0) rfl hn h2 (aO (Nat.div_add_mod _ 65536)))
 haveI all1:Pn.all (λt=>decide (t<160)||decide (65533<t.gR%65536))=true:=by decide+dK
 haveI all2:(ak.tO 17).all (λq=>decide (((q * 65536+65534:Nat):Int)∈Pn)&&decide (((q * 65536+65535:Nat):Int)∈Pn))=true:=by decide+dK
 rw[aM.uq,cA,cA]
 constructor
 ·intro hm
  have:=ak.bV all1 _ hm
  simp only[aM.lJ,cA]at this
  exact this.g9 (λq=>cO (dF (n:=k) (m:=160)|>.mp q) (Nat.fG h1)) id
 ·intro hm
  have:=ak.bV all2 (k/65536) (ak.k7 hq)
  simp only[aM.bN,cA]at this
  haveI e0:k/65536 * 65536+k%65536=k:=Nat.div_add_mod' k 65536
  rcases ou (cB hm)with h3|h3
  ·haveI h4:k%65536=65535:=dU (fC (Nat.mod_lt k (by decide))) h3
   rw[h4]at e0
   rw[<-e0];exact this.2
  ·rw[<-h3]at e0
   rw[<-e0];exact this.1
theorem PY{k:Nat}(h:160<=k):EA (k:Int)=none:=by
 unfold EA
 rw[ak.find?_eq_none]
 intro p hp
 haveI all1:AL.all (λp=>decide (p.1<160))=true:=by decide+dK
 have:=bX (ak.bV all1 p hp)
 simp
 intro e
 rw[e]at this
 exact cO (dF (n:=k) (m:=160)|>.mp this) (Nat.fG h)
theorem Yq:(ak.tO 160).all (λk=>decide (nj (k:Nat)=(yH k).1)&&(((EA (k:Nat)).sJ||(Bl (k:Nat)||Mn (k:Nat)))==(yH k).2))=true:=by decide+dK
theorem CD(a b:Nat):decide ((a:Int)<=(b:Nat))=decide (a<=b):=lu fO
theorem PZ{k q b:Nat}(hb:0<b):decide (q * b<=k)=decide (q<=k/b):=lu (Nat.le_div_iff_mul_le hb).symm
theorem P0{k q b:Nat}(hb:0<b):decide (k<q * b)=decide (k/b<q):=lu (Nat.div_lt_iff_lt_mul hb).symm
theorem Yr{q c:Nat}:(decide (c<=q)&&decide (q<c+1))=(q==c):=by
 rw[aM.uq,aM.bN,cA,cA,iX]
 exact⟨λh=>dU (fC h.2) h.1,λh=>h▸⟨bz _,dY _⟩⟩
theorem Ys{q c:Nat}:(decide (c<=q)&&decide (q<c+2))=(q==c||q==c+1):=by
 rw[aM.uq,aM.bN,aM.lJ,cA,cA,iX,iX]
 constructor
 ·intro h
  rcases ou h.1 with h1|h1
  ·exact .inr (dU (fC h.2) h1)
  ·exact .inl h1.symm
 ·rintro(h|h)
  ·exact h▸⟨bz _,gn (dY _)⟩
  ·exact h▸⟨xy _,dY _⟩
theorem G2(k:Nat):Bl (k:Nat)=(k/2048==27||decide (1114111<k)):=by
 unfold Bl
 rw[show decide ((55296:Int)<=(k:Nat))=_ from CD 55296 k,show decide (((k:Nat):Int)<=57343)=_ from CD k 57343,show decide (((k:Nat):Int)>1114111)=_ from CC k 1114111]
 rw[show decide (55296<=k)=_ from PZ (q:=27) (b:=2048) (by decide),show decide (k<=57343)=decide (k/2048<27+1) from(lu Nat.lt_succ_iff.symm).trans (P0 (q:=28) (b:=2048) (by decide)),Yr]
theorem Jj{a b:Nat}{y:aM}(h:b<a):(y&&decide ((a:Int)<=(b:Nat)))=false:=by
 rw[CD,cK (Nat.not_le.mpr h),aM.uo]
theorem TP{k:Nat}(h:160<=k)(h2:k<=1114111):Mn (k:Nat)=(k==127||((k/16==4061||k/16==4062)||decide (65533<k%65536))):=by
 unfold Mn
 haveI e1:(decide ((1:Int)<=k)&&decide ((k:Int)<=8))=false:=Jj (b:=8) (bh (by decide) h)
 haveI e2:(decide ((14:Int)<=k)&&decide ((k:Int)<=31))=false:=Jj (b:=31) (bh (by decide) h)
 haveI e3:(decide ((127:Int)<=k)&&decide ((k:Int)<=159))=false:=Jj (b:=159) (bh (by decide) h)
 haveI e4:(decide ((64976:Int)<=k)&&decide ((k:Int)<=65007))=(k/16==4061||k/16==4062):=by
  rw[show decide ((64976:Int)<=k)=_ from CD 64976 k,show decide ((k:Int)<=65007)=_ from CD k 65007]
  rw[show decide (64976<=k)=_ from PZ (q:=4061) (b:=16) (by decide),show decide (k<=65007)=decide (k/16<4061+2) from(lu Nat.lt_succ_iff.symm).trans (P0 (q:=4063) (b:=16) (by decide)),Ys]
 haveI e5:(k==127)=false:=eK (jK (bh (by decide) h))
 rw[e1,e2,e3,e4,e5,TM,TN h h2]
 rfl
theorem Kl(k:Nat):nj (k:Nat)=(yH k).1/\k6 (k:Nat)=if(yH k).2 then[Bm k]else[]:=by
 revert k
 intros k
 rcases qx k 160 with h|h
 ·have:=ak.bV Yq k (ak.k7 h)
  rw[aM.bN,cA,iX]at this
  unfold k6
  exact⟨this.1,by rw[this.2]⟩
 ·haveI ne:k6 (k:Nat)=if(Bl (k:Nat)||Mn (k:Nat))=true then[Bm k]else[]:=by
   unfold k6
   rw[PY h]
   rfl
  haveI ns:nj (k:Nat)=if Bl (k:Nat)=true then⟨#[65533]⟩else⟨#[k]⟩:=by
   unfold nj
   rw[PY h]
   rfl
  haveI et:cC k=Bl (k:Nat):=by
   rw[G2]
   unfold cC
   rw[eK (jK (bh (by decide) h)),aM.false_or,aM.or_comm]
  rw[ne,ns]
  unfold yH
  rw[et]
  cases hb:Bl (k:Nat)with
  |true=>exact⟨rfl,rfl⟩
  |false=>
   rw[G2,aM.or_eq_false_iff]at hb
   rw[aY (by decide),aY (by decide),aY (jK ((Nat.le_div_iff_mul_le (by decide)).mpr h)),aY (Nat.fG (aA (by decide) h)),aM.false_or,TP h (aF (wM hb.2))]
   exact⟨rfl,rfl⟩
theorem Jk(x:Str)(b:Nat):w7 x none (az (b:Int))=jP x 0 b:=by
 unfold w7 sl jP jl
 have e2:(az (b:Int)).g9 x.au.aq (jI x.au.aq)=min b x.au.aq:=m7 _ _
 rw[e2]
 show(⟨(ak.eL (min b x.au.aq - 0) (ak.fX 0 _)).aJ⟩:Str)=⟨(ak.fX 0 (ak.eL b _)).aJ⟩
 rw[ak.vW,ak.vW,vU]
 rcases Nat.le_total b x.au.aq with h|h
 ·rw[aV h]
 ·rw[kW h,ak.xG,ak.dW h]
theorem Mv(hex:aM)(k:Nat):decide (wZ hex k>=0)=jN hex k:=by
 unfold wZ
 cases jN hex k with
 |true=>exact cN (by rw[bJ rfl];exact cH _)
 |false=>rfl
theorem TQ(x:Str)(a b:Nat)(h:a<=b)(hb:b<=x.aq):w7 x (az (a:Int)) (az (b:Int))=jP x a b:=J6 x a b h hb
def uV(o:aH Nat):Str:=match o with|az k=>⟨#[k]⟩|none=>⟨#[]⟩
theorem EL(x:Str)(a:Nat):w7 x (az (a:Int)) (az ((a:Int)+1))=uV (x.au[a]?):=by
 revert x a
 intros x a
 unfold w7 sl uV
 have e1:(az (a:Int)).g9 0 (jI x.au.aq)=min a x.au.aq:=m7 _ _
 have e2:(az ((a:Int)+1)).g9 x.au.aq (jI x.au.aq)=min (a+1) x.au.aq:=m7 _ (a+1)
 rw[e1,e2]
 by_cases h:a<x.au.aq
 ·rw[ak.bk h,aV (by exact(aF λhn=>Lake.n2 [_,_] 1 (.a (.v 1) (.n 1)) (.a (.v 0) (.n 1)) 1 (.a (.v 0) (.n 1)) (.v 1) rfl hn h)),aV (by exact(aF λhn=>Lake.n2 [_,_] 1 (.a (.v 1) (.n 1)) (.v 0) 1 (.a (.v 0) (.n 1)) (.v 1) rfl hn h)),jZ,ak.jY h]
  rfl
 ·rw[ak.l9 (by exact(aF λhn=>Lake.n2 [_,_] 1 (.a (.v 1) (.n 1)) (.v 0) 1 (.v 0) (.v 1) rfl hn (aF h))),kW (by exact(aF λhn=>Lake.n2 [_,_] 1 (.a (.a (.v 1) (.n 1)) (.n 1)) (.v 0) 1 (.v 0) (.v 1) rfl hn (aF h))),kW (by exact(aF λhn=>Lake.n2 [_,_] 1 (.a (.v 1) (.n 1)) (.v 0) 1 (.v 0) (.v 1) rfl hn (aF h))),lW]
  rfl
theorem TR(x:Str):w7 x none (az 1)=uV (x.au[0]?):=EL x 0
theorem G3(cs:ak Nat)(o:aH Nat):((p9 λk=>V.str ⟨#[k]⟩).any λy=>vf y (.str (uV o)))=ur cs o:=by
 cases o with
 |az k=>exact Mj cs k
 |none=>
  rw[ak.any_map,ak.any_eq_false.mpr]
  ·rfl
  ·intro a _ h
   exact cO (cL h) (λe=>by injection e with e;cases e)
theorem Km(o:aH Nat)(k:Nat):(uV o==(⟨#[k]⟩:Str))=(o==az k):=by
 cases o with
 |az a=>
  by_cases h:a=k
  ·subst h;rw[show uV (az a)=⟨#[a]⟩ from rfl,cU,cU]
  ·rw[show(uV (az a)==(⟨#[k]⟩:Str))=(a==k) from by rw[show uV (az a)=⟨#[a]⟩ from rfl];exact Vn a k];rfl
 |none=>exact eK (λe=>by injection e with e;cases e)
theorem G4(hex:aM)(l:ak Nat)(k:Nat):kH hex (l++[k])=kH hex l * ji hex+figVal k:=by
 unfold kH
 rw[ak.foldl_append]
 rfl
section
variable{c:Cx}{n:Nat}{sc:Scope}{τ:qI}{κ:Ct c sc τ}{l:Loc}{T W:List AO}{ks:List Fr}
theorem Vw{b:aM}{e e':aB}{i j k:Int}(h1:PE c n κ.env e (.int i) κ.X ⟨l,T,W⟩)(h2:PE c n κ.env e' (.int j) κ.X ⟨l,T,W⟩)(hk:(if b then i else j)=k)(q:Vd n κ (.rt (.int k) ks l T W)):Vd n κ (.rt (.bF b) (.ifx e e'::ks) l T W):=
 ⟨b,rfl,by subst hk;cases b;exact h2 _ q;exact h1 _ q⟩
theorem Vx{v w:V}{xs ys:ak V}(k:qq ⟨l,T,W⟩ v xs)(k':qq ⟨l,T,W⟩ w ys)(hz:xs.aq+ys.aq<=10000)(q:Vd n κ (.rt (.aR (xs++ys)) ks l T W)):Vd n κ (.rt w (.bin .Add v::ks) l T W):=FN k k' hz q
end
def Zl(x:Str)(f b e v sg to r:aH V):Loc:=[(aj "part",az (.str x)),(aj "first",f),(aj "base",b),(aj "end",e),(aj "value",v),(aj "sign",sg),(aj "told",to),(aj "row",r)]
def LM(x:Str)(hex:aM)(f:Nat)(W:ak AO)(k:Nat)(z1:Loc)(z2:ak AO)(z3:ak AO):Prop:=∀G:Loc->ak AO->ak AO->Prop,(∀(j:Nat)(hj:j<=(fH hex x f).aq)(hk:k=(fH hex x f).aq - j),G (Zl x (az (.int (f:Nat))) (az (.int (ji hex:Nat))) (az (.int ((f+j:Nat):Int))) (az (.int (kH hex ((fH hex x f).eL j):Nat))) none none none) [] W)->G z1 z2 z3
theorem LM.mk{x:Str}{hex:aM}{f:Nat}{W:ak AO}{k:Nat}(j:Nat)(hj:j<=(fH hex x f).aq)(hk:k=(fH hex x f).aq - j):LM x hex f W k (Zl x (az (.int (f:Nat))) (az (.int (ji hex:Nat))) (az (.int ((f+j:Nat):Int))) (az (.int (kH hex ((fH hex x f).eL j):Nat))) none none none) [] W:=λz9 z=>z j hj hk
def LE(x:Str)(hex:aM)(f n:Nat)(W:ak AO)(z1:Loc)(z2:ak AO)(z3:ak AO):Prop:=∀G:Loc->ak AO->ak AO->Prop,(G (Zl x (az (.int (f:Nat))) (az (.int (ji hex:Nat))) (az (.int ((f+(fH hex x f).aq:Nat):Int))) (az (.int (n:Nat))) none none none) [] W)->G z1 z2 z3
theorem LE.mk{x:Str}{hex:aM}{f n:Nat}{W:ak AO}:LE x hex f n W (Zl x (az (.int (f:Nat))) (az (.int (ji hex:Nat))) (az (.int ((f+(fH hex x f).aq:Nat):Int))) (az (.int (n:Nat))) none none none) [] W:=λz9 z=>z
def LRw(x:Str)(hex:aM)(f e n:Nat)(es:ak V)(W:ak AO)(z1:Loc)(z2:ak AO)(z3:ak AO):Prop:=∀G:Loc->ak AO->ak AO->Prop,(∀(cC:aH V),G (Zl x (az (.int (f:Nat))) (az (.int (ji hex:Nat))) (az (.int (e:Nat))) (az (.int (n:Nat))) (az (.str (yH n).1)) cC (az (.lo 0))) [.aR es] W)->G z1 z2 z3
theorem LRw.mk{x:Str}{hex:aM}{f e n:Nat}{es:ak V}{W:ak AO}(cC:aH V):LRw x hex f e n es W (Zl x (az (.int (f:Nat))) (az (.int (ji hex:Nat))) (az (.int (e:Nat))) (az (.int (n:Nat))) (az (.str (yH n).1)) cC (az (.lo 0))) [.aR es] W:=λz9 z=>z cC
theorem Yt(hex:aM)(x:Str)(f:Nat):(fH hex x f).aq<=x.aq:=by
 unfold fH
 exact aA (ak.xH _).length_le (by rw[ak.gX,dh];exact(aF λhn=>Lake.n2 [_,_] 1 (.a (.v 0) (.n 1)) (.v 1) 1 (.v 1) (.v 0) rfl hn (lK _ _)))
theorem EM{x:Str}{f:Nat}:aj "&"++w7 x none (az (f:Int))=amp (jl x 0 f):=by rw[Jk];exact EC _
theorem TU{x:Str}{f:Nat}:(w7 x none (az (f:Int))).aq<=x.aq:=by rw[Jk];exact nL x 0 f
theorem EN{x:Str}{f:Nat}(hx:x.aq<=1000):(aj "&").aq+(w7 x none (az (f:Int))).aq<=fu:=by
 have:=TU (x:=x) (f:=f)
 rw[show(aj "&").aq=1 by kernel_rfl];exact qG (by exact(aF λhn=>Lake.n3 [_,_] 1 (.a (.n 10000) (.n 1)) (.a (.n 1) (.v 1)) 1 (.v 0) (.n 1000) 1 (.v 1) (.v 0) rfl hn hx this))
theorem zc{x:Str}{j k:Nat}(h:x.au[j]?=az k)(hx:x.aq<=10000):uO x.aq (j:Int):=je (jf h) hx
theorem getD_at{x:Str}{j k:Nat}(h:x.au[j]?=az k):x.au.xV (zo x.aq (j:Int)) 0=k:=by rw[tD,ak.iY,h];rfl
theorem G5(o:aH Nat):(uV o==aj ";")=(o==az 59):=by rw[show aj ";"=⟨#[59]⟩ by kernel_rfl];exact Km o 59
theorem EO(c:Cx)(hK:gM=top.heap_1 aL)(x:Str)(hx:x.aq<=1000)(W:ak AO):
  jO c 2 829 [.str x] W (.tup [.aR (u7 x 0).es,.str (u7 x 0).out,.int ((u7 x 0).oF:Nat)]) W:=by
 revert hK hx
 revert c x W
 intros c x W
 intro hK hx
 refine pF (bs:=[(aj "part",.str x)]) (cG:=[aj "first",aj "base",aj "end",aj "value",aj "sign",aj "told",aj "row"]) hK (nK hK) rfl rfl rfl (by kernel_rfl) (by kernel_rfl) (gz (λs X a=>bf rfl) .nil) ?_
 intro κ hf hQ hN hX
 have AG:x.aq<=10000:=by exact(aF λhn=>Lake.n2 [_] 1 (.a (.n 10000) (.n 1)) (.v 0) 1 (.v 0) (.n 1000) rfl hn hx)
 obtain⟨hex,hh⟩:∃hex,ur [120,88] (x.au[0+1]?)=hex:=⟨_,rfl⟩
 obtain⟨f,hf1⟩:∃f,f=0+1+(if hex then 1 else 0):=⟨_,rfl⟩
 have hR:u7 x 0=if yD hex (x.au[f]?)then⟨k6 (kH hex (fH hex x f))++(if yc x (f+(fH hex x f).aq)then[]else[qR (aj "numeric-entity-without-semicolon")]),nj (kH hex (fH hex x f)),f+(fH hex x f).aq+(if yc x (f+(fH hex x f).aq)then 1 else 0)⟩
   else⟨[qR (aj "expected-numeric-entity")],amp (jl x 0 f),f⟩:=by
  subst hf1 hh;rfl
 have hnx:=Yt hex x f
 refine mq 3 (m':=.rt _ _ _ _ _) rfl rfl ?_ ?_
 ·exact AG
 rw[show w7 x (az 1) (az 2)=uV (x.au[0+1]?) from EL x 1,show aj "x"=⟨#[120]⟩ by kernel_rfl,show aj "X"=⟨#[88]⟩ by kernel_rfl,show([V.str ⟨#[120]⟩,V.str ⟨#[88]⟩].any λy=>vf y (V.str (uV (x.au[0+1]?))))=ur [120,88] (x.au[0+1]?) from G3 [120,88] _,hh]
 refine Vw (k:=(f:Nat)) (eU (k:=3) rfl) (eU (k:=3) rfl) (by rw[hf1];cases hex<;>rfl) ?_
 refine cX 4 (m':=.rt _ _ _ _ _) rfl rfl ?_
 refine Vw (k:=(ji hex:Nat)) (eU (k:=3) rfl) (eU (k:=3) rfl) (by rw[hf1];cases hex<;>rfl) ?_
 refine cX 7 (m':=.ex _ _ _ _) rfl rfl ?_
 refine zH (LE x hex f (kH hex (fH hex x f)) W) ?_ ?_
 ·intro QW en er eb ec ex ee
  refine zI (LM x hex f W) (fH hex x f).aq (.mk 0 (bC _) rfl) ?_
  intro k _ _ _ hI QV tn tc tb tr
  apply hI;clear hI;intro j hj hk
  refine mq 15 (m':=.rt _ _ _ _ _) rfl rfl ?_ ?_
  ·exact AG
  cases G6:x.au[f+j]? with
  |none=>
   have hjn:=yE (hex:=hex) (x:=x) (u:=f) hj (by rw[G6];rfl)
   have Z5:=AM G6
   rw[cK (show ¬((f+j:Nat):Int)<x.aq by exact(λhn=>Lake.n2 [_,_,_] 1 (.a (.a (.v 1) (.v 2)) (.n 1)) (.v 0) 1 (.v 0) (.a (.v 1) (.v 2)) rfl ((dF (n:=f+j) (m:=x.aq)).mp hn) Z5))]
   refine cX 1 (m':=.rt _ _ _ _ _) rfl rfl ?_
   refine yx (tb _ _ _ (gU (en _ _ _ ?_)))
   subst hjn
   rw[ak.xG]
   exact .mk
  |az k=>
   have lM:=jf G6
   rw[cN (show((f+j:Nat):Int)<x.aq by exact((dF (n:=f+j) (m:=x.aq)).mpr (cP λhn=>Lake.n2 [_,_,_] 1 (.v 0) (.a (.v 1) (.v 2)) 1 (.a (.a (.v 1) (.v 2)) (.n 1)) (.v 0) rfl hn lM)))]
   refine mq 13 (m':=.cl _ _ _ _ _ _) rfl rfl ?_ ?_
   ·exact zc G6 AG
   rw[getD_at G6]
   refine fW (A9 c hK hex k W) rfl rfl ?_
   refine cX 4 (m':=.rt _ _ _ _ _) rfl rfl ?_
   rw[Mv]
   cases hb:jN hex k with
   |false=>
    have hjn:=yE (hex:=hex) (x:=x) (u:=f) hj (by rw[G6];exact hb)
    refine yx (tb _ _ _ (gU (en _ _ _ ?_)))
    subst hjn
    rw[ak.xG]
    exact .mk
   |true=>
    obtain⟨hjl,k',Dq,hnk⟩:=y9 (hex:=hex) (x:=x) (u:=f) hj (by rw[G6];exact hb)
    obtain rfl:=aH.az.inj (G6.symm.trans Dq)
    refine go2 15 (m':=.cl _ _ _ _ _ _) rfl rfl ?_ ?_ ?_
    ·exact IntMulOk.of_right (by cases hex<;>decide+dK)
    ·exact zc G6 AG
    rw[getD_at G6]
    refine fW (A9 c hK hex k W) rfl rfl ?_
    refine cX 5 (m':=.ex _ _ _ _) rfl rfl ?_
    have ht:(fH hex x f).eL (j+1)=(fH hex x f).eL j++[k]:=by rw[ak.take_succ,hnk];rfl
    have hm:=LM.mk (W:=W) (k:=(fH hex x f).aq - (j+1)) (j+1) hjl rfl
    rw[ht,G4]at hm
    rw[show wZ hex k=(figVal k:Nat) from by unfold wZ;rw[hb];rfl]
    exact gU (tn _ _ _ _ (hk▸qj _ _ hjl) hm)
 intro _ _ _ hE
 apply hE;clear hE
 generalize aaH:kH hex (fH hex x f)=val at hR
 refine cX 2 (m':=.rt _ _ _ _ _) rfl rfl ?_
 cases hz:yD hex (x.au[f]?)with
 |false=>
  rw[hz]at hR
  have h0:0=(fH hex x f).aq:=yE (hex:=hex) (x:=x) (u:=f) (j:=0) (bC _) hz
  refine vb (b':=true) (by rw[<-h0];exact cU _) ?_
  rw[<-h0]
  refine cX 13 (m':=.cl _ _ _ _ _ _) rfl rfl ?_
  refine fW (oR c hK _ W) rfl rfl ?_
  refine go2 10 (m':=.rt _ _ _ _ _) rfl rfl ?_ ?_ ?_
  ·exact AG
  ·exact EN hx
  refine hQ _ _ _ _ _ (.eG rfl) ⟨?_,rfl⟩
  rw[hR]
  rw[show((f+0:Nat):Int)=(f:Nat) from rfl,EM]
  rfl
 |true=>
  rw[hz]at hR
  have h0:=(y9 (hex:=hex) (x:=x) (u:=f) (j:=0) (bC _) hz).1
  refine vb (b':=false) (eK (by exact(λhn=>Lake.n2 [_,_] 1 (.a (.v 0) (.v 1)) (.v 0) 1 (.a (.n 0) (.n 1)) (.v 1) rfl (aO ((yg (m:=f+(fH hex x f).aq) (n:=f)).mp hn)) h0))) ?_
  rw[(Kl val).1,(Kl val).2]at hR
  refine cX 9 (m':=.cl _ _ _ _ _ _) rfl rfl ?_
  refine fW (Ji c hK val W) rfl rfl ?_
  generalize(fH hex x f).aq=nl at hnx hR⊢
  refine cX 8 (m':=.ex _ _ _ _) rfl rfl ?_
  refine zH (LRw x hex f (f+nl) val (if(yH val).2 then[Bm val]else[]) W) ?_ ?_
  ·intro QW en er eb ec ex ee
   refine cX 2 (m':=.rt _ _ _ _ _) rfl rfl ?_
   cases hto:(yH val).2 with
   |true=>
    rw[hto]at en
    try refine vb hto ?_
    refine mq 33 (m':=.ex _ _ _ _) rfl rfl ?_ ?_
    ·exact bC _
    exact gU (en _ _ _ (.mk _))
   |false=>
    rw[hto]at en
    try refine vb hto ?_
    refine cX 1 (m':=.ex _ _ _ _) rfl rfl ?_
    exact gU (en _ _ _ (.mk _))
  intro _ _ _ hE
  have Yu:(if(yH val).2 then[Bm val]else[])=[]\/(if(yH val).2 then[Bm val]else[])=[Bm val]:=by
   cases(yH val).2
   ·exact .inl rfl
   ·exact .inr rfl
  generalize(if(yH val).2 then[Bm val]else[])=es at Yu hE hR
  have hze:es.aq+1<=10000:=by rcases Yu with rfl|rfl<;>exact aD rfl
  apply hE;clear hE;intro cC
  refine mq 2 (m':=.rt _ _ _ _ _) rfl rfl ?_ ?_
  ·exact AG
  rw[show w7 x (az ((f+nl:Nat):Int)) (az (((f+nl:Nat):Int)+1))=uV (x.au[f+nl]?) from EL x (f+nl),G5]
  unfold yc at hR
  cases hse:(x.au[f+nl]?==az 59)with
  |true=>
   rw[hse]at hR
   refine cX 3 (m':=.rt _ _ _ _ _) rfl rfl ?_
   refine hQ _ _ _ _ _ (.tup (.br (.lol rfl (.eG (by rcases Yu with rfl|rfl<;>rfl))) (.eG rfl))) ⟨?_,rfl⟩
   rw[hR,bJ rfl,bJ rfl,bJ rfl,ak.eu]
   rfl
  |false=>
   rw[hse]at hR
   refine cX 16 (m':=.cl _ _ _ _ _ _) rfl rfl ?_
   refine fW (oR c hK _ W) rfl rfl ?_
   refine cX 2 (m':=.rt _ _ _ _ _) rfl rfl ?_
   refine Vx (.lo rfl) .aR hze ?_
   refine cX 8 (m':=.rt _ _ _ _ _) rfl rfl ?_
   refine hQ _ _ _ _ _ (.eG (by rcases Yu with rfl|rfl<;>rfl)) ⟨?_,rfl⟩
   rw[hR]
   rfl
def eG:ak Nat->ak Nat->Nat
 |a::l,b::r=>if a=b then eG l r+1 else 0
 |_,_=>0
theorem AR(a b:Nat)(l r:ak Nat):eG (a::l) (b::r)=if a=b then eG l r+1 else 0:=rfl
theorem uv(l:ak Nat):∀(r:ak Nat)(m:Nat),m<=eG l r↔m<=l.aq/\m<=r.aq/\l.eL m=r.eL m:=by
 have z:∀{l r:ak Nat}{m:Nat},m<=0->m<=l.aq/\m<=r.aq/\l.eL m=r.eL m:=λh=>by
  cases qk h;exact⟨bC _,bC _,rfl⟩
 induction l with
 |nil=>exact λr m=>⟨z,λh=>h.1⟩
 |br a l ih=>
  intro r m
  cases r with
  |nil=>exact⟨z,λh=>h.2.1⟩
  |br b r=>
   cases m with
   |lO=>exact⟨λz9=>z (bC _),λz9=>bC _⟩
   |kU m=>
    rw[AR]
    show _↔m+1<=l.aq+1/\m+1<=r.aq+1/\a::l.eL m=b::r.eL m
    by_cases h:a=b
    ·subst h
     rw[bJ rfl]
     refine⟨λhm=>?_,λhm=>?_⟩
     ·obtain⟨h1,h2,h3⟩:=(ih r m).mp (eN hm)
      exact⟨dZ h1,dZ h2,bM _ h3⟩
     ·obtain⟨h1,h2,h3⟩:=hm
      exact dZ ((ih r m).mpr ⟨eN h1,eN h2,(ak.br.inj h3).2⟩)
    ·rw[aY h]
     exact⟨λhm=>cO hm (Nat.not_succ_le_zero m),λhm=>cO (ak.br.inj hm.2.2).1 h⟩
theorem Bx(l r:ak Nat):eG l r<=l.aq/\eG l r<=r.aq:=by
 have:=(uv l r _).mp (bz _)
 exact⟨this.1,this.2.1⟩
theorem TX{l:ak Nat}:∀{r:ak Nat}{j:Nat},j<eG l r->∃k,l[j]?=az k/\r[j]?=az k:=by
 induction l with
 |nil=>exact λh=>cO h (lH _)
 |br a l ih=>
  intro r j h
  cases r with
  |nil=>exact cO h (lH _)
  |br b r=>
   rw[AR]at h
   by_cases e:a=b
   ·subst e
    rw[bJ rfl]at h
    cases j with
    |lO=>exact⟨a,rfl,rfl⟩
    |kU j=>exact ih (lU h)
   ·rw[aY e]at h
    exact cO h (lH _)
theorem Mw{l:ak Nat}:∀{r:ak Nat}{a b:Nat},l[eG l r]?=az a->r[eG l r]?=az b->a≠b:=by
 induction l with
 |nil=>intro _ _ _ h _;cases h
 |br a l ih=>
  intro r x y h1 h2
  cases r with
  |nil=>cases h2
  |br b r=>
   rw[AR]at h1 h2
   by_cases e:a=b
   ·rw[bJ e]at h1 h2
    exact ih (r:=r) h1 h2
   ·rw[aY e]at h1 h2
    exact aH.az.inj h1▸aH.az.inj h2▸e
def lcS(x y:Str)(j:Nat):Loc:=[(aj "left",az (.str x)),(aj "right",az (.str y)),(aj "count",az (.int (j:Nat)))]
def LSm(x y:Str)(S:Nat)(W:ak AO)(k:Nat)(z1:Loc)(z2:ak AO)(z3:ak AO):Prop:=∀G:Loc->ak AO->ak AO->Prop,(∀(j:Nat)(hj:j<=S)(hk:k=S - j),G (lcS x y j) [] W)->G z1 z2 z3
theorem LSm.mk{x y:Str}{S:Nat}{W:ak AO}{k:Nat}(j:Nat)(hj:j<=S)(hk:k=S - j):LSm x y S W k (lcS x y j) [] W:=λz9 z=>z j hj hk
theorem Jl(c:Cx)(hK:gM=top.heap_1 aL)(x y:Str)(hx:x.aq<=10000)(hy:y.aq<=10000)(W:ak AO):
  jO c 1 836 [.str x,.str y] W (.int (eG x.au y.au:Nat)) W:=by
 revert hK hx hy
 revert c x y W
 intros c x y W
 intro hK hx hy
 refine pF (bs:=[(aj "left",.str x),(aj "right",.str y)]) (cG:=[aj "count"]) hK (nK hK) rfl rfl rfl (by kernel_rfl) (by kernel_rfl) (nU (λs X a b=>bf rfl) .nil) ?_
 intro κ hf hQ hN hX
 have KZ:=(Bx x.au y.au).1
 have hsr:=(Bx x.au y.au).2
 have pU:∀{a b:Nat},x.au[eG x.au y.au]?=az a->y.au[eG x.au y.au]?=az b->a≠b:=Mw
 have L4:∀{j:Nat},j<eG x.au y.au->∃k,x.au[j]?=az k/\y.au[j]?=az k:=TX
 rw[dh]at KZ hsr
 generalize eG x.au y.au=S at KZ hsr pU L4 hQ
 refine cX 3 (m':=.ex _ _ _ _) rfl rfl ?_
 refine zI (LSm x y S W) S (.mk 0 (bC _) rfl) ?_
 intro k _ _ _ hI QV tn tc tb tr
 apply hI;clear hI;intro j hj hk
 have fin:j=S->QV.Q .brk ⟨lcS x y j,[],W⟩:=λe=>by
  subst e
  refine tb _ _ _ ?_
  unfold lcS
  refine cX 2 (m':=.rt _ _ _ _ _) rfl rfl ?_
  exact hQ _ _ _ _ _ (.eG rfl) ⟨rfl,rfl⟩
 refine mq 15 (m':=.rt _ _ _ _ _) rfl rfl ?_ ?_
 ·exact hx
 cases G6:x.au[j]? with
 |none=>
  have:=AM G6
  rw[cK (show ¬((j:Nat):Int)<x.aq by exact(λhn=>Lake.n2 [_,_] 1 (.a (.v 1) (.n 1)) (.v 0) 1 (.v 0) (.v 1) rfl ((dF (n:=j) (m:=x.aq)).mp hn) this))]
  refine cX 1 (m':=.rt _ _ _ _ _) rfl rfl ?_
  exact yx (fin (by exact(dU (aF λhn=>Lake.n2 [_,_] 1 (.a (.v 0) (.n 1)) (.v 1) 1 (.v 1) (.v 0) rfl hn hj) (aF λhn=>Lake.n3 [_,_,_] 1 (.a (.v 2) (.n 1)) (.v 1) 1 (.v 1) (.v 0) 1 (.v 0) (.v 2) rfl hn KZ this))))
 |az a=>
  have:=jf G6
  rw[cN (show((j:Nat):Int)<x.aq by exact((dF (n:=j) (m:=x.aq)).mpr (cP λhn=>Lake.n2 [_,_] 1 (.v 0) (.v 1) 1 (.a (.v 1) (.n 1)) (.v 0) rfl hn this)))]
  refine mq 15 (m':=.rt _ _ _ _ _) rfl rfl ?_ ?_
  ·exact hy
  cases Zm:y.au[j]? with
  |none=>
   have:=AM Zm
   rw[cK (show ¬((j:Nat):Int)<y.aq by exact(λhn=>Lake.n2 [_,_] 1 (.a (.v 1) (.n 1)) (.v 0) 1 (.v 0) (.v 1) rfl ((dF (n:=j) (m:=y.aq)).mp hn) this))]
   refine cX 1 (m':=.rt _ _ _ _ _) rfl rfl ?_
   exact yx (fin (by exact(dU (aF λhn=>Lake.n2 [_,_] 1 (.a (.v 0) (.n 1)) (.v 1) 1 (.v 1) (.v 0) rfl hn hj) (aF λhn=>Lake.n3 [_,_,_] 1 (.a (.v 2) (.n 1)) (.v 1) 1 (.v 1) (.v 0) 1 (.v 0) (.v 2) rfl hn hsr this))))
  |az b=>
   have:=jf Zm
   rw[cN (show((j:Nat):Int)<y.aq by exact((dF (n:=j) (m:=y.aq)).mpr (cP λhn=>Lake.n2 [_,_] 1 (.v 0) (.v 1) 1 (.a (.v 1) (.n 1)) (.v 0) rfl hn this)))]
   refine go2 3 (m':=.rt _ _ _ _ _) rfl rfl ?_ ?_ ?_
   ·exact zc G6 hx
   ·exact zc Zm hy
   rw[getD_at G6,getD_at Zm,eq1 a (j:=b) rfl]
   cases Ri:(a==b)with
   |true=>
    have lM:j<S:=wL hj λe=>by subst e;exact pU G6 Zm (cL Ri)
    refine cX 4 (m':=.ex _ _ _ _) rfl rfl ?_
    exact gU (tn _ _ _ _ (hk▸qj _ _ lM) (.mk (j+1) lM rfl))
   |false=>
    refine yx (fin ?_)
    refine Decidable.byContradiction λhn=>?_
    obtain⟨k',h1,h2⟩:=L4 (j:=j) (wL hj hn)
    rw[G6]at h1
    rw[Zm]at h2
    obtain rfl:=aH.az.inj h1
    obtain rfl:=aH.az.inj h2
    rw[cU]at Ri
    cases Ri
theorem Yv{c:Cx}{n:Nat}{env:Env}{X:St->Prop}{σ:St}{pos:Pos}{a b:aB}{x y:Int}(hm:jH .Gt b=false)(h1:PE c n env a (.int x) X σ)(h2:PE c n env b (.int y) X σ):PT c n env (.oA a [.Gt] [b] pos) (decide (x>y)) X σ:=λz9 q=>AZ hm (h1 _ (h2 _ (Ds (nX q))))
theorem Yw{c:Cx}{n:Nat}{env:Env}{X:St->Prop}{σ:St}{pos:Pos}{a b:aB}{x y:Int}(hm:jH .Eq b=false)(h1:PE c n env a (.int x) X σ)(h2:PE c n env b (.int y) X σ):PT c n env (.oA a [.Eq] [b] pos) (x==y) X σ:=λz9 q=>AZ hm (h1 _ (h2 _ (Dr (nX q))))
def Hx(x:Str)(st:Nat×Nat×Str)(r:Str×Str×aM):Nat×Nat×Str:=
 let s:=eG (r.1.au++[59]) x.au
 (max st.1 s,if st.2.1<s/\(r.1.aq<s\/(r.2.2=true/\s=r.1.aq))then(s,r.2.1)else st.2)
def G7(x:Str)(l:ak (Str×Str×aM)):Nat×Nat×Str:=rB (Hx x) (0,0,aj "")
theorem Qa(x:Str)(l:ak (Str×Str×aM))(r:Str×Str×aM):G7 x (l++[r])=Hx x (G7 x l) r:=by
 unfold G7
 rw[ak.foldl_append]
 rfl
structure Vy(x:Str)(st:Nat×Nat×Str):Prop where
 bu:st.2.1<=st.1
 ux:st.1<=x.aq
 fl:st.2.2.aq<=2
theorem ab6{x:Str}{st:Nat×Nat×Str}{r:Str×Str×aM}(h:Vy x st)(hr:r.2.1.aq<=2):Vy x (Hx x st r):=by
 haveI hs:=(Bx (r.1.au++[59]) x.au).2
 rw[dh]at hs
 unfold Hx
 dsimp only
 generalize eG (r.1.au++[59]) x.au=s at hs⊢
 by_cases hc:st.2.1<s/\(r.1.aq<s\/(r.2.2=true/\s=r.1.aq))
 ·rw[bJ hc];exact⟨Nat.le_max_right _ _,Nat.max_le.mpr ⟨h.ux,hs⟩,hr⟩
 ·rw[aY hc];exact⟨aA h.bu (Nat.le_max_left _ _),Nat.max_le.mpr ⟨h.ux,hs⟩,h.fl⟩
theorem Qc{x:Str}:∀{l:ak (Str×Str×aM)},(∀r∈l,r.2.1.aq<=2)->Vy x (G7 x l):=by
 intro l
 unfold G7
 haveI key:∀(l:ak (Str×Str×aM))(st:Nat×Nat×Str),Vy x st->(∀r∈l,r.2.1.aq<=2)->Vy x (rB (Hx x) st):=by
  intro l
  induction l with
  |nil=>exact λst h z9=>h
  |br r l ih=>exact λst h hl=>ih _ (ab6 h (hl r (.dw _))) λr' m=>hl r' (.cI _ m)
 exact key l _ ⟨bz _,bC _,bC _⟩
theorem ze(r:Str×Str×aM)(h:r∈lN):r.1.aq<=8/\r.2.1.aq<=2:=by
 have:=ak.bV (show lN.all (λr=>decide (r.1.aq<=8)&&decide (r.2.1.aq<=2))=true by decide+dK) r h
 rw[aM.bN,cA,cA]at this
 exact this
def Di(x:Str)(gF:aM)(st:Nat×Nat×Str):ER:=
 if st.2.1=0 then⟨[qR (aj "expected-named-entity")],amp (jl x 0 st.1),st.1⟩
 else if x.au[st.2.1 - 1]?==az 59 then⟨[],st.2.2++jP x st.2.1 st.1,st.1⟩
 else if(gF&&yF (x.au[st.2.1]?))=true then⟨[qR (aj "named-entity-without-semicolon")],amp (jl x 0 st.1),st.1⟩
 else⟨[qR (aj "named-entity-without-semicolon")],st.2.2++jP x st.2.1 st.1,st.1⟩
def Jm(x:Str)(gF:aM):ER:=Di x gF (G7 x lN)
theorem Yx{s u:Nat}:(if(s:Int)>(u:Nat)then(s:Int)else(u:Nat))=((max u s:Nat):Int):=by
 by_cases h:(s:Int)>(u:Nat)
 ·rw[bJ h,Nat.s6 (fP (dF.mp h))]
 ·rw[aY h,Nat.max_eq_left (fO.mp (Int.rT h))]
theorem TY{s b l:Nat}{z:aM}:(decide ((s:Int)>(b:Nat))&&(decide ((s:Int)>(l:Nat))||(z&&((s:Int)==(l:Nat)))))=decide (b<s/\(l<s\/(z=true/\s=l))):=by
 revert s b l z
 intros s b l z
 rw[aM.uq]
 simp only[aM.bN,aM.lJ,cA,iX]
 constructor
 ·rintro⟨h1,h2|⟨h2,h3⟩⟩
  ·exact⟨by exact(cP λhn=>Lake.n2 [_,_] 1 (.v 1) (.v 0) 1 (.a (.v 0) (.n 1)) (.v 1) rfl hn ((dF (n:=b) (m:=s)).mp h1)),.inl (by exact(cP λhn=>Lake.n2 [_,_] 1 (.v 0) (.v 1) 1 (.a (.v 1) (.n 1)) (.v 0) rfl hn ((dF (n:=l) (m:=s)).mp h2)))⟩
  ·exact⟨by exact(cP λhn=>Lake.n2 [_,_] 1 (.v 1) (.v 0) 1 (.a (.v 0) (.n 1)) (.v 1) rfl hn ((dF (n:=b) (m:=s)).mp h1)),.inr ⟨h2,by exact(dU (aF λhn=>Lake.n2 [_,_] 1 (.a (.v 1) (.n 1)) (.v 0) 1 (.v 0) (.v 1) rfl hn (aO ((yg (m:=s) (n:=l)).mp h3))) (aF λhn=>Lake.n2 [_,_] 1 (.a (.v 0) (.n 1)) (.v 1) 1 (.v 1) (.v 0) rfl hn (aO (Eq.symm ((yg (m:=s) (n:=l)).mp h3)))))⟩⟩
 ·rintro⟨h1,h2|⟨h2,h3⟩⟩
  ·exact⟨by exact((dF (n:=b) (m:=s)).mpr (cP λhn=>Lake.n2 [_,_] 1 (.v 1) (.v 0) 1 (.a (.v 0) (.n 1)) (.v 1) rfl hn h1)),.inl (by exact((dF (n:=l) (m:=s)).mpr (cP λhn=>Lake.n2 [_,_] 1 (.v 0) (.v 1) 1 (.a (.v 1) (.n 1)) (.v 0) rfl hn h2)))⟩
  ·exact⟨by exact((dF (n:=b) (m:=s)).mpr (cP λhn=>Lake.n2 [_,_] 1 (.v 1) (.v 0) 1 (.a (.v 0) (.n 1)) (.v 1) rfl hn h1)),.inr ⟨h2,by exact((yg (m:=s) (n:=l)).mpr (dU (aF λhn=>Lake.n2 [_,_] 1 (.a (.v 1) (.n 1)) (.v 0) 1 (.v 0) (.v 1) rfl hn (aO h3)) (aF λhn=>Lake.n2 [_,_] 1 (.a (.v 0) (.n 1)) (.v 1) 1 (.v 1) (.v 0) rfl hn (aO (Eq.symm h3)))))⟩⟩
theorem Yy{k p:Str}(h:qb k p=true):p.au<+:k.au:=by
 unfold qb at h
 rw[aM.bN]at h
 haveI h2:=h.2
 unfold dI.Str.subAt at h2
 haveI h3:k.cps.extract 0 (0+p.aq)=p.cps:=cL h2
 rw[<-h3,dX.toList_extract]
 simp only[ak.extract,ak.vW]
 exact ak.take_prefix _ _
abbrev mT(r:Str×Str×aM):ak Nat:=r.1.au++[59]
theorem Ko(k:Str)(h:k∈v7):∃r∈lN,k.au=mT r\/(r.2.2=true/\k.au=r.1.au):=by
 have:=ak.bV (show v7.all (λk=>lN.any λr=>decide (k.au=mT r)||(r.2.2&&decide (k.au=r.1.au)))=true by decide+dK) k h
 refine gg (ak.any_eq_true.mp this) λr hr h=>?_
 rw[aM.lJ,aM.bN,cA,cA]at h
 exact⟨r,hr,h⟩
theorem CE(r:Str×Str×aM)(h:r∈lN):(mU ⟨(mT r).aJ⟩=true/\uU ⟨(mT r).aJ⟩=r.2.1)/\(r.2.2=true->mU r.1=true/\uU r.1=r.2.1)/\(0<r.1.aq)/\∀m<r.1.aq+2,hasB ⟨((mT r).eL m).aJ⟩=true:=by
 revert h
 revert r
 intros r
 intro h
 have:=ak.bV (show lN.all (λr=>((mU ⟨(mT r).aJ⟩&&decide (uU ⟨(mT r).aJ⟩=r.2.1))&&(!r.2.2||(mU r.1&&decide (uU r.1=r.2.1))))&&(decide (0<r.1.aq)&&(ak.tO (r.1.aq+2)).all λm=>hasB ⟨((mT r).eL m).aJ⟩))=true by decide+dK) r h
 simp only[aM.bN,cA,aM.lJ,aM.oE]at this
 refine zN this λfY h4 h5=>?_;clear this;refine iU fY λFY h3=>?_;clear fY;refine iU FY λh1 h2=>?_;clear FY
 refine⟨⟨h1,h2⟩,λhb=>?_,h4,λm hm=>ak.bV h5 m (ak.k7 hm)⟩
 rcases h3 with h3|h3
 ·rw[hb]at h3;cases h3
 ·exact h3
theorem keys_eq:IJ.map (·.1)=v7:=by decide+dK
theorem DK{p:Str}(h:mU p=true):p∈v7:=by
 unfold mU at h
 rw[keys_eq]at h
 exact bX h
theorem EP(p:Str):(⟨p.au.aJ⟩:Str)=p:=by cases p;simp
theorem G8(p:Str):hasB p=true↔∃r∈lN,p.au<+:mT r:=by
 revert p
 intros p
 constructor
 ·intro h
  haveI hk:∃k∈v7,p.au<+:k.au:=by
   unfold hasB at h
   rw[aM.lJ]at h
   rcases h with h|h
   ·exact⟨p,DK h,ak.prefix_refl _⟩
   ·dsimp only at h
    rw[aM.bN,cA]at h
    haveI lM:Gz v7 p 43 0 43<v7.aq:=h.1
    haveI h2:=h.2
    rw[ak.bk lM]at h2
    exact⟨_,ak.getElem_mem lM,Yy h2⟩
  obtain⟨k,hk,hp⟩:=hk
  obtain⟨r,hr,e|⟨_,e⟩⟩:=Ko k hk
  ·exact⟨r,hr,e▸hp⟩
  ·exact⟨r,hr,(e▸hp).trans (ak.prefix_append _ _)⟩
 ·rintro⟨r,hr,hp⟩
  have:=(CE r hr).2.2.2 p.au.aq (by have:=hp.length_le;simp[Str.aq]at this⊢;exact(cP λhn=>Lake.n2 [_,_] 1 (.a (.v 1) (.n 2)) (.v 0) 1 (.v 0) (.a (.v 1) (.n 1)) rfl hn this))
  rw[<-ak.prefix_iff_eq_take.mp hp,EP]at this
  exact this
theorem TZ{a b m:Nat}:m<=max a b↔m<=a\/m<=b:=⟨λh=>(Nat.le_total a b).g9 (λq=>.inr (Nat.s6 q▸h)) λq=>.inl (Nat.max_eq_left q▸h),λh=>h.g9 (λq=>aA q (Nat.le_max_left ..)) λq=>aA q (Nat.le_max_right ..)⟩
theorem Mx(x:Str)(l:ak (Str×Str×aM)):∀(st:Nat×Nat×Str)(m:Nat),m<=(rB (Hx x) st).1↔m<=st.1\/∃r∈l,m<=eG (mT r) x.au:=by
 revert x l
 intros x l
 induction l with
 |nil=>exact λst m=>⟨.inl,λh=>h.g9 id λh=>h.g9 λz9 h=>by cases h.1⟩
 |br r l ih=>
  intro st m
  refine(ih _ _).trans ?_
  show m<=max st.1 (eG (mT r) x.au)\/_↔_
  rw[TZ]
  refine⟨λh=>?_,λh=>?_⟩
  ·rcases h with(h|h)|⟨r',h1,h2⟩
   ·exact .inl h
   ·exact .inr ⟨r,.dw _,h⟩
   ·exact .inr ⟨r',.cI _ h1,h2⟩
  ·rcases h with h|⟨r',h1,h2⟩
   ·exact .inl (.inl h)
   ·rcases ak.bB h1 with rfl|h1
    ·exact .inl (.inr h2)
    ·exact .inr ⟨r',h1,h2⟩
def Yz(x:Str)(r:Str×Str×aM):Prop:=r.1.aq<eG (mT r) x.au\/(r.2.2=true/\eG (mT r) x.au=r.1.aq)
theorem My(x:Str)(l:ak (Str×Str×aM)):∀st:Nat×Nat×Str,st.2.1<=(rB (Hx x) st).2.1/\(∀r∈l,Yz x r->eG (mT r) x.au<=(rB (Hx x) st).2.1)/\((rB (Hx x) st).2=st.2\/∃r∈l,Yz x r/\(rB (Hx x) st).2=(eG (mT r) x.au,r.2.1)):=by
 revert x l
 intros x l
 induction l with
 |nil=>exact λst=>⟨bz _,(λz9 h=>by cases h),.inl rfl⟩
 |br r l ih=>
  intro st
  rw[ak.wN]
  refine zN (ih (Hx x st r)) λh1 h2 h3=>?_
  by_cases hc:st.2.1<eG (mT r) x.au/\Yz x r
  ·have e:(Hx x st r).2=(eG (mT r) x.au,r.2.1):=bJ hc
   refine⟨aA (by rw[e];exact fP hc.1) h1,λr' m c=>?_,?_⟩
   ·rcases ak.bB m with rfl|m
    ·exact aA (by rw[e];exact bz _) h1
    ·exact h2 r' m c
   ·rcases h3 with h3|⟨r',m,h3⟩
    ·exact .inr ⟨r,.dw _,hc.2,h3.trans e⟩
    ·exact .inr ⟨r',.cI _ m,h3⟩
  ·have e:(Hx x st r).2=st.2:=aY hc
   refine⟨aA (by rw[e];exact bz _) h1,λr' m c=>?_,?_⟩
   ·rcases ak.bB m with rfl|m
    ·exact aA (by rw[e];exact Nat.rT λh=>hc ⟨h,c⟩) h1
    ·exact h2 r' m c
   ·rcases h3 with h3|⟨r',m,h3⟩
    ·exact .inl (h3.trans e)
    ·exact .inr ⟨r',.cI _ m,h3⟩
theorem Qd{p:Str}{e:Nat}(hk:mU (pM e p)=true){b:Nat}(h:e<b)(hn:∀e',e<e'->e'<b->mU (pM e' p)=false):qH p b=az e:=by
 induction b with
 |lO=>exact cO h (lH _)
 |kU b ih=>
  show(if mU (pM b p)then az b else qH p b)=az e
  rcases ou (fC h)with he|rfl
  ·rw[aY (by rw[hn b he (dY b)];exact aM.bK)]
   exact ih he λe' h1 h2=>hn e' h1 (gn h2)
  ·rw[bJ hk]
theorem Qe{p:Str}{b:Nat}(h:∀e<b,mU (pM e p)=false):qH p b=none:=by
 induction b with
 |lO=>rfl
 |kU b ih=>
  show(if mU (pM b p)then az b else qH p b)=none
  rw[aY (by rw[h b (dY b)];exact aM.bK)]
  exact ih λe he=>h e (gn he)
theorem zf(x:Str)(m:Nat):(jP x 0 m).au=x.au.eL m:=by
 show(ak.fX 0 (ak.eL m _)).aJ.nu=_
 rw[ak.nQ,ak.vW]
theorem zL{x:Str}{e m:Nat}(h:e<=m):pM e (jP x 0 m)=jP x 0 e:=by
 unfold pM
 rw[zf,ak.take_take,aV h]
 show _=(⟨(ak.fX 0 (ak.eL e _)).aJ⟩:Str)
 rw[ak.vW]
theorem Qg{x:Str}{r:Str×Str×aM}{m:Nat}(hm:m<=eG (mT r) x.au):jP x 0 m=⟨((mT r).eL m).aJ⟩:=by
 rw[<-EP (jP x 0 m),zf,((uv _ _ _).mp hm).2.2]
theorem DL{r:Str×Str×aM}:(mT r).eL r.1.aq=r.1.au:=by
 rw[show r.1.aq=r.1.au.aq from dX.iM.symm]
 exact ak.take_left
theorem T7{x:Str}{oF:Nat}(hu:oF<=x.aq)(H:∀m≤x.aq,hasB (jP x 0 m)=decide (m<=oF))(f:Nat):∀m:Nat,m<=oF->oF<=m+f->yd x 0 f m=oF:=by
 induction f with
 |lO=>exact λm h1 h2=>dU h1 h2
 |kU f ih=>
  intro m h1 h2
  rw[uu,dD]
  by_cases hm:m<x.aq
  ·rw[bJ hm,H (m+1) hm]
   by_cases h:m+1<=oF
   ·rw[bJ (cN h)]
    exact ih (m+1) h (aA h2 (aO (iK m f).symm))
   ·rw[aY (by rw[cA];exact h)]
    exact dU h1 (aF h)
  ·rw[aY hm]
   exact dU h1 (aA hu (aF hm))
theorem named_eq(x:Str)(gF:aM):Cv x 0 gF=Jm x gF:=by
 revert x gF
 intros x gF
 have FU:∀m,m<=(G7 x lN).1↔m<=0\/∃r∈lN,m<=eG (mT r) x.au:=Mx x lN (0,0,aj "")
 have FB:=My x lN (0,0,aj "")
 have hB:Vy x (G7 x lN):=Qc λr' m=>(ze r' m).2
 rw[show lN.foldl (Hx x) (0,0,aj "")=G7 x lN from rfl]at FB
 refine zN FB λfY F2 F3=>?_;clear FB;obtain -:=fY
 unfold Jm
 generalize G7 x lN=st at FU F2 F3 hB⊢
 have hbu:=hB.bu
 have GG:=hB.ux
 haveI H:∀m≤x.aq,hasB (jP x 0 m)=decide (m<=st.1):=by
  intro m hm
  rw[aM.uq,G8,cA,FU,zf]
  constructor
  ·rintro⟨r,hr,hp⟩
   refine .inr ⟨r,hr,(uv _ _ _).mpr ⟨?_,by rw[dh];exact hm,?_⟩⟩
   ·have:=hp.length_le
    rw[ak.eX,dh,aV hm]at this
    exact this
   ·have:=ak.prefix_iff_eq_take.mp hp
    rw[ak.eX,dh,aV hm]at this
    exact this.symm
  ·rintro(h|⟨r,hr,h⟩)
   ·rw[qk h]
    exact⟨_,ak.head_mem (by decide:lN≠[]),ak.nil_prefix⟩
   ·refine⟨r,hr,?_⟩
    rw[<-((uv _ _ _).mp h).2.2]
    exact ak.take_prefix _ _
 haveI hG:yd x 0 (x.aq - 0) 0=st.1:=T7 GG H _ _ (bC _) (by exact(aF λhn=>Lake.n3 [_,_,_] 1 (.a (.a (.n 0) (.v 2)) (.n 1)) (.v 0) 1 (.v 0) (.v 1) 1 (.v 1) (.a (.v 2) (.n 0)) rfl hn GG (Lake.Ra _ _)))
 have Oh:∀e≤st.1,mU (jP x 0 e)=true->0<e/\e<=st.2.1:=by
  intro e he hk
  haveI hm:=DK hk
  refine gg (Ko _ hm) λr hr hor=>?_
  rw[zf]at hor
  have hel:(x.au.eL e).aq=e:=by rw[ak.eX,dh];exact aV (aA he GG)
  have hr1:r.1.au.aq=r.1.aq:=dX.iM
  haveI Nb:=(CE r hr).2.2.1
  have KZ:(mT r).aq=r.1.aq+1:=by rw[ak.aX,hr1];rfl
  rcases hor with h|⟨hb,h⟩
  ·have hle:e=r.1.aq+1:=by rw[<-hel,h,KZ]
   have hs:e<=eG (mT r) x.au:=(uv _ _ _).mpr ⟨by exact(aF λhn=>Lake.n3 [_,_,_] 1 (.a (.v 2) (.n 1)) (.v 0) 1 (.a (.v 1) (.n 1)) (.v 2) 1 (.v 0) (.a (.v 1) (.n 1)) rfl hn (aO (Eq.symm KZ)) (aO hle)),by rw[dh];exact(aF λhn=>Lake.n3 [_,_,_] 1 (.a (.v 1) (.n 1)) (.v 2) 1 (.v 0) (.v 1) 1 (.v 2) (.v 0) rfl hn GG he),by rw[h];exact ak.dW (by exact(aF λhn=>Lake.n3 [_,_,_] 1 (.a (.v 0) (.n 1)) (.v 2) 1 (.v 2) (.a (.v 1) (.n 1)) 1 (.a (.v 1) (.n 1)) (.v 0) rfl hn (aO KZ) (aO (Eq.symm hle))))⟩
   exact⟨by exact(cP λhn=>Lake.n2 [_,_] 1 (.v 0) (.n 0) 1 (.a (.v 1) (.n 1)) (.v 0) rfl hn (aO (Eq.symm hle))),aA hs (F2 r hr (.inl (by exact(cP λhn=>Lake.n3 [_,_,_] 1 (.v 2) (.v 1) 1 (.a (.v 1) (.n 1)) (.v 0) 1 (.v 0) (.v 2) rfl hn (aO (Eq.symm hle)) hs))))⟩
  ·have hle:e=r.1.aq:=by rw[<-hel,h,hr1]
   have hs:e<=eG (mT r) x.au:=(uv _ _ _).mpr ⟨by exact(aF λhn=>Lake.n3 [_,_,_] 1 (.a (.v 2) (.n 1)) (.v 0) 1 (.a (.v 1) (.n 1)) (.v 2) 1 (.v 0) (.v 1) rfl hn (aO (Eq.symm KZ)) (aO hle)),by rw[dh];exact(aF λhn=>Lake.n3 [_,_,_] 1 (.a (.v 1) (.n 1)) (.v 2) 1 (.v 0) (.v 1) 1 (.v 2) (.v 0) rfl hn GG he),by rw[h,hle];exact DL⟩
   refine⟨by exact(cP λhn=>Lake.n3 [_,_] 1 (.v 0) (.n 0) 1 (.a (.n 0) (.n 1)) (.v 1) 1 (.v 1) (.v 0) rfl hn Nb (aO (Eq.symm hle))),aA hs (F2 r hr ?_)⟩
   by_cases lM:r.1.aq<eG (mT r) x.au
   ·exact .inl lM
   ·exact .inr ⟨hb,by exact(dU (aF λhn=>Lake.n2 [_,_] 1 (.a (.v 0) (.n 1)) (.v 1) 1 (.v 1) (.v 0) rfl hn (aF lM)) (aF λhn=>Lake.n3 [_,_,_] 1 (.a (.v 2) (.n 1)) (.v 1) 1 (.v 1) (.v 0) 1 (.v 0) (.v 2) rfl hn (aO (Eq.symm hle)) hs))⟩
 unfold Cv Di
 dsimp only
 rw[hG]
 simp only[dD]
 by_cases h0:st.2.1=0
 ·rw[bJ h0,Qe (p:=jP x 0 st.1)]
  intro e he
  rw[zL (fC he)]
  cases hk:mU (jP x 0 e)with
  |false=>rfl
  |true=>have:=Oh e (fC he) hk;exact cO (bh this.1 this.2) (by rw[h0];exact cQ 0)
 ·have Vz:mU (jP x 0 st.2.1)=true/\uU (jP x 0 st.2.1)=st.2.2:=by
   rcases F3 with h|⟨r,hr,hc,h⟩
   ·exact cO (by rw[h]) h0
   ·rw[h]
    refine YY (CE r hr) λn1 n2 ig jd=>?_;obtain -:=ig;obtain -:=jd
    haveI hr1:r.1.au.aq=r.1.aq:=dX.iM
    haveI KZ:(mT r).aq=r.1.aq+1:=by rw[ak.aX,hr1];rfl
    have hle:=(Bx (mT r) x.au).1
    dsimp only
    rw[Qg (bz _)]
    rcases hc with hc|⟨hb,hc⟩
    ·rw[ak.dW (by exact(aF λhn=>Lake.n3 [_,_,_] 1 (.a (.v 2) (.n 1)) (.v 1) 1 (.v 1) (.a (.v 0) (.n 1)) 1 (.a (.v 0) (.n 1)) (.v 2) rfl hn (aO KZ) hc))]
     exact n1
    ·rw[hc,DL,EP]
     exact n2 hb
  rw[aY h0,Qd (p:=jP x 0 st.1) (e:=st.2.1) (by rw[zL hbu];exact Vz.1) (by exact(cP λhn=>Lake.n2 [_,_] 1 (.a (.v 1) (.n 1)) (.v 0) 1 (.v 0) (.v 1) rfl hn hbu))]
  ·dsimp only
   rw[Vz.2]
   cases hs:x.au[st.2.1 - 1]?==az 59 with
   |true=>rfl
   |false=>cases MV:gF&&yF (x.au[st.2.1]?)<;>rfl
  ·intro e' h1 h2
   rw[zL (fC h2)]
   cases hk:mU (jP x 0 e')with
   |false=>rfl
   |true=>exact cO (Oh e' (fC h2) hk).2 (Nat.not_le.mpr h1)
def G9(a b:Nat):aH Nat->aM
 |az k=>decide (a<=k)&&decide (k<=b)
 |none=>false
theorem Qh(a b:Nat):([a]<[b])↔a<b:=ak.cons_lt_cons_iff.trans ⟨λh=>h.g9 id λh=>cO h.2 (ak.not_lt_nil _),.inl⟩
theorem ES(a b:Nat)(o:aH Nat):(!(decide ((uV o).au<[a]))&&!(decide ([b]<(uV o).au)))=G9 a b o:=by
 cases o with
 |none=>
  show(!(decide ([]<[a]))&&_)=false
  rw[cN (by simp)]
  rfl
 |az k=>
  show(!(decide ([k]<[a]))&&!(decide ([b]<[k])))=(decide (a<=k)&&decide (k<=b))
  rw[aM.uq]
  rw[aM.bN,aM.bN,aM.oE,aM.oE,decide_eq_false_iff_not,decide_eq_false_iff_not,cA,cA,Qh,Qh,Nat.not_lt,Nat.not_lt]
theorem T8(o:aH Nat):(G9 48 57 o||(G9 65 90 o||(G9 97 122 o||(o==az 61))))=yF o:=by
 cases o with
 |none=>rfl
 |az k=>
  rcases qx k 128 with h|h
  ·haveI key:(ak.tO 128).all (λk=>(G9 48 57 (az k)||(G9 65 90 (az k)||(G9 97 122 (az k)||(az k==az 61))))==yF (az k))=true:=by decide+dK
   exact cL (ak.bV key k (ak.k7 h))
  ·haveI h1:∀cs:ak Nat,cs.all (λj=>decide (j<128))=true->ur cs (az k)=false:=λcs hc=>by
    show decide (k∈cs)=false
    exact cK λm=>Nat.fG h (bX (ak.bV hc k m))
   unfold yF
   rw[h1 vL (by decide+dK),h1 Ad (by decide+dK)]
   unfold G9
   dsimp only
   rw[cK (show ¬k<=57 by exact(λhn=>Lake.n2 [_] 1 (.v 0) (.n 57) 1 (.n 128) (.v 0) rfl hn h)),cK (show ¬k<=90 by exact(λhn=>Lake.n2 [_] 1 (.v 0) (.n 90) 1 (.n 128) (.v 0) rfl hn h)),cK (show ¬k<=122 by exact(λhn=>Lake.n2 [_] 1 (.v 0) (.n 122) 1 (.n 128) (.v 0) rfl hn h))]
   simp
theorem Mz(o:aH Nat):((!decide ((uV o).au<(aj "0").au)&&!decide ((aj "9").au<(uV o).au))||((!decide ((uV o).au<(aj "A").au)&&!decide ((aj "Z").au<(uV o).au))||((!decide ((uV o).au<(aj "a").au)&&!decide ((aj "z").au<(uV o).au))||(uV o==aj "="))))=yF o:=by
 rw[show(aj "0").au=[48] by kernel_rfl,show(aj "9").au=[57] by kernel_rfl,show(aj "A").au=[65] by kernel_rfl,show(aj "Z").au=[90] by kernel_rfl,show(aj "a").au=[97] by kernel_rfl,show(aj "z").au=[122] by kernel_rfl,ES,ES,ES,show aj "="=⟨#[61]⟩ by kernel_rfl,Km,T8]
def pI(x:Str):ER:=if ur [9,10,12,32,60] (x.au[0]?)=true\/x.au[0]?=none then⟨[],aj "&",0⟩else if x.au[0]?==az 35 then u7 x 0 else Jm x true
def lcF(x:Str)(st:Nat×Nat×Str)(a b d e r:aH V):Loc:=[(aj "part",az (.str x)),(aj "used",az (.int (st.1:Nat))),(aj "best",az (.int (st.2.1:Nat))),(aj "found",az (.str st.2.2)),(aj "name",a),(aj "sign",b),(aj "bare",d),(aj "same",e),(aj "row",r),(aj "behind",none)]
def LF(x:Str)(W:ak AO)(st:Nat×Nat×Str)(z1:Loc)(z2:ak AO)(z3:ak AO):Prop:=∀G:Loc->ak AO->ak AO->Prop,(∀(a b d e:aH V),G (lcF x st a b d e none) [] W)->G z1 z2 z3
theorem LF.mk{x:Str}{W:ak AO}{st:Nat×Nat×Str}(a b d e:aH V):LF x W st (lcF x st a b d e none) [] W:=λz9 z=>z a b d e
theorem Qi(o:aH Nat):([V.str (aj ""),.str (aj "\t"),.str (aj "\n"),.str (aj "\x0c"),.str (aj " "),.str (aj "<")].any λy=>vf y (.str (uV o)))=decide (ur [9,10,12,32,60] o=true\/o=none):=by
 rw[show([V.str (aj ""),.str (aj "\t"),.str (aj "\n"),.str (aj "\x0c"),.str (aj " "),.str (aj "<")]:ak V)=.str (⟨#[]⟩:Str)::([9,10,12,32,60].map λk=>V.str ⟨#[k]⟩) by kernel_rfl,ak.any_cons,G3]
 cases o with
 |none=>exact(cN (.inr rfl)).symm
 |az k=>
  rw[show vf (.str (⟨#[]⟩:Str)) (.str (uV (az k)))=false from eK (λe=>by injection e with e;cases e),aM.false_or]
  rw[aM.uq,cA]
  exact⟨.inl,λh=>h.g9 id λe=>(by cases e)⟩
theorem Qj{a b:ak V}(ha:V.gW a=true)(hb:V.gW b=true):V.gW (a++b)=true:=by
 induction a with
 |nil=>exact hb
 |br v a ih=>
  rw[ak.p7]
  unfold V.gW at ha⊢
  rw[aM.bN]at ha⊢
  exact⟨ha.1,ih ha.2⟩
theorem MA(n:Int):V.gW (k6 n)=true:=by
 unfold k6
 split<;>rfl
theorem YA{p:Prop}[Decidable p]{a b:ER}(ha:V.gW a.es=true)(hb:V.gW b.es=true):V.gW (if p then a else b).es=true:=by
 by_cases h:p
 ·rw[bJ h];exact ha
 ·rw[aY h];exact hb
theorem T9(x:Str)(u:Nat):V.gW (u7 x u).es=true:=by
 unfold u7
 refine YA (Qj (MA _) ?_) rfl
 generalize yc x _=b
 cases b<;>rfl
theorem Ql(x:Str):V.j7 (.tup [.aR (u7 x 0).es,.str (u7 x 0).out,.int ((u7 x 0).oF:Nat)])=true:=by
 show(V.gW _&&_)=true
 rw[T9];rfl
theorem Bo(c:Cx)(hK:gM=top.heap_1 aL)(x:Str)(hx:x.aq<=1000)(W:ak AO):
  jO c 3 843 [.str x] W (.tup [.aR (pI x).es,.str (pI x).out,.int ((pI x).oF:Nat)]) W:=by
 revert hK hx
 revert c x W
 intros c x W
 intro hK hx
 refine pF (bs:=[(aj "part",.str x)]) (cG:=[aj "used",aj "best",aj "found",aj "name",aj "sign",aj "bare",aj "same",aj "row",aj "behind"]) hK (nK hK) rfl rfl rfl (by kernel_rfl) (by kernel_rfl) (gz (λs X a=>bf rfl) .nil) ?_
 intro κ hf hQ hN hX
 have AG:x.aq<=10000:=aA hx (by decide)
 unfold pI at hQ
 refine mq 2 (m':=.rt _ _ _ _ _) rfl rfl ?_ ?_
 ·exact AG
 rw[TR,Qi]
 cases h0:decide (ur [9,10,12,32,60] (x.au[0]?)=true\/x.au[0]?=none)with
 |true=>
  rw[bJ (bX h0)]at hQ
  refine cX 14 (m':=.rt _ _ _ _ _) rfl rfl ?_
  exact hQ _ _ _ _ _ (.eG rfl) ⟨rfl,rfl⟩
 |false=>
 rw[aY (wM h0)]at hQ
 cases Zn:x.au[0]? with
 |none=>exact cO (.inr Zn) (wM h0)
 |az k0=>
 rw[Zn]at hQ
 refine mq 3 (m':=.rt _ _ _ _ _) rfl rfl ?_ ?_
 ·exact zc (j:=0) Zn AG
 rw[show x.au.xV (zo x.aq 0) 0=k0 from getD_at (j:=0) Zn,eq1 k0 (s:=aj "#") (j:=35) (by kernel_rfl)]
 cases VA:(k0==35)with
 |true=>
  rw[show(az k0==az 35)=true from VA,bJ rfl]at hQ
  refine cX 9 (m':=.cl _ _ _ _ _ _) rfl rfl ?_
  refine fW (EO c hK x hx W) rfl rfl ?_
  refine cX 0 (m':=.rt _ _ _ _ _) rfl rfl ?_
  exact hQ _ _ _ _ _ (.eG (Ql x)) ⟨rfl,rfl⟩
 |false=>
 rw[show(az k0==az 35)=false from VA,aY aM.bK]at hQ
 refine cX 15 (m':=.cl _ _ _ _ _ _) rfl rfl ?_
 refine fW (A7 c hK W) rfl rfl ?_
 refine Gg .aR (z0 (λi=>LF x W (G7 x (lN.eL i))) (.mk none none none none) ?_ ?_)
 ·intro i _ _ _ u hu hJ mF tn tc tb tr
  rw[ak.iI]at hu
  refine gg (aH.iH hu) λr hr ig=>?_;obtain rfl:=ig
  have hrm:r∈lN:=ak.cg hr
  refine iU (ze r hrm) λY4 Wm=>?_
  have YB:G7 x (lN.eL (i+1))=Hx x (G7 x (lN.eL i)) r:=by
   rw[ak.jM,hr]
   exact Qa x _ r
  rw[YB]at tn
  generalize G7 x (lN.eL i)=st at hJ tn
  apply hJ;clear hJ;intro a b d e
  have L1:(aj ";").aq=1:=by kernel_rfl
  have yW:r.1.aq+(aj ";").aq<=fu:=qG (by exact(aF λhn=>Lake.n3 [_,_] 1 (.a (.n 10000) (.n 1)) (.a (.v 0) (.v 1)) 1 (.v 0) (.n 8) 1 (.v 1) (.n 1) rfl hn Y4 (aO L1)))
  have hzz:(r.1++aj ";").aq<=10000:=by rw[j4];exact(aF λhn=>Lake.n3 [_,_] 1 (.a (.n 10000) (.n 1)) (.a (.v 0) (.v 1)) 1 (.v 0) (.n 8) 1 (.v 1) (.n 1) rfl hn Y4 (aO L1))
  have hzr:r.1.aq<=10000:=by exact(aF λhn=>Lake.n2 [_] 1 (.a (.n 10000) (.n 1)) (.v 0) 1 (.v 0) (.n 8) rfl hn Y4)
  have hap:(r.1++aj ";").au=r.1.au++[59]:=by
   rw[show aj ";"=⟨#[59]⟩ by kernel_rfl]
   show(r.1.cps++#[59]).nu=_
   rw[dX.toList_append]
  unfold DJ
  refine mq 16 (m':=.cl _ _ _ _ _ _) rfl rfl ?_ ?_
  ·exact yW
  refine fW (Jl c hK _ x hzz AG W) rfl rfl ?_
  unfold Hx at tn
  dsimp only at tn
  rw[hap]
  generalize eG (r.1.au++[59]) x.au=s at tn⊢
  refine cX 13 (m':=.rt _ _ _ _ _) rfl rfl ?_
  rw[Yx]
  refine cX 1 (m':=.ex _ _ _ _) rfl rfl ?_
  refine cX 1 (m':=.te _ _ _ _ _) rfl rfl ?_
  refine DB (b:=decide (st.2.1<s/\(r.1.aq<s\/(r.2.2=true/\s=r.1.aq)))) ?_ ?_
  ·rw[<-TY]
   refine qP (wV (uQ (k:=3) rfl trivial rfl) (tY (qP (Cd (Yv rfl (eU (k:=3) rfl) ?_) (tY (qP (wV (uQ (k:=3) rfl trivial rfl) (tY (Yw rfl (eU (k:=3) rfl) ?_)))))))))
   ·refine mH λQW q=>?_
    refine mq 8 (m':=.rt _ _ _ _ _) rfl rfl ?_ ?_
    ·exact hzr
    ·exact q
   ·refine mH λQW q=>?_
    refine mq 8 (m':=.rt _ _ _ _ _) rfl rfl ?_ ?_
    ·exact hzr
    ·exact q
  by_cases hc:st.2.1<s/\(r.1.aq<s\/(r.2.2=true/\s=r.1.aq))
  ·rw[bJ hc]at tn
   refine vb (cN hc) ?_
   refine cX 7 (m':=.ex _ _ _ _) rfl rfl ?_
   exact gU (tn _ _ _ (.mk _ _ _ _))
  ·rw[aY hc]at tn
   refine vb (cK hc) ?_
   refine cX 1 (m':=.ex _ _ _ _) rfl rfl ?_
   exact gU (tn _ _ _ (.mk _ _ _ _))
 ·intro _ _ _ hJ
  rw[ak.bT,ak.xG]at hJ
  have hB:Vy x (G7 x lN):=Qc λr' m=>(ze r' m).2
  unfold Jm at hQ
  generalize G7 x lN=st at hB hQ hJ
  apply hJ;clear hJ;intro a b d e
  have hbu:=hB.bu
  have GG:=hB.ux
  have QK:=hB.fl
  have ab8:st.2.2.aq+(jP x st.2.1 st.1).aq<=fu:=by have:=nL x st.2.1 st.1;exact qG (by exact(aF λhn=>Lake.n4 [_,_,_] 1 (.a (.n 10000) (.n 1)) (.a (.v 1) (.v 2)) 1 (.v 0) (.n 1000) 1 (.v 1) (.n 2) 1 (.v 2) (.v 0) rfl hn hx QK this))
  have Q4:w7 x (az ((st.2.1:Nat):Int)) (az ((st.1:Nat):Int))=jP x st.2.1 st.1:=TQ x _ _ hbu GG
  have ret:∀{es:ak V}{out:Str},V.gW es=true->Di x true st=⟨es,out,st.1⟩->∀l T,κ.Q (.ret (.tup [.aR es,.str out,.int (st.1:Nat)])) ⟨l,T,W⟩:=λhn e l T=>hQ _ _ _ _ _ (.eG (by show(V.gW _&&_)=true;rw[hn];rfl)) ⟨by rw[e],rfl⟩
  refine cX 2 (m':=.rt _ _ _ _ _) rfl rfl ?_
  by_cases h0:st.2.1=0
  ·refine vb (b':=true) (by rw[h0];rfl) ?_
   refine cX 13 (m':=.cl _ _ _ _ _ _) rfl rfl ?_
   refine fW (oR c hK _ W) rfl rfl ?_
   refine go2 10 (m':=.rt _ _ _ _ _) rfl rfl ?_ ?_ ?_
   ·exact AG
   ·exact EN hx
   rw[EM]
   exact ret rfl (by unfold Di;rw[bJ h0];try rfl) _ _
  ·refine vb (b':=false) (eK (λe=>h0 (Int.ofNat_eq_zero.mp e))) ?_
   have lM:st.2.1 - 1<x.au.aq:=by rw[dh];exact bh (Nat.sub_lt (jR h0) Nat.one_pos) (aA hbu GG)
   have hk:x.au[st.2.1 - 1]?=az _:=ak.bk lM
   generalize x.au[st.2.1 - 1]'lM=k at hk
   have e1:((st.2.1:Nat):Int) - 1=((st.2.1 - 1:Nat):Int):=(Int.ofNat_sub (jR h0)).symm
   refine mq 3 (m':=.rt _ _ _ _ _) rfl rfl ?_ ?_
   ·rw[e1];exact zc hk AG
   rw[e1,getD_at hk,show((⟨#[k]⟩:Str)==aj ";")=(az k==az 59) from G5 (az k)]
   cases hs:(az k==az 59)with
   |true=>
    refine go2 14 (m':=.rt _ _ _ _ _) rfl rfl ?_ ?_ ?_
    ·exact AG
    ·rw[Q4];exact ab8
    rw[Q4]
    exact ret rfl (by unfold Di;rw[aY h0,hk,bJ hs]) _ _
   |false=>
    refine cX 11 (m':=.cl _ _ _ _ _ _) rfl rfl ?_
    refine fW (oR c hK _ W) rfl rfl ?_
    refine mq 8 (m':=.rt _ _ _ _ _) rfl rfl ?_ ?_
    ·exact AG
    rw[EL,Mz]
    cases MV:yF (x.au[st.2.1]?)with
    |true=>
     refine go2 3 (m':=.rt _ _ _ _ _) rfl rfl ?_ ?_ ?_
     ·exact AG
     ·exact EN hx
     rw[EM]
     exact ret rfl (by unfold Di;rw[aY h0,hk,aY (by rw[hs];decide),bJ (show(true&&yF (x.au[st.2.1]?))=true from MV)];try rfl) _ _
    |false=>
     refine go2 3 (m':=.rt _ _ _ _ _) rfl rfl ?_ ?_ ?_
     ·exact AG
     ·rw[Q4];exact ab8
     rw[Q4]
     exact ret rfl (by unfold Di;rw[aY h0,hk,aY (by rw[hs];decide),aY (show ¬(true&&yF (x.au[st.2.1]?))=true from by rw[MV];decide)];try rfl) _ _
def uW(s:Nat)(st:ak (ak Nat)×ak Nat)(k:Nat):ak (ak Nat)×ak Nat:=if(k==s)=true then(st.1++[st.2],[])else(st.1,st.2++[k])
def uf(s:Nat)(l:ak Nat):ak (ak Nat)×ak Nat:=rB (uW s) ([],[])
def lV(l:ak Nat):V:=.str ⟨l.aJ⟩
def Hy(st:ak (ak Nat)×ak Nat):ak V:=st.1.map lV++[lV st.2]
def Hf(s:Nat)(x:Str):ak V:=Hy (uf s x.au)
theorem DM(s k:Nat)(l:ak Nat):uf s (l++[k])=uW s (uf s l) k:=by unfold uf;rw[ak.foldl_append];rfl
theorem Hg(s:Nat)(l:ak Nat):(uf s l).1.aq+(uf s l).2.aq<=l.aq:=by
 haveI key:∀(l:ak Nat)(st:ak (ak Nat)×ak Nat),(rB (uW s) st).1.aq+(rB (uW s) st).2.aq<=st.1.aq+st.2.aq+l.aq:=by
  intro l
  induction l with
  |nil=>exact λst=>bz _
  |br k l ih=>
   intro st
   refine aA (ih _) ?_
   unfold uW
   split
   ·simp;exact(aF λhn=>Lake.n1 [_,_,_] (.a (.a (.a (.v 0) (.v 1)) (.a (.v 2) (.n 1))) (.n 1)) (.a (.a (.v 0) (.n 1)) (.v 2)) rfl hn)
   ·simp;exact(aF λhn=>Lake.n1 [_,_,_] (.a (.a (.a (.v 0) (.v 1)) (.a (.v 2) (.n 1))) (.n 1)) (.a (.a (.v 0) (.a (.v 1) (.n 1))) (.v 2)) rfl hn)
 exact aA (key l ([],[])) (aO (by show 0+0+l.aq=_;exact(dU (aF λhn=>Lake.n1 [_] (.a (.v 0) (.n 1)) (.a (.a (.n 0) (.n 0)) (.v 0)) rfl hn) (aF λhn=>Lake.n1 [_] (.a (.a (.a (.n 0) (.n 0)) (.v 0)) (.n 1)) (.v 0) rfl hn))))
def LC(x:Str)(s:Nat)(W:ak AO)(st:ak (ak Nat)×ak Nat)(z1:Loc)(z2:ak AO)(z3:ak AO):Prop:=∀G:Loc->ak AO->ak AO->Prop,(∀(o:aH V),G [(aj "text",az (.str x)),(aj "sign",az (.str ⟨#[s]⟩)),(aj "parts",az (.lo 0)),(aj "one",o)] [.aR (Hy st)] W)->G z1 z2 z3
theorem LC.mk{x:Str}{s:Nat}{W:ak AO}{st:ak (ak Nat)×ak Nat}(o:aH V):LC x s W st [(aj "text",az (.str x)),(aj "sign",az (.str ⟨#[s]⟩)),(aj "parts",az (.lo 0)),(aj "one",o)] [.aR (Hy st)] W:=λz9 z=>z o
theorem Qm(st:ak (ak Nat)×ak Nat):(Hy st).aq=st.1.aq+1:=by unfold Hy;simp
theorem Kq(st:ak (ak Nat)×ak Nat):(Hy st)[zo (Hy st).aq (-1)]?=az (lV st.2):=by
 rw[zZ,Qm]
 unfold Hy
 rw[Nat.add_sub_cancel,ak.jy (by simp)]
 simp
theorem YC(l:ak Nat)(k:Nat):V.str ((⟨l.aJ⟩:Str)++⟨#[k]⟩)=lV (l++[k]):=by
 unfold lV
 congr 1
 show(⟨l.aJ++#[k]⟩:Str)=_
 congr 1
 simp
theorem Ua(st:ak (ak Nat)×ak Nat):V.gW (Hy st)=true:=by
 unfold Hy
 refine Qj ?_ rfl
 induction st.1 with
 |nil=>rfl
 |br a l ih=>show(V.j7 _&&_)=true;rw[ih];rfl
theorem ab9{c:Cx}{n:Nat}{sc:gO}{τ:qI}{κ:Ct c sc τ}{l:Loc}{T W:ak AO}{j:Nat}{xs:ak V}{i:Int}{w:V}{op:lP}{e:aB}{aU:ak iW}(hT:T[j]?=az (.aR xs))(h:uO xs.aq i)(m:xs[zo xs.aq i]?=az w)(q:Vd n κ (.ev e [.Gf (.lo j) (.int i) op w aU] l T W)):Vd n κ (.rt (.int i) [.JS (.lo j) op e aU] l T W):=uP n (.lo hT) h m q
theorem MB(c:Cx)(hK:gM=top.heap_1 aL)(x:Str)(s:Nat)(hx:x.aq<=1000)(W:ak AO):jO c 2 850 [.str x,.str ⟨#[s]⟩] W (.aR (Hf s x)) W:=by
 revert hK hx
 revert c x s W
 intros c x s W
 intro hK hx
 refine pF (bs:=[(aj "text",.str x),(aj "sign",.str ⟨#[s]⟩)]) (cG:=[aj "parts",aj "one"]) hK (nK hK) rfl rfl rfl (by kernel_rfl) (by kernel_rfl) (nU (λs X a b=>bf rfl) .nil) ?_
 intro κ hf hQ hN hX
 refine cX 9 (m':=.rt _ _ _ _ _) rfl rfl ?_
 refine Gg .str (z0 (λi=>LC x s W (uf s (x.au.eL i))) ?_ ?_ ?_)
 ·rw[show aj ""=⟨([]:ak Nat).aJ⟩ by kernel_rfl]
  exact .mk none
 ·intro i _ _ _ u hu hJ mF tn tc tb tr
  rw[ak.iI]at hu
  refine gg (aH.iH hu) λk hk ig=>?_;obtain rfl:=ig
  haveI hn:uf s (x.au.eL (i+1))=uW s (uf s (x.au.eL i)) k:=by rw[ak.jM,hk];exact DM s k _
  haveI hL:=Hg s (x.au.eL i)
  rw[ak.eX,dh]at hL
  rw[hn]at tn
  generalize uf s (x.au.eL i)=st at hJ tn hL
  haveI Vj:=Qm st
  apply hJ;clear hJ;intro o
  refine cX 3 (m':=.rt _ _ _ _ _) rfl rfl ?_
  rw[eq1 k (j:=s) rfl]
  unfold uW at tn
  cases hks:(k==s)with
  |true=>
   rw[hks,bJ rfl]at tn
   refine mq 11 (m':=.ex _ _ _ _) rfl rfl ?_ ?_
   ·show(Hy st).aq<=_;exact(aF λhn=>Lake.n5 [_,_,_,_,_] 1 (.a (.n 10000) (.n 1)) (.v 4) 1 (.v 0) (.n 1000) 1 (.a (.v 1) (.v 2)) (.v 3) 1 (.v 4) (.a (.v 1) (.n 1)) 1 (.v 3) (.v 0) rfl hn hx hL (aO Vj) (iL _ _))
   refine gU (tn _ _ _ ?_)
   have:=LC.mk (x:=x) (s:=s) (W:=W) (st:=(st.1++[st.2],[])) (az (.str ⟨#[k]⟩))
   rw[show Hy (st.1++[st.2],[])=Hy st++[V.str ⟨([]:ak Nat).aJ⟩] by unfold Hy;rw[ak.ie];rfl]at this
   exact this
  |false=>
   rw[hks,aY aM.bK]at tn
   haveI hix:uO (Hy st).aq (-1):=iR (by exact(cP λhn=>Lake.n2 [_,_] 1 (.v 1) (.n 0) 1 (.a (.v 0) (.n 1)) (.v 1) rfl hn (aO (Eq.symm Vj)))) (by exact(aF λhn=>Lake.n5 [_,_,_,_,_] 1 (.a (.n 10000) (.n 1)) (.v 4) 1 (.v 0) (.n 1000) 1 (.a (.v 1) (.v 2)) (.v 3) 1 (.v 4) (.a (.v 1) (.n 1)) 1 (.v 3) (.v 0) rfl hn hx hL (aO Vj) (iL _ _)))
   refine cX 5 (m':=.rt _ _ _ _ _) rfl rfl ?_
   refine ab9 rfl hix (Kq st) ?_
   refine cX 1 (m':=.rt _ _ _ _ _) rfl rfl ?_
   refine abw (xs:=st.1.map lV) rfl (by show st.2.aJ.dM+1<=fu;rw[ak.bZ];exact qG (by exact(aF λhn=>Lake.n4 [_,_,_,_] 1 (.a (.n 10000) (.n 1)) (.a (.v 2) (.n 1)) 1 (.v 0) (.n 1000) 1 (.a (.v 1) (.v 2)) (.v 3) 1 (.v 3) (.v 0) rfl hn hx hL (iL _ _)))) ?_
   rw[YC]
   exact gU (tn _ _ _ (.mk _))
 ·intro _ _ _ hJ
  rw[ak.bT,ak.dW (bz _)]at hJ
  generalize Vs:uf s x.au=st at hJ
  apply hJ;clear hJ;intro o
  refine cX 2 (m':=.rt _ _ _ _ _) rfl rfl ?_
  unfold Hf at hQ
  rw[Vs]at hQ
  exact hQ _ _ _ _ _ (.lol rfl (.eG (Ua st))) ⟨rfl,rfl⟩
def oU(s:Nat)(l:ak Nat):ak (ak Nat):=(uf s l).1++[(uf s l).2]
theorem CF(s:Nat)(x:Str):Hf s x=(oU s x.au).map lV:=by unfold Hf Hy oU;rw[ak.ie];rfl
theorem CG(s:Nat)(l:ak Nat):(oU s l).aq<=l.aq+1:=by
 unfold oU;rw[ak.aX];exact dZ (aA (cu _ _) (Hg s l))
theorem CH(s:Nat)(l p:ak Nat)(h:p∈oU s l):p.aq<=l.aq:=by
 haveI key:∀(l:ak Nat)(st:ak (ak Nat)×ak Nat)(m:Nat),(∀q∈st.1,q.aq<=m)->st.2.aq<=m->∀q∈(rB (uW s) st).1++[(rB (uW s) st).2],q.aq<=m+l.aq:=by
  intro l
  induction l with
  |nil=>
   intro st m h1 h2 q hq
   rcases ak.cJ hq with h|h
   ·exact h1 q h
   ·rw[ak.bR h];exact h2
  |br k l ih=>
   intro st m h1 h2 q hq
   refine aA (ih (uW s st k) (m+1) (λq hq=>?_) ?_ q hq) (aO (iK m l.aq))
   ·unfold uW at hq
    split at hq
    ·rcases ak.cJ hq with h|h
     ·exact fR (h1 q h)
     ·rw[ak.bR h];exact fR h2
    ·exact fR (h1 q hq)
   ·unfold uW
    split
    ·exact bC _
    ·show(st.2++[k]).aq<=_;rw[ak.aX];exact dZ h2
 have:=key l ([],[]) 0 (λz9 h=>(by cases h)) (bz _) p h
 rw[dD]at this;exact this
theorem CI(s:Nat)(l:ak Nat):∀(a:ak (ak Nat))(b:ak Nat),∃c cs,oU s l=c::cs/\(rB (uW s) (a,b)).1++[(rB (uW s) (a,b)).2]=a++(b++c)::cs:=by
 revert s l
 intros s l
 induction l with
 |nil=>exact λa b=>⟨[],[],rfl,by rw[ak.eu];rfl⟩
 |br k l ih=>
  intro a b
  cases hk:(k==s)with
  |true=>
   haveI e:∀st:ak (ak Nat)×ak Nat,uW s st k=(st.1++[st.2],[]):=λst=>by unfold uW;rw[bJ hk]
   refine Ht (ih (a++[b]) []) λc cs h1 h2=>?_
   refine Ht (ih [[]] []) λc' cs' MO Vk=>?_
   rw[h1]at MO
   refine iU (ak.br.inj MO) λfY bG=>?_;obtain rfl:=fY;obtain rfl:=bG
   refine⟨[],c::cs,?_,?_⟩
   ·unfold oU uf
    rw[ak.wN,e]
    exact Vk
   ·rw[ak.wN,e]
    refine h2.trans ?_
    rw[ak.cV,ak.eu];rfl
  |false=>
   haveI e:∀st:ak (ak Nat)×ak Nat,uW s st k=(st.1,st.2++[k]):=λst=>by unfold uW;rw[aY (by rw[hk];exact aM.bK)]
   refine Ht (ih a (b++[k])) λc cs h1 h2=>?_
   refine Ht (ih [] [k]) λc' cs' MO Vk=>?_
   rw[h1]at MO
   refine iU (ak.br.inj MO) λfY bG=>?_;obtain rfl:=fY;obtain rfl:=bG
   refine⟨k::c,cs,?_,?_⟩
   ·unfold oU uf
    rw[ak.wN,e]
    exact Vk
   ·rw[ak.wN,e]
    refine h2.trans ?_
    rw[ak.cV];rfl
theorem qo(s:Nat)(l:ak Nat):oU s (s::l)=[]::oU s l:=by
 refine Ht (CI s l [[]] []) λc cs h1 h2=>?_
 rw[h1]
 unfold oU uf
 rw[ak.wN,show uW s ([],[]) s=([[]],[]) from by unfold uW;rw[bJ (cU s)];rfl]
 exact h2
theorem Ak(s:Nat)(l:ak Nat){c:ak Nat}{cs:ak (ak Nat)}(h:oU s l=c::cs)(w:ak Nat)(hw:∀k∈w,k≠s):oU s (w++l)=(w++c)::cs:=by
 induction w with
 |nil=>exact h
 |br k w ih=>
  refine Ht (CI s (w++l) [] [k]) λc' cs' h1 h2=>?_
  rw[ih λa ha=>hw a (.cI _ ha)]at h1
  refine iU (ak.br.inj h1) λfY bG=>?_;obtain rfl:=fY;obtain rfl:=bG
  unfold oU uf
  rw[ak.p7,ak.wN,show uW s ([],[]) k=([],[k]) from by unfold uW;rw[aY (λe=>hw k (.dw _) (cL e))];rfl]
  exact h2
theorem v8(s:Nat)(l:ak Nat):∃c cs,oU s l=c::cs:=(CI s l [] []).imp λz9 h=>h.imp λz9 h=>h.1
theorem MC(s:Nat)(l:ak Nat):∀(c:ak Nat)(cs:ak (ak Nat)),oU s l=c::cs->∃aU,l=c++aU/\(∀k∈c,k≠s)/\(aU=[]/\cs=[]\/∃r,aU=s::r/\cs=oU s r):=by
 revert s l
 intros s l
 induction l with
 |nil=>intro c cs h;cases h;exact⟨[],rfl,(λz9 h=>by cases h),.inl ⟨rfl,rfl⟩⟩
 |br a l ih=>
  intro c cs h
  by_cases e:a=s
  ·subst e
   rw[qo]at h
   cases h
   exact⟨_,rfl,(λz9 h=>by cases h),.inr ⟨l,rfl,rfl⟩⟩
  ·refine E1 (v8 s l) λc' cs' h'=>?_
   have h2:=Ak s l h' [a] λk hk=>by rw[ak.bR hk];exact e
   rw[ak.singleton_append,h]at h2
   cases h2
   refine uE (ih _ _ h') λaU h1 h3 h4=>?_
   exact⟨aU,by rw[h1];rfl,λk hk=>(ak.bB hk).g9 (λz=>z▸e) (h3 k),h4⟩
theorem Qo{s:Nat}{aU:ak Nat}{cs:ak (ak Nat)}(h:aU=[]/\cs=[]\/∃r,aU=s::r/\cs=oU s r){w:ak Nat}(hw:∀k∈w,k≠s):oU s (w++aU)=w::cs:=by
 haveI h0:oU s aU=[]::cs:=by
  rcases h with⟨rfl,rfl⟩|⟨r,rfl,rfl⟩
  ·rfl
  ·exact qo s r
 have:=Ak s aU h0 w hw
 rw[ak.eu]at this
 exact this
theorem Qp(q:Nat->aM)(l:ak Nat):l.jX q++l.fX (l.jX q).aq=l/\((l.fX (l.jX q).aq).head?).any q=false/\∀k∈l.jX q,q k=true:=by
 induction l with
 |nil=>exact⟨rfl,rfl,λz9 h=>by cases h⟩
 |br a l ih=>
  refine zN ih λh1 h2 h3=>?_;clear ih
  cases h:q a with
  |true=>
   rw[ak.kT h]
   exact⟨bM (a::·) h1,h2,λk hk=>(ak.bB hk).g9 (λz=>z▸h) (h3 k)⟩
  |false=>
   rw[ak.jz (by rw[h];exact aM.bK)]
   exact⟨rfl,h,λz9 h=>by cases h⟩
theorem Qq(x:Str)(h0:x.au[0]?=az 35):(u7 x 0).oF<=x.aq:=by
 revert h0
 revert x
 intros x
 intro h0
 haveI hl:1<=x.aq:=by rw[<-dh];exact(ak.cz h0).1
 haveI key:∀(hex:aM)(v:Nat),v<=x.aq->v+(fH hex x v).aq+(if yc x (v+(fH hex x v).aq)then 1 else 0) - 0<=x.aq:=λhex v hv=>by
  haveI h1:=EB hex hv
  cases hs:yc x (v+(fH hex x v).aq)with
  |false=>exact h1
  |true=>
   have:x.au[v+(fH hex x v).aq]?=az 59:=cL hs
   exact jf this
 haveI fin:∀(b:aM)(A B:ER),A.oF<=x.aq->B.oF<=x.aq->(if b=true then A else B).oF<=x.aq:=λb A B h1 h2=>by cases b;exact h2;exact h1
 unfold u7
 dsimp only
 cases hx:ur [120,88] (x.au[0+1]?)with
 |true=>
  haveI h2:2<=x.aq:=by
   cases h1:x.au[0+1]? with
   |none=>rw[h1]at hx;cases hx
   |az k=>exact jf h1
  exact fin _ _ _ (key true 2 h2) h2
 |false=>exact fin _ _ _ (key false 1 hl) hl
set_option tactic.hygienic true in
theorem Hh(x:Str):(pI x).oF<=x.aq:=by
 revert x
 intros x
 unfold pI
 split
 ·exact bC _
 ·split
  ·rename_i h;exact Qq x (cL h)
  ·haveI hB:Vy x (G7 x lN):=Qc λr' m=>(ze r' m).2
   have:=hB.ux
   unfold Jm Di
   split
   ·exact this
   ·split
    ·exact this
    ·split<;>exact this
def MD:ak Nat:=[38,34,39,62,32]
def Zo(l:ak Nat):Prop:=l=[]\/∃a r,l=a::r/\a∈MD
section
variable{x:Str}{u:Nat}{part rest:List Nat}
theorem Kr(hP:x.au.fX u=gK++aU)(i:Nat):x.au[u+i]?=(gK++aU)[i]?:=by rw[<-hP,ak.pA]
theorem AS{α:Type}(hP:x.au.fX u=gK++aU)(hr:Zo aU)(f:aH Nat->α)(hf:∀a∈MD,f (az a)=f none){i:Nat}(hi:i<=gK.aq):f (x.au[u+i]?)=f (gK[i]?):=by
 rw[Kr hP]
 rcases ou hi with h|h
 ·rw[ak.jh h]
 ·subst h
  rw[ak.jy (bz _),lW,ak.l9 (bz _)]
  rcases hr with rfl|⟨a,r,rfl,ha⟩
  ·rfl
  ·exact hf a ha
theorem ET(hP:x.au.fX u=gK++aU){m:Nat}(hm:m<=gK.aq):jl x u (u+m)=gK.eL m:=by
 unfold jl
 rw[ak.drop_take,jZ,hP,ak.take_append_of_le_length hm]
theorem Al(hP:x.au.fX u=gK++aU){e m:Nat}(hm:m<=gK.aq):jP x (u+e) (u+m)=jP ⟨gK.aJ⟩ e m:=by
 haveI h:=ET hP hm
 unfold jP
 rw[show jl x (u+e) (u+m)=(jl x u (u+m)).fX e from by unfold jl;rw[ak.drop_drop],h]
 rfl
theorem YD{q:Nat->aM}(hq:∀a∈MD,q a=false)(hr:Zo aU)(l:ak Nat):(l++aU).jX q=l.jX q:=by
 induction l with
 |nil=>
  rcases hr with rfl|⟨a,r,rfl,ha⟩
  ·rfl
  ·exact ak.jz (by rw[hq a ha];exact aM.bK)
 |br a l ih=>
  cases h:q a with
  |true=>rw[ak.p7,ak.kT h,ak.kT h,ih]
  |false=>rw[ak.p7,ak.jz (by rw[h];exact aM.bK),ak.jz (by rw[h];exact aM.bK)]
theorem Qs(hP:x.au.fX u=gK++aU){i:Nat}(hi:i<=gK.aq):x.au.fX (u+i)=gK.fX i++aU:=by
 rw[<-ak.drop_drop,hP,ak.jJ hi]
theorem Ub(hP:x.au.fX u=gK++aU)(hr:Zo aU)(h0:gK[0]?=az 35):u7 x u=u7 ⟨gK.aJ⟩ 0:=by
 revert hP hr h0
 revert x u gK aU
 intros x u gK aU
 intro hP hr h0
 have hl:1<=gK.aq:=(ak.cz h0).1
 haveI e1:ur [120,88] (x.au[u+1]?)=ur [120,88] (gK[0+1]?):=AS hP hr (ur [120,88]) (by decide) hl
 haveI key:∀(hex:aM)(i:Nat),i<=gK.aq->yD hex (x.au[u+i]?)=yD hex (gK[i]?)/\fH hex x (u+i)=fH hex ⟨gK.aJ⟩ i/\(fH hex x (u+i)).aq<=gK.aq - i:=λhex i hi=>by
  have e:fH hex x (u+i)=fH hex ⟨gK.aJ⟩ i:=by
   unfold fH
   rw[Qs hP hi]
   exact YD (by cases hex<;>decide+dK) hr _
  refine⟨AS hP hr (yD hex) (by cases hex<;>decide+dK) hi,e,?_⟩
  rw[e]
  unfold fH
  exact aA (ak.xH _).length_le (aO ak.gX)
 haveI es:∀j,j<=gK.aq->yc x (u+j)=yc ⟨gK.aJ⟩ j:=λj hj=>AS hP hr (λo=>o==az 59) (by decide) hj
 unfold u7
 dsimp only
 rw[e1]
 have fin:∀(hex:aM)(i:Nat),i<=gK.aq->(if yD hex (x.au[u+i]?)=true then(⟨k6 (kH hex (fH hex x (u+i)))++(if yc x (u+i+(fH hex x (u+i)).aq)=true then[]else[qR (aj "numeric-entity-without-semicolon")]),nj (kH hex (fH hex x (u+i))),u+i+(fH hex x (u+i)).aq+(if yc x (u+i+(fH hex x (u+i)).aq)=true then 1 else 0) - u⟩:ER)
   else⟨[qR (aj "expected-numeric-entity")],amp (jl x u (u+i)),u+i - u⟩)=(if yD hex (gK[i]?)=true then⟨k6 (kH hex (fH hex ⟨gK.aJ⟩ i))++(if yc ⟨gK.aJ⟩ (i+(fH hex ⟨gK.aJ⟩ i).aq)=true then[]else[qR (aj "numeric-entity-without-semicolon")]),nj (kH hex (fH hex ⟨gK.aJ⟩ i)),i+(fH hex ⟨gK.aJ⟩ i).aq+(if yc ⟨gK.aJ⟩ (i+(fH hex ⟨gK.aJ⟩ i).aq)=true then 1 else 0) - 0⟩
   else⟨[qR (aj "expected-numeric-entity")],amp (jl ⟨gK.aJ⟩ 0 i),i - 0⟩):=λhex i hi=>by
  refine zN (key hex i hi) λk1 k2 k3=>?_
  rw[k2]at k3
  rw[k1,k2,dJ u,es _ (aA (bH k3 i) (aO (kB hi))),ET hP hi,show jl ⟨gK.aJ⟩ 0 i=gK.eL i from rfl,jZ,dJ u,jZ]
  rfl
 cases hx:ur [120,88] (gK[0+1]?)with
 |true=>
  haveI h2:2<=gK.aq:=by
   cases h1:gK[0+1]? with
   |none=>rw[h1]at hx;cases hx
   |az k=>exact(ak.cz h1).1
  exact fin true 2 h2
 |false=>exact fin false 1 hl
end
theorem YE:lN.all (λr=>MD.all λa=>decide (a∉mT r))=true:=by decide+dK
theorem Uc{p:Str}{a:Nat}(ha:a∈MD)(h:a∈p.au):hasB p=false:=by
 cases hb:hasB p with
 |false=>rfl
 |true=>
  refine gg ((G8 p).mp hb) λr hr hp=>?_
  exact cO (hp.subset h) (bX (ak.bV (ak.bV YE r hr) a ha))
section
variable{x:Str}{u:Nat}{part rest:List Nat}
theorem By(hP:x.au.fX u=gK++aU)(hu:u<=x.aq):x.aq=u+gK.aq+aU.aq:=by
 have:=bM ak.aq hP
 rw[ak.gX,ak.aX,dh]at this
 rw[dJ,<-this,kB hu]
theorem Qt(hP:x.au.fX u=gK++aU)(hr:Zo aU)(hu:u<=x.aq):∀f f' m:Nat,m<=gK.aq->gK.aq<=m+f->gK.aq<=m+f'->yd x u f m=yd ⟨gK.aJ⟩ 0 f' m:=by
 revert hP hr hu
 revert x u gK aU
 intros x u gK aU
 intro hP hr hu
 have hl:=By hP hu
 have hy:∀f' m,gK.aq<=m->yd ⟨gK.aJ⟩ 0 f' m=m:=λf' m h=>by
  cases f' with
  |lO=>rfl
  |kU f'=>rw[uu,aY (by rw[dD];exact Nat.fG h)]
 intro f
 induction f with
 |lO=>intro f' m h1 h2 h3;rw[hy f' m h2];rfl
 |kU f ih=>
  intro f' m h1 h2 h3
  rw[uu]
  rcases ou h1 with h|h
  ·refine eO (s9 (n:=f') (λe=>by rw[e]at h3;exact cO (bh h h3) (cQ m))) λg bG=>?_;obtain rfl:=bG
   rw[uu,bJ (show u+m<x.aq from hl▸bh (Nat.add_lt_add_left h u) (cu _ _)),bJ (show 0+m<(⟨gK.aJ⟩:Str).aq by rw[dD];exact h)]
   rw[show jP x u (u+m+1)=jP ⟨gK.aJ⟩ 0 (0+m+1) from(Al hP (e:=0) (m:=m+1) h).trans (by rw[dD]),ih g (m+1) h (aA h2 (aO (iK m f).symm)) (aA h3 (aO (iK m g).symm))]
  ·rw[hy f' m (aO h.symm)]
   by_cases hx:u+m<x.aq
   ·rw[bJ hx]
    rcases hr with rfl|⟨a,r,rfl,ha⟩
    ·exact cO hl (by rw[ak.length_nil];exact(λhn=>Lake.n3 [_,_,_,_] 1 (.v 1) (.a (.a (.v 0) (.v 3)) (.n 0)) 1 (.v 3) (.v 2) 1 (.a (.a (.v 0) (.v 2)) (.n 1)) (.v 1) rfl (aO hn) (aO (Eq.symm h)) hx))
    ·rw[Uc ha,aY aM.bK]
     show a∈jl x u (u+m+1)
     unfold jl
     rw[ak.drop_take,hP,h,show u+gK.aq+1 - u=gK.aq+1 by rw[dJ,jZ],ak.take_length_add_append]
     exact ak.bg _ (.dw _)
   ·rw[aY hx]
theorem Ud(hP:x.au.fX u=gK++aU)(hr:Zo aU)(hu:u<=x.aq):Cv x u true=Cv ⟨gK.aJ⟩ 0 true:=by
 revert hP hr hu
 revert x u gK aU
 intros x u gK aU
 intro hP hr hu
 haveI hl:=By hP hu
 haveI hg:yd x u (x.aq - u) 0=yd ⟨gK.aJ⟩ 0 ((⟨gK.aJ⟩:Str).aq - 0) 0:=Qt hP hr hu _ _ 0 (bC _) (by exact(aF λhn=>Lake.n3 [_,_,_,_,_] 1 (.a (.a (.n 0) (.v 4)) (.n 1)) (.v 2) 1 (.a (.a (.v 0) (.v 2)) (.v 3)) (.v 1) 1 (.v 1) (.a (.v 4) (.v 0)) rfl hn (aO (Eq.symm hl)) (Lake.Ra _ _))) (by rw[dD];exact bz _)
 have hm:yd ⟨gK.aJ⟩ 0 ((⟨gK.aJ⟩:Str).aq - 0) 0<=gK.aq:=by
  have:=Ti ⟨gK.aJ⟩ 0 ((⟨gK.aJ⟩:Str).aq - 0) 0 (bC _)
  rw[dD]at this;exact this
 unfold Cv
 dsimp only
 rw[hg]
 generalize yd ⟨gK.aJ⟩ 0 ((⟨gK.aJ⟩:Str).aq - 0) 0=M at hm
 rw[dD,show jP x u (u+M)=jP ⟨gK.aJ⟩ 0 M from Al hP (e:=0) hm,show jl x u (u+M)=jl ⟨gK.aJ⟩ 0 M from ET hP hm]
 cases hb:qH (jP ⟨gK.aJ⟩ 0 M) (M+1)with
 |none=>rfl
 |az e=>
  refine iU (Cy hb) λh1 h2=>?_
  have he:e<=M:=fC h1
  have hk:=DI (x:=⟨gK.aJ⟩) (u:=0) he
  rw[dD,dD]at hk
  rw[hk]at h2
  haveI h3:1<=e:=Kc (x:=⟨gK.aJ⟩) (u:=0) (e:=e) (bC _) (by rw[dD];exact h2)
  haveI e1:(x.au[u+e - 1]?==az 59)=(gK[e - 1]?==az 59):=by
   rw[Nat.add_sub_assoc h3]
   exact AS hP hr (λo=>o==az 59) (by decide) (by exact(aF λhn=>Lake.n4 [_,_,_,_] 1 (.a (.v 0) (.n 1)) (.v 3) 1 (.v 1) (.v 0) 1 (.a (.v 2) (.n 1)) (.a (.v 1) (.n 1)) 1 (.v 3) (.v 2) rfl hn hm h1 (lK _ _)))
  haveI e2:jP x u (u+e)=jP ⟨gK.aJ⟩ 0 e:=Al hP (e:=0) (by exact(aF λhn=>Lake.n3 [_,_,_] 1 (.a (.v 0) (.n 1)) (.v 2) 1 (.v 1) (.v 0) 1 (.a (.v 2) (.n 1)) (.a (.v 1) (.n 1)) rfl hn hm h1))
  haveI e3:jP x (u+e) (u+M)=jP ⟨gK.aJ⟩ e M:=Al hP hm
  dsimp only
  haveI e4:yF (x.au[u+e]?)=yF (gK[e]?):=AS hP hr yF (by decide) (aA he hm)
  rw[e1,e2,e3,e4,dD]
theorem Ue{al:Nat}(MV:al∈[34,39,62])(hP:x.au.fX u=gK++aU)(hr:aU=[]\/∃a r,aU=a::r/\a∈[38,al,32])(hu:u<=x.aq)(hx:∀k∈gK,k≠13/\k≠38/\k≠al):pH x u (az al) true=pI ⟨gK.aJ⟩:=by
 revert MV hP hr hu hx
 revert x u gK aU al
 intros x u gK aU al
 intro MV hP hr hu hx
 have MM:Zo aU:=hr.imp id λ⟨a,r,h1,h2⟩=>⟨a,r,h1,(ak.bV (ak.bV (show([34,39,62]:ak Nat).all (λal=>[38,al,32].all λa=>decide (a∈MD))=true by decide) al MV) a h2|>bX)⟩
 unfold pH pI
 rw[show(x.au[u]?==az 35)=(gK[0]?==az 35) from AS hP MM (λo=>o==az 35) (by decide) (i:=0) (bC _)]
 show _=if ur [9,10,12,32,60] (gK[0]?)=true\/gK[0]?=none then _ else if(gK[0]?==az 35)=true then _ else _
 have h1:x.au[u]?=(gK++aU)[0]?:=Kr hP 0
 cases h0:gK[0]? with
 |none=>
  haveI hp:gK=[]:=ak.pL (qk (ak.rU h0))
  subst hp
  rw[bJ (by
   rw[h1]
   rcases hr with rfl|⟨a,r,rfl,ha⟩
   ·rfl
   ·exact ak.bV (ak.bV (show([34,39,62]:ak Nat).all (λal=>[38,al,32].all λa=>zq (az al) (az a))=true by decide+dK) al MV) a ha),bJ (.inr rfl)]
 |az k=>
  haveI h2:x.au[u]?=az k:=by rw[h1,ak.jh (ak.cz h0).1,h0]
  rw[h2]
  refine zN (hx k (ak.cg h0)) λk13 Ms kal=>?_
  have e:zq (az al) (az k)=true↔ur [9,10,12,32,60] (az k)=true:=by
   show((decide (k∈[9,10,12,32]++[13])||(k==60||k==38))||al==k)=true↔decide (k∈[9,10,12,32]++[60])=true
   rw[eK Ms,eK (Ne.symm kal),aM.oW,aM.oW,aM.lJ,cA,cA,ak.mem_append,ak.mem_append,iX,ak.uy,ak.uy]
   exact⟨λh=>h.g9 (λh=>h.g9 .inl λh=>cO h k13) .inr,λh=>h.g9 (λh=>.inl (.inl h)) .inr⟩
  by_cases h:ur [9,10,12,32,60] (az k)=true
  ·rw[bJ (e.mpr h),bJ (.inl h)]
  ·rw[aY (show ¬zq (az al) (az k)=true from λz=>h (e.mp z)),aY (show ¬(ur [9,10,12,32,60] (az k)=true\/az k=none) from λz=>z.g9 h λz=>nomatch z)]
   by_cases VA:(az k==az 35)=true
   ·rw[bJ VA,bJ VA]
    exact Ub hP MM (by rw[h0];exact bM az (cL (show(k==35)=true from VA)))
   ·rw[aY VA,aY VA,<-named_eq]
    exact Ud hP MM hu
end
def acd:V:=qR (aj "invalid-codepoint")
def ace:V:=qR (aj "unexpected-character-in-unquoted-attribute-value")
theorem Jo(x:Str):(pI x).es.aq<=2:=by
 haveI ite:∀{p:Prop}[Decidable p]{a b:ER},a.es.aq<=2->b.es.aq<=2->(if p then a else b).es.aq<=2:=λha hb=>by split;exact ha;exact hb
 unfold pI
 refine ite (by decide) (ite ?_ ?_)
 ·unfold u7
  refine ite ?_ (by show 1<=2;decide)
  show((_:ak V)++(_:ak V)).aq<=2
  rw[ak.aX]
  exact bI (Cu _) (Px _ _)
 ·unfold Jm Di
  exact ite (by show 1<=2;decide) (ite (by show 0<=2;decide) (ite (by show 1<=2;decide) (by show 1<=2;decide)))
def Hi(qd:aM)(k:Nat):ak V:=if(k==0)=true then[acd]else if(!qd&&ur vA (az k))=true then[ace]else[]
def YF(k:Nat):Nat:=if(k==0)=true then 65533 else k
def Dj(qd:aM)(l:ak Nat):ak V:=l.flatMap (Hi qd)
def CQ(l:ak Nat):Str:=⟨(fM YF).aJ⟩
def YG(qd:aM)(p:ak Nat):ak V:=(pI ⟨p.aJ⟩).es++Dj qd (p.fX (pI ⟨p.aJ⟩).oF)
def Qu(p:ak Nat):Str:=(pI ⟨p.aJ⟩).out++CQ (p.fX (pI ⟨p.aJ⟩).oF)
def EU(qd:aM)(ps:ak (ak Nat)):ak V:=ps.flatMap (YG qd)
def CR:ak (ak Nat)->Str
 |[]=>⟨#[]⟩
 |p::r=>Qu p++CR r
theorem uX(a:Str):a++(⟨#[]⟩:Str)=a:=by
 show(⟨a.cps++#[]⟩:Str)=a
 rw[dX.append_empty]
theorem uY(a:Str):(⟨#[]⟩:Str)++a=a:=by
 show(⟨#[]++a.cps⟩:Str)=a
 rw[dX.empty_append]
theorem r9(a b c:Str):a++b++c=a++(b++c):=by
 show(⟨a.cps++b.cps++c.cps⟩:Str)=⟨a.cps++(b.cps++c.cps)⟩
 rw[dX.cV]
theorem EV(a b:ak Nat):CQ (a++b)=CQ a++CQ b:=by
 unfold CQ
 rw[ak.ie]
 show _=(⟨(a.map YF).aJ++(b.map YF).aJ⟩:Str)
 rw[ak.wH]
theorem Ks(qd:aM)(a b:ak Nat):Dj qd (a++b)=Dj qd a++Dj qd b:=ak.flatMap_append
def zu(c:Cx)(x:Str)(cf:Cf)(q:ak V)(Hw:Cf):Prop:=∀Rf i,(∃k,Run c x Rf k Hw i)->∃k,Run c x Rf k cf (q++i)
theorem zu.sI{c:Cx}{x:Str}{cf:Cf}:zu c x cf [] cf:=λz9 z9 h=>h
theorem zu.one{c:Cx}{x:Str}{cf Hw:Cf}{q:ak V}(g:Go c x cf Hw q):zu c x cf q Hw:=λRf i⟨k,h⟩=>⟨k+1,.inr ⟨q,Hw,i,rfl,g,h⟩⟩
theorem zu.trans{c:Cx}{x:Str}{a b d:Cf}{p q:ak V}(h:zu c x a p b)(h':zu c x b q d):zu c x a (p++q) d:=λRf i k=>by
 rw[ak.cV];exact h Rf _ (h' Rf i k)
theorem YH{e:Nat}{tl:ak Nat}:∀{w t:ak Nat},w<+:t++e::tl->e∉w->w<+:t:=by
 intro w
 induction w with
 |nil=>exact λz9 z9=>ak.nil_prefix
 |br a w ih=>
  intro t h he
  cases t with
  |nil=>
   rw[ak.jw]at h
   exact cO (ak.cons_prefix_cons.mp h).1 λq=>he (q▸.dw _)
  |br b t=>
   rw[ak.p7]at h
   refine iU (ak.cons_prefix_cons.mp h) λh1 h2=>?_
   exact ak.cons_prefix_cons.mpr ⟨h1,ih h2 λm=>he (.cI _ m)⟩
theorem nH{x:Str}{u s:Nat}{l:ak Nat}(h:x.au.fX u=s::l):x.au[u]?=az s/\x.au.fX (u+1)=l:=by
 refine⟨?_,?_⟩
 ·have:=bM (·[0]?) h
  rw[ak.pA]at this
  exact this
 ·rw[<-ak.drop_drop,h];rfl
theorem v9{x:Str}{u:Nat}{a b:ak Nat}(h:x.au.fX u=a++b):x.au.fX (u+a.aq)=b:=by
 rw[<-ak.drop_drop,h,ak.drop_left]
section
variable{c:Cx}{x:Str}{g:Addr}{al:Nat}{qd:Bool}{ends:List Nat}{TG:Str->List AO}
theorem EY(MV:al∈[34,39,62])(hae:al∈ends)(MU:x.aq<=60)
  (YI:∀u av,av.aq<=2000->x.au[u]?=az 38->(pH x (u+1) (az al) true).es.aq<=4000->Go c x ⟨g,u,.ob 6,TG av⟩ ⟨g,u+1+(pH x (u+1) (az al) true).oF,.ob 6,TG (av++(pH x (u+1) (az al) true).out)⟩ (pH x (u+1) (az al) true).es)
  (YJ:∀u av,av.aq<=2000->x.au[u]?=az 0->Go c x ⟨g,u,.ob 6,TG av⟩ ⟨g,u+1,.ob 6,TG (av++⟨#[65533]⟩)⟩ [acd])
  (YK:∀u av s,av.aq<=2000->x.au[u]?=az s->s≠0->s≠38->s∉ends->∃w,w<+:x.au.fX (u+1)/\(∀k∈w,k≠0/\k≠38/\k∉ends/\Hi qd k=[])/\Go c x ⟨g,u,.ob 6,TG av⟩ ⟨g,u+1+w.aq,.ob 6,TG (av++⟨(s::w).aJ⟩)⟩ (Hi qd s))
  {e:Nat}{tl:ak Nat}(he:e∈[38,al,32])(hee:e∈ends):
  ∀(n:Nat)(txt:ak Nat)(u:Nat)(av:Str)(p:ak Nat)(ps:ak (ak Nat)),txt.aq<=n->u<=x.aq->x.au.fX u=txt++e::tl->(∀k∈txt,k≠13/\k∉ends)->oU 38 txt=p::ps->av.aq+70 * txt.aq<=2000->
  zu c x ⟨g,u,.ob 6,TG av⟩ (Dj qd p++EU qd ps) ⟨g,u+txt.aq,.ob 6,TG (av++CQ p++CR ps)⟩:=by
 revert MV hae MU YI YJ YK he hee
 revert c x g al qd ends TG e tl
 intros c x g al qd ends TG e tl
 intro MV hae MU YI YJ YK he hee
 intros n
 induction n with
 |lO=>
  intro txt u av p ps hn _ hd hk hc ha
  obtain rfl:txt=[]:=ak.pL (qk hn)
  cases hc
  show zu c x _ [] ⟨g,u,.ob 6,TG (av++⟨#[]⟩++⟨#[]⟩)⟩
  rw[uX,uX]
  exact .sI
 |kU n ih=>
  intro txt u av p ps hn hu hd hk hc ha
  cases txt with
  |nil=>
   cases hc
   show zu c x _ [] ⟨g,u,.ob 6,TG (av++⟨#[]⟩++⟨#[]⟩)⟩
   rw[uX,uX]
   exact .sI
  |br s t=>
   have Ep:x.au.fX u=s::(t++e::tl):=hd
   refine iU (nH Ep) λiV Hj=>?_
   have lM:=jf iV
   have hn':t.aq<=n:=eN hn
   have ha0:av.aq<=2000:=aA (cu _ _) ha
   have L4:av.aq+70+70 * t.aq<=2000:=by
    rw[ak.kM,s8]at ha
    rw[dJ,eZ 70];exact ha
   have hkt:∀k∈t,k≠13/\k∉ends:=λk m=>hk k (.cI _ m)
   by_cases Jp:s=38
   ·subst Jp
    rw[qo]at hc
    refine iU (ak.br.inj hc) λfY bG=>?_;obtain rfl:=fY;obtain rfl:=bG
    refine E1 (v8 38 t) λc1 Ug h1=>?_
    refine uE (MC 38 _ c1 Ug h1) λaU hP pU hr=>?_
    have hP2:x.au.fX (u+1)=c1++(aU++e::tl):=by rw[Hj,hP,ak.cV]
    have hl:=Ue MV hP2 (by
     rcases hr with⟨rfl,_⟩|⟨r,rfl,_⟩
     ·exact .inr ⟨e,tl,rfl,he⟩
     ·exact .inr ⟨38,_,rfl,.dw _⟩) lM λk m=>by
      have:=hkt k (hP▸ak.bA _ m)
      exact⟨this.1,pU k m,λq=>this.2 (q▸hae)⟩
    have hg:=YI u av ha0 iV
    have ho:=GN x (u+1) (az al) true
    rw[hl]at hg ho
    have hus:(pI ⟨c1.aJ⟩).oF<=c1.aq:=Hh ⟨c1.aJ⟩
    have Zp:(t.fX (pI ⟨c1.aJ⟩).oF)=c1.fX (pI ⟨c1.aJ⟩).oF++aU:=by rw[hP,ak.jJ hus]
    have hut:(pI ⟨c1.aJ⟩).oF<=t.aq:=by rw[hP,ak.aX];exact aA hus (cu _ _)
    have jW:=By (u:=u+1) Hj lM
    have key:=ih (t.fX (pI ⟨c1.aJ⟩).oF) (u+1+(pI ⟨c1.aJ⟩).oF) (av++(pI ⟨c1.aJ⟩).out) (c1.fX (pI ⟨c1.aJ⟩).oF) Ug (aA (by rw[ak.gX];exact lK _ _) hn')
     (by rw[jW];exact aA (bH hut _) (cu _ _))
     (by rw[<-ak.drop_drop,Hj,ak.jJ hut])
     (λk m=>hkt k (ak.vh m)) (by rw[Zp];exact Qo hr λk m=>pU k (ak.vh m))
     (by
      rw[j4,ak.gX]
      exact aA (bI (bH (aA ho (dz MU 10)) _) (dG 70 (lK _ _))) L4)
    have Wy:=hg (aA (Jo _) (by decide))
    have h2:=(zu.one Wy).trans key
    rw[h1]
    rw[show u+1+(pI ⟨c1.aJ⟩).oF+(t.fX (pI ⟨c1.aJ⟩).oF).aq=u+(38::t).aq by
     rw[ak.gX,dJ,kB hut,ak.kM,dJ,eZ 1]]at h2
    rw[show av++CQ []++CR (c1::Ug)=av++(pI ⟨c1.aJ⟩).out++CQ (c1.fX (pI ⟨c1.aJ⟩).oF)++CR Ug by
     show av++⟨#[]⟩++((pI ⟨c1.aJ⟩).out++CQ _++CR Ug)=_
     rw[uX,<-r9,<-r9]]
    rw[show Dj qd []++EU qd (c1::Ug)=(pI ⟨c1.aJ⟩).es++(Dj qd (c1.fX (pI ⟨c1.aJ⟩).oF)++EU qd Ug) by
     show(_++Dj qd _)++EU qd Ug=_
     rw[ak.cV]]
    exact h2
   ·refine E1 (v8 38 t) λc1 Ug h1=>?_
    by_cases h0:s=0
    ·subst h0
     have VB:=Ak 38 t h1 [0] λk m=>by rw[ak.bR m];decide
     rw[ak.singleton_append,hc]at VB
     refine iU (ak.br.inj VB) λfY bG=>?_;obtain rfl:=fY;obtain rfl:=bG
     have key:=ih t (u+1) (av++⟨#[65533]⟩) c1 ps hn' lM Hj hkt h1 (by rw[j4];exact aA (dz (bH (show 1<=70 by decide) _) _) L4)
     have h2:=(zu.one (YJ u av ha0 iV)).trans key
     rw[show u+(0::t).aq=u+1+t.aq by rw[ak.kM,dJ,eZ 1],show av++CQ ([0]++c1)++CR ps=av++⟨#[65533]⟩++CQ c1++CR ps by rw[EV,<-r9];rfl]
     exact h2
    ·refine uE (YK u av s ha0 iV h0 Jp (hk s (.dw _)).2) λw hw1 Zk hw3=>?_
     rw[Hj]at hw1
     refine eO (YH hw1 λm=>(Zk e m).2.2.1 hee) λt2 bG=>?_;obtain rfl:=bG
     refine E1 (v8 38 t2) λc2 cs2 h3=>?_
     have VB:=Ak 38 t2 h3 (s::w) λk m=>by
      rcases ak.bB m with rfl|m
      ·exact Jp
      ·exact(Zk k m).2.1
     rw[ak.p7,hc]at VB
     refine iU (ak.br.inj VB) λfY bG=>?_;obtain rfl:=fY;obtain rfl:=bG
     have hlw:(w++t2).aq=w.aq+t2.aq:=ak.aX
     have jW:=By (u:=u+1) Hj lM
     have key:=ih t2 (u+1+w.aq) (av++⟨(s::w).aJ⟩) c2 ps (aA (by rw[hlw];exact g7 _ _) hn')
      (by rw[jW,hlw];exact aA (bH (cu _ _) _) (cu _ _))
      (by rw[<-ak.drop_drop,Hj,ak.cV,ak.drop_left]) (λk m=>hkt k (ak.bg _ m)) h3
      (by
       rw[j4,show(⟨(s::w).aJ⟩:Str).aq=w.aq+1 from ak.bZ ..]
       rw[hlw,Nat.mul_add]at L4
       exact aA (aA (dz (bH (show w.aq+1<=70+70 * w.aq from by rw[eZ];exact bI (by decide) (Nat.le_mul_of_pos_left _ (by decide))) _) _) (aO (by rw[<-dJ,dJ (av.aq+70)]))) L4)
     have h2:=(zu.one hw3).trans key
     have hsO:∀k:Nat,k≠0->YF k=k:=λk h=>aY λq=>h (cL q)
     have hO:CQ (s::w)=⟨(s::w).aJ⟩:=by
      unfold CQ
      rw[(ak.wB (l:=s::w) (g:=id) λk m=>hsO k (by
       rcases ak.bB m with rfl|m
       ·exact h0
       ·exact(Zk k m).1)).trans (ak.map_id _)]
     have hE:Dj qd (s::w)=Hi qd s:=by
      unfold Dj
      rw[ak.flatMap_cons,ak.flatMap_eq_nil_iff.mpr λk m=>(Zk k m).2.2.2,ak.eu]
     rw[show u+(s::(w++t2)).aq=u+1+w.aq+t2.aq by rw[ak.kM,hlw,dJ (u+1),dJ u 1,eZ 1],show CQ ((s::w)++c2)=_ from EV _ _,show Dj qd ((s::w)++c2)=_ from Ks _ _ _,hO,hE,<-r9,ak.cV]
     exact h2
end
theorem Ku(x:Str):(pI x).out.aq<=x.aq+10:=by
 unfold pI
 split
 ·show(aj "&").aq<=_
  rw[show(aj "&").aq=1 by kernel_rfl];exact aA (by decide:1<=10) (g7 _ _)
 ·split
  ·exact GK x 0
  ·rw[<-named_eq];exact GL x 0 true
theorem Uh(qd:aM)(k:Nat):(Hi qd k).aq<=1:=by
 unfold Hi
 split
 ·exact bz _
 ·split
  ·exact bz _
  ·exact bC _
theorem Kv(qd:aM)(l:ak Nat):(Dj qd l).aq<=l.aq:=by
 induction l with
 |nil=>exact bz _
 |br k l ih=>
  show(Hi qd k++Dj qd l).aq<=l.aq+1
  rw[ak.aX,eZ]
  exact bI ih (Uh qd k)
theorem Kw(l:ak Nat):(CQ l).aq=l.aq:=by
 show(fM YF).aJ.dM=_
 rw[ak.bZ,ak.bT]
theorem Ui(qd:aM){p:ak Nat}(h:p.aq<=20):(YG qd p).aq<=22:=by
 unfold YG
 rw[ak.aX,eZ]
 exact bI (aA (Kv _ _) (aA (by rw[ak.gX];exact lK _ _) h)) (Jo _)
theorem Uj{p:ak Nat}(h:p.aq<=20):(Qu p).aq<=50:=by
 unfold Qu
 rw[j4,Kw,ak.gX]
 exact bI (aA (Ku _) (dz (aA (aO (ak.bZ ..)) h) 10)) (aA (lK _ _) h)
theorem Ky(qd:aM){ps:ak (ak Nat)}(h:∀p∈ps,p.aq<=20):(EU qd ps).aq<=22 * ps.aq:=by
 induction ps with
 |nil=>exact bz _
 |br p ps ih=>
  show(YG qd p++EU qd ps).aq<=22 * (ps.aq+1)
  rw[ak.aX,s8,eZ]
  exact bI (ih λq m=>h q (.cI _ m)) (Ui qd (h p (.dw _)))
theorem Uk{ps:ak (ak Nat)}(h:∀p∈ps,p.aq<=20):(CR ps).aq<=50 * ps.aq:=by
 induction ps with
 |nil=>exact bz _
 |br p ps ih=>
  show(Qu p++CR ps).aq<=50 * (ps.aq+1)
  rw[j4,s8,eZ]
  exact bI (ih λq m=>h q (.cI _ m)) (Uj (h p (.dw _)))
theorem Qv(qd:aM)(ps:ak (ak Nat))(p:ak Nat):EU qd (ps++[p])=EU qd ps++YG qd p:=by
 unfold EU
 rw[ak.flatMap_append,ak.flatMap_cons,ak.flatMap_nil,ak.eu]
theorem Qw(ps:ak (ak Nat))(p:ak Nat):CR (ps++[p])=CR ps++Qu p:=by
 induction ps with
 |nil=>show Qu p++⟨#[]⟩=⟨#[]⟩++Qu p;rw[uX,uY]at⊢
 |br q ps ih=>show Qu q++CR (ps++[p])=Qu q++CR ps++Qu p;rw[ih,r9]at⊢
def YL(x:Str)(qd:aM)(rd:Str)(pt to pc us sg:aH V):Loc:=[(aj "value",az (.str x)),(aj "quoted",az (.bF qd)),(aj "due",az (.lo 0)),(aj "read",az (.str rd)),(aj "part",pt),(aj "told",to),(aj "piece",pc),(aj "used",us),(aj "sign",sg)]
def LRa(x:Str)(qd:aM)(du:ak V)(rd:Str)(W:ak AO)(z1:Loc)(z2:ak AO)(z3:ak AO):Prop:=∀G:Loc->ak AO->ak AO->Prop,(∀(pt to pc us sg:aH V),G (YL x qd rd pt to pc us sg) [.aR du] W)->G z1 z2 z3
theorem LRa.mk{x:Str}{qd:aM}{du:ak V}{rd:Str}{W:ak AO}(pt to pc us sg:aH V):LRa x qd du rd W (YL x qd rd pt to pc us sg) [.aR du] W:=λz9 z=>z pt to pc us sg
theorem Qx(a:V)(l:ak V):sl (a::l) (az 1) none=l:=by
 unfold sl
 rw[show(az (1:Int)).g9 0 (jI (a::l).aq)=min 1 (a::l).aq from m7 _ 1,aV (show 1<=(a::l).aq from dZ (bC _))]
 show ak.eL ((l.aq+1) - 1) l=l
 exact ak.dW (bz _)
def ME(v:V):Prop:=v.gB=true/\v.dep<=3/\v.j7=true
theorem sH(s:Str):ME (qR s):=⟨rfl,aD rfl,rfl⟩
theorem Qy(n:Int):ME (Bm n):=⟨rfl,aD rfl,rfl⟩
def rD(l:ak V):Prop:=∀v∈l,ME v
theorem uZ{l:ak V}(h:rD l):V.qF l=true/\V.depL l<=3/\V.gW l=true:=by
 induction l with
 |nil=>exact⟨rfl,bC _,rfl⟩
 |br v l ih=>
  haveI h1:=h v (.dw _)
  haveI h2:=ih λw m=>h w (.cI _ m)
  show(v.gB&&V.qF l)=true/\max v.dep (V.depL l)<=3/\(v.j7&&V.gW l)=true
  rw[h1.1,h2.1,h1.2.2,h2.2.2]
  exact⟨rfl,Nat.max_le.mpr ⟨h1.2.1,h2.2.1⟩,rfl⟩
theorem rD.app{a b:ak V}(ha:rD a)(hb:rD b):rD (a++b):=λv hv=>(ak.cJ hv).g9 (ha v) (hb v)
theorem rD.one{a:V}(h:ME a):rD [a]:=λv hv=>by rw[ak.bR hv];exact h
theorem rD.nil:rD []:=λz9 h=>nomatch h
theorem rD.ite{b:Prop}[Decidable b]{l l':ak V}(h:rD l)(h':rD l'):rD (if b then l else l'):=by split;exact h;exact h'
theorem Jq(n:Int):rD (k6 n):=by
 unfold k6
 exact .ite (.one (Qy n)) .nil
theorem Ul(x:Str):rD (pI x).es:=by
 haveI ite:∀{p:Prop}[Decidable p]{a b:ER},rD a.es->rD b.es->rD (if p then a else b).es:=λha hb=>by split;exact ha;exact hb
 unfold pI
 refine ite .nil (ite ?_ ?_)
 ·unfold u7
  exact ite (.app (Jq _) (.ite .nil (.one (sH _)))) (.one (sH _))
 ·unfold Jm Di
  exact ite (.one (sH _)) (ite .nil (ite (.one (sH _)) (.one (sH _))))
theorem Um(qd:aM)(l:ak Nat):rD (Dj qd l):=λv hv=>by
 refine gg (ak.mem_flatMap.mp hv) λk bG hv=>?_
 exact(rD.ite (.one (sH _)) (.ite (.one (sH _)) .nil):rD (Hi qd k)) v hv
theorem Kz(qd:aM)(ps:ak (ak Nat)):rD (EU qd ps):=λv hv=>by
 refine gg (ak.mem_flatMap.mp hv) λp bG hv=>?_
 exact(rD.app (Ul _) (Um qd _):rD (YG qd p)) v hv
def LRb(x:Str)(qd:aM)(du:ak V)(rd:Str)(pt to pc us:aH V)(W:ak AO)(z1:Loc)(z2:ak AO)(z3:ak AO):Prop:=∀G:Loc->ak AO->ak AO->Prop,(∀(sg:aH V),G (YL x qd rd pt to pc us sg) [.aR du] W)->G z1 z2 z3
theorem LRb.mk{x:Str}{qd:aM}{du:ak V}{rd:Str}{pt to pc us:aH V}{W:ak AO}(sg:aH V):LRb x qd du rd pt to pc us W (YL x qd rd pt to pc us sg) [.aR du] W:=λz9 z=>z sg
theorem CJ(c:Cx)(hK:gM=top.heap_1 aL)(x:Str)(sg:Str)(s:Nat)(hs:sg=⟨#[s]⟩)(hx:x.aq<=1000)(W:ak AO):jO c 2 850 [.str x,.str sg] W (.aR (Hf s x)) W:=hs▸MB c hK x s hx W
theorem Jr(c:Cx)(hK:gM=top.heap_1 aL)(x:Str)(qd:aM)(hx:x.aq<=20)(W:ak AO):jO c 4 857 [.str x,.bF qd] W (.tup [.aR (EU qd (oU 38 x.au).cI),.str (CR (oU 38 x.au).cI)]) W:=by
 revert hK hx
 revert c x qd W
 intros c x qd W
 intro hK hx
 refine pF (bs:=[(aj "value",.str x),(aj "quoted",.bF qd)]) (cG:=[aj "due",aj "read",aj "part",aj "told",aj "piece",aj "used",aj "sign"]) hK (nK hK) rfl rfl rfl (by kernel_rfl) (by kernel_rfl) (nU (λs X a b=>bf rfl) .nil) ?_
 intro κ hf hQ hN hX
 have hx1:x.aq<=1000:=aA hx (by decide)
 refine E1 (v8 38 x.au) λc0 cs hc=>?_
 have L1:=CG 38 x.au
 have L2:=CH 38 x.au
 rw[hc,dh]at L1
 rw[hc,dh]at L2
 rw[ak.kM]at L1
 have hcs:∀p∈cs,p.aq<=20:=λp hp=>aA (L2 p (.cI _ hp)) hx
 have hcl:cs.aq<=20:=aA (eN L1) hx
 rw[hc,ak.tail_cons]at hQ
 refine cX 99 (m':=.cl _ _ _ _ _ _) rfl rfl ?_
 refine fW (CJ c hK x _ 38 (by kernel_rfl) hx1 W) rfl rfl ?_
 rw[CF,hc,ak.yP]
 refine mq 99 (m':=.rt _ _ _ _ _) rfl rfl ?_ ?_
 ·rw[ak.kM,ak.bT];exact aA (dZ hcl) (by decide)
 rw[Qx]
 refine Gg .aR (z0 (λi=>LRa x qd (EU qd (cs.eL i)) (CR (cs.eL i)) W) (.mk none none none none none) ?_ ?_)
 ·intro i _ _ _ u hu hJ mF tn tc tb tr
  rw[ak.iI]at hu
  refine gg (aH.iH hu) λp hp ig=>?_;obtain rfl:=ig
  have Vj:p.aq<=20:=hcs p (ak.cg hp)
  have hpx:(⟨p.aJ⟩:Str).aq<=20:=aA (aO (ak.bZ ..)) Vj
  have YB:cs.eL (i+1)=cs.eL i++[p]:=by rw[ak.jM,hp];rfl
  have hct:∀q∈cs.eL i,q.aq<=20:=λq m=>hcs q (ak.o8 m)
  have hcn:(cs.eL i).aq<=20:=by rw[ak.eX];exact aA (iL ..) hcl
  have hD:(EU qd (cs.eL i)).aq<=440:=aA (Ky qd hct) (dG 22 hcn)
  have hS:(CR (cs.eL i)).aq<=1000:=aA (Uk hct) (dG 50 hcn)
  rw[YB,Qv,Qw]at tn
  generalize EU qd (cs.eL i)=D at hJ tn hD
  generalize CR (cs.eL i)=S at hJ tn hS
  apply hJ;clear hJ;intro pt to pc us sg
  unfold YL
  refine cX 99 (m':=.cl _ _ _ _ _ _) rfl rfl ?_
  refine fW (Bo c hK ⟨p.aJ⟩ (aA hpx (by decide)) W) rfl rfl ?_
  unfold YG Qu at tn
  have Yu:=Jo ⟨p.aJ⟩
  have hus:=Hh ⟨p.aJ⟩
  have hou:=Ku ⟨p.aJ⟩
  generalize pI ⟨p.aJ⟩=R at tn Yu hus hou⊢
  refine cX 7 (m':=.rt _ _ _ _ _) rfl rfl ?_
  have ach:R.es.aq<=2:=Yu
  have SG:R.out.aq<=30:=aA hou (dz hpx 10)
  refine O0 (j:=0) rfl .aR (aA (bI hD ach) (by decide)) (.cI (.cI .dw)) ?_
  refine go _ _ 99 (m':=.rt _ _ _ _ _) rfl ⟨qG (aA (bI hS SG) (by decide)),aA hpx (by decide),trivial⟩ ?_
  rw[Gw ⟨p.aJ⟩ R.oF hus]
  have X0:(p.fX R.oF).aq<=20:=aA (by rw[ak.gX];exact lK _ _) Vj
  generalize p.fX R.oF=ld at tn X0⊢
  refine Gg .str (z0 (λj=>LRb x qd (D++R.es++Dj qd (ld.eL j)) (S++R.out++CQ (ld.eL j)) (az (.str ⟨p.aJ⟩)) (az (.aR R.es)) (az (.str R.out)) (az (.int R.oF)) W) ?_ ?_ ?_)
  ·show LRb x qd (D++R.es++[]) (S++R.out++⟨#[]⟩) _ _ _ _ W _ _ _
   rw[ak.eu,uX]
   exact .mk sg
  ·intro j _ _ _ u hu hJ QW sn sc sb sr
   rw[ak.iI]at hu
   refine gg (aH.iH hu) λk hk ig=>?_;obtain rfl:=ig
   have hk:ld[j]?=az k:=hk
   have hn:ld.eL (j+1)=ld.eL j++[k]:=by rw[ak.jM,hk];rfl
   have hE:(D++R.es++Dj qd (ld.eL j)).aq<=500:=by
    rw[ak.aX,ak.aX]
    exact aA (bI (bI hD ach) (aA (Kv _ _) (aA (by rw[ak.eX];exact iL ..) X0))) (by decide)
   have hO:(S++R.out++CQ (ld.eL j)).aq<=1100:=by
    rw[j4,j4,Kw]
    exact aA (bI (bI hS SG) (aA (by rw[ak.eX];exact iL ..) X0)) (by decide)
   rw[hn,Ks,EV,<-ak.cV,<-r9]at sn
   generalize D++R.es++Dj qd (ld.eL j)=D2 at hJ sn hE
   generalize S++R.out++CQ (ld.eL j)=S2 at hJ sn hO
   rw[show Dj qd [k]=Hi qd k from ak.eu _,show CQ [k]=⟨#[YF k]⟩ from rfl]at sn
   apply hJ;clear hJ;intro sg'
   unfold YL
   have o1:S2.aq+1<=fu:=qG (aA (dZ hO) (by decide))
   have o2:D2.aq<=10000:=aA hE (by decide)
   refine cX 3 (m':=.rt _ _ _ _ _) rfl rfl ?_
   rw[eq1 k (s:=aj "\x00") (j:=0) (by kernel_rfl)]
   unfold Hi YF at sn
   cases h0:(k==0)with
   |true=>
    rw[h0,bJ rfl,bJ rfl]at sn
    refine cX 99 (m':=.cl _ _ _ _ _ _) rfl rfl ?_
    refine fW (oR c hK _ _) rfl rfl ?_
    refine go _ _ 7 (m':=.ex _ _ _ _) rfl ⟨o2,o1,trivial⟩ ?_
    exact gU (sn _ _ _ (.mk _))
   |false=>
    rw[h0,aY aM.bK,aY aM.bK]at sn
    refine cX 3 (m':=.rt _ _ _ _ _) rfl rfl ?_
    rw[show([V.str (aj "\""),V.str (aj "'"),V.str (aj "="),V.str (aj "<"),V.str (aj "`")]:ak V)=vA.map (λk=>V.str ⟨#[k]⟩) by kernel_rfl,Mj]
    rw[show ur vA (az k)=decide (k∈vA) from rfl]at sn
    cases hs:(!qd&&decide (k∈vA))with
    |true=>
     rw[hs,bJ rfl]at sn
     refine cX 99 (m':=.cl _ _ _ _ _ _) rfl rfl ?_
     refine fW (oR c hK _ _) rfl rfl ?_
     refine go _ _ 99 (m':=.ex _ _ _ _) rfl ⟨o2,o1,trivial⟩ ?_
     exact gU (sn _ _ _ (.mk _))
    |false=>
     rw[hs,aY aM.bK,ak.eu]at sn
     refine go _ _ 99 (m':=.ex _ _ _ _) rfl ⟨o1,trivial⟩ ?_
     exact gU (sn _ _ _ (.mk _))
  ·intro _ _ _ hJ
   rw[ak.bT,show(⟨ld.aJ⟩:Str).au.aq=ld.aq from rfl,ak.dW (bz _),ak.cV,r9]at hJ
   apply hJ;clear hJ;intro sg'
   refine cX 0 (m':=.ex _ _ _ _) rfl rfl ?_
   exact gU (tn _ _ _ (.mk _ _ _ _ _))
 ·intro _ _ _ hJ
  rw[ak.bT,ak.dW (bz _)]at hJ
  have htk:=uZ (Kz qd cs)
  generalize EU qd cs=D at hQ hJ htk
  generalize CR cs=S at hQ hJ
  apply hJ;clear hJ;intro pt to pc us sg
  unfold YL
  refine cX 99 (m':=.rt _ _ _ _ _) rfl rfl ?_
  exact hQ _ _ _ _ _ (.tup (.br (.lol rfl (.eG htk.2.2)) (.eG rfl))) ⟨rfl,rfl⟩
def EZ(qd:aM)(v:ak Nat):ak V:=EU qd (oU 38 v).cI
def CK(v:ak Nat):Str:=CR (oU 38 v).cI
def Ba:Nat->ak Nat
 |0=>[34]
 |1=>[39]
 |_=>[]
def MF:Nat->ak Nat
 |0=>[34]
 |1=>[39]
 |_=>[9,10,12,32,62]
def YM:Nat->aQ
 |0=>584
 |1=>584
 |_=>577
theorem YN{cs:ak Nat}{k:Nat}(h:pchar cs false k=true):k∉cs:=λm=>by
 have:(decide (k∈cs)==false)=true:=h
 rw[cN m]at this
 cases this
theorem Qz{cs:ak Nat}{x:Str}{u k:Nat}(h:k∈yj cs false x u):k∉cs:=YN ((Qp (pchar cs false) (x.au.fX u)).2.2 k h)
theorem Js{cs:ak Nat}{x:Str}{u:Nat}:yj cs false x u<+:x.au.fX u:=ak.takeWhile_prefix _
theorem AU{k:Nat}(h:k≠0):Hi true k=[]:=by
 unfold Hi
 rw[aY λq=>h (cL q)];rfl
theorem nb{a b:Nat}(h:a≠b):(a==b)=false:=eK h
section
variable{c:Cx}(hK:c.K=top.heap_1 c.w.params){x:Str}(hx:x.length<=60){ty:Int}{nm:Str}{r:List (Str×V)}
include hK hx
theorem Un{ps:ak (Str×Str)}(tL:ps.aq<=2){an:Str}{tl:ak Nat}{v:ak Nat}{u:Nat}(hu:u<=x.aq)(hd:x.au.fX u=(38::v)++34::tl)(hk:∀k∈38::v,k≠13/\k∉[34])(Q5:(38::v).aq<=11):
  zu c x ⟨563,u,.ob 6,gI ty nm r (ps++[(an,aj "")])⟩ (EZ true (38::v)) ⟨563,u+(38::v).aq,.ob 6,gI ty nm r (ps++[(an,CK (38::v))])⟩:=by
 have VC:x.aq<=600:=aA hx (by decide)
 have key:=EY (c:=c) (x:=x) (g:=563) (al:=34) (qd:=true) (ends:=[34]) (TG:=λav=>gI ty nm r (ps++[(an,av)])) (by decide) (by decide) hx
  (λu av ha iV he=>⟨by kernel_rfl,bh (cD u) (cu _ _),he,λd t h=>I5 c hK h tL VC (bC _) ha iV⟩)
  (λu av ha iV=>⟨by kernel_rfl,cD u,by decide,λd t h=>I6 c hK h tL (bC _) ha iV⟩)
  (λu av s ha iV h0 Jp hs=>⟨yj (xm 34) false x (u+1),Js,λk m=>by
   have:=Qz m
   exact⟨λe=>this (e▸by decide+dK),λe=>this (e▸by decide+dK),λe=>this (by rw[ak.bR e];decide+dK),AU λe=>this (e▸by decide+dK)⟩,
   ⟨by kernel_rfl,bh (cD u) (cu _ _),by rw[AU h0];decide,λd t h=>by rw[AU h0];exact GQ c hK h tL VC ha iV (nb λe=>hs (e▸.dw _)) (nb Jp) (nb h0)⟩⟩)
  (e:=34) (tl:=tl) (by decide) (by decide) _ (38::v) u (aj "") [] (oU 38 v) (bz _) hu hd hk (qo 38 v) (by
   rw[show(aj "").aq=0 by kernel_rfl,dD]
   exact aA (dG 70 Q5) (by decide))
 rw[show aj ""++CQ []++CR (oU 38 v)=CK (38::v) by unfold CK;rw[qo,show aj ""=(⟨#[]⟩:Str) by kernel_rfl];show(⟨#[]⟩:Str)++⟨#[]⟩++_=_;rw[uY,uY];rfl,show Dj true []++EU true (oU 38 v)=EZ true (38::v) by unfold EZ;rw[qo];rfl]at key
 exact key
theorem Uo{ps:ak (Str×Str)}(tL:ps.aq<=2){an:Str}{tl:ak Nat}{v:ak Nat}{u:Nat}(hu:u<=x.aq)(hd:x.au.fX u=(38::v)++39::tl)(hk:∀k∈38::v,k≠13/\k∉[39])(Q5:(38::v).aq<=11):
  zu c x ⟨570,u,.ob 6,gI ty nm r (ps++[(an,aj "")])⟩ (EZ true (38::v)) ⟨570,u+(38::v).aq,.ob 6,gI ty nm r (ps++[(an,CK (38::v))])⟩:=by
 have VC:x.aq<=600:=aA hx (by decide)
 have key:=EY (c:=c) (x:=x) (g:=570) (al:=39) (qd:=true) (ends:=[39]) (TG:=λav=>gI ty nm r (ps++[(an,av)])) (by decide) (by decide) hx
  (λu av ha iV he=>⟨by kernel_rfl,bh (cD u) (cu _ _),he,λd t h=>I7 c hK h tL VC (bC _) ha iV⟩)
  (λu av ha iV=>⟨by kernel_rfl,cD u,by decide,λd t h=>I8 c hK h tL (bC _) ha iV⟩)
  (λu av s ha iV h0 Jp hs=>⟨yj (xm 39) false x (u+1),Js,λk m=>by
   have:=Qz m
   exact⟨λe=>this (e▸by decide+dK),λe=>this (e▸by decide+dK),λe=>this (by rw[ak.bR e];decide+dK),AU λe=>this (e▸by decide+dK)⟩,
   ⟨by kernel_rfl,bh (cD u) (cu _ _),by rw[AU h0];decide,λd t h=>by rw[AU h0];exact GR c hK h tL VC ha iV (nb λe=>hs (e▸.dw _)) (nb Jp) (nb h0)⟩⟩)
  (e:=39) (tl:=tl) (by decide) (by decide) _ (38::v) u (aj "") [] (oU 38 v) (bz _) hu hd hk (qo 38 v) (by
   rw[show(aj "").aq=0 by kernel_rfl,dD]
   exact aA (dG 70 Q5) (by decide))
 rw[show aj ""++CQ []++CR (oU 38 v)=CK (38::v) by unfold CK;rw[qo,show aj ""=(⟨#[]⟩:Str) by kernel_rfl];show(⟨#[]⟩:Str)++⟨#[]⟩++_=_;rw[uY,uY];rfl,show Dj true []++EU true (oU 38 v)=EZ true (38::v) by unfold EZ;rw[qo];rfl]at key
 exact key
theorem Uq{ps:ak (Str×Str)}(tL:ps.aq<=2){an:Str}{e:Nat}(he:e=32\/e=62){tl:ak Nat}{v:ak Nat}{u:Nat}(hu:u<=x.aq)(hd:x.au.fX u=(38::v)++e::tl)(hk:∀k∈38::v,k≠13/\k∉[9,10,12,32,62])(Q5:(38::v).aq<=11):
  zu c x ⟨577,u,.ob 6,gI ty nm r (ps++[(an,aj "")])⟩ (EZ false (38::v)) ⟨577,u+(38::v).aq,.ob 6,gI ty nm r (ps++[(an,CK (38::v))])⟩:=by
 have VC:x.aq<=600:=aA hx (by decide)
 have key:=EY (c:=c) (x:=x) (g:=577) (al:=62) (qd:=false) (ends:=gP++[62]) (TG:=λav=>gI ty nm r (ps++[(an,av)])) (by decide) (by decide+dK) hx
  (λu av ha iV he=>⟨by kernel_rfl,bh (cD u) (cu _ _),he,λd t h=>PI c hK h tL VC (bC _) ha iV⟩)
  (λu av ha iV=>⟨by kernel_rfl,cD u,by decide,λd t h=>PK c hK h tL (bC _) ha iV⟩)
  (λu av s ha iV h0 Jp hs=>by
   have ks:ur gP (az s)=false:=cK λm=>hs (ak.bA _ m)
   have Q3:(s==62)=false:=nb λe=>hs (e▸ak.bg _ (.dw _))
   cases kp:ur vA (az s)with
   |true=>
    have eE:Hi false s=[ace]:=by unfold Hi;rw[aY λq=>h0 (cL q),kp];rfl
    exact⟨[],ak.nil_prefix,(λz9 m=>nomatch m),⟨by kernel_rfl,cD u,by rw[eE];decide,λd t h=>by rw[eE];exact Mt c hK h tL (bC _) ha iV ks (nb Jp) Q3 kp⟩⟩
   |false=>
    have eE:Hi false s=[]:=by unfold Hi;rw[aY λq=>h0 (cL q),kp];rfl
    refine⟨yj GP false x (u+1),Js,λk m=>?_,⟨by kernel_rfl,bh (cD u) (cu _ _),by rw[eE];decide,λd t h=>by rw[eE];exact Mu c hK h tL VC ha iV ks (nb Jp) Q3 kp (nb h0)⟩⟩
    have:=Qz m
    have h1:∀a∈GP,k≠a:=λa ma e=>this (e▸ma)
    refine⟨h1 0 (by decide+dK),h1 38 (by decide+dK),λe=>this ?_,?_⟩
    ·rcases ak.cJ e with e|e
     ·exact ak.bg _ e
     ·rw[ak.bR e];decide+dK
    ·unfold Hi
     rw[aY λq=>h1 0 (by decide+dK) (cL q),show ur vA (az k)=false from cK λm=>this ((by decide+dK:∀a∈vA,a∈GP) k m)];rfl)
  (e:=e) (tl:=tl) (by rcases he with rfl|rfl<;>decide) (by rcases he with rfl|rfl<;>decide+dK) _ (38::v) u (aj "") [] (oU 38 v) (bz _) hu hd (λk m=>⟨(hk k m).1,λq=>by
   rcases ak.cJ q with q|q
   ·have:k∈[9,10,12,32]++[13]:=q
    rcases ak.cJ this with q|q
    ·exact(hk k m).2 (ak.bA [62] q)
    ·exact(hk k m).1 (ak.bR q)
   ·exact(hk k m).2 (ak.bg [9,10,12,32] q)⟩) (qo 38 v) (by
   rw[show(aj "").aq=0 by kernel_rfl,dD]
   exact aA (dG 70 Q5) (by decide))
 rw[show aj ""++CQ []++CR (oU 38 v)=CK (38::v) by unfold CK;rw[qo,show aj ""=(⟨#[]⟩:Str) by kernel_rfl];show(⟨#[]⟩:Str)++⟨#[]⟩++_=_;rw[uY,uY];rfl,show Dj false []++EU false (oU 38 v)=EZ false (38::v) by unfold EZ;rw[qo];rfl]at key
 exact key
end
def E5(n form:Nat)(v:ak Nat):ak Nat:=32::(98+n)::61::(Ba form++(v++Ba form))
def Q6(form:Nat):aM:=decide (form<2)
structure MW(a:Nat×ak Nat):Prop where
 f:a.1<3
 am:∃t,a.2=38::t
 l:a.2.aq<=11
 k:∀k∈a.2,k≠13/\k∉MF a.1
def oh:Nat->ak (Nat×ak Nat)->ak Nat
 |_,[]=>[]
 |n,a::r=>E5 n a.1 a.2++oh (n+1) r
def yI(ats:ak (Nat×ak Nat)):ak V:=ats.flatMap λa=>EZ (Q6 a.1) a.2
def sf(ats:ak (Nat×ak Nat)):ak Str:=ats.map λa=>CK a.2
theorem VD(u n:Nat):u+(1+(n+1)+1+1+1)=u+1+1+1+1+n+1:=by
 rw[eZ 1 (n+1)]
 exact bM (·+1) (Nat.sZ u 4 n).symm
section
variable{c:Cx}(hK:c.K=top.heap_1 c.w.params){x:Str}(hx:x.length<=60){ty:Int}{nm:Str}{r:List (Str×V)}
include hK
theorem QA{ct:V}{R:ak AO}{f:aQ}{u:Nat}(hf:f∈[367,584,577])(iV:x.au[u]?=az 32):Go c x ⟨f,u,ct,R⟩ ⟨535,u+1,ct,R⟩ []:=by
 rcases ak.bB hf with rfl|hf
 ·exact⟨by kernel_rfl,cD _,bC _,λd t h=>(Mr c hK h iV).up (by decide)⟩
 rcases ak.bB hf with rfl|hf
 ·exact⟨by kernel_rfl,cD _,bC _,λd t h=>EI c hK h iV⟩
 obtain rfl:=ak.bR hf
 exact⟨by kernel_rfl,cD _,bC _,λd t h=>I4 c hK h iV⟩
include hx
theorem Hl{vs:ak Str}(hv:vs.aq<=2){f:aQ}(hf:f∈[367,584,577]){a:Nat×ak Nat}(ha:MW a){u:Nat}{e:Nat}{tl:ak Nat}(he:e=32\/e=62)(hd:x.au.fX u=E5 vs.aq a.1 a.2++e::tl):
  zu c x ⟨f,u,.ob 6,gI ty nm r (o9 vs)⟩ (EZ (Q6 a.1) a.2) ⟨YM a.1,u+(E5 vs.aq a.1 a.2).aq,.ob 6,gI ty nm r (o9 (vs++[CK a.2]))⟩:=by
 revert hK hx hv hf ha he hd
 revert c x ty nm r vs f a u e tl
 intros c x ty nm r vs f a u e tl
 intro hK hx hv hf ha he hd
 obtain⟨form,v⟩:=a
 obtain⟨Q7,⟨w,hw⟩,hl,hk⟩:=ha
 dsimp only at Q7 hw hl hk hd⊢
 subst hw
 have tL:=Ke vs hv
 have K1:x.au.fX u=32::(98+vs.aq)::61::(Ba form++(38::w++Ba form)++e::tl):=hd
 obtain⟨x0,Hj⟩:=nH K1
 obtain⟨x1,hd2⟩:=nH Hj
 obtain⟨x2,MG⟩:=nH hd2
 have hu3:=jf x2
 have g0:=QA (c:=c) hK (ct:=.ob 6) (R:=gI ty nm r (o9 vs)) hf x0
 have g1:Go c x ⟨535,u+1,.ob 6,gI ty nm r (o9 vs)⟩ ⟨542,u+1+1,.ob 6,gI ty nm r (o9 (vs++[aj ""]))⟩ []:=⟨by kernel_rfl,cD _,bC _,λd t h=>(EG c hK h hv x1).up (by decide)⟩
 have g2:Go c x ⟨542,u+1+1,.ob 6,gI ty nm r (o9 (vs++[aj ""]))⟩ ⟨556,u+1+1+1,.ob 6,gI ty nm r (o9 (vs++[aj ""]))⟩ []:=⟨by kernel_rfl,cD _,bC _,λd t h=>(I0 c hK h hv x2).up (by decide)⟩
 have YO:=(zu.one g0).trans ((zu.one g1).trans (.one g2))
 rw[Cz hv]at YO
 rw[Cz hv]
 have fin:∀{cf:Cf}{q:ak V},zu c x ⟨556,u+1+1+1,.ob 6,gI ty nm r (o9 vs++[(⟨#[98+vs.aq]⟩,aj "")])⟩ q cf->zu c x ⟨f,u,.ob 6,gI ty nm r (o9 vs)⟩ q cf:=λh=>YO.trans h
 refine fin ?_
 clear YO g0 g1 g2 Hj hd2
 revert hk MG
 refine Yg ?_ ?_ ?_ Q7
 ·intro hk MG
  have Q8:x.au.fX (u+1+1+1)=34::((38::w)++34::(e::tl)):=by rw[MG];show 34::(38::w++[34]++e::tl)=_;rw[ak.cV];rfl
  obtain⟨x3,hd5⟩:=nH Q8
  have g3:Go c x ⟨556,u+1+1+1,.ob 6,gI ty nm r (o9 vs++[(⟨#[98+vs.aq]⟩,aj "")])⟩ ⟨563,u+1+1+1+1,.ob 6,gI ty nm r (o9 vs++[(⟨#[98+vs.aq]⟩,aj "")])⟩ []:=⟨by kernel_rfl,cD _,bC _,λd t h=>Df c hK h x3⟩
  have rv:=Un (c:=c) hK hx (ty:=ty) (nm:=nm) (r:=r) tL (an:=⟨#[98+vs.aq]⟩) (jf x3) hd5 hk hl
  obtain⟨x4,_⟩:=nH (v9 hd5)
  have g4:Go c x ⟨563,u+1+1+1+1+(38::w).aq,.ob 6,gI ty nm r (o9 vs++[(⟨#[98+vs.aq]⟩,CK (38::w))])⟩ ⟨584,u+1+1+1+1+(38::w).aq+1,.ob 6,gI ty nm r (o9 vs++[(⟨#[98+vs.aq]⟩,CK (38::w))])⟩ []:=⟨by kernel_rfl,cD _,bC _,λd t h=>I2 c hK h x4⟩
  have h:=(zu.one g3).trans (rv.trans (.one g4))
  rw[ak.eu]at h
  have el:u+(E5 vs.aq 0 (38::w)).aq=u+1+1+1+1+(38::w).aq+1:=by
   show u+(([34]++(38::w++[34])).aq+1+1+1)=_
   rw[ak.aX,ak.aX]
   exact VD u _
  rw[el]
  exact h
 ·intro hk MG
  have Q8:x.au.fX (u+1+1+1)=39::((38::w)++39::(e::tl)):=by rw[MG];show 39::(38::w++[39]++e::tl)=_;rw[ak.cV];rfl
  obtain⟨x3,hd5⟩:=nH Q8
  have g3:Go c x ⟨556,u+1+1+1,.ob 6,gI ty nm r (o9 vs++[(⟨#[98+vs.aq]⟩,aj "")])⟩ ⟨570,u+1+1+1+1,.ob 6,gI ty nm r (o9 vs++[(⟨#[98+vs.aq]⟩,aj "")])⟩ []:=⟨by kernel_rfl,cD _,bC _,λd t h=>Dg c hK h x3⟩
  have rv:=Uo (c:=c) hK hx (ty:=ty) (nm:=nm) (r:=r) tL (an:=⟨#[98+vs.aq]⟩) (jf x3) hd5 hk hl
  obtain⟨x4,_⟩:=nH (v9 hd5)
  have g4:Go c x ⟨570,u+1+1+1+1+(38::w).aq,.ob 6,gI ty nm r (o9 vs++[(⟨#[98+vs.aq]⟩,CK (38::w))])⟩ ⟨584,u+1+1+1+1+(38::w).aq+1,.ob 6,gI ty nm r (o9 vs++[(⟨#[98+vs.aq]⟩,CK (38::w))])⟩ []:=⟨by kernel_rfl,cD _,bC _,λd t h=>I3 c hK h x4⟩
  have h:=(zu.one g3).trans (rv.trans (.one g4))
  rw[ak.eu]at h
  have el:u+(E5 vs.aq 1 (38::w)).aq=u+1+1+1+1+(38::w).aq+1:=by
   show u+(([39]++(38::w++[39])).aq+1+1+1)=_
   rw[ak.aX,ak.aX]
   exact VD u _
  rw[el]
  exact h
 ·intro hk MG
  have Q8:x.au.fX (u+1+1+1)=(38::w)++e::tl:=by rw[MG];show(38::w++[])++e::tl=_;rw[ak.eu]
  obtain⟨x3,_⟩:=nH Q8
  have g3:Go c x ⟨556,u+1+1+1,.ob 6,gI ty nm r (o9 vs++[(⟨#[98+vs.aq]⟩,aj "")])⟩ ⟨577,u+1+1+1,.ob 6,gI ty nm r (o9 vs++[(⟨#[98+vs.aq]⟩,aj "")])⟩ []:=⟨by kernel_rfl,cD _,bC _,λd t h=>Dh c hK h x3⟩
  have rv:=Uq (c:=c) hK hx (ty:=ty) (nm:=nm) (r:=r) tL (an:=⟨#[98+vs.aq]⟩) he hu3 Q8 hk hl
  have h:=(zu.one g3).trans rv
  have el:u+(E5 vs.aq 2 (38::w)).aq=u+1+1+1+(38::w).aq:=by
   show u+(([]++(38::w++[])).aq+1+1+1)=_
   rw[ak.jw,ak.eu]
   exact(Nat.sZ u 3 (38::w).aq).symm
  rw[el]
  exact h
theorem KA:∀(ats:ak (Nat×ak Nat))(vs:ak Str)(f:aQ)(u:Nat),f∈[367,584,577]->vs.aq+ats.aq<=3->ats≠[]->(∀a∈ats,MW a)->x.au.fX u=oh vs.aq ats++[62]->
  ∃f',(f'=584\/f'=577)/\zu c x ⟨f,u,.ob 6,gI ty nm r (o9 vs)⟩ (yI ats) ⟨f',u+(oh vs.aq ats).aq,.ob 6,gI ty nm r (o9 (vs++sf ats))⟩:=by
 intro ats
 induction ats with
 |nil=>intro _ _ _ _ _ h;exact cO rfl h
 |br a l ih=>
  intro vs f u hf hl _ ho hd
  have hv:vs.aq<=2:=eN (aA (dZ (cu _ l.aq)) hl)
  have Ep:x.au.fX u=E5 vs.aq a.1 a.2++(oh (vs.aq+1) l++[62]):=by rw[hd];show _++_++_=_;rw[ak.cV]
  have hfe:YM a.1=584\/YM a.1=577:=by
   have:=(ho a (.dw _)).f
   exact Yg (P:=λf=>YM f=584\/YM f=577) (.inl rfl) (.inl rfl) (.inr rfl) this
  cases l with
  |nil=>
   have h:=Hl (c:=c) hK hx (ty:=ty) (nm:=nm) (r:=r) hv hf (ho a (.dw _)) (.inr rfl) (Ep.trans rfl)
   refine⟨YM a.1,hfe,?_⟩
   show zu c x _ (EZ (Q6 a.1) a.2++[]) _
   rw[ak.eu,show(oh vs.aq [a]).aq=(E5 vs.aq a.1 a.2).aq by show(_++[]).aq=_;rw[ak.eu]]
   exact h
  |br b l=>
   have h:=Hl (c:=c) hK hx (ty:=ty) (nm:=nm) (r:=r) hv hf (ho a (.dw _)) (e:=32) (.inl rfl) (Ep.trans rfl)
   have hn:(vs++[CK a.2]).aq=vs.aq+1:=ak.aX
   obtain⟨f',KQ,h2⟩:=ih (vs++[CK a.2]) (YM a.1) (u+(E5 vs.aq a.1 a.2).aq) (by rcases hfe with e|e<;>rw[e]<;>decide) (by rw[hn,dJ,eZ 1];exact hl) nofun (λb m=>ho b (.cI _ m)) (by rw[hn];exact v9 Ep)
   refine⟨f',KQ,?_⟩
   have h3:=h.trans h2
   rw[hn,ak.cV,dJ,<-ak.aX]at h3
   exact h3
end
def Q9(cl:aM)(ats:ak (Nat×ak Nat)):ak Nat:=60::((if cl then[47,97]else[97])++(oh 0 ats++[62]))
def Dk(cl:aM):ak V:=if cl then[GS,.ob 6]else[.ob 6]
def MH(cl:aM)(vs:ak Str):ak AO:=if cl then gI 4 ⟨#[97]⟩ AQ (o9 vs)else PM ⟨#[97]⟩ Aj (o9 vs)
section
variable{c:Cx}(hK:c.K=top.heap_1 c.w.params){x:Str}(hx:x.length<=60)
include hK hx
theorem Ur{cl:aM}{ats:ak (Nat×ak Nat)}(h0:ats≠[])(h3:ats.aq<=3)(ho:∀a∈ats,MW a)(he:x.au=Q9 cl ats):∃k,Run c x (MH cl (sf ats)) k ⟨304,0,.none,[]⟩ (yI ats++Dk cl):=by
 revert hK hx h0 h3 ho he
 revert c x cl ats
 intros c x cl ats
 intro hK hx h0 h3 ho he
 have hv0:sf ats≠[]:=λe=>h0 (ak.map_eq_nil_iff.mp e)
 obtain⟨vs,av,hva⟩:∃vs av,sf ats=vs++[av]:=⟨_,_,(ak.dropLast_concat_getLast hv0).symm⟩
 have hv:vs.aq<=2:=by
  have:=bM ak.aq hva
  rw[ak.aX,show(sf ats).aq=ats.aq from ak.bT ..]at this
  rw[this]at h3
  exact eN h3
 have K1:x.au.fX 0=60::((if cl then[47,97]else[97])++(oh 0 ats++[62])):=he
 obtain⟨x0,Hj⟩:=nH K1
 have g0:Go c x ⟨304,0,.none,[]⟩ ⟨353,0+1,.none,[]⟩ []:=⟨by kernel_rfl,cD _,bC _,λd t h=>(PG c hK h x0).up (by decide)⟩
 cases cl with
 |true=>
  have Hj:x.au.fX (0+1)=47::97::(oh 0 ats++[62]):=Hj
  obtain⟨x1,hd2⟩:=nH Hj
  obtain⟨x2,MG⟩:=nH hd2
  have g1:Go c x ⟨353,0+1,.none,[]⟩ ⟨360,0+1+1,.none,[]⟩ []:=⟨by kernel_rfl,cD _,bC _,λd t h=>(IZ c hK h x1).up (by decide)⟩
  have g2:Go c x ⟨360,0+1+1,.none,[]⟩ ⟨367,0+1+1+1,.ob 6,gI 4 ⟨#[97]⟩ AQ (o9 [])⟩ []:=⟨by kernel_rfl,cD _,bC _,λd t h=>(GO c hK h x2).up (by decide)⟩
  obtain⟨f',KQ,h⟩:=KA (c:=c) hK hx (ty:=4) (nm:=⟨#[97]⟩) (r:=AQ) ats [] 367 _ (.dw _) (by rw[ak.length_nil,dD];exact h3) h0 ho MG
  have h:=(zu.one g0).trans ((zu.one g1).trans ((zu.one g2).trans h))
  rw[ak.jw,ak.jw,ak.jw,ak.jw]at h
  refine h _ _ ?_
  rw[hva]
  obtain⟨x3,Q8⟩:=nH (v9 MG)
  have hN:x.au[0+1+1+1+(oh 0 ats).aq+1]?=none:=by
   have:=bM (·[0]?) Q8
   rw[ak.pA]at this
   exact this
  have g:Go c x ⟨f',0+1+1+1+(oh 0 ats).aq,.ob 6,gI 4 ⟨#[97]⟩ AQ (o9 (vs++[av]))⟩ ⟨304,0+1+1+1+(oh 0 ats).aq+1,.ob 6,gI 4 ⟨#[97]⟩ AQ (o9 (vs++[av]))⟩ (Dk true):=by
   rcases KQ with rfl|rfl
   ·exact⟨by kernel_rfl,cD _,by decide,λd t h=>(Ja c hK h (bC _) hv x3).up (by decide)⟩
   ·exact⟨by kernel_rfl,cD _,by decide,λd t h=>(PO c hK h (bC _) hv x3).up (by decide)⟩
  exact⟨0+1+1,Or.inr ⟨_,_,[],(ak.eu _).symm,g,Or.inl ⟨rfl,rfl,hN,rfl⟩⟩⟩
 |false=>
  have Hj:x.au.fX (0+1)=97::(oh 0 ats++[62]):=Hj
  obtain⟨x1,MG⟩:=nH Hj
  have g2:Go c x ⟨353,0+1,.none,[]⟩ ⟨367,0+1+1,.ob 6,gI 3 ⟨#[97]⟩ Aj (o9 [])⟩ []:=⟨by kernel_rfl,cD _,bC _,λd t h=>(Mq c hK h x1).up (by decide)⟩
  obtain⟨f',KQ,h⟩:=KA (c:=c) hK hx (ty:=3) (nm:=⟨#[97]⟩) (r:=Aj) ats [] 367 _ (.dw _) (by rw[ak.length_nil,dD];exact h3) h0 ho MG
  have h:=(zu.one g0).trans ((zu.one g2).trans h)
  rw[ak.jw,ak.jw,ak.jw]at h
  refine h _ _ ?_
  rw[hva]
  obtain⟨x3,Q8⟩:=nH (v9 MG)
  have hN:x.au[0+1+1+(oh 0 ats).aq+1]?=none:=by
   have:=bM (·[0]?) Q8
   rw[ak.pA]at this
   exact this
  have g:Go c x ⟨f',0+1+1+(oh 0 ats).aq,.ob 6,gI 3 ⟨#[97]⟩ Aj (o9 (vs++[av]))⟩ ⟨304,0+1+1+(oh 0 ats).aq+1,.ob 6,PM ⟨#[97]⟩ Aj (o9 (vs++[av]))⟩ (Dk false):=by
   rcases KQ with rfl|rfl
   ·exact⟨by kernel_rfl,cD _,by decide,λd t h=>(I9 c hK h (bC _) hv x3).up (by decide)⟩
   ·exact⟨by kernel_rfl,cD _,by decide,λd t h=>(PN c hK h (bC _) hv x3).up (by decide)⟩
  exact⟨0+1+1,Or.inr ⟨_,_,[],(ak.eu _).symm,g,Or.inl ⟨rfl,rfl,hN,rfl⟩⟩⟩
end
theorem vB(a b:ak Nat):(⟨a.aJ⟩:Str)++⟨b.aJ⟩=⟨(a++b).aJ⟩:=by
 show(⟨a.aJ++b.aJ⟩:Str)=_
 rw[ak.wH]
theorem Jt:∀(n:Nat)(l:ak Nat),l.aq=n->(uf 10 l).1.aq=cntIn 10 l/\((uf 10 l).2.aq:Int)=Mi l:=by
 intro n
 induction n with
 |lO=>intro l hl;cases l with
  |nil=>exact⟨rfl,rfl⟩
  |br a l=>cases hl
 |kU n ih=>
  intro l hl
  rcases ak.eq_nil_or_concat l with rfl|⟨L,b,rfl⟩
  ·cases hl
  ·rw[ak.concat_eq_append,ak.aX]at hl
   refine iU (ih L (Nat.kU.inj hl)) λh1 h2=>?_
   rw[ak.concat_eq_append,DM]
   unfold Mi at h2⊢
   unfold cntIn at h1⊢
   rw[vN,ak.xX,ak.aX,ak.aX,<-h1]
   unfold uW
   by_cases hb:b=10
   ·subst hb
    rw[bJ (cU 10)]
    refine⟨ak.aX,?_⟩
    exact(Int.sub_self ((L.aq:Int)+1)).symm
   ·haveI hb':(b==10)=false:=eK hb
    rw[aY (by rw[hb'];exact aM.bK)]
    refine⟨by rw[ak.filter_cons_of_neg (by rw[hb'];exact aM.bK)];rfl,?_⟩
    rw[show kQ 10 [b]=none from by unfold kQ;exact aY hb]
    show(((uf 10 L).2++[b]).aq:Int)=_
    rw[ak.aX]
    cases e:kQ 10 L with
    |none=>rw[e]at h2;show(((uf 10 L).2.aq+1:Nat):Int)=((L.aq+1:Nat):Int);exact bM (·+1) (h2:((uf 10 L).2.aq:Int)=(L.aq:Int))
    |az k=>rw[e]at h2;show(((uf 10 L).2.aq+1:Nat):Int)=((L.aq+1:Nat):Int) - ((k:Int)+1);exact(bM (·+1) h2).trans (show(L.aq:Int) - ((k:Int)+1)+1=((L.aq:Int)+1) - ((k:Int)+1) by rw[wD,Int.sZ];rfl)
theorem QB{ss:ak Str}(h:∀s∈ss,Jc s):Jc ⟨(jV ss).aJ⟩:=by
 intro a ha
 haveI ha':a∈jV ss:=by
  have:(⟨(jV ss).aJ⟩:Str).au=jV ss:=by rw[ak.nQ]
  rw[this]at ha
  exact ha
 unfold jV at ha'
 refine gC λG hG=>?_
 refine gg (ak.mem_flatten.mp ha') λl hl hm=>?_
 refine gg (ak.jt hl) λs hs ig=>?_;obtain rfl:=ig
 refine hG ?_
 exact h s hs a hm
def okN(a:Nat):Prop:=(a≠13/\¬(55296<=a/\a<=56319))/\pY (a:Int)=false
theorem inv_zero{l:ak Nat}(h:∀a∈l,okN a):invN l=0:=by
 unfold invN
 rw[ak.filter_eq_nil_iff.mpr λa m=>by rw[(h a m).2];exact aM.bK];rfl
theorem MI(a:Nat×ak Nat):∀(ats:ak (Nat×ak Nat))(n:Nat),oh n (ats++[a])=oh n ats++E5 (n+ats.aq) a.1 a.2:=by
 intro ats
 induction ats with
 |nil=>intro n;show E5 n a.1 a.2++[]=[]++E5 (n+0) a.1 a.2;rw[ak.eu];rfl
 |br b l ih=>
  intro n
  show E5 n b.1 b.2++oh (n+1) (l++[a])=E5 n b.1 b.2++oh (n+1) l++E5 (n+(l.aq+1)) a.1 a.2
  rw[ih,ak.cV,dJ,eZ 1]
theorem E0(f:Nat):(Ba f).aq<=1:=by
 cases f with
 |lO=>exact bz _
 |kU f=>cases f with
  |lO=>exact bz _
  |kU=>exact bC _
theorem Us{n:Nat}{a:Nat×ak Nat}(h:MW a):(E5 n a.1 a.2).aq<=16:=by
 unfold E5
 rw[ak.kM,ak.kM,ak.kM,ak.aX,ak.aX]
 exact dz (aA (bI (E0 _) (bI h.l (E0 _))) (by decide:1+(11+1)<=13)) 3
theorem Ho:∀{ats:ak (Nat×ak Nat)}(n:Nat),(∀a∈ats,MW a)->(oh n ats).aq<=16 * ats.aq:=by
 intro ats
 induction ats with
 |nil=>exact λz9 z9=>bz _
 |br a l ih=>
  intro n h
  show(E5 n a.1 a.2++oh (n+1) l).aq<=16 * (l.aq+1)
  rw[ak.aX,s8,eZ]
  exact bI (ih (n+1) λb m=>h b (.cI _ m)) (Us (h a (.dw _)))
theorem vP{l:ak Nat}(h:yM (λa=>decide (a<13\/(13<a/\a<256))&&!(pY (a:Int)))=true):∀a∈l,okN a:=λa m=>by
 have:=(aM.bN _ _).mp (ak.bV h a m)
 haveI h1:=bX this.1
 refine⟨⟨λe=>?_,λe=>?_⟩,by haveI h2:=this.2;rw[aM.oE]at h2;exact h2⟩
 ·subst e;rcases h1 with h|⟨h,_⟩<;>exact cQ _ h
 ·rcases h1 with h|⟨_,h⟩
  ·exact cO (b9 e.1 h) (by decide)
  ·exact cO (b9 e.1 h) (by decide)
theorem QD(f:Nat):∀a∈Ba f,okN a:=by
 cases f with
 |lO=>exact vP (by decide+dK)
 |kU f=>cases f with
  |lO=>exact vP (by decide+dK)
  |kU=>exact λz9 m=>cO m ak.nZ
theorem Ut:∀{ats:ak (Nat×ak Nat)}(n:Nat),n+ats.aq<=3->(∀a∈ats,∀k∈a.2,okN k)->∀k∈oh n ats,okN k:=by
 intro ats
 induction ats with
 |nil=>exact λz9 z9 z9 z9 m=>cO m ak.nZ
 |br a l ih=>
  intro n hn h k m
  haveI hn':n<3:=bh (nM (cD _)) hn
  haveI m:k∈(32::(98+n)::61::(Ba a.1++(a.2++Ba a.1)))++oh (n+1) l:=m
  rcases ak.cJ m with m|m
  ·rcases ak.bB m with rfl|m
   ·exact vP (l:=[32]) (by decide+dK) _ (.dw _)
   rcases ak.bB m with rfl|m
   ·exact vP (l:=(ak.tO 3).map (98+·)) (by decide+dK) _ (ak.mem_map_of_mem (ak.k7 hn'))
   rcases ak.bB m with rfl|m
   ·exact vP (l:=[61]) (by decide+dK) _ (.dw _)
   rcases ak.cJ m with m|m
   ·exact QD _ _ m
   rcases ak.cJ m with m|m
   ·exact h a (.dw _) k m
   ·exact QD _ _ m
  ·exact ih (n+1) (by rw[dJ,eZ 1];exact hn) (λb mb=>h b (.cI _ mb)) k m
theorem YQ{cl:aM}{ats:ak (Nat×ak Nat)}(h3:ats.aq<=3)(h:∀a∈ats,∀k∈a.2,okN k):∀k∈Q9 cl ats,okN k:=by
 intro k m
 haveI m:k∈60::((if cl then[47,97]else[97])++(oh 0 ats++[62])):=m
 rcases ak.bB m with rfl|m
 ·exact vP (l:=[60]) (by decide+dK) _ (.dw _)
 rcases ak.cJ m with m|m
 ·cases cl
  ·exact vP (l:=[97]) (by decide+dK) _ m
  ·exact vP (l:=[47,97]) (by decide+dK) _ m
 rcases ak.cJ m with m|m
 ·exact Ut 0 (by rw[dD];exact h3) h k m
 ·exact vP (l:=[62]) (by decide+dK) _ m
theorem Uu{cl:aM}{ats:ak (Nat×ak Nat)}(h3:ats.aq<=3)(h:∀a∈ats,MW a):(Q9 cl ats).aq<=52:=by
 unfold Q9
 rw[ak.kM,ak.aX,ak.aX]
 exact dz (aA (bI (show _<=2 by cases cl<;>decide) (dz (aA (Ho 0 h) (dG 16 h3)) 1)) (by decide:2+(48+1)<=51)) 1
def Hp(form:Nat)(y:ak Nat):ak Nat:=(38::y.rJ λk=>!decide (k∈MF form)).eL 11
theorem Uv{form:Nat}(hf:form<3){y:ak Nat}(hy:∀k∈y,okN k):MW (form,Hp form y)/\∀k∈Hp form y,okN k:=by
 haveI hm:∀k∈Hp form y,k=38\/(k∈y/\k∉MF form):=λk m=>by
  rcases ak.bB (ak.o8 m)with h|h
  ·exact .inl h
  ·refine iU (ak.mem_filter.mp h) λh1 h2=>?_
   exact .inr ⟨h1,λq=>by rw[cN q]at h2;cases h2⟩
 haveI Jp:∀f:Nat,f<3->38∉MF f:=λf h=>Yg (P:=λf=>38∉MF f) (by decide) (by decide) (by decide) h
 refine⟨⟨hf,⟨_,rfl⟩,?_,λk m=>?_⟩,λk m=>?_⟩
 ·unfold Hp;rw[ak.eX];exact oZ ..
 ·rcases hm k m with rfl|⟨h1,h2⟩
  ·exact⟨by decide,Jp form hf⟩
  ·exact⟨(hy k h1).1.1,h2⟩
 ·rcases hm k m with rfl|⟨h1,_⟩
  ·exact vP (l:=[38]) (by decide+dK) _ (.dw _)
  ·exact hy k h1
theorem Am{a:Int}{b:Nat}(hb:0<b):∃k:Nat,k<b/\a.um (b:Int)=k:=by
 haveI h1:=Int.fmod_nonneg_of_pos a (dF.mpr hb)
 haveI h2:=Int.fmod_lt_of_pos a (dF.mpr hb)
 refine eO (nP h1) λk hk=>?_
 exact⟨k,dF.mp (hk▸h2),hk⟩
set_option tactic.hygienic true in
theorem MJ{n:Nat}:dI.jL 0 (n:Int) 1=n:=by
 rw[rangeSize_one]
 split
 ·exact Int.sub_zero _
 ·rename_i h
  exact(Int.le_antisymm (Int.rT h) (cH n)).symm
theorem Ju{n:Nat}(h:n<=10000):dI.ni 0 (n:Int) 1=true:=small_one (by decide) (by decide) (qz (by decide) (cH n)) (Int.lt_of_le_of_lt (fO.mpr h) (by decide))
theorem CL{α:Type}(l:ak α)(k:Nat):l.eL (min k l.aq)=l.eL k:=ak.take_eq_take_iff.mpr (by rw[Nat.min_assoc,Nat.min_self])
theorem QE(l:ak V):sl l none (az 2)=l.eL 2:=by
 unfold sl
 rw[show(az (2:Int)).g9 l.aq (jI l.aq)=min 2 l.aq from m7 _ 2]
 show ak.eL (min 2 l.aq - 0) (ak.fX 0 l)=_
 rw[vU,ak.vW,CL]
theorem YR(ls:ak Int):∃a b:Int,sl (sl (rK p8) none (az 2)++[.int 0,.int 0]) none (az 2)=[.int a,.int b]:=by
 rw[QE,QE]
 cases ls with
 |nil=>exact⟨0,0,rfl⟩
 |br a r=>cases r with
  |nil=>exact⟨a,0,rfl⟩
  |br b r=>exact⟨a,b,rfl⟩
theorem Hq(c:Cx)(hK:gM=top.heap_1 aL){o0:AO}{x:Str}(hx:x.aq<=600)(Bt:∀a∈x.au,okN a)(k:Nat):∃(d t:AO)(b:aM),j8 x 0 0 0 d t (.aR [])/\jO c 3 141 [.cR 166 1,.int k] [o0,vM (aj "") 0 0 0 0,tM x 0,.aR []] (.bF b) [o0,d,t,.aR []]:=by
 revert hK hx Bt
 revert c o0 x k
 intros c o0 x k
 intro hK hx Bt
 have hd:(w7 x (az ((0:Nat):Int)) (az (((0:Nat):Int)+k))).au=x.au.eL k:=by
  unfold w7 sl
  rw[ak.nQ,show(az ((0:Nat):Int)).g9 0 (jI x.au.aq)=min 0 x.au.aq from m7 _ 0,Nat.zero_min]
  have e:(az (((0:Nat):Int)+k)).g9 x.au.aq (jI x.au.aq)=min k x.au.aq:=by
   show jI _ (((0:Nat):Int)+k)=_
   rw[Int.natCast_zero,Int.zero_add,m7]
  rw[e,vU,ak.vW,CL]
 have hr:=S8 c hK (o0:=o0) (R:=[]) (ch:=aj "") (pl:=0) (pc:=0) (off:=0) (es:=[]) (x:=x) (p:=0) (k:=k) (aD (by kernel_rfl)) (aA hx (by decide)) (aA (bH hx 0) (by decide)) rfl (by
  rw[hd]
  exact⟨λa m=>(Bt a (ak.o8 m)).1.1,λa m=>(Bt a (ak.o8 (ak.mem_of_getLast? m))).1.2⟩)
 generalize w7 x (az ((0:Nat):Int)) (az (((0:Nat):Int)+k))=d at hd hr
 haveI hi:invN d.au=0:=inv_zero λa m=>Bt a (ak.o8 (hd▸m))
 rw[hi]at hr
 have hl:d.aq<=x.aq:=by rw[<-dh,hd,<-dh x,ak.eX];exact iL ..
 haveI Xw:d.au=x.au.eL d.aq:=by
  rw[<-dh d,hd,ak.eX,CL]
 refine⟨_,_,d.aq !=0,.mk ⟨d,0,0,0,d.aq,0⟩ [] (x.au.fX d.aq) ⟨⟨aA hx (by decide),λa m=>(Bt a m).1,bC _,aA hl (cu _ _),bC _,hl⟩,?_,dD _,rfl,rfl,rfl,?_⟩ (bC _),?_⟩
 ·show x.au=[]++(d.au++_)
  rw[ak.jw,Xw,ak.take_append_drop]
 ·exact(inv_zero λa m=>Bt a (ak.o8 m)).symm
 ·haveI e:((0+d.aq:Nat):Int)=(d.aq:Nat):=by rw[dD]
  rw[e,show(aj "").aq=0 by kernel_rfl]at hr
  exact hr
def osL:ak Str:=[aj "head",aj "size",aj "closing",aj "text",aj "due",aj "rows",aj "values",aj "place",aj "drawn",aj "value",aj "told",aj "read",aj "t",aj "got",aj "lines"]
def lcL(ls:ak Int)(hd sz:Int)(cl:aM)(tx:ak Nat)(pl dr va to rd t gt ln:aH V):Loc:=[(aj "script",az (.aR (rK p8))),(aj "head",az (.int hd)),(aj "size",az (.int sz)),(aj "closing",az (.bF cl)),(aj "text",az (.str ⟨tx.aJ⟩)),(aj "due",az (.lo 1)),(aj "rows",az (.lo 2)),(aj "values",az (.lo 3)),(aj "place",pl),(aj "drawn",dr),(aj "value",va),(aj "told",to),(aj "read",rd),(aj "t",t),(aj "got",gt),(aj "lines",ln)]
def zM(ps:ak (Str×Str)):ak V:=ps.map λp=>.aR [.str p.1,.str p.2]
def tbL(ca:aQ)(k:aH Int)(ats:ak (Nat×ak Nat)):ak AO:=[.lI 0 ca k,.aR (yI ats),.aR (zM (o9 (sf ats))),.bO (yG (o9 (sf ats)))]
def Jv(cl:aM):ak Nat:=if cl then[60,47,97]else[60,97]
def JL(ls:ak Int)(hd sz:Int)(cl:aM)(ca:aQ)(i:Nat)(z1:Loc)(z2 z3:ak AO):Prop:=∀G:Loc->ak AO->ak AO->Prop,(∀(ats:ak (Nat×ak Nat))(k:aH Int)(pl dr va to rd:aH V)(hn:ats.aq=i)(ho:∀a∈ats,MW a/\∀k∈a.2,okN k),G (lcL ls hd sz cl (Jv cl++oh 0 ats) pl dr va to rd none none none) (tbL ca k ats) [])->G z1 z2 z3
theorem JL.mk{ls:ak Int}{hd sz:Int}{cl:aM}{ca:aQ}(ats:ak (Nat×ak Nat))(k:aH Int)(pl dr va to rd:aH V)(ho:∀a∈ats,MW a/\∀k∈a.2,okN k):JL ls hd sz cl ca ats.aq (lcL ls hd sz cl (Jv cl++oh 0 ats) pl dr va to rd none none none) (tbL ca k ats) []:=λz9 z=>z ats k pl dr va to rd rfl ho
theorem acm{c:Cx}{n:Nat}{sc:gO}{τ:qI}{κ:Ct c sc τ}{l:Loc}{T W:ak AO}{ks:ak Fr}{b:aM}{e e':aB}{u v w:V}(h1:PE c n κ.env e u κ.X ⟨l,T,W⟩)(h2:PE c n κ.env e' v κ.X ⟨l,T,W⟩)(hk:(if b then u else v)=w)(q:Vd n κ (.rt w ks l T W)):Vd n κ (.rt (.bF b) (.ifx e e'::ks) l T W):=
 ⟨b,rfl,by subst hk;cases b;exact h2 _ q;exact h1 _ q⟩
theorem YS{c:Cx}{n:Nat}{sc:gO}{τ:qI}{κ:Ct c sc τ}{l:Loc}{T W:ak AO}{ks:ak Fr}{vs:ak V}{a:V}(h:vs.all jU=true)(h2:jU a=true)(q:Vd n κ (.rt (.bF (!vs.any λy=>vf y a)) ks l T W)):Vd n κ (.rt (.tup vs) (.cmp .NotIn a::ks) l T W):=zU h h2 q
theorem Jw{i:Nat}(h:i<3):(⟨#[(aj "bcd").au.xV (zo (aj "bcd").aq (i:Int)) 0]⟩:Str)=⟨#[98+i]⟩:=by
 refine Yg (i:=i) ?_ ?_ ?_ h<;>kernel_rfl
theorem acn(i:Nat):aj " "++(⟨#[98+i]⟩:Str)++aj "="=⟨([32,98+i,61]:ak Nat).aJ⟩:=by kernel_rfl
theorem szA{a b:ak Nat}{m:Nat}(h:a.aq+b.aq<=m)(hm:m<=10000):(⟨a.aJ⟩:Str).aq+(⟨b.aJ⟩:Str).aq<=fu:=by
 show a.aJ.dM+b.aJ.dM<=fu
 rw[ak.bZ,ak.bZ]
 exact qG (aA h hm)
theorem DN{f:Nat}(h:f<3):(Jf.map V.str)[f]?=az (.str ⟨(Ba f).aJ⟩):=by
 refine Yg (i:=f) ?_ ?_ ?_ h<;>rfl
theorem QF{f:Nat}(h:f<3):(PU.map GY)[f]?=az (GY (MF f)):=by
 refine Yg (i:=f) ?_ ?_ ?_ h<;>rfl
theorem Uw(cs l:ak Nat):((fM λk=>V.str ⟨#[k]⟩).rJ λu=>!((p9 λk=>V.str ⟨#[k]⟩).any λz=>vf z u))=((l.rJ λk=>!decide (k∈cs)).map λk=>(⟨#[k]⟩:Str)).map V.str:=by
 rw[ak.filter_map,ak.pN]
 show ak.map _ _=ak.map (λk=>V.str ⟨#[k]⟩) _
 congr 1
 exact ak.filter_congr λk z9=>bM (!·) (Mj cs k)
theorem val_eq(f:Nat)(y:Str):w7 (aj "&"++(⟨(y.au.rJ λk=>!decide (k∈MF f)).aJ⟩:Str)) none (az 11)=(⟨(Hp f y.au).aJ⟩:Str):=by
 rw[show aj "&"=⟨([38]:ak Nat).aJ⟩ by kernel_rfl,vB,show w7 _ none (az 11)=_ from Jk _ 11]
 unfold jP jl Hp
 rfl
theorem KC(qd:aM){v:ak Nat}(h:v.aq<=11):(EZ qd v).aq<=242:=by
 unfold EZ
 haveI h1:=CG 38 v
 haveI h2:=CH 38 v
 refine aA (Ky qd λp m=>aA (h2 p (ak.mem_of_mem_tail m)) (aA h (by decide))) ?_
 rw[ak.length_tail]
 exact dG 22 (aA (Nat.sub_le_sub_right h1 1) h)
theorem Hr:∀ats:ak (Nat×ak Nat),(∀a∈ats,MW a)->(yI ats).aq<=242 * ats.aq:=by
 intro ats
 induction ats with
 |nil=>exact λz9=>bz _
 |br a l ih=>
  intro h
  show(EZ (Q6 a.1) a.2++yI l).aq<=242 * (l.aq+1)
  rw[ak.aX,s8,eZ]
  exact bI (ih λb m=>h b (.cI _ m)) (KC _ (h a (.dw _)).l)
theorem MK(ats:ak (Nat×ak Nat))(a:Nat×ak Nat):yI (ats++[a])=yI ats++EZ (Q6 a.1) a.2:=by
 unfold yI
 rw[ak.flatMap_append]
 show _++(_++[])=_
 rw[ak.eu]
theorem Ux{ats:ak (Nat×ak Nat)}(h:ats.aq<=2)(a:Nat×ak Nat):o9 (sf (ats++[a]))=o9 (sf ats)++[(⟨#[98+ats.aq]⟩,CK a.2)]:=by
 haveI hl:(sf ats).aq=ats.aq:=ak.bT ..
 rw[<-hl,<-Cz (hl▸h)]
 exact bM o9 ak.ie
theorem Uy(vs:ak Str)(m:Nat)(h:vs.aq=m)(h2:m<3):(⟨#[98+m]⟩:Str)∉(yG (o9 vs)).map (·.1):=by
 rcases kJ (fC (h▸h2))with rfl|⟨a,rfl⟩|⟨a,b,rfl⟩
 ·exact ak.nZ
 ·subst h;exact(by decide:(⟨#[99]⟩:Str)∉[(⟨#[98]⟩:Str)])
 ·subst h;exact(by decide:(⟨#[100]⟩:Str)∉[(⟨#[98]⟩:Str),(⟨#[99]⟩:Str)])
def aco(cl:aM):V:=if cl then .bO [(aj "type",.int 4),(aj "name",.str (aj "a")),(aj "data",.lo 2),(aj "selfClosing",.bF false)]else .bO [(aj "type",.int 3),(aj "name",.str (aj "a")),(aj "data",.lo 3),(aj "selfClosing",.bF false),(aj "selfClosingAcknowledged",.bF false)]
def acp(cl:aM):ak V:=if cl then[GS,aco true]else[aco false]
def JD(l:Loc)(T:ak AO)(z1:Loc)(z2 z3:ak AO):Prop:=∀G:Loc->ak AO->ak AO->Prop,G l T []->G z1 z2 z3
theorem acq(cl:aM)(ats:ak (Nat×ak Nat)):Jv cl++oh 0 ats++[62]=Q9 cl ats:=by
 cases cl
 ·rw[ak.cV];rfl
 ·rw[ak.cV];rfl
def wdB(d t:AO):ak AO:=[.bO (Pc (vO 304) .none),d,t,.aR []]
def PJl(c:Cx)(x:Str)(Rf:ak AO)(d t:AO)(tl:ak V)(i:ak V)(k:Nat)(W:ak AO):Prop:=(i.aq<tl.aq/\Yj c x Rf i k W)\/(i=tl/\W=wdB d t)
theorem KD{c:Cx}{n:Nat}{sc:gO}{τ:qI}{κ:Ct c sc τ}{l:Loc}{T W:ak AO}{ks:ak Fr}{xs:ak V}{j:Nat}{i:Int}{w:V}(hT:T[j]?=az (.aR xs))(h:uO xs.aq i)(m:xs[zo xs.aq i]?=az w)(q:Vd n κ (.rt w ks l T W)):Vd n κ (.rt (.int i) (.Ge (.lo j)::ks) l T W):=⟨.lo hT,uP n (.lo hT) h m q⟩
theorem CM(ats:ak (Nat×ak Nat)):rD (yI ats):=λv hv=>by
 refine gg (ak.mem_flatMap.mp hv) λa bG hv=>?_
 exact Kz _ _ v hv
def Uz(cl:aM)(ps:ak (Str×Str)):V:=if cl then .bO (IY 4 ⟨#[97]⟩ (.aR (zM ps)) AQ)else .bO (IY 3 ⟨#[97]⟩ (.bO (yG ps)) Aj)
def ML(cl:aM)(ps:ak (Str×Str)):ak V:=if cl then[GS,Uz true ps]else[Uz false ps]
theorem YT(T W:ak AO)(k:Nat)(ps:ak (Str×Str)):(zM ps).map (Ac T W (k+2))=zM ps:=by
 unfold zM
 rw[ak.pN];rfl
theorem YU(T W:ak AO)(k:Nat)(ps:ak (Str×Str)):(yG ps).map (λp=>(p.1,Ac T W (k+1) p.2))=yG ps:=by
 unfold yG
 rw[ak.pN];rfl
theorem YV(cl:aM)(ps:ak (Str×Str))(a b e:AO)(W:ak AO):(acp cl).map (Ac [a,b,.aR (zM ps),.bO (yG ps),e] W 4)=ML cl ps:=by
 cases cl with
 |true=>
  show[GS,V.bO [(_,p8 4),(_,V.str (aj "a")),(_,V.aR ((zM ps).map _)),(_,V.bF false)]]=_
  rw[YT]
  kernel_rfl
 |false=>
  show[V.bO [(_,p8 3),(_,V.str (aj "a")),(_,V.bO ((yG ps).map _)),(_,V.bF false),(_,V.bF false)]]=_
  rw[YU]
  kernel_rfl
theorem CN{vs:ak Str}(h0:vs≠[])(h3:vs.aq<=3){P:ak Str->Prop}(h1:∀a,P [a])(h2:∀a b,P [a,b])(h:∀a b c,P [a,b,c]):P vs:=by
 cases vs with
 |nil=>exact cO rfl h0
 |br a t=>cases t with
  |nil=>exact h1 a
  |br b t=>cases t with
   |nil=>exact h2 a b
   |br c t=>cases t with
    |nil=>exact h a b c
    |br=>exact(Nat.not_succ_le_zero _ (eN (eN (eN h3)))).g9
theorem acr(cl:aM){vs:ak Str}(h0:vs≠[])(h3:vs.aq<=3)(T:ak AO)(a b c d e:AO):(Dk cl).map (Ac T (a::b::c::d::e::MH cl vs) 4)=ML cl (o9 vs):=by
 refine CN (P:=λvs=>(Dk cl).map (Ac T (a::b::c::d::e::MH cl vs) 4)=ML cl (o9 vs)) h0 h3 ?_ ?_ ?_
 ·intro a;cases cl<;>rfl
 ·intro a b;cases cl<;>rfl
 ·intro a b c;cases cl<;>rfl
theorem QG(cl:aM){vs:ak Str}(h0:vs≠[])(h3:vs.aq<=3):rD (ML cl (o9 vs)):=by
 haveI h:ME (Uz cl (o9 vs)):=by
  refine CN (P:=λvs=>ME (Uz cl (o9 vs))) h0 h3 ?_ ?_ ?_
  ·intro a;cases cl<;>exact⟨rfl,aD rfl,rfl⟩
  ·intro a b;cases cl<;>exact⟨rfl,aD rfl,rfl⟩
  ·intro a b c;cases cl<;>exact⟨rfl,aD rfl,rfl⟩
 cases cl with
 |true=>exact .app (.one (sH _)) (.one h)
 |false=>exact .one h
theorem KG{c:Cx}{n:Nat}{sc:gO}{τ:qI}{κ:Ct c sc τ}{l:Loc}{T W:ak AO}{ks:ak Fr}{xs:ak (Str×V)}{j:Nat}{y:Str}{w:V}(hW:W[j]?=az (.bO xs))(m:(y,w)∈xs)(q:Vd n κ (.rt w ks l T W)):Vd n κ (.rt (.str y) (.Ge (.ob j)::ks) l T W):=⟨.ob hW,Bs (.ob hW) m q⟩
theorem UA(cl:aM)(vs:ak Str)(a b c d e:AO):∃xs,(a::b::c::d::e::MH cl vs)[6]?=az (.bO xs)/\(aj "selfClosing",V.bF false)∈xs:=by
 cases cl
 ·exact⟨_,rfl,.cI _ (.cI _ (.cI _ (.dw _)))⟩
 ·exact⟨_,rfl,.cI _ (.cI _ (.cI _ (.dw _)))⟩
theorem KH{cl:aM}{l tl:ak V}(h:l++Dk cl=tl):tl[zo tl.aq (-1)]?=az (.ob 6):=by
 obtain⟨L,e⟩:∃L,tl=L++[.ob 6]:=by
  subst h
  cases cl
  ·exact⟨l,rfl⟩
  ·exact⟨l++[GS],by rw[ak.cV];rfl⟩
 rw[zZ,e,ak.aX]
 exact ak.getElem?_concat_length
section
variable{c:Cx}{n:Nat}{sc:Scope}{τ:qI}{κ:Ct c sc τ}{l:Loc}{T W:List AO}{ks:List Fr}{e:PySem.Expr}{pos:Pos}
theorem acs{es:ak aB}(q:Vd n κ (.rt (.bF true) ks l T W)):Vd n κ (.rt (.bF true) (.bv .Or e es pos::ks) l T W):=nX (by rw[aY (by decide)];exact q)
theorem acu(q:Vd n κ (.ev e ks l T W)):Vd n κ (.rt (.bF false) (.bv .Or e [] pos::ks) l T W):=nX (by rw[bJ (by decide)];exact DW q)
end
def acv:V->V
 |.aR (.str a::_)=>.str a
 |_=>.str ⟨#[]⟩
theorem UB(ps:ak (Str×Str)):(zM ps).map acv=(yG ps).map λp=>V.str p.1:=by
 unfold zM yG
 rw[ak.pN,ak.pN];rfl
theorem UC(ps:ak (Str×Str)):V.qF (zM ps)=true:=by
 unfold zM
 induction ps with
 |nil=>rfl
 |br a l ih=>exact(aM.bN _ _).mpr ⟨rfl,ih⟩
theorem Hs(ps:ak (Str×Str)):rD ((yG ps).map λp=>V.str p.1):=λv hv=>by
 refine gg (ak.jt hv) λp bG ig=>?_;obtain rfl:=ig
 exact⟨rfl,bC _,rfl⟩
theorem YW(c:Cx)(hK:gM=top.heap_1 aL)(ls:ak Int)(hl:ls.aq<=63):∃(fd:kR)(dO:ak iW),(∃o,gM.eF 862=az o/\o.f9=.w4 fd)/\fd.dO=.stmts dO/\∀env,fU env fd.bD->qL env->∀ca,mZ.eF (aj "form")=az ca->WS c 29 env dO (λfl z9=>fl=.ret (.bF true)) (λz9=>cM) ⟨Bc [(aj "script",.aR (rK p8))] osL,[.lI 0 ca none],[]⟩:=by
 revert hK hl
 revert c ls
 intros c ls
 intro hK hl
 refine⟨_,_,⟨_,by rw[hK];rfl,rfl⟩,rfl,?_⟩
 intro env he hf ca hca
 refine abJ (nK hK) (λκ hf hca hQ=>?_) env he hf hca
 have hlz:(rK p8).aq<=63:=by rw[ak.bT];exact hl
 refine E1 (YR ls) λhd sz h2=>?_
 refine XF (a:=.int hd) (b:=.int sz) (v:=.aR [.int hd,.int sz]) rfl rfl rfl rfl (mH λmF q=>?_) .aR ?_
 ·refine mq 12 (m':=.rt _ _ _ _ _) rfl rfl (aA hlz (by decide)) ?_
  refine Vx .aR .aR (aA (dz (aA (BU ..) hlz) 2) (by decide)) ?_
  refine mq 99 (m':=.rt _ _ _ _ _) rfl rfl (show _<=10000 by rw[ak.aX];exact aA (dz (aA (BU ..) hlz) 2) (by decide)) ?_
  rw[h2]
  exact q
 refine mq 9 (m':=.rt _ _ _ _ _) rfl rfl (by decide) ?_
 generalize(hd.um 2==1)=cl
 refine acm (u:=.str (aj "</a")) (v:=.str (aj "<a")) (w:=.str ⟨(Jv cl).aJ⟩) (eU (k:=3) rfl) (eU (k:=3) rfl) (by cases cl<;>kernel_rfl) ?_
 refine cX 10 (m':=.ev _ _ _ _ _) rfl rfl ?_
 refine XG ?_
 refine cX 1 (m':=.ex _ _ _ _) rfl rfl ?_
 refine gg (Am (a:=hd.xU 2) (b:=3) (by decide)) λk2 hk2 ek2=>?_
 refine SX (v:=.dg "range") (1+k2) rfl (show(aj "range",aI.dg "range")∈bi1 from by unfold bi1;exact .cI _ (.cI _ (.cI _ (.cI _ (.cI _ (.cI _ (.cI _ (.dw _)))))))) rfl (mH λmF q=>?_) (Ju (aA (bH (fP hk2) 1) (by decide))) MJ (XQ (JL ls hd sz cl ca) ?_ ?_ ?_)
 ·refine go2 1 (m':=.rt _ _ _ _ _) rfl rfl (GZ _ (by decide) (by decide)) (by decide) ?_
  rw[show(hd.xU 2).um 3=_ from ek2]
  exact q
 ·have:=JL.mk (ls:=ls) (hd:=hd) (sz:=sz) (cl:=cl) (ca:=ca) [] none none none none none none (λz9 h=>nomatch h)
  rw[show Jv cl++oh 0 []=Jv cl from ak.eu _]at this
  exact this
 ·intro i l T W u hu hJ κ1 ke hn
  refine iU (JV hu) λhi bG=>?_;obtain rfl:=bG
  rw[Int.zero_add]
  apply hJ;clear hJ;intro ats k pl dr va to rd QH ho
  have QI:κ1.mZ.eF (aj "form")=az ca:=by rw[ke];exact hca
  refine cX 1 (m':=.ex _ _ _ _) rfl rfl ?_
  refine gg (Am (a:=hd.xU 6) (b:=3) (by decide)) λf0 hf0 ef0=>?_
  refine gg (Am (a:=hd.xU 18) (b:=3) (by decide)) λf1 hf1 ef1=>?_
  refine gg (Am (a:=hd.xU 54) (b:=3) (by decide)) λf2 VS ef2=>?_
  have MS:i<3:=bh hi (bH (fC hk2) 1)
  refine gg (Yg (P:=λi=>∃f:Nat,([.int f0,.int f1,.int f2]:ak V)[i]?=az (.int (f:Nat))/\f<3) ⟨f0,rfl,hf0⟩ ⟨f1,rfl,hf1⟩ ⟨f2,rfl,VS⟩ MS) λf UI Q7=>?_
  refine O6 (i:=0) (ca:=ca) (k0:=k) (k:=(f:Nat)) rfl QI rfl (mH λmF q=>?_) rfl ?_
  ·refine go _ _ 14 (m':=.rt _ _ _ _ _) rfl ⟨GZ _ (by decide) (by decide),by decide,GZ _ (by decide) (by decide),by decide,GZ _ (by decide) (by decide),by decide,trivial⟩ ?_
   rw[show(hd.xU 6).um 3=_ from ef0,show(hd.xU 18).um 3=_ from ef1,show(hd.xU 54).um 3=_ from ef2]
   refine pG (w:=.int f) (je MS (aD rfl)) (by rw[tD];exact UI) ?_
   exact q
  refine cX 5 (m':=.ev _ _ _ _ _) rfl rfl ?_
  have YB:(sl ls (az (2+10 * (i:Int))) (az (12+10 * (i:Int)))).aq<=63:=aA (BU ..) hl
  refine abK (bY:=(sl ls (az (2+10 * (i:Int))) (az (12+10 * (i:Int)))).map p8) (λj ys W=>∃ss:ak Str,ys=ss.map V.str/\(∀s∈ss,Jc s/\s.aq<=10)/\ss.aq=j/\W=[]) rfl (by kernel_rfl) (mH λQV q=>?_) (by rw[ak.bT];exact aA YB (by decide)) ⟨[],rfl,(λz9 h=>nomatch h),rfl,rfl⟩ ?_ ?_
  ·refine go _ _ 1 (m':=.rt _ _ _ _ _) rfl ⟨IntMulOk.of_left (by decide),IntMulOk.of_left (by decide),aA hlz (by decide),trivial⟩ ?_
   rw[show sl (rK p8) (az (2+10 * (i:Int))) (az (12+10 * (i:Int)))=(sl ls (az (2+10 * (i:Int))) (az (12+10 * (i:Int)))).map p8 by unfold sl;rw[ak.bT,ak.map_take,ak.map_drop]]
   exact q
  ·rintro QV j ys W u hu ⟨ss,rfl,Q4,jW,rfl⟩ q
   rw[ak.iI]at hu
   refine gg (aH.iH hu) λm hm ig=>?_;obtain rfl:=ig
   refine cX 7 (m':=.cl _ _ _ _ _ _) rfl rfl ?_
   refine gH (G1 c hK m []) rfl rfl λv W' hv=>?_
   apply hv;clear hv;intro s h1 h2
   refine q _ _ ⟨ss++[s],by rw[ak.ie];rfl,λs' Fo=>?_,by rw[ak.aX,jW];rfl,rfl⟩ _
   rcases ak.cJ Fo with h|h
   ·exact Q4 s' h
   ·rw[ak.bR h];exact⟨h1,h2⟩
  rintro ys W ⟨ss,rfl,Q4,jW,rfl⟩
  have jW:ss.aq<=63:=by rw[jW,ak.bT];exact YB
  have acw:∀l:ak Str,(∀s∈l,Jc s/\s.aq<=10)->(fM (·.aq)).sum<=10 * l.aq:=by
   intro l
   induction l with
   |nil=>exact λz9=>bz _
   |br s l ih=>
    intro h
    rw[ak.yP,ak.sum_cons,ak.kM,s8,eZ]
    exact bI (ih λs' m=>h s' (.cI _ m)) (h s (.dw _)).2
  have hs9:=aA (acw ss Q4) (dG 10 jW)
  refine cX 2 (m':=.cl _ _ _ _ _ _) rfl rfl ?_
  refine yw (ys:=ss) .aR (by decide) (aA (bI hs9 jW) (by decide)) ?_
  rw[q7]
  have acy:Jc (⟨(jV ss).aJ⟩:Str):=QB λs hs=>(Q4 s hs).1
  have Zf:(⟨(jV ss).aJ⟩:Str).aq<=630:=by show(jV ss).aJ.dM<=_;rw[ak.bZ,<-nT];exact hs9
  generalize(⟨(jV ss).aJ⟩:Str)=y at acy Zf
  clear hs9 acw jW Q4 YB
  refine cX 99 (m':=.ev _ _ _ _ _) rfl rfl ?_
  refine XO (v:=.str y) (bY:=y.au.map λk=>V.str ⟨#[k]⟩) (ca:=ca) (λu=>!(((MF f).map λk=>V.str ⟨#[k]⟩).any λz=>vf z u)) QI rfl (by kernel_rfl) (eU (k:=3) rfl) .str (by rw[ak.bT,dh];exact aA Zf (by decide)) ?_ ?_ ?_
  ·intro QV hc3 u hu q
   refine cX 8 (m':=.cl _ _ _ _ _ _) rfl rfl ?_
   refine fW (Jg c hK _) rfl rfl ?_
   refine cX 1 (m':=.ev _ _ _ _ _) rfl rfl ?_
   refine J2 (i:=0) (ca:=ca) rfl (by rw[hc3];rfl) rfl rfl ?_
   refine pG (w:=GY (MF f)) (je (by rw[ak.bT];exact Q7) (aD rfl)) (by rw[tD];exact QF Q7) ?_
   refine gg (ak.jt hu) λk9 bG ig=>?_;obtain rfl:=ig
   refine YS (ak.rP.mpr λv hv=>by(refine gg (ak.jt hv) λz bG ig=>?_;obtain rfl:=ig);rfl) rfl ?_
   exact cX 1 (m':=.rt _ _ _ _ _) rfl rfl q
  ·intro QV u hu q
   refine cX 1 (m':=.rt _ _ _ _ _) rfl rfl ?_
   exact q _
  refine cX 2 (m':=.cl _ _ _ _ _ _) rfl rfl ?_
  rw[Uw]
  have hFl:(y.au.rJ λk=>!decide (k∈MF f)).aq<=630:=aA (ak.length_filter_le ..) (by rw[dh];exact Zf)
  refine yw (ys:=(y.au.rJ λk=>!decide (k∈MF f)).map λk=>(⟨#[k]⟩:Str)) .aR (by decide) (by rw[nT,m8,ak.bT];exact aA (bI hFl hFl) (by decide)) ?_
  rw[q7,m8]
  have hFz:(⟨(y.au.rJ λk=>!decide (k∈MF f)).aJ⟩:Str).aq<=630:=aA (aO (ak.bZ ..)) hFl
  have Jp:(aj "&").aq=1:=by kernel_rfl
  refine go _ _ 2 (m':=.rt _ _ _ _ _) rfl ⟨qG (aA (bI (aO Jp) hFz) (by decide)),by rw[j4];exact aA (bI (aO Jp) hFz) (by decide),trivial⟩ ?_
  rw[show w7 (aj "&"++(⟨(y.au.rJ λk=>!decide (k∈MF f)).aJ⟩:Str)) none (az 11)=(⟨(Hp f y.au).aJ⟩:Str) from val_eq f y]
  have hv:=Uv Q7 acy
  generalize Hp f y.au=v at hv
  have hib:uO (aj "bcd").aq (i:Int):=je (by rw[show(aj "bcd").aq=3 by kernel_rfl];exact MS) (aD (by kernel_rfl))
  refine go _ _ 12 (m':=.cl _ _ _ _ _ _) rfl ⟨hib,aD (by kernel_rfl),aD (by kernel_rfl),trivial⟩ ?_
  refine fW (A8 c hK _) rfl rfl ?_
  refine cX 1 (m':=.ev _ _ _ _ _) rfl rfl ?_
  refine J2 (i:=0) (ca:=ca) rfl QI rfl rfl ?_
  refine pG (w:=.str ⟨(Ba f).aJ⟩) (je (by rw[ak.bT];exact Q7) (aD rfl)) (by rw[tD];exact DN Q7) ?_
  rw[Jw MS,acn]
  have hml:=E0 f
  have Q5:v.aq<=11:=hv.1.l
  have h5:([32,98+i,61]++Ba f).aq<=4:=by rw[ak.aX];exact bH hml 3
  have h6:([32,98+i,61]++Ba f++v).aq<=15:=by rw[ak.aX];exact bI h5 Q5
  refine go _ _ 10 (m':=.cl _ _ _ _ _ _) rfl ⟨szA (bH hml 3) (by decide),by rw[vB];exact szA (bI h5 Q5) (by decide),trivial⟩ ?_
  rw[vB [32,98+i,61] (Ba f),vB ([32,98+i,61]++Ba f) v]
  refine fW (A8 c hK _) rfl rfl ?_
  refine cX 1 (m':=.ev _ _ _ _ _) rfl rfl ?_
  refine J2 (i:=0) (ca:=ca) rfl QI rfl rfl ?_
  refine pG (w:=.str ⟨(Ba f).aJ⟩) (je (by rw[ak.bT];exact Q7) (aD rfl)) (by rw[tD];exact DN Q7) ?_
  have MP:i<=2:=fC MS
  have acz:∀a∈ats,MW a:=λa m=>(ho a m).1
  haveI h7:([32,98+i,61]++Ba f++v++Ba f).aq<=16:=by rw[ak.aX];exact bI h6 hml
  haveI h8:(Jv cl++oh 0 ats).aq<=35:=by rw[ak.aX];exact bI (show(Jv cl).aq<=3 by cases cl<;>decide) (aA (Ho 0 acz) (dG 16 (QH▸MP)))
  refine go _ _ 11 (m':=.ev _ _ _ _ _) rfl ⟨szA (bI h6 hml) (by decide),by rw[vB ([32,98+i,61]++Ba f++v) (Ba f)];exact szA (bI h8 h7) (by decide),trivial⟩ ?_
  rw[vB ([32,98+i,61]++Ba f++v) (Ba f),vB (Jv cl++oh 0 ats) ([32,98+i,61]++Ba f++v++Ba f)]
  refine J2 (i:=0) (ca:=ca) rfl QI rfl rfl ?_
  refine cX 5 (m':=.cl _ _ _ _ _ _) rfl rfl ?_
  rw[show decide ((f:Int)<2)=Q6 f from lu dF]
  refine fW (v:=.tup [.aR (EZ (Q6 f) v),.str (CK v)]) (Jr c hK ⟨v.aJ⟩ (Q6 f) (aA (aO (ak.bZ ..)) (aA Q5 (by decide))) _) rfl rfl ?_
  refine cX 6 (m':=.rt _ _ _ _ _) rfl rfl ?_
  refine O0 (j:=1) rfl .aR (aA (bI (aA (Hr ats acz) (dG 242 (QH▸MP))) (KC _ Q5)) (by decide)) (.cI (.cI (.cI (.cI (.cI .dw))))) ?_
  have hvz:(sf ats).aq=i:=by rw[<-QH];exact ak.bT ..
  have hpr:=Ke (sf ats) (hvz▸MP)
  refine go _ _ 17 (m':=.ex _ _ _ _) rfl ⟨hib,aA (aO (ak.bT ..)) (aA hpr (by decide)),trivial⟩ ?_
  rw[Jw MS]
  refine r8 (v:=.str (CK v)) (ov:=.lo 3) (iv:=.str ⟨#[98+i]⟩) rfl (eU (k:=3) rfl) (eU (k:=3) rfl) (mH λmF q=>?_) (SY rfl (Uy _ i hvz MS) (aA (aO (ak.bT ..)) (aA hpr (by decide))) ?_)
  ·refine mq 99 (m':=.rt _ _ _ _ _) rfl rfl hib ?_
   rw[Jw MS]
   exact q
  refine gU (hn _ _ _ ?_)
  have e1:Jv cl++oh 0 (ats++[(f,v)])=Jv cl++oh 0 ats++([32,98+i,61]++Ba f++v++Ba f):=by
   rw[MI,dD,QH,<-ak.cV,ak.cV ([32,98+i,61]++Ba f) v,ak.cV [32,98+i,61]];rfl
  have e2:tbL ca (az (f:Int)) (ats++[(f,v)])=[.lI 0 ca (az (f:Int)),.aR (yI ats++EZ (Q6 f) v),.aR (zM (o9 (sf ats))++[.aR [.str ⟨#[98+i]⟩,.str (CK v)]]),.bO (yG (o9 (sf ats))++[(⟨#[98+i]⟩,.str (CK v))])]:=by
   unfold tbL zM yG
   rw[MK,Ux (QH▸MP),ak.ie,ak.ie,QH];rfl
  haveI e3:(ats++[(f,v)]).aq=i+1:=by rw[ak.aX,QH];rfl
  have:=JL.mk (ls:=ls) (hd:=hd) (sz:=sz) (cl:=cl) (ca:=ca) (ats++[(f,v)]) (az (f:Int)) (az (.int i)) (az (.str y)) (az (.str ⟨v.aJ⟩)) (az (.aR (EZ (Q6 f) v))) (az (.str (CK v))) λa m=>(ak.cJ m).g9 (ho a) λm=>by rw[ak.bR m];exact hv
  rw[e1,e2,e3]at this
  exact this
 ·intro l T W hJ
  rw[Gh]at hJ
  refine hJ (λl T W=>Vd 29 κ (.ex _ l T W)) ?_;clear hJ;intro ats k pl dr va to rd QH ho
  have acA:ats≠[]:=λe=>by rw[e]at QH;exact cO QH (by rw[eZ];exact(Nat.succ_ne_zero _).symm)
  have QJ:ats.aq<=3:=by rw[QH];exact bH (fC hk2) 1
  have hqz:(yI ats).aq<=1000:=aA (Hr ats λa m=>(ho a m).1) (aA (dG 242 QJ) (by decide))
  refine zH (JD (lcL ls hd sz cl (Jv cl++oh 0 ats) pl dr va to rd none none none) [.lI 0 ca k,.aR (yI ats++acp cl),.aR (zM (o9 (sf ats))),.bO (yG (o9 (sf ats)))]) ?_ ?_
  ·intro QW en er eb ec ex ee
   cases cl with
   |true=>
    refine cX 15 (m':=.cl _ _ _ _ _ _) rfl rfl ?_
    refine fW (oR c hK _ _) rfl rfl ?_
    haveI hq2:(yI ats++[V.bO [(aj "type",.int 7),(aj "data",.str (aj "attributes-in-end-tag"))]]).aq<=10000:=by
     rw[ak.aX];exact aA (dz hqz 1) (by decide)
    refine go _ _ 35 (m':=.ex _ _ _ _) rfl ⟨aA hqz (by decide),hq2,trivial⟩ ?_
    refine gU (en _ _ _ λG z=>?_)
    rw[ak.cV]
    exact z
   |false=>
    refine mq 39 (m':=.ex _ _ _ _) rfl rfl (aA hqz (by decide)) ?_
    exact gU (en _ _ _ λG z=>z)
  intro _ _ _ hj
  apply hj;clear hj
  have hex:(⟨(Jv cl++oh 0 ats).aJ⟩:Str)++aj ">"=⟨(Q9 cl ats).aJ⟩:=by
   rw[show aj ">"=⟨([62]:ak Nat).aJ⟩ by kernel_rfl,vB (Jv cl++oh 0 ats) [62],acq]
  have hoA:∀a∈ats,MW a:=λa m=>(ho a m).1
  have MU:(⟨(Q9 cl ats).aJ⟩:Str).au=Q9 cl ats:=ak.nQ
  have VE:(⟨(Q9 cl ats).aJ⟩:Str).aq<=52:=aA (aO (ak.bZ ..)) (Uu QJ hoA)
  have hxn:=YQ (cl:=cl) QJ λa m=>(ho a m).2
  have hx9:(⟨(Jv cl++oh 0 ats).aJ⟩:Str).aq+(aj ">").aq<=fu:=by
   refine aA (aO (j4 _ _).symm) ?_
   rw[hex];exact qG (aA VE (by decide))
  refine mq 8 (m':=.cl _ _ _ _ _ _) rfl rfl hx9 ?_
  rw[hex]
  generalize(⟨(Q9 cl ats).aJ⟩:Str)=x at hex MU VE⊢
  refine Xj hK (i:=0) (fI:=261) (by kernel_rfl) (by kernel_rfl) (by kernel_rfl) rfl rfl rfl (IP c hK x) rfl ?_
  refine gg (Am (a:=sz) (b:=54) (by decide)) λk9 hk9 ek9=>?_
  refine x32 (Hq c hK (o0:=.bO (Pc (vO 304) .none)) (x:=x) (aA VE (by decide)) (MU▸hxn) (1+k9)) λd t b hS hr=>?_
  refine mq 9 (m':=.cl _ _ _ _ _ _) rfl rfl (by decide) ?_
  rw[show sz.um 54=_ from ek9]
  refine fW hr rfl rfl ?_
  refine cX 1 (m':=.ex _ _ _ _) rfl rfl ?_
  haveI Zn:0<x.aq:=by rw[<-dh,MU];exact cD _
  refine eO (Ur (c:=c) hK (aA VE (by decide)) (cl:=cl) acA QJ hoA MU) λkr YX=>?_
  have Zp:(yI ats++Dk cl).aq<=10000:=by
   rw[ak.aX];exact aA (bI hqz (show(Dk cl).aq<=2 by cases cl<;>decide)) (by decide)
  generalize UD:yI ats++Dk cl=tl at YX Zp
  obtain⟨fd,s1,t1,t2,t3,e1,e2,q1,q2,q3,y1,y2,z1,z2,D,G,S1⟩:=Yk c hK (Rf:=MH cl (sf ats)) Zn (MU▸inv_zero hxn)
  refine Xv (e:=3) (N:=tl.aq) (PJ:=PJl c x (MH cl (sf ats)) d t tl) κ.he rfl (by kernel_rfl) rfl (by kernel_rfl) rfl D (Yi c hK) (eU (k:=3) rfl _ ⟨rfl,tl,rfl,Zp,⟨0,.inr ⟨rfl,rfl⟩⟩,⟨_,rfl⟩,λW' hE=>⟨_,.cI (.cI (.cI (.cI (.cI (.cI (.cI (.cI (.cI (.cI (.cI (.cI (.cI (.cI .dw))))))))))))),?_⟩⟩) G (λi k W hi=>⟨λh=>by
   rcases h with⟨_,p⟩|⟨h,_⟩
   ·exact p
   ·rw[h]at hi;exact cO hi (cQ _),λp=>.inl ⟨hi,p⟩⟩) ?_
  ·refine hE (λw=>WS c 29 κ.env _ _ _ ⟨_,_,w⟩) ?_;clear hE;intro st ct d0 t0 h
   refine eO h.fm λs0 bG=>?_;obtain rfl:=bG
   refine(?_:Vd 29 κ (.ex _ _ _ _))
   have hv0:sf ats≠[]:=λe=>acA (ak.map_eq_nil_iff.mp e)
   have hv3:(sf ats).aq<=3:=aA (aO (ak.bT ..)) QJ
   have acB:rD (yI ats++ML cl (o9 (sf ats))):=.app (CM ats) (QG cl hv0 hv3)
   refine cX 7 (m':=.rt _ _ _ _ _) rfl rfl ?_
   refine XH (zs:=yI ats++ML cl (o9 (sf ats))) 4 rfl rfl (by rw[<-UD,ak.ie,DF 4 (uZ (CM ats)).1,acr cl hv0 hv3]) (by rw[ak.ie,DF 4 (uZ (CM ats)).1];exact bM _ (YV cl _ _ _ _ _)) (uZ acB).1 (b9 (uZ acB).2.1 (by decide)) ?_
   refine cX 9 (m':=.ev _ _ _ _ _) rfl rfl ?_
   refine Ek ?_
   refine Ek ?_
   refine cX 3 (m':=.rt _ _ _ _ _) rfl rfl ?_
   have acC:0<tl.aq:=by rw[<-UD,ak.aX];exact bh (by cases cl<;>decide:0<(Dk cl).aq) (g7 _ _)
   refine KD (xs:=tl) (w:=.ob 6) rfl (iR acC Zp) (KH UD) ?_
   refine cX 2 (m':=.rt _ _ _ _ _) rfl rfl ?_
   refine gg (UA cl (sf ats) (.bO (pW st ct)) (vM s0.ch s0.off s0.ch.aq s0.pl s0.pc) t0 (.aR []) (.aR [])) λtg ht1 ht2=>?_
   refine KG ht1 ht2 ?_
   refine mq 20 (m':=.cl _ _ _ _ _ _) rfl rfl hx9 ?_
   rw[hex]
   refine fW (CJ c hK x _ 10 (by kernel_rfl) (aA VE (by decide)) _) rfl rfl ?_
   refine cX 8 (m':=.cl _ _ _ _ _ _) rfl rfl ?_
   refine fW (Gv c hK h) rfl rfl ?_
   rw[ak.dW (aO (dh x))]
   refine iU (Jt _ x.au rfl) λhc1 VB=>?_
   have hcl:(Hf 10 x).aq=cntIn 10 x.au+1:=by
    rw[CF,ak.bT,<-hc1]
    unfold oU;exact ak.aX
   have hcz:(Hf 10 x).aq<=10000:=by
    rw[CF,ak.bT]
    exact aA (CG 10 _) (aA (dZ (aA (aO (dh x)) VE)) (by decide))
   refine mq 17 (m':=.ev _ _ _ _ _) rfl rfl hcz ?_
   refine Ek ?_
   refine cX 3 (m':=.rt _ _ _ _ _) rfl rfl ?_
   refine pG (xs:=Hf 10 x) (w:=lV (uf 10 x.au).2) (iR (by rw[hcl];exact cD _) hcz) (Kq _) ?_
   refine mq 5 (m':=.rt _ _ _ _ _) rfl rfl (aA (CH 10 _ _ (ak.bg _ (.dw _))) (aA (aO (dh x)) (aA VE (by decide)))) ?_
   refine O7 (by rw[hcl];rfl) VB.symm ?_
   clear hx9 hex MU VE YX ht2 ht1 hcl hcz hc1 VB D G S1
   cases cl with
   |true=>
    refine cX 5 (m':=.rt _ _ _ _ _) rfl rfl ?_
    refine acs ?_
    exact hQ _ _ _
   |false=>
    refine cX 5 (m':=.rt _ _ _ _ _) rfl rfl ?_
    refine acu ?_
    refine cX 1 (m':=.ev _ _ _ _ _) rfl rfl ?_
    have XX:(o9 (sf ats)).aq<=3:=CN (P:=λvs=>(o9 vs).aq<=3) hv0 hv3 (λz9=>aD rfl) (λz9 z9=>aD rfl) (λz9 z9 z9=>aD rfl)
    refine XJ (d:=yG (o9 (sf ats))) V.str rfl (by kernel_rfl) (mH λmF q=>?_) (aA (aO (ak.bT ..)) (aA XX (by decide))) (λmF k q=>?_) ?_
    ·refine Ek ?_
     refine Ek ?_
     refine cX 3 (m':=.rt _ _ _ _ _) rfl rfl ?_
     refine KD (xs:=tl) (w:=.ob 6) rfl (iR acC Zp) (KH UD) ?_
     refine cX 2 (m':=.rt _ _ _ _ _) rfl rfl ?_
     refine KG (xs:=IY 3 ⟨#[97]⟩ (.bO (yG (o9 (sf ats)))) Aj) rfl (.cI _ (.cI _ (.dw _))) ?_
     exact q
    ·exact cX 1 (m':=.rt _ _ _ _ _) rfl rfl (q _)
    refine cX 1 (m':=.ev _ _ _ _ _) rfl rfl ?_
    refine XM (x:=aj "name") (i:=2) (xs:=zM (o9 (sf ats))) (lc:=[(aj "name",none),(aj "read",none)]) acv rfl (by kernel_rfl) rfl (nodupB_iff (by kernel_rfl)) (eU (k:=3) rfl) rfl (UC _) (aA (aO (ak.bT ..)) (aA XX (by decide))) (λu hu=>?_) (λmF u hu q=>?_) ?_
    ·refine gg (ak.jt hu) λp bG ig=>?_;obtain rfl:=ig
     exact⟨p.1,rfl⟩
    ·refine gg (ak.jt hu) λp bG ig=>?_;obtain rfl:=ig
     refine Ck rfl rfl .aR (DZ mF.he rfl ⟨_,.dw,DZ mF.he rfl ⟨_,.cI .dw,Nu ?_⟩⟩)
     exact cX 1 (m':=.rt _ _ _ _ _) rfl rfl (q _)
    rw[UB]
    refine XI (uZ (Hs _)).1 (b9 (uZ (Hs _)).2.1 (by decide)) ?_
    exact hQ _ _ _
  ·intro nF he hf i W hi hP
   obtain⟨k,⟨h,_⟩|⟨rfl,rfl⟩⟩:=hP
   ·rw[hi]at h;exact cO h (cQ _)
   ·refine(S1 nF he hf (vO 304) .none _ _ _).eW (λfl σ z=>?_) λz9 z=>z
    refine iU z λfY bG=>?_;clear z;obtain rfl:=fY;obtain rfl:=bG
    exact⟨rfl,_,rfl,kr,.mk ⟨304,0,.none,[]⟩ hS YX⟩
theorem law_fin(c:Cx)(hK:gM=top.heap_1 aL)(ls:ak Int)(hl:ls.aq<=63)(fd:kR)(dO:ak iW)(o:Obj)(ho:(top.heap_1 aL).eF 862=az o)(hd:o.f9=.w4 fd)(hb:fd.dO=.stmts dO)(env:Env)(he:fU env fd.bD)(hf:qL env)(ca:aQ)(hca:mZ.eF (aj "form")=az ca):
  WS c 29 env dO (λfl z9=>fl=.ret (.bF true)) (λz9=>cM) ⟨Bc [(aj "script",.aR (rK p8))] osL,[.lI 0 ca none],[]⟩:=by
 revert hK hl ho hd hb he hf hca
 revert c ls fd dO o env ca
 intros c ls fd dO o env ca
 intro hK hl ho hd hb he hf hca
 refine oH (YW c hK ls hl) λfd' ahn ig hb' hw=>?_;refine gg ig λo' Bp Ep=>?_;clear ig
 rw[hK,ho]at Bp
 cases Bp
 rw[hd]at Ep
 cases Ep
 rw[hb]at hb'
 cases hb'
 exact hw env he hf ca hca
end HL.Lake
end
set_option tactic.hygienic true
open PySem PySem.W PySem.Calls PyProof.Rows
namespace HL.Lake
noncomputable def addrs:List Addr:=[nat_lit 2,nat_lit 3,nat_lit 15,nat_lit 17,nat_lit 18,nat_lit 20,nat_lit 21,nat_lit 22,nat_lit 27,nat_lit 32,nat_lit 37,nat_lit 38,nat_lit 41,nat_lit 42,nat_lit 43,nat_lit 46,nat_lit 48,nat_lit 49,nat_lit 50,nat_lit 57,nat_lit 59,nat_lit 60,nat_lit 62,nat_lit 63,nat_lit 64,nat_lit 66,nat_lit 67,nat_lit 69,nat_lit 70,nat_lit 71,nat_lit 72,nat_lit 73,nat_lit 74,nat_lit 75,nat_lit 78,nat_lit 80,nat_lit 81,nat_lit 83,nat_lit 84,nat_lit 85,nat_lit 92,nat_lit 94,nat_lit 95,nat_lit 97,nat_lit 98,nat_lit 99,nat_lit 101,nat_lit 102,nat_lit 104,nat_lit 105,nat_lit 106,nat_lit 108,nat_lit 109,nat_lit 111,nat_lit 112,nat_lit 113,nat_lit 115,nat_lit 116,nat_lit 118,nat_lit 119,nat_lit 120,nat_lit 122,nat_lit 123,nat_lit 125,nat_lit 126,nat_lit 127,nat_lit 129,nat_lit 130,nat_lit 132,nat_lit 133,nat_lit 134,nat_lit 135,nat_lit 137,nat_lit 138,nat_lit 140,nat_lit 141,nat_lit 142,nat_lit 144,nat_lit 145,nat_lit 147,nat_lit 148,nat_lit 149,nat_lit 150,nat_lit 152,nat_lit 153,nat_lit 155,nat_lit 156,nat_lit 157,nat_lit 159,nat_lit 160,nat_lit 162,nat_lit 163,nat_lit 164,nat_lit 165,nat_lit 166,nat_lit 167,nat_lit 168,nat_lit 171,nat_lit 172,nat_lit 174,nat_lit 175,nat_lit 177,nat_lit 178,nat_lit 179,nat_lit 186,nat_lit 188,nat_lit 189,nat_lit 191,nat_lit 192,nat_lit 193,nat_lit 195,nat_lit 196,nat_lit 198,nat_lit 199,nat_lit 200,nat_lit 202,nat_lit 203,nat_lit 205,nat_lit 206,nat_lit 207,nat_lit 209,nat_lit 210,nat_lit 212,nat_lit 213,nat_lit 214,nat_lit 216,nat_lit 217,nat_lit 219,nat_lit 220,nat_lit 221,nat_lit 223,nat_lit 224,nat_lit 226,nat_lit 227,nat_lit 228,nat_lit 229,nat_lit 230,nat_lit 231,nat_lit 232,nat_lit 235,nat_lit 236,nat_lit 243,nat_lit 246,nat_lit 247,nat_lit 254,nat_lit 255,nat_lit 257,nat_lit 258,nat_lit 260,nat_lit 261,nat_lit 262,nat_lit 264,nat_lit 265,nat_lit 267,nat_lit 268,nat_lit 269,nat_lit 271,nat_lit 272,nat_lit 274,nat_lit 275,nat_lit 276,nat_lit 277,nat_lit 279,nat_lit 280,nat_lit 282,nat_lit 283,nat_lit 284,nat_lit 286,nat_lit 287,nat_lit 289,nat_lit 290,nat_lit 291,nat_lit 293,nat_lit 294,nat_lit 296,nat_lit 297,nat_lit 298,nat_lit 300,nat_lit 301,nat_lit 303,nat_lit 304,nat_lit 305,nat_lit 307,nat_lit 308,nat_lit 310,nat_lit 311,nat_lit 312,nat_lit 314,nat_lit 315,nat_lit 317,nat_lit 318,nat_lit 319,nat_lit 321,nat_lit 322,nat_lit 324,nat_lit 325,nat_lit 326,nat_lit 328,nat_lit 329,nat_lit 331,nat_lit 332,nat_lit 333,nat_lit 335,nat_lit 336,nat_lit 338,nat_lit 339,nat_lit 340,nat_lit 342,nat_lit 343,nat_lit 345,nat_lit 346,nat_lit 347,nat_lit 349,nat_lit 350,nat_lit 352,nat_lit 353,nat_lit 354,nat_lit 356,nat_lit 357,nat_lit 359,nat_lit 360,nat_lit 361,nat_lit 363,nat_lit 364,nat_lit 366,nat_lit 367,nat_lit 368,nat_lit 370,nat_lit 371,nat_lit 373,nat_lit 374,nat_lit 375,nat_lit 377,nat_lit 378,nat_lit 380,nat_lit 381,nat_lit 382,nat_lit 384,nat_lit 385,nat_lit 387,nat_lit 388,nat_lit 389,nat_lit 391,nat_lit 392,nat_lit 394,nat_lit 395,nat_lit 396,nat_lit 398,nat_lit 399,nat_lit 401,nat_lit 402,nat_lit 403,nat_lit 405,nat_lit 406,nat_lit 408,nat_lit 409,nat_lit 410,nat_lit 412,nat_lit 413,nat_lit 415,nat_lit 416,nat_lit 417,nat_lit 419,nat_lit 420,nat_lit 422,nat_lit 423,nat_lit 424,nat_lit 426,nat_lit 427,nat_lit 429,nat_lit 430,nat_lit 431,nat_lit 433,nat_lit 434,nat_lit 436,nat_lit 437,nat_lit 438,nat_lit 440,nat_lit 441,nat_lit 443,nat_lit 444,nat_lit 445,nat_lit 447,nat_lit 448,nat_lit 450,nat_lit 451,nat_lit 452,nat_lit 454,nat_lit 455,nat_lit 457,nat_lit 458,nat_lit 459,nat_lit 461,nat_lit 462,nat_lit 464,nat_lit 465,nat_lit 466,nat_lit 468,nat_lit 469,nat_lit 471,nat_lit 472,nat_lit 473,nat_lit 475,nat_lit 476,nat_lit 478,nat_lit 479,nat_lit 480,nat_lit 482,nat_lit 483,nat_lit 485,nat_lit 486,nat_lit 487,nat_lit 489,nat_lit 490,nat_lit 492,nat_lit 493,nat_lit 494,nat_lit 496,nat_lit 497,nat_lit 499,nat_lit 500,nat_lit 501,nat_lit 503,nat_lit 504,nat_lit 506,nat_lit 507,nat_lit 508,nat_lit 510,nat_lit 511,nat_lit 513,nat_lit 514,nat_lit 515,nat_lit 517,nat_lit 518,nat_lit 520,nat_lit 521,nat_lit 522,nat_lit 524,nat_lit 525,nat_lit 527,nat_lit 528,nat_lit 529,nat_lit 531,nat_lit 532,nat_lit 534,nat_lit 535,nat_lit 536,nat_lit 538,nat_lit 539,nat_lit 541,nat_lit 542,nat_lit 543,nat_lit 545,nat_lit 546,nat_lit 548,nat_lit 549,nat_lit 550,nat_lit 552,nat_lit 553,nat_lit 555,nat_lit 556,nat_lit 557,nat_lit 559,nat_lit 560,nat_lit 562,nat_lit 563,nat_lit 564,nat_lit 566,nat_lit 567,nat_lit 569,nat_lit 570,nat_lit 571,nat_lit 573,nat_lit 574,nat_lit 576,nat_lit 577,nat_lit 578,nat_lit 580,nat_lit 581,nat_lit 583,nat_lit 584,nat_lit 585,nat_lit 587,nat_lit 588,nat_lit 590,nat_lit 591,nat_lit 592,nat_lit 594,nat_lit 595,nat_lit 597,nat_lit 598,nat_lit 599,nat_lit 601,nat_lit 602,nat_lit 604,nat_lit 605,nat_lit 606,nat_lit 608,nat_lit 609,nat_lit 611,nat_lit 612,nat_lit 613,nat_lit 615,nat_lit 616,nat_lit 618,nat_lit 619,nat_lit 620,nat_lit 622,nat_lit 623,nat_lit 625,nat_lit 626,nat_lit 627,nat_lit 629,nat_lit 630,nat_lit 632,nat_lit 633,nat_lit 634,nat_lit 636,nat_lit 637,nat_lit 639,nat_lit 640,nat_lit 641,nat_lit 643,nat_lit 644,nat_lit 646,nat_lit 647,nat_lit 648,nat_lit 650,nat_lit 651,nat_lit 653,nat_lit 654,nat_lit 655,nat_lit 657,nat_lit 658,nat_lit 660,nat_lit 661,nat_lit 662,nat_lit 664,nat_lit 665,nat_lit 667,nat_lit 668,nat_lit 669,nat_lit 671,nat_lit 672,nat_lit 674,nat_lit 675,nat_lit 676,nat_lit 678,nat_lit 679,nat_lit 681,nat_lit 682,nat_lit 683,nat_lit 685,nat_lit 686,nat_lit 688,nat_lit 689,nat_lit 690,nat_lit 692,nat_lit 693,nat_lit 695,nat_lit 696,nat_lit 697,nat_lit 699,nat_lit 700,nat_lit 702,nat_lit 703,nat_lit 704,nat_lit 706,nat_lit 707,nat_lit 709,nat_lit 710,nat_lit 711,nat_lit 713,nat_lit 714,nat_lit 716,nat_lit 717,nat_lit 718,nat_lit 720,nat_lit 721,nat_lit 723,nat_lit 724,nat_lit 725,nat_lit 727,nat_lit 728,nat_lit 730,nat_lit 731,nat_lit 732,nat_lit 734,nat_lit 735,nat_lit 737,nat_lit 738,nat_lit 739,nat_lit 741,nat_lit 742,nat_lit 744,nat_lit 745,nat_lit 746,nat_lit 748,nat_lit 749,nat_lit 751,nat_lit 752,nat_lit 753,nat_lit 755,nat_lit 756,nat_lit 758,nat_lit 759,nat_lit 760,nat_lit 761,nat_lit 762,nat_lit 763,nat_lit 764,nat_lit 767,nat_lit 769,nat_lit 770,nat_lit 772,nat_lit 773,nat_lit 774,nat_lit 776,nat_lit 777,nat_lit 779,nat_lit 780,nat_lit 781,nat_lit 783,nat_lit 784,nat_lit 786,nat_lit 787,nat_lit 788,nat_lit 790,nat_lit 791,nat_lit 793,nat_lit 794,nat_lit 795,nat_lit 797,nat_lit 798,nat_lit 800,nat_lit 801,nat_lit 802,nat_lit 804,nat_lit 805,nat_lit 807,nat_lit 808,nat_lit 809,nat_lit 811,nat_lit 812,nat_lit 814,nat_lit 815,nat_lit 816,nat_lit 818,nat_lit 819,nat_lit 821,nat_lit 822,nat_lit 823,nat_lit 825,nat_lit 826,nat_lit 828,nat_lit 829,nat_lit 830,nat_lit 832,nat_lit 833,nat_lit 835,nat_lit 836,nat_lit 837,nat_lit 839,nat_lit 840,nat_lit 842,nat_lit 843,nat_lit 844,nat_lit 846,nat_lit 847,nat_lit 849,nat_lit 850,nat_lit 851,nat_lit 853,nat_lit 854,nat_lit 856,nat_lit 857,nat_lit 858,nat_lit 861,nat_lit 862]
local macro_rules (kind:=Lean.Parser.Command.in)
| s=>if s[0].isOfKind `Lean.Parser.Command.universe then pure (Lean.mkNullNode (s[0][1].getArgs.map fun x=>s[2].rewriteBottomUp fun y=>if y.getId==`X then Lean.mkIdent (.str `hd ("tw"++toString (`HL.Lake.hd++x.getId).hash)) else y)) else Lean.Macro.throwUnsupported
universe o_1_620 o_1_1428 o_1_193 o_1_359 o_1_1031 o_1_611 o_1_1212 o_1_794 o_1_184 o_1_814 o_1_1166 o_1_1395 o_1_536 o_1_340 o_1_237 o_1_595 o_1_349 o_1_216 o_1_411 o_1_713 o_1_1325 o_1_407 o_1_1261 o_1_766 o_1_364 o_1_72 o_1_404 o_1_523 o_1_323 o_1_784 o_1_910 o_1_579 o_1_1263 o_1_636 o_1_815 o_1_1118 o_1_432 o_1_1277 o_1_211 view_1_39 o_1_1073 o_1_1021 o_1_325 o_1_940 o_1_1202 o_1_1042 o_1_468 o_1_518 o_1_310 o_1_502 o_1_1219 o_1_1083 o_1_634 o_1_1430 o_1_465 o_1_1160 o_1_1235 o_1_413 o_1_87 o_1_1311 o_1_479 o_1_261 o_1_1389 o_1_303 o_1_787 o_1_607 o_1_504 o_1_763 o_1_1117 o_1_223 o_1_1158 o_1_1466 o_1_270 o_1_1421 o_1_846 o_1_851 o_1_1227 o_1_1131 o_1_1045 o_1_424 o_1_1179 o_1_960 o_1_973 o_1_1120 o_1_1206 o_1_1191 o_1_423 o_1_174 o_1_543 o_1_858 o_1_661 o_1_1009 tree_1_176 o_1_660 o_1_606 o_1_101 o_1_902 o_1_961 o_1_786 o_1_115 o_1_524 o_1_1094 tree_1_1086 o_1_125 o_1_769 o_1_516 o_1_767 o_1_1393 o_1_480 o_1_692 o_1_1165 o_1_727 o_1_148 o_1_440 o_1_929 o_1_143 o_1_249 o_1_1344 o_1_1155 o_1_218 o_1_1225 o_1_452 o_1_838 o_1_873 o_1_179 o_1_573 o_1_365 o_1_366 o_1_1079 o_1_693 o_1_741 o_1_245 o_1_1298 o_1_131 o_1_761 o_1_434 o_1_714 o_1_226 o_1_712 o_1_313 o_1_1051 o_1_301 o_1_621 o_1_1097 o_1_740 o_1_576 o_1_691 o_1_683 sts_1_64 o_1_1218 o_1_123 o_1_1070 o_1_1385 o_1_1007 o_1_161 o_1_996 o_1_640 o_1_483 sts_1_1469 o_1_798 o_1_1437 o_1_920 o_1_951 o_1_1115 o_1_388 tree_1_267 o_1_1057 o_1_1291 o_1_1017 o_1_779 o_1_227 o_1_1453 o_1_1358 o_1_874 o_1_510 o_1_1250 o_1_1477 o_1_1226 o_1_1101 o_1_1013 o_1_1143 o_1_244 o_1_234 o_1_369 o_1_292 o_1_1190 o_1_362 o_1_1105 o_1_1047 o_1_1055 o_1_168 o_1_1452 o_1_1006 o_1_1211 o_1_1150 o_1_294 o_1_754 o_1_299 o_1_475 o_1_886 o_1_632 o_1_530 o_1_1111 o_1_1026 o_1_662 o_1_167 o_1_1069 o_1_1367 o_1_73 o_1_152 o_1_1071 o_1_565 o_1_1098 o_1_935 o_1_394 o_1_649 o_1_625 o_1_856 o_1_756 o_1_1361 o_1_759 o_1_980 tree_1_62 o_1_458 o_1_65 o_1_788 o_1_1147 o_1_278 heap_1_47 o_1_859 o_1_569 o_1_1275 o_1_845 o_1_839 o_1_1213 o_1_1082 o_1_306 o_1_1482 o_1_639 o_1_448 o_1_107 o_1_979 o_1_98 sts_1_51 o_1_88 sts_1_269 o_1_705 o_1_1197 o_1_200 o_1_453 o_1_622 o_1_514 o_1_1349 o_1_257 o_1_348 o_1_949 o_1_1446 o_1_976 o_1_1076 o_1_1381 o_1_469 o_1_975 o_1_75 o_1_878 o_1_172 o_1_812 o_1_1122 o_1_1138 sts_1_95 o_1_191 o_1_676 o_1_1048 o_1_1411 o_1_1297 o_1_1407 o_1_882 o_1_309 o_1_401 o_1_150 o_1_410 o_1_542 o_1_1068 o_1_1409 o_1_488 o_1_868 o_1_205 o_1_1222 o_1_744 o_1_849 o_1_357 o_1_899 o_1_1479 o_1_1186 o_1_1331 o_1_837 o_1_1251 o_1_206 o_1_696 o_1_1296 o_1_192 o_1_1262 o_1_253 o_1_872 o_1_551 o_1_1008 o_1_1328 o_1_584 o_1_1168 o_1_1435 o_1_1240 o_1_867 o_1_103 o_1_1246 o_1_1214 o_1_1241 o_1_1332 o_1_669 o_1_1462 o_1_1159 o_1_1422 o_1_59 o_1_1236 o_1_732 o_1_984 o_1_522 o_1_1005 o_1_1204 o_1_843 o_1_352 o_1_863 o_1_642 o_1_1302 o_1_1022 o_1_1207 o_1_955 o_1_775 o_1_1216 o_1_549 o_1_735 o_1_918 o_1_1434 o_1_509 o_1_1364 o_1_563 o_1_471 o_1_1109 o_1_1199 o_1_1472 o_1_315 o_1_917 o_1_106 o_1_233 o_1_513 o_1_338 o_1_165 o_1_67 o_1_445 o_1_1342 o_1_438 o_1_805 o_1_311 o_1_124 o_1_265 o_1_354 o_1_1050 o_1_405 o_1_482 o_1_415 o_1_1345 o_1_1309 o_1_443 o_1_777 o_1_1372 o_1_1399 o_1_416 o_1_830 o_1_209 o_1_924 o_1_608 o_1_147 o_1_1403 o_1_225 o_1_1390 o_1_1305 o_1_1154 o_1_219 o_1_922 o_1_360 o_1_441 o_1_697 o_1_670 o_1_665 o_1_318 o_1_1394 o_1_1215 o_1_384 o_1_450 o_1_647 o_1_900 o_1_1124 o_1_654 o_1_1357 o_1_560 o_1_1059 tree_1_903 o_1_807 heap_1_1486 o_1_1339 o_1_1096 o_1_541 env_1_41 o_1_1335 o_1_1429 o_1_747 o_1_725 o_1_102 o_1_1270 o_1_478 o_1_719 o_1_141 o_1_1000 o_1_367 o_1_132 o_1_1062 o_1_1387 o_1_1420 o_1_154 o_1_383 o_1_327 o_1_1304 o_1_944 o_1_1353 o_1_1066 o_1_431 o_1_599 o_1_1343 o_1_490 o_1_751 o_1_1474 o_1_1141 o_1_939 o_1_538 o_1_773 o_1_295 o_1_1321 o_1_970 tree_1_134 o_1_86 o_1_113 o_1_1359 o_1_521 tree_1_341 tree_1_1279 o_1_1425 o_1_397 o_1_728 o_1_437 o_1_1340 sts_1_130 o_1_157 o_1_796 sts_1_347 o_1_66 o_1_822 o_1_907 o_1_333 o_1_1278 o_1_485 o_1_408 o_1_770 o_1_207 o_1_619 o_1_702 o_1_600 o_1_162 o_1_802 o_1_1249 o_1_501 o_1_803 o_1_494 tree_1_71 o_1_675 o_1_201 o_1_653 o_1_1458 o_1_462 o_1_1182 o_1_1415 o_1_1317 o_1_656 o_1_144 o_1_746 o_1_1308 o_1_1054 o_1_1061 o_1_1173 o_1_1326 o_1_420 o_1_1065 o_1_487 o_1_1423 o_1_1015 o_1_393 o_1_61 o_1_637 o_1_1140 o_1_1254 o_1_229 o_1_977 o_1_89 o_1_724 o_1_891 o_1_1336 o_1_682 o_1_844 o_1_644 o_1_1456 tree_1_989 o_1_1352 o_1_316 o_1_612 o_1_1441 o_1_286 o_1_550 o_1_1188 o_1_277 o_1_1244 o_1_221 o_1_356 o_1_1370 o_1_765 o_1_320 o_1_1310 o_1_1221 o_1_905 o_1_1195 o_1_319 o_1_160 o_1_252 o_1_974 o_1_1300 o_1_1078 o_1_195 o_1_1192 o_1_290 o_1_85 o_1_1478 tree_1_370 o_1_1333 o_1_1001 o_1_633 o_1_339 o_1_678 o_1_828 o_1_674 o_1_762 o_1_552 o_1_1274 o_1_852 o_1_558 o_1_151 o_1_1457 o_1_958 o_1_1449 sts_1_112 o_1_266 o_1_1347 o_1_609 o_1_430 o_1_704 o_1_1119 o_1_854 o_1_811 o_1_614 o_1_56 o_1_592 o_1_171 o_1_466 o_1_1056 o_1_222 o_1_275 o_1_959 o_1_706 o_1_594 o_1_1436 o_1_1368 o_1_525 o_1_629 o_1_60 o_1_534 o_1_1091 o_1_1102 o_1_389 o_1_931 o_1_153 o_1_497 o_1_214 o_1_734 o_1_1255 sts_1_122 o_1_446 o_1_1200 o_1_1337 o_1_1023 o_1_507 o_1_938 o_1_1194 o_1_733 o_1_623 o_1_520 o_1_892 o_1_116 o_1_1288 o_1_946 o_1_823 o_1_409 o_1_511 o_1_923 o_1_1137 o_1_941 o_1_671 o_1_804 o_1_926 o_1_577 o_1_1110 o_1_1470 o_1_304 o_1_1314 o_1_398 o_1_1237 o_1_567 o_1_444 o_1_999 o_1_1075 o_1_99 o_1_492 o_1_436 o_1_425 o_1_1247 o_1_1301 o_1_1178 o_1_1365 o_1_885 o_1_517 o_1_601 o_1_717 o_1_889 o_1_898 o_1_1209 o_1_155 o_1_1289 o_1_1448 o_1_739 o_1_925 o_1_419 o_1_279 o_1_1417 o_1_381 o_1_801 o_1_54 o_1_966 o_1_825 o_1_710 o_1_667 o_1_1010 o_1_1294 o_1_1035 o_1_481 o_1_1002 o_1_995 o_1_668 o_1_879 o_1_1450 o_1_175 o_1_703 o_1_1451 o_1_1169 o_1_451 o_1_752 o_1_1307 o_1_506 o_1_236 o_1_473 o_1_69 o_1_684 o_1_190 o_1_566 o_1_1038 o_1_1029 o_1_1475 o_1_1064 o_1_1481 o_1_260 o_1_386 o_1_604 o_1_887 o_1_716 o_1_1318 o_1_570 o_1_1242 o_1_564 o_1_1233 o_1_1134 o_1_276 o_1_100 o_1_994 o_1_745 o_1_243 o_1_1401 o_1_182 o_1_1148 o_1_235 o_1_847 o_1_1034 o_1_965 o_1_1162 o_1_1208 o_1_1404 o_1_1315 tree_1_117 tree_1_91 o_1_795 o_1_329 o_1_967 o_1_571 o_1_789 o_1_881 o_1_865 o_1_1161 o_1_590 o_1_1363 o_1_755 o_1_793 o_1_1243 o_1_426 o_1_556 o_1_142 o_1_527 o_1_246 o_1_783 o_1_57 o_1_832 o_1_1198 o_1_1052 o_1_1397 o_1_358 o_1_1439 o_1_262 o_1_1476 o_1_650 o_1_578 o_1_1356 o_1_664 o_1_842 o_1_1130 o_1_1443 o_1_1036 o_1_897 o_1_1324 o_1_1354 o_1_758 o_1_188 o_1_1303 o_1_90 o_1_1319 o_1_114 o_1_204 o_1_1265 o_1_1019 o_1_334 o_1_1272 o_1_486 o_1_1104 o_1_1459 o_1_1438 o_1_1271 o_1_711 sts_1_380 o_1_273 o_1_651 o_1_337 o_1_585 o_1_251 o_1_285 o_1_402 o_1_545 o_1_954 o_1_1133 o_1_46 o_1_1239 o_1_1092 o_1_598 o_1_956 o_1_272 o_1_1455 o_1_208 o_1_860 o_1_1044 sts_1_138 o_1_183 tree_1_345 o_1_447 o_1_1164 o_1_602 o_1_831 o_1_871 o_1_1290 o_1_969 o_1_605 o_1_213 o_1_1424 o_1_772 o_1_749 o_1_1116 o_1_933 o_1_1351 o_1_158 o_1_963 o_1_74 o_1_1383 o_1_344 o_1_1080 tree_1_126 o_1_818 o_1_658 o_1_913 o_1_1269 o_1_508 o_1_1295 o_1_850 o_1_781 o_1_1103 o_1_768 o_1_1256 o_1_1072 o_1_1373 sts_1_178 o_1_457 o_1_695 o_1_1268 o_1_709 o_1_586 o_1_1174 o_1_1445 o_1_1157 tree_1_361 o_1_1232 o_1_220 o_1_489 o_1_643 o_1_992 o_1_400 o_1_1323 o_1_810 o_1_1106 o_1_250 o_1_528 o_1_1350 o_1_1260 o_1_821 o_1_330 o_1_635 o_1_646 o_1_1284 tree_1_108 o_1_833 o_1_166 o_1_1282 o_1_529 o_1_1085 o_1_800 o_1_618 o_1_730 o_1_240 o_1_1460 o_1_1136 o_1_417 o_1_1229 o_1_395 o_1_840 o_1_241 o_1_870 o_1_911 o_1_215 o_1_1465 o_1_626 o_1_173 o_1_467 o_1_880 o_1_1144 o_1_302 o_1_986 o_1_597 o_1_1442 o_1_657 o_1_893 o_1_895 o_1_1180 o_1_934 o_1_1386 tree_1_280 o_1_627 o_1_1151 o_1_797 o_1_493 o_1_418 o_1_942 o_1_324 o_1_953 o_1_256 o_1_1139 o_1_861 o_1_613 o_1_1012 o_1_896 o_1_1257 o_1_474 o_1_464 o_1_1125 o_1_857 o_1_1016 o_1_581 o_1_503 o_1_791 o_1_1346 o_1_591 o_1_1228 o_1_1293 o_1_1123 o_1_1406 o_1_1205 o_1_1223 o_1_927 o_1_877 o_1_947 o_1_737 o_1_1371 o_1_866 o_1_1043 o_1_588 o_1_681 o_1_809 o_1_1330 o_1_1392 o_1_459 o_1_1181 o_1_1201 o_1_988 o_1_641 o_1_1258 o_1_308 o_1_738 o_1_1040 o_1_930 o_1_351 o_1_826 o_1_248 o_1_1003 o_1_1033 o_1_1132 tree_1_49 o_1_1153 o_1_1286 o_1_1388 o_1_1146 o_1_726 o_1_630 o_1_720 o_1_390 o_1_819 o_1_427 o_1_455 o_1_548 o_1_105 o_1_1152 o_1_690 o_1_699 o_1_1276 o_1_1041 o_1_353 o_1_317 o_1_1112 o_1_368 o_1_297 o_1_686 o_1_707 o_1_836 o_1_912 o_1_1464 o_1_1113 o_1_1099 o_1_181 o_1_1322 o_1_288 o_1_199 o_1_255 tree_1_1374 o_1_572 o_1_553 o_1_1175 o_1_1077 o_1_429 o_1_983 o_1_1253 o_1_336 o_1_829 o_1_689 o_1_968 o_1_901 o_1_312 o_1_1014 o_1_355 o_1_385 o_1_1431 o_1_685 o_1_186 o_1_495 o_1_1413 o_1_1108 o_1_982 sts_1_282 sts_1_1380 o_1_422 tree_1_1183 o_1_1366 o_1_539 o_1_496 o_1_817 o_1_332 o_1_1416 o_1_331 o_1_981 o_1_808 o_1_159 o_1_1024 o_1_1338 o_1_884 o_1_70 o_1_774 o_1_1400 o_1_776 o_1_557 o_1_663 o_1_742 o_1_721 o_1_972 o_1_68 o_1_403 o_1_231 o_1_242 o_1_1129 o_1_1172 o_1_283 o_1_296 o_1_1058 o_1_146 o_1_555 o_1_197 o_1_1230 o_1_305 o_1_816 o_1_760 o_1_439 o_1_472 o_1_782 tree_1_76 o_1_562 o_1_228 o_1_1089 o_1_546 o_1_1248 o_1_1027 o_1_698 o_1_679 o_1_998 o_1_1444 o_1_264 o_1_1049 o_1_1084 o_1_1020 o_1_932 o_1_700 o_1_593 o_1_535 o_1_1234 o_1_952 sts_1_84 o_1_476 o_1_230 o_1_824 o_1_412 o_1_616 o_1_1414 o_1_1432 o_1_139 o_1_326 o_1_587 o_1_194 o_1_45 o_1_790 o_1_454 o_1_1316 o_1_962 o_1_212 o_1_723 o_1_580 o_1_461 o_1_537 o_1_948 o_1_916 o_1_1176 o_1_198 o_1_1167 o_1_835 o_1_96 tree_1_1467 o_1_133 o_1_58 o_1_52 o_1_163 o_1_937 o_1_1063 o_1_875 o_1_559 o_1_291 o_1_1193 o_1_202 o_1_1418 o_1_322 o_1_263 o_1_1037 o_1_731 o_1_945 o_1_169 tree_1_1484 o_1_894 o_1_1396 o_1_1483 o_1_1127 o_1_335 o_1_908 o_1_1410 o_1_298 o_1_433 o_1_906 o_1_1145 o_1_987 o_1_583 o_1_1220 o_1_1312 o_1_500 o_1_615 o_1_1463 o_1_688 o_1_1402 o_1_1408 o_1_1287 o_1_396 o_1_1360 o_1_648 o_1_672 o_1_187 o_1_1126 o_1_915 o_1_655 o_1_780 o_1_499 o_1_574 o_1_1171 o_1_544 o_1_1329 o_1_532 o_1_753 o_1_531 o_1_259 o_1_1095 o_1_43 o_1_164 o_1_391 o_1_677 sts_1_343 o_1_1030 o_1_238 o_1_748 o_1_853 o_1_718 o_1_258 o_1_1028 o_1_628 o_1_460 o_1_1427 o_1_515 o_1_1264 o_1_919 o_1_864 o_1_287 o_1_888 o_1_1267 in theorem X:True:=trivial
theorem hd.tw9833117015537736721:True:=trivial
theorem hd.tw14404834873873396726:True:=trivial
theorem hd.tw1431521616801677902:True:=trivial
set_option Elab.async true in
set_option maxHeartbeats 0 in
theorem hd:PySem.Challenge.rw_te0035_03.Holds:=by
 w_on; o_law; o_head (kHook HL.Lake.top.heap_1 HL.Lake.addrs (fun _=>by kernel_rfl)); (case hw=>w_witness2); w_strict (
  k_fill
  intro w s₀ s₁ mg mb G Y fa o pm cd doc dV kV ho hd hcd hD hmg hg args vals as hpre hlay hrd hwl hlo
  have KX:=kIn_of Y
  refine Ground.open G ?_
  intro T B D TE TW
  obtain ⟨_,_,M⟩:=bmod_of_top T
  try (obtain ⟨_,_,he,B0⟩:=based_of_top T rfl hmg ho hd; have he':cd=_:=he; subst he'; clear he)
  clear hmg
  wrow_args hpre hlay hrd hwl hlo
  first | refine callC_kw (enter_call ?_) | refine enter_call ?_ | refine callC_kw (enter_callW ?_) | refine enter_callW ?_ | w_how
  w_top on
  have K0:=below_caller (Top.heap T)
  w_call any ho hd hcd hD T F
  (refine law_endC (y:=Str.ofString "form") (others:=[Str.ofString "head",Str.ofString "size",Str.ofString "closing",Str.ofString "text",Str.ofString "due",Str.ofString "rows",Str.ofString "values",Str.ofString "place",Str.ofString "drawn",Str.ofString "value",Str.ofString "told",Str.ofString "read",Str.ofString "t",Str.ofString "got",Str.ofString "lines"]) (by assumption) (by assumption) (by assumption) (by assumption) (by assumption) (by assumption) (by assumption) rfl ?hx ?hcl ?hnd ?h ?hn ?hp); (case hx=>kernel_rfl); (case hcl=>intro n; rfl); (case hnd=>exact nodupB_iff (by kernel_rfl)); (case hn=>intro cls; rfl); (case hp=>first | rfl | kernel_rfl!); (case h=>intro c h1 h2 h3 env he hf ca hca; exact law_fin c (by rw [h3,h2]) _ (by omega) _ _ _ rfl rfl rfl env he hf ca hca))
end HL.Lake
end
theorem PySem.Challenge.cw_te0035_03_holds : PySem.Challenge.rw_te0035_03.Holds :=
 HL.Lake.hd
