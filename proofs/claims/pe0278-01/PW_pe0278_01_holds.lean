import PyProof.Rows.All
import Wide.All
import OpenK.AllK
import Wide.FinOn
import PyProof.Rows.StrStrike
import KE.KxPercentT
import PySem.Challenge.RW_pe0278_01
set_option linter.all false
set_option Elab.async false
set_option tactic.hygienic false
set_option genInjectivity false
set_option genSizeOf false
set_option compiler.extract_closed false
set_option bootstrap.genMatcherCode false
set_option genCtorIdx false
set_option maxRecDepth 100000
set_option maxHeartbeats 0
namespace Mine.Internal
open PySem renaming Value→CX,sizeLine→CZ,wpAny_bind→C0,Addr→C1,entryFor_of_tree→Db,wpAny_pure→Dc,Shared→Df,DictEntry→Dj,Around→Dk,Result→Dq,codeAny_builtin→DP,wpAny_newObj_type→DU,OsState→Ea,wpAny_isInstance→Eh,wpAny_holding→Ej,World→Ek,wpAny_of_eq→Es,wpAny_seqItems→Ez,wpAny_updateSeq→EC,wpAny_field→ED,wpAny_dictEntries→ES,wpAny_isOneOf_itemiter→Fa,wpAny_handled→Fh,wpAny_specialOf→Fm,wpAny_loadPart'→Fn,wpAny_typeOf→Ft,wpAny_mono→Fu,wpAny_tryCatch→Fw,wpAny_rule→Fy,wpAny_throw→FC,wpAny_pyIter_gen→FJ,wpAny_callSpecial?_own→FQ,wpAny_loadPart→FW,wpAny_listPart→FX,wpAny_mkInt→FY,wpAny_updateDictKeys→F0,wpAny_load→F7,wpAny_call→F8,wpAny_updatePart→Gk,wpAny_roomToWake→Gl,wpAny_letGo→Gr,wpAny_genNumber→Gs,wpAny_dictEpoch→Gw,wpAny_genState→Gz,wpAny_len_body→GA,wpAny_fieldsOf→GB,wpAny_onRaise→GH
open List renaming length_append→CY,length_map→C2,mem_append_left→C3,length_cons→C5,append_assoc→C6,length→C9,map_append→Da,map_cons→Dd,length_nil→De,getElem?_eq_some_iff→Dg,exists_cons_of_ne_nil→Di,mem_singleton→Dl,append_nil→Dm,perm_middle→Dn,perm_append_comm_assoc→Do,mem_append_right→Dp,map→Ds,getElem?_map→Dv,mem_of_getElem?→Dw,drop_eq_nil_iff→Dx,mem_append→DA,getElem?_eq_getElem→DB,sum_cons→DC,drop_drop→DE,nil_append→DF,perm_append_comm→DH,replicate→DI,length_flatten→DJ,mem_cons_self→DL,mem_map_of_mem→DM,length_drop→DO,getLast?_eq_some_getLast→DS,map_map→DV,drop→DX,length_take→DY,flatMap_cons→D8,getD→D9,flatMap_append→Eb,length_filter_le→Ed,mem_cons→Ei,length_pos_iff→Em,take_append_drop→Eo,length_replicate→Ep,nodup_append→Eu,forIn_cons→Ev,foldl_cons→Ew,headD→EA,takeWhile_append_dropWhile→EE,forIn_nil→EF,length_eq_zero_iff→EG,filter_cons_of_pos→EH,filter_cons_of_neg→EI,take_of_length_le→EM,map_nil→EO,nodup_cons→EP,sum_append→EQ,getLast?_concat→EV,all_eq_true→EW,drop_eq_getElem_cons→EY,getElem?_append_left→EZ,mem_filter→E3,mem_iff_getElem?→Fc,any_eq_true→Fe,cons_append→Ff,getElem_mem→Fg,eq_nil_of_length_eq_zero→Fi,getLast?_append→Fl,filter_map→Fq,takeWhile_append_of_pos→Fr,mem_map→Fs,all_takeWhile→Fz,perm_append_singleton→FA,getElem?_append_right→FB,take_add_one→FD,head?_dropWhile_not→FH,mem_of_mem_getLast?→FI,cons_ne_nil→FK,getLast?_cons_cons→FL,mem_flatMap→FM,flatMap_nil→FN,range→FR,eq_nil_or_concat→FU,concat_eq_append→FV,mem_cons_of_mem→FZ,Perm→F3,map_eq_nil_iff→F5,map_take→F6,set→Gg,sum_nil→Gi,sum→Gj,length_tail→Gp,getElem_map→Gq,take_left'→Gt,drop_left'→Gu,all_append→Gx,nodup_nil→GD,takeWhile→GE,map_drop→GG,take→GI,range'→GP,tail→GQ,rec→GR
open Int renaming ofNat→C4,ofNat_eq_natCast→Dz,natCast_nonneg→EL,fmod_eq_emod_of_nonneg→Fv,ofNat_lt→Gb,toNat_natCast→Gc,sub_zero→Gh,emod_nonneg→Gv,fmod→Gy,ediv_one→GK,ne_of_gt→GL
open List.Perm renaming append_left→C7,refl→C8,trans→DW,cons→Ee,swap→Ey
open Nat renaming le_refl→Dh,zero_le→Du,succ_pos→DD,le_of_ble_eq_true→DG,lt_of_succ_lt→DK,mod_lt→DN,eq_of_beq_eq_true→DR,exists_eq_add_of_le'→DZ,le_succ_of_le→D0,le_of_lt→Ef,exists_eq_succ_of_ne_zero→Et,le_trans→Ex,not_lt→EJ,lt_of_lt_of_le→EK,zero_add→EN,add_assoc→ER,succ_ne_zero→EX,lt_of_le_of_lt→E4,add_sub_cancel_left→E5,le_succ→E6,beq→E7,le_of_succ_le→FE,lt_irrefl→FF,ble→FO,lt_or_ge→FP,lt_trans→FS,le_add_left→FT,le_of_eq→Ga,ne_of_gt→Gd,add_comm→Ge,le_add_right→Gm,le_of_not_lt→Gn,zero_min→GJ,sub_self→GM,mul_zero→GN,le_zero→GO
open Bool renaming and_eq_true→Dt,false_ne_true→Dy,false→DT,false_eq_true→Eg,true→En,and_eq_true_iff→ET,not_eq_true'→E8,or_eq_false_iff→Fj,and_self→FG,and_false→F2,not_eq_false'→F9,or_false→GF
open Array renaming getElem?_setIfInBounds→DQ,getElem?_modify→Ec,toList→El,ext_getElem?→Er,findIdx?_eq_none_iff→EU,getElem?_push→E0,size_setIfInBounds→E1,size_push→E2,getElem?_eq_none→E9,mk→Fb,toList_append→F4,size_modify→Gf,ext'→GC
open Option renaming isNone_iff_eq_none→EB,map_some→Fo
section
local macro_rules (kind := Lean.Parser.Command.declaration) | s => if s.getPos?.isSome then return s.rewriteBottomUp (·.setInfo .none) else Lean.Macro.throwUnsupported
section
open PyProof.Rows PySem PySem.W
def mG (l:List String) (x:List Lean.Syntax):List Lean.Syntax:=l.foldl (λx t=>
  let n:=t.front.toNat - 48
  if n < 10 then .node .none (t.drop 1).toString.toName (x.take n).toArray::x.drop n else .ident .none t.toRawSubstring (.mkSimple t) []::x) x
def mH (s:String) (x:List Lean.Syntax):List Lean.Syntax:=mG (s.splitOn " ") x
def mE (s:Lean.Syntax):Lean.Syntax:=
  let v := (s.getArg 1).getSepArgs.toList
  let n := v.headD s
  let e := v.tail.map λx => if x.isOfKind `num then (mH "nat_lit 2rawNatLit 1null dec 2Lean.Parser.Term.app" [x]).headD x else x
  let z := e.length
  let k := (n.isNatLit?.getD 0).repr
  let a := mH "cutB hroom" []
  (if n.isIdent then mH "2Lean.Parser.Term.app refine 2Lean.Parser.Tactic.refine" (n :: mH ("hR hroom " ++ (z + 4).repr ++ "null") (e ++ mH "trivial 1Lean.Parser.Tactic.tacticTrivial 1null 1Lean.Parser.Tactic.tacticSeq1Indented 1Lean.Parser.Tactic.tacticSeq by 2Lean.Parser.Term.byTactic kernel_rfl 1tacticKernel_rfl 1null 1Lean.Parser.Tactic.tacticSeq1Indented 1Lean.Parser.Tactic.tacticSeq by 2Lean.Parser.Term.byTactic" []))
    else
     let b := mH ((if z < 2 then "t n hR hroom os d R A rest 9null" else "p" ++ k ++ " t" ++ k ++ " n" ++ k ++ " x" ++ k ++ " cf 5null") ++ " intro 2Lean.Parser.Tactic.intro then " ++ (if k == "0" then "0null hole 2Lean.Parser.Term.syntheticHole" else "kernel_rfl 1tacticKernel_rfl 1null 1Lean.Parser.Tactic.tacticSeq1Indented 1Lean.Parser.Tactic.tacticSeq by 2Lean.Parser.Term.byTactic 0null hole 2Lean.Parser.Term.syntheticHole")) []
     let e := if z == 3 then a.tail ++ e else e
     mH "2Lean.Parser.Term.app refine 2Lean.Parser.Tactic.refine 3null 1Lean.Parser.Tactic.tacticSeq1Indented 1Lean.Parser.Tactic.tacticSeq paren 2Lean.Parser.Tactic.paren" (e.headD n :: (if z < 2 then mH (if k == "0" then "1null" else "2null") b else mH ((e.length + 2).repr ++ "null") (a.take 1 ++ e.tail ++ b)))).headD s
section
local macro_rules | `(tactic| o_head $_) => `(tactic| assumption)
theorem k0:PySem.Challenge.rw_pe0278_01.row.Holds→PySem.Challenge.rw_pe0278_01.row.Holds:=by
 intro h
 x_head
end
end
local macro_rules (kind := Lean.Parser.Tactic.«tacticExists_,,») | s => return mE s
local macro_rules (kind := Lean.Parser.Tactic.lia) | s => if ((s.getArg 1).getArg 0).getNumArgs == 0 then return s.setArg 1 ((mH "abstractProof no 2Lean.Parser.Tactic.negConfigItem 1Lean.Parser.Tactic.configItem 1null 1Lean.Parser.Tactic.optConfig" []).headD s) else Lean.Macro.throwUnsupported
section
open PyProof.Rows PySem PySem.Calls PySem.Spec PySem.W PySem.W.X
section
open Sem (wp)
theorem gg {p:Prop} (h:∀G:Prop,(p→G)→G):p:=h p id
noncomputable abbrev jx:Code→Sem Fin:=ZFast.zw11892475500146522536 ZFast.tableZ
theorem dr:denote table=jx:=by
 rw [ZFast.tableZ_eq,ZFast.ze11892475500146522536]
noncomputable def fq:Sem Unit:=do match ←nsGet cStatics "sys.recursionlimit" with
 | none=>pure ()
 | some _=>unsupported "limit"
theorem ko {M:Model} {Γ:PySem.Ctx} {A:Dk} {Q:Unit→Pos→Df→Prop} {E:CX→Pos→Df→Prop} {p:Pos} {s:Df} (hΓ:Γ.In A) (hd:A.depth < recursionLimit) (x:wp M Γ fq Q E p s):wp M Γ enterFrame Q E p s:=by
 have hsum:((((Γ.code,p)::Γ.below).map (·.1)).map (·.frames)).sum+((((Γ.code,p)::Γ.below).map (·.1)).filter Code.isCreation).length < recursionLimit:=by
  have hge:=frameCount_ge ((Γ.code,p)::Γ.below)
  simp only [frameCount_cons] at hge
  have:=hΓ.2.1
  lia
 have hlt:¬((((Γ.code,p)::Γ.below).map (·.1)).map (·.frames)).sum ≥ recursionLimit:=by lia
 have hlt':¬((((Γ.code,p)::Γ.below).map (·.1)).map (·.frames)).sum+((((Γ.code,p)::Γ.below).map (·.1)).filter Code.isCreation).length ≥ recursionLimit:=by exact Nat.not_le.mpr ‹_›
 have hn:=not_nearTheLimit (p:=p) hΓ hd
 unfold fq at x
 rw [Sem.wp_bind'] at x
 delta enterFrame
 rw [Sem.wp_bind']
 show wp M Γ (currentRecursionLimit >>= _) Q E p s
 delta currentRecursionLimit
 rw [Sem.wp_bind',Sem.wp_bind']
 refine Sem.wp_mono M Γ _ (λv p' s' y=>?_) (λξ ξ ξ y=>y) p s x
 cases v with
 | some _=>
  have y':wp M Γ (unsupported "limit":Sem Unit) Q E p' s':=y
  exact (by unfold unsupported at y';rw [Sem.wp_unsupported] at y';exact y':False).elim
 | none=>
  have y':Q () p' s':=y
  show wp M Γ (if nearTheLimitUnderAClaim (((Γ.code,p)::Γ.below).map (·.1)) (((((Γ.code,p)::Γ.below).map (·.1)).map (·.frames)).sum+((((Γ.code,p)::Γ.below).map (·.1)).filter Code.isCreation).length) recursionLimit=true then _ else _) _ _ p' s'
  rw [if_neg (by rw [hn];exact Dy)]
  show wp M Γ (if ((((Γ.code,p)::Γ.below).map (·.1)).map (·.frames)).sum ≥ recursionLimit then _ else _) _ _ p' s'
  rw [if_neg hlt]
  show wp M Γ (if ((((Γ.code,p)::Γ.below).map (·.1)).map (·.frames)).sum+((((Γ.code,p)::Γ.below).map (·.1)).filter Code.isCreation).length ≥ recursionLimit then _ else _) _ _ p' s'
  rw [if_neg hlt']
  exact y'
noncomputable def Le {α:Type} (M:Model) (A:Dk) (c:Code) (t' t:Sem α):Prop:=
 ∀(Γ:PySem.Ctx) (Q:α→Pos→Df→Prop) (E:CX→Pos→Df→Prop) (p:Pos) (s:Df),Γ.code=c→Γ.In (A.under c)→wp M Γ t' Q E p s→wp M Γ t Q E p s
section
variable {M:Model} {A:Dk} {c:Code} {α β:Type}
theorem Le.refl (t:Sem α):Le M A c t t:=λξ ξ ξ ξ ξ ξ ξ x=>x
theorem Le.trans {t t' t'':Sem α} (h1:Le M A c t'' t') (h2:Le M A c t' t):Le M A c t'' t:=λΓ Q E p s hc hΓ x=>h2 Γ Q E p s hc hΓ (h1 Γ Q E p s hc hΓ x)
theorem Le.bind {t t':Sem α} {f f':α→Sem β} (h1:Le M A c t' t) (h2:∀x,Le M A c (f' x) (f x)):Le M A c (t' >>= f') (t >>= f):=λΓ Q E p s hc hΓ x=>by
 simp only [Sem.wp_bind'] at x ⊢
 exact h1 Γ _ _ p s hc hΓ (Sem.wp_mono M Γ t' (λv p' s' y=>h2 v Γ Q E p' s' hc hΓ y) (λξ ξ ξ y=>y) p s x)
theorem Le.bindR {t:Sem α} {f f':α→Sem β} (h2:∀x,Le M A c (f' x) (f x)):Le M A c (t >>= f') (t >>= f):=Le.bind (Le.refl t) h2
theorem Le.bindL {t t':Sem α} {f:α→Sem β} (h1:Le M A c t' t):Le M A c (t' >>= f) (t >>= f):=Le.bind h1 λξ=>Le.refl _
theorem Le.onRaise {t t':Sem α} {g:CX→Sem Unit} (h1:Le M A c t' t):Le M A c (t'.onRaise g) (t.onRaise g):=λΓ Q E p s hc hΓ x=>by
 simp only [Sem.wp_onRaise] at x ⊢
 exact h1 Γ _ _ p s hc hΓ x
theorem Le.holding {t t':Sem α} {vs:List CX} (h1:Le M A c t' t):Le M A c (PySem.holding vs t') (PySem.holding vs t):=λΓ Q E p s hc hΓ x=>by
 simp only [Sem.wp_holding] at x ⊢
 exact h1 Γ _ _ p s hc hΓ x
theorem Le.operate {t t':Sem CX} {vs:List CX} (h1:Le M A c t' t):Le M A c (PySem.operate vs t') (PySem.operate vs t):=λΓ Q E p s hc hΓ x=>by
 simp only [Sem.wp_operate] at x ⊢
 exact h1 Γ _ _ p s hc hΓ x
theorem Le.ite {b:Prop} [Decidable b] {t t' u u':Sem α} (h1:Le M A c t' t) (h2:Le M A c u' u):Le M A c (if b then t' else u') (if b then t else u):=by
 split
 ·exact h1
 ·exact h2
theorem Le.room {what:String} {vs:List CX} {f:Unit→Sem β} (hu:(A.under c).units < cLine):Le M A c (f ()) (cRoomFor what vs >>= f):=λΓ Q E p s ξ hΓ x=>by
 rw [Sem.wp_bind']
 exact Sem.wp_cRoomFor what vs (E4 hΓ.2.2.2.2 hu) x
theorem Le.enter {f:Unit→Sem β} (hd:(A.under c).depth < recursionLimit):Le M A c (fq >>= f) (enterFrame >>= f):=λΓ Q E p s ξ hΓ x=>by
 simp only [Sem.wp_bind'] at x ⊢
 exact ko hΓ hd x
theorem eE {t t':Sem Fin} {Q:Fin→Df→Prop} {E:CX→Df→Prop} {s:Df} (h:Le M A c t' t) (x:wpOwn M A c t' Q E s):wpOwn M A c t Q E s:=λΓ p hc hΓ=>
 h Γ _ _ p s hc (hc ▸ hΓ.in) (x Γ p hc hΓ)
theorem Le.around {body:List Stmt} {env:Env}:Le M A (.func body env) (pure []) comprehensionsAround:=λΓ Q E p s hc hΓ x=>by
 have x':Q [] p s:=x
 delta comprehensionsAround callersCodes
 rw [bind_assoc]
 rw [Sem.wp_bind']
 show wp M Γ ((do
  let codes:=(pastTheWaiting ((Γ.code,p)::Γ.below)).map (·.1)
  if ((((Γ.code,p)::Γ.below).map (·.1)).findSome? (·.env?)).map (·.frame) != (codes.findSome? (·.env?)).map (·.frame) then unsupported "caller:past-a-waiting-one"
  pure codes:Sem (List Code)) >>= λcodes=>pure (((codes.filter (·.env?.isSome)).takeWhile (·.isInlined)).filterMap (·.env?))) Q E p s
 refine hc▸?_
 have e2:(some env.frame != some env.frame)=false:=bne_self_eq_false ..
 show wp M Γ ((if (some env.frame != some env.frame)=true then _ else _) >>= _) Q E p s
 refine e2▸?_
 exact x'
end
noncomputable def fp (o:Expr) (attr:Str) (env:Env) (whole:Sem CX):{T:Sem (List Env)→Sem CX // attributeBase o attr env whole=T comprehensionsAround}:=by
 refine ⟨?T,?h⟩
 rotate_left
 ·unfold attributeBase
  generalize comprehensionsAround=ca
  rfl
section
variable {M:Model} {A:Dk} {c:Code}
noncomputable def ej (t u:Sem Flow):Sem Flow:=t >>= λr=>match r with
 | .next=>u
 | r=>pure r
theorem dJ {s:Stmt} {rest:List Stmt} {env:Env} {t u:Sem Flow} (h1:Le M A c t (exec s env)) (h2:Le M A c u (execs rest env)):Le M A c (ej t u) (execs (s::rest) env):=by
 rw [arm_execs_cons]
 refine Le.bind h1 λr=>?_
 cases r
 ·exact h2
 all_goals exact Le.refl _
noncomputable def vy (t:Sem Flow) (env:Env):Sem Fin:=do
  point
  match ←t.onRaise (leaving env) with
  | .ret v=>ret v
  | _=>ret .none
theorem rK {body:List Stmt} {env:Env} {t:Sem Flow} (h:Le M A c t (execs body env)):Le M A c (vy t env) (denote table (.func body env)):=
 Le.bindR λξ=>Le.bindL (Le.onRaise h)
noncomputable def sT (u:Sem CX) (pos:Pos):Sem Flow:=do
  standAt pos
  return .ret (←u)
theorem jO {e:Expr} {pos:Pos} {env:Env} {u:Sem CX} (h:Le M A c u (eval e env)):Le M A c (sT u pos) (exec (.Return (some e) pos) env):=by
 rw [arm_exec_Return]
 exact Le.bindR λξ=>Le.bindL h
noncomputable def vp (value:Expr) (pos:Pos) (env:Env) (u:Sem CX):Sem Flow:=do
  standAt pos
  if interactive env then printExpr (eval value env)
  else if ←swapsWith value none pos.line env then do evalThenUse value env λξ=>point;pure .next
  else do dropValue value pos (←u)
theorem rq {e:Expr} {pos:Pos} {env:Env} {u:Sem CX} (h:Le M A c u (eval e env)):Le M A c (vp e pos env u) (exec (.Expr e pos) env):=by
 simp only [arm_exec_Expr]
 exact Le.bindR λξ=>Le.ite (Le.refl _) (Le.bindR λb=>Le.ite (Le.refl _) (Le.bindL h))
noncomputable def pJ (o:Expr) (name:Str) (apos:Pos) (args:List Expr) (keywords:List Keyword) (pos:Pos) (env:Env):Sem CX:=do
  let ov ←(fp o name env (eval o env)).1 (pure [])
  standAt apos.atName
  methodCall o name apos pos env ov (args.length+keywords.length) (backTo pos (starEach args env)) (backToKw pos (keywordEach keywords env))
theorem Ai {F G:Str→Pos→Sem CX} {w:Sem CX} (o:Expr) (h:∀i p,Le M A c (F i p) (G i p)):Le M A c (match o with | .Call (.Name i _) [] [] p=>F i p | _=>w) (match o with | .Call (.Name i _) [] [] p=>G i p | _=>w):=by
 cases o with
 | Call f a b p=>
  cases f with
  | Name i x=>
   cases a with
   | nil=>
    cases b with
    | nil=>exact h i p
    | cons y z=>exact Le.refl w
   | cons y z=>exact Le.refl w
  | _=>exact Le.refl w
 | _=>exact Le.refl w
theorem ol {o:Expr} {name:Str} {env:Env} {whole:Sem CX} {ca:Sem (List Env)} (h:Le M A c ca comprehensionsAround):Le M A c ((fp o name env whole).1 ca) (attributeBase o name env whole):=by
 suffices k:Le M A c ((fp o name env whole).1 ca) ((fp o name env whole).1 comprehensionsAround) from λΓ Q E p s hc hΓ x=>by
  rw [(fp o name env whole).2]
  exact k Γ Q E p s hc hΓ x
 unfold fp
 refine Ai o λi p=>?_
 repeat' first
  | with_reducible exact Le.refl _
  | with_reducible exact Le.bindL h
  | with_reducible refine Le.ite ?_ ?_
  | with_reducible refine Le.bindR λξ=>?_
  | (try dsimp -iota -proj only);split
theorem nA {o:Expr} {name:Str} {apos:Pos} {args:List Expr} {keywords:List Keyword} {pos:Pos} {env:Env} (h:Le M A c (pure []) comprehensionsAround):Le M A c (pJ o name apos args keywords pos env) (eval (.Call (.Attribute o name apos) args keywords pos) env):=by
 simp only [arm_eval_Call]
 exact Le.bindL (ol h)
noncomputable def m4 (op:CmpOp) (a b:CX):{T:(String→List CX→Sem Unit)→Sem CX // richCompare op a b=T cRoomFor}:=by
 refine ⟨?T,?h⟩
 rotate_left
 ·unfold richCompare
  generalize cRoomFor=ca
  rfl
theorem Le.room' {what:String} {vs:List CX} (hu:(A.under c).units < cLine):Le M A c (pure ()) (cRoomFor what vs):=λΓ Q E p s ξ hΓ x=>
 Sem.wp_cRoomFor what vs (E4 hΓ.2.2.2.2 hu) x
noncomputable def lW (op:CmpOp) (a b:CX):Sem CX:=(m4 op a b).1 λξ ξ=>pure ()
theorem rh {op:CmpOp} {a b:CX} (hu:(A.under c).units < cLine):Le M A c (lW op a b) (richCompare op a b):=by
 suffices k:Le M A c (lW op a b) ((m4 op a b).1 cRoomFor) from λΓ Q E p s hc hΓ x=>by
  rw [(m4 op a b).2]
  exact k Γ Q E p s hc hΓ x
 delta lW m4
 exact Le.holding (Le.bindL (Le.room' hu))
noncomputable def ur (op:CmpOp) (a b:CX):Sem CX:=match op with
 | .Eq=>lW .Eq a b
 | .NotEq=>lW .NotEq a b
 | op=>compareOp op a b
theorem uw {op:CmpOp} {a b:CX} (hu:(A.under c).units < cLine):Le M A c (ur op a b) (compareOp op a b):=by
 cases op
 case Eq=>exact rh hu
 case NotEq=>exact rh hu
 all_goals exact Le.refl _
noncomputable def mw (pos:Pos) (left:CX) (op:CmpOp) (r:Sem CX):Sem CX:=do
  let rv ←holding [left] r
  standAt pos
  operate [left,rv] (ur op left rv)
theorem tV {pos:Pos} {left:CX} {op:CmpOp} {r:Sem CX} (hu:(A.under c).units < cLine):Le M A c (mw pos left op r) (compareChain pos left [op] [r]):=
 Le.bindR λξ=>Le.bindR λξ=>Le.operate (uw hu)
noncomputable def rx (pos:Pos) (left:CX) (op:CmpOp) (r:Sem CX):Sem Bool:=do
  let rv ←holding [left] r
  standAt pos
  let c ←operate [left,rv] (ur op left rv)
  holding [c] (truthy c)
theorem wY {pos:Pos} {left:CX} {op:CmpOp} {r:Sem CX} (hu:(A.under c).units < cLine):Le M A c (rx pos left op r) (testChain pos left [op] [r]):=
 Le.bindR λξ=>Le.bindR λξ=>Le.bindL (Le.operate (uw hu))
noncomputable def kD (l:Expr) (op:CmpOp) (r:Sem CX) (pos:Pos) (env:Env):Sem CX:=do mw pos (←eval l env) op r
noncomputable def Cd (l:Expr) (op:CmpOp) (r:Sem CX) (cpos:Pos) (body orelse:List Stmt) (pos:Pos) (env:Env):Sem Flow:=do
  standAt pos
  if ←(do rx cpos (←eval l env) op r:Sem Bool) then execs body env else execs orelse env
theorem AL {l r:Expr} {op:CmpOp} {cpos pos:Pos} {body orelse:List Stmt} {env:Env} (hu:(A.under c).units < cLine):
  Le M A c (Cd l op ((markedEach [op] [r] (evalEach [r] env)).getD 0 (pure .none)) cpos body orelse pos env) (exec (.If (.Compare l [op] [r] cpos) body orelse pos) env):=by
 simp only [arm_exec_If,arm_isTrue_Compare]
 have e:∃m,markedEach [op] [r] (evalEach [r] env)=[m]:=⟨_,rfl⟩
 obtain ⟨m,e⟩:=e
 refine e▸?_
 exact Le.bindR λξ=>Le.bindL (Le.bindR λξ=>wY hu)
theorem pK {l r:Expr} {op:CmpOp} {cpos:Pos} {env:Env} (hu:(A.under c).units < cLine):
  Le M A c (kD l op ((markedEach [op] [r] (evalEach [r] env)).getD 0 (pure .none)) cpos env) (eval (.Compare l [op] [r] cpos) env):=by
 simp only [arm_eval_Compare]
 have e:∃m,markedEach [op] [r] (evalEach [r] env)=[m]:=⟨_,rfl⟩
 obtain ⟨m,e⟩:=e
 refine e▸?_
 exact Le.bindR λξ=>tV hu
noncomputable def hW (elt:Expr) (gens:List Comprehension) (scope:Scope) (pos:Pos) (env:Env):{T:Sem Unit→Sem CX // eval (.GeneratorExp elt gens scope pos) env=T enterFrame}:=by
 refine ⟨?T,?h⟩
 rotate_left
 ·rw [arm_eval_GeneratorExp]
  generalize enterFrame=ca
  rfl
noncomputable def fj (elt:Expr) (gens:List Comprehension) (scope:Scope) (pos:Pos) (env:Env):Sem CX:=(hW elt gens scope pos env).1 fq
theorem lT {elt:Expr} {gens:List Comprehension} {scope:Scope} {pos:Pos} {env:Env} (hd:(A.under c).depth < recursionLimit):Le M A c (fj elt gens scope pos env) (eval (.GeneratorExp elt gens scope pos) env):=by
 suffices k:Le M A c (fj elt gens scope pos env) ((hW elt gens scope pos env).1 enterFrame) from λΓ Q E p s hc hΓ x=>by
  rw [(hW elt gens scope pos env).2]
  exact k Γ Q E p s hc hΓ x
 delta fj hW
 exact Le.bindR λξ=>Le.bindR λξ=>Le.bindR λξ=>Le.bindR λξ=>Le.enter hd
theorem kN {t t':Sem CX} {ts:List (Bool×Sem CX)} (h:Le M A c t' t):Le M A c (spliced ((false,t')::ts)) (spliced ((false,t)::ts)):=Le.bindL h
theorem oM {f:CX} {b:Bool} {t t':Sem CX} {ts:List (Bool×Sem CX)} {kws:List (Option Str×Sem CX)} (h:Le M A c t' t):Le M A c (evalArgs f b ((false,t')::ts) kws) (evalArgs f b ((false,t)::ts) kws):=by
 cases b <;> cases ts <;> first | exact Le.bindL (kN h) | exact Le.bindL (Le.bindL (kN h))
theorem i6 {pos:Pos} {f:CX} {first:List CX} {t t':Sem CX} {ts:List (Bool×Sem CX)} {kws:List (Option Str×Sem CX)} (h:Le M A c t' t):Le M A c (callWith pos f first ((false,t')::ts) kws) (callWith pos f first ((false,t)::ts) kws):=
 Le.bind (Le.holding (oM h)) λξ=>Le.refl _
noncomputable def oZ (func:Expr) (g:Sem CX) (more:List Expr) (kws:List Keyword) (pos:Pos) (env:Env):Sem CX:=do
  callWith pos (←eval func env) [] ((false,g)::backTo pos (starEach more env)) (backToKw pos (keywordEach kws env))
theorem vx {id:Str} {p:Pos} {elt:Expr} {gens:List Comprehension} {scope:Scope} {gpos:Pos} {more:List Expr} {kws:List Keyword} {pos:Pos} {env:Env} (hd:(A.under c).depth < recursionLimit):
  Le M A c (oZ (.Name id p) (fj elt gens scope gpos env) more kws pos env) (eval (.Call (.Name id p) (.GeneratorExp elt gens scope gpos::more) kws pos) env):=
 Le.bindR λξ=>i6 (lT hd)
noncomputable def me (o:Expr) (name:Str) (apos:Pos) (g:Sem CX) (more:List Expr) (kws:List Keyword) (pos:Pos) (env:Env):Sem CX:=do
  let ov ←(fp o name env (eval o env)).1 (pure [])
  standAt apos.atName
  methodCall o name apos pos env ov (more.length+1+kws.length) ((false,g)::backTo pos (starEach more env)) (backToKw pos (keywordEach kws env))
theorem kX {o:Expr} {name:Str} {apos pos:Pos} {env:Env} {ov:CX} {n:Nat} {t t':Sem CX} {ts:List (Bool×Sem CX)} {kws:List (Option Str×Sem CX)} (h:Le M A c t' t):
  Le M A c (methodCall o name apos pos env ov n ((false,t')::ts) kws) (methodCall o name apos pos env ov n ((false,t)::ts) kws):=
 Le.bindR λξ=>Le.bindR λξ=>i6 h
theorem sm {o:Expr} {name:Str} {apos:Pos} {elt:Expr} {gens:List Comprehension} {scope:Scope} {gpos:Pos} {more:List Expr} {kws:List Keyword} {pos:Pos} {env:Env} (h:Le M A c (pure []) comprehensionsAround) (hd:(A.under c).depth < recursionLimit):
  Le M A c (me o name apos (fj elt gens scope gpos env) more kws pos env) (eval (.Call (.Attribute o name apos) (.GeneratorExp elt gens scope gpos::more) kws pos) env):=by
 simp only [arm_eval_Call]
 exact Le.bind (ol h) λξ=>Le.bindR λξ=>kX (lT hd)
noncomputable def mC:{T // @pJ=T}:=by
 refine ⟨?T,?h⟩
 rotate_left
 ·delta pJ fp
  simp -iota only [ZFast.ze4777696345729990297,ZFast.ze14044960220447912780,ZFast.ze16755525298939948312,ZFast.ze6609576154772507232,ZFast.ze8468629109055619292,ZFast.ze8406491124035677375,ZFast.ze10380811246957099773,ZFast.ze11478286150595567475,ZFast.ze17359229931016689406,ZFast.ze13401596951702201221,ZFast.ze4897270859577272712,ZFast.ze13897175071876407860,ZFast.ze621762911399731506,ZFast.ze11621922129505618389]
  rfl
noncomputable def Aa:{T // @ur=T}:=by
 refine ⟨?T,?h⟩
 rotate_left
 ·delta ur lW m4
  simp -iota only [ZFast.ze17359229931016689406,ZFast.ze13092491172507696223,ZFast.ze14684505520029207082,ZFast.ze16098473122060591676,ZFast.ze3989567798202555795,ZFast.ze363932546726248868,ZFast.ze2518677612232015263,ZFast.ze12886488535604756494]
  rfl
noncomputable def xR:{T // @mw=T}:=by
 refine ⟨?T,?h⟩
 rotate_left
 ·delta mw
  simp -iota only [ZFast.ze17359229931016689406,ZFast.ze8004119333741010377]
  rw [Aa.2]
noncomputable def yJ:{T // @rx=T}:=by
 refine ⟨?T,?h⟩
 rotate_left
 ·delta rx
  simp -iota only [ZFast.ze17359229931016689406,ZFast.ze8004119333741010377,ZFast.ze15245631507167962100]
  rw [Aa.2]
noncomputable def m3:{T // @kD=T}:=by
 refine ⟨?T,?h⟩
 rotate_left
 ·delta kD
  simp -iota only [ZFast.ze14044960220447912780]
  rw [xR.2]
noncomputable def Cm:{T // @Cd=T}:=by
 refine ⟨?T,?h⟩
 rotate_left
 ·delta Cd
  simp -iota only [ZFast.ze14044960220447912780,ZFast.ze12563942051412417395]
  rw [yJ.2]
noncomputable def ra:{T // @vp=T}:=by
 refine ⟨?T,?h⟩
 rotate_left
 ·delta vp
  simp -iota only [ZFast.ze15112477048112897374,ZFast.ze189217752967746932,ZFast.ze14044960220447912780,ZFast.ze17223243974762974889,ZFast.ze1406442740598737775,ZFast.ze12372662630863984472]
  rfl
noncomputable def kS:{T // @vy=T}:=by
 refine ⟨?T,?h⟩
 rotate_left
 ·delta vy
  simp -iota only [ZFast.ze9442747609961115081,ZFast.ze6905046200447255374]
  rfl
noncomputable def jA:{T // @fj=T}:=by
 refine ⟨?T,?h⟩
 rotate_left
 ·delta fj hW
  dsimp only
  simp -iota only [ZFast.ze17359229931016689406]
  rw [ZFast.ze11113344188204177931]
noncomputable def vE:{T // @oZ=T}:=by
 refine ⟨?T,?h⟩
 rotate_left
 ·delta oZ
  simp -iota only [ZFast.ze14044960220447912780,ZFast.ze4897270859577272712,ZFast.ze13897175071876407860,ZFast.ze621762911399731506,ZFast.ze11621922129505618389]
  rfl
noncomputable def qK:{T // @me=T}:=by
 refine ⟨?T,?h⟩
 rotate_left
 ·delta me fp
  simp -iota only [ZFast.ze4777696345729990297,ZFast.ze14044960220447912780,ZFast.ze16755525298939948312,ZFast.ze6609576154772507232,ZFast.ze8468629109055619292,ZFast.ze8406491124035677375,ZFast.ze10380811246957099773,ZFast.ze11478286150595567475,ZFast.ze17359229931016689406,ZFast.ze13401596951702201221,ZFast.ze4897270859577272712,ZFast.ze13897175071876407860,ZFast.ze621762911399731506,ZFast.ze11621922129505618389]
  rfl
noncomputable def wm (op:CmpOp) (r:Expr) (env:Env):Sem CX:=(ZFast.zw2344580865713695371 [op] [r] (ZFast.zw10458482166411082596 [r] env)).getD 0 (pure .none)
theorem qW (op:CmpOp) (r:Expr) (env:Env):(markedEach [op] [r] (evalEach [r] env)).getD 0 (pure .none)=wm op r env:=by
 unfold wm
 rw [ZFast.ze2344580865713695371,ZFast.ze10458482166411082596]
theorem j8 {s:Stmt} {rest:List Stmt} {env:Env} {u:Sem Flow} (h2:Le M A c u (execs rest env)):Le M A c (ej (execs [s] env) u) (execs (s::rest) env):=by
 refine Le.trans ?_ (dJ (Le.refl (exec s env)) h2)
 intro Γ Q E p s' hc hΓ x
 rw [arm_execs_cons] at x
 unfold ej at x ⊢
 rw [Sem.wp_bind',Sem.wp_bind'] at x
 rw [Sem.wp_bind']
 refine Sem.wp_mono M Γ _ (λv p' s' y=>?_) (λξ ξ ξ y=>y) p s' x
 cases v <;> exact y
noncomputable def Af (env:Env) (s:Stmt):{t:Sem Flow→Sem Flow // ∀{M:Model} {A:Dk} {c:Code} {rest:List Stmt} {u:Sem Flow},(A.under c).units < cLine→(A.under c).depth < recursionLimit→Le M A c (pure []) comprehensionsAround→Le M A c u (execs rest env)→Le M A c (t u) (execs (s::rest) env)}:=match s with
 | .Return (some (.Call (.Name id p) (.GeneratorExp elt gens scope gpos::more) kws pos)) rpos=>⟨ej (sT (vE.1 (.Name id p) (jA.1 elt gens scope gpos env) more kws pos env) rpos),λξ hd ξ ih=>dJ (jO (by rw [←vE.2,←jA.2];exact vx hd)) ih⟩
 | .Return (some (.Call (.Attribute o name apos) (.GeneratorExp elt gens scope gpos::more) kws pos)) rpos=>⟨ej (sT (qK.1 o name apos (jA.1 elt gens scope gpos env) more kws pos env) rpos),λξ hd ha ih=>dJ (jO (by rw [←qK.2,←jA.2];exact sm ha hd)) ih⟩
 | .Return (some (.Call (.Attribute o name apos) args kws pos)) rpos=>⟨ej (sT (mC.1 o name apos args kws pos env) rpos),λξ ξ ha ih=>dJ (jO (by rw [←mC.2];exact nA ha)) ih⟩
 | .Return (some (.Compare l [op] [r] pos)) rpos=>⟨ej (sT (m3.1 l op (wm op r env) pos env) rpos),λhu ξ ξ ih=>dJ (jO (by rw [←m3.2,←qW];exact pK hu)) ih⟩
 | .Expr (.Call (.Attribute o name apos) args kws pos) p=>⟨ej (ra.1 (.Call (.Attribute o name apos) args kws pos) p env (mC.1 o name apos args kws pos env)),λξ ξ ha ih=>dJ (by rw [←ra.2,←mC.2];exact rq (nA ha)) ih⟩
 | .If (.Compare l [op] [r] cpos) body orelse pos=>⟨ej (Cm.1 l op (wm op r env) cpos body orelse pos env),λhu ξ ξ ih=>dJ (by rw [←Cm.2,←qW];exact AL hu) ih⟩
 | s=>⟨ej (ZFast.zw12563942051412417395 [s] env),λξ ξ ξ ih=>(by rw [←ZFast.ze12563942051412417395];exact j8 ih)⟩
noncomputable def vY (env:Env) (b:List Stmt):Sem Flow:=@GR Stmt (λξ=>Sem Flow) (pure .next) (λs ξ ih=>(Af env s).1 ih) b
theorem si {env:Env} (hu:(A.under c).units < cLine) (hd:(A.under c).depth < recursionLimit) (ha:Le M A c (pure []) comprehensionsAround) (b:List Stmt):Le M A c (vY env b) (execs b env):=by
 induction b with
 | nil=>simp only [arm_execs_nil];exact Le.refl _
 | cons s rest ih=>exact (Af env s).2 hu hd ha ih
noncomputable def v7 (body:List Stmt) (env:Env):Sem Fin:=kS.1 (vY env body) env
end
theorem uu {M:Model} {A:Dk} {body:List Stmt} {env:Env} (hu:(A.under (.func body env)).units < cLine) (hd:(A.under (.func body env)).depth < recursionLimit):Le M A (.func body env) (v7 body env) (denote table (.func body env)):=
 by unfold v7;refine kS.2▸?_;exact rK (si hu hd Le.around body)
noncomputable def py (c:Code):Sem Fin:=match c with
 | .func body env=>v7 body env
 | c=>jx c
theorem pR {M:Model} {A:Dk} {c:Code}:Le M A c (jx c) (denote table c):=by
 rw [dr];exact Le.refl _
theorem wG {M:Model} {A:Dk} {c:Code} (hu:A.units < 9800) (hd:A.depth < 990):Le M A c (py c) (denote table c):=by
 cases c with
 | func body env=>exact uu (show A.units+3 < 9900 from by lia) (show A.depth+1 < 1000 from by lia)
 | _=>exact pR
theorem mD {prog:Program} {w:Ek} {A:Dk} {R:Dq→Df→Prop} {s:Df} {c:Code} (hu:A.units < 9800) (hd:A.depth < 990)
  (x:wpOwn (model prog w) A c (py c) (postC prog w A R) (postE R) s):codeAny (model prog w) A c R s:=
 y_code _ _ _ _ _ _ (eE (wG hu hd) x)
end
section
open Sem (wp)
noncomputable def re {α:Type} (g:Nat→List α):List Nat→List (List α)→List α
 | [],x::_=>x
 | [],[]=>[]
 | 0::r,y::x::s=>re g r ((x++y)::s)
 | 0::r,s=>re g r s
 | 1::r,s=>re g r ([]::s)
 | (k+2)::r,s=>re g r (g k::s)
theorem gv {α:Type} (f:Nat→List α) (g:Nat→List Nat):∀(r:List Nat) (s:List (List Nat)),(re g r s).flatMap f=re (λk=>(g k).flatMap f) r (s.map (List.flatMap f))
 | [],_::_=>rfl
 | [],[]=>rfl
 | 0::r,y::x::s=>(gv f g r ((x++y)::s)).trans (congrArg (λz=>re _ r (z::_)) Eb)
 | 0::r,[x]=>gv f g r [x]
 | 0::r,[]=>gv f g r []
 | 1::r,s=>gv f g r ([]::s)
 | (k+2)::r,s=>gv f g r (g k::s)
theorem pT {α:Type} (c:List (List α)) (a b:List Nat) (h:(re (λk=>[k]) a []).isPerm (re (λk=>[k]) b [])=true):(re (λk=>(c[k]?).getD []) a []).Perm (re (λk=>(c[k]?).getD []) b []):=by
 have e:∀r,(re (λk=>[k]) r []).flatMap (λk=>(c[k]?).getD [])=re (λk=>(c[k]?).getD []) r []:=λr=>
  (gv _ _ r []).trans (congrFun (congrFun (congrArg re (funext λk=>List.flatMap_singleton ..)) r) [])
 simp only [←e a,←e b]
 exact (List.isPerm_iff.mp h).flatMap_right _
noncomputable abbrev ao:=List (C1×Obj)
structure Fx where
 prog:Program
 w:Ek
 h0:Heap
 kt:KT
 tabs:List (C1×Nat×Nat)
 low:Nat
noncomputable def Fx.tab (F:Fx) (a:C1):Bool:=F.tabs.any λp=>E7 p.1 a
noncomputable def cq (T:C1×Nat×Nat) (c':C1):Obj:=tableObj #[rawInt T.2.1,rawInt T.2.2,.ref c']
noncomputable def BW (h:Heap) (T:C1×Nat×Nat):Prop:=h.get? T.1=some (tableObj #[])∨∃c',h.get? T.1=some (cq T c')
theorem im {h₀ h h':Heap} {b:C1} {o:Obj} (e:h'.get? b=h.get? b) (x:asItWas h₀ h b o):asItWas h₀ h' b o:=by
 rcases x with x | ⟨t,hc,vs,more,hv,x⟩ | ⟨rfl,hc,⟨o',es,n,ho',r⟩,z⟩
 ·exact .inl (e.trans x)
 ·exact .inr (.inl ⟨t,hc,vs,more,hv,e.trans x⟩)
 ·exact .inr (.inr ⟨rfl,hc,⟨o',es,n,e.trans ho',r⟩,λkey=>by rw [OldK.staticOf_congr e key];exact z key⟩)
theorem gP {h₀ h:Heap} {b:C1} {o:Obj} (x:asItWas h₀ h b o):∃o',h.get? b=some o':=by
 rcases x with x | ⟨t,hc,vs,more,hv,x⟩ | ⟨rfl,hc,⟨o',es,n,ho',r⟩,z⟩
 ·exact ⟨_,x⟩
 ·exact ⟨_,x⟩
 ·exact ⟨_,ho'⟩
structure bq (F:Fx) (q:List C1) (h:Heap) (L:ao):Prop where
 kt:KT.Holds F.h0 1 0 F.kt
 old:∀b o,F.h0.get? b=some o→F.tab b=false→h.get? b=some o
 size:F.h0.objs.size≤h.objs.size
 own:∀p∈L,h.get? p.1=some p.2
 off':∀p∈L,F.h0.objs.size≤p.1∨p.1∈q
 nodup:(L.map (·.1)).Nodup
 olds:∀b o,F.h0.get? b=some o→b ∉ q→asItWas F.h0 h b o
 tabs:∀T∈F.tabs,(T.1∈q∨BW h T)∧∃c₀,F.h0.TableAt c₀ T.1 #[]
 uniq:∀T∈F.tabs,∀T'∈F.tabs,T.1=T'.1→T=T'
 outs:∀a∈q,F.tab a=true∧∃o,F.h0.get? a=some o
 low:F.low≤F.h0.objs.size
 lim0:F.h0.NoLimit
 lim:h.NoLimit
 limT:∀T∈F.tabs,T.1≠cStatics
noncomputable abbrev d5 (F:Fx) (h:Heap) (L:ao):Prop:=bq F [] h L
theorem bq.off {F:Fx} {h:Heap} {L:ao} (D:bq F [] h L):∀p∈L,F.h0.objs.size≤p.1:=λp hp=>(D.off' p hp).resolve_right (λz=>nomatch z)
theorem bq.perm {F:Fx} {q:List C1} {h:Heap} {L L':ao} (D:bq F q h L) (p:L.Perm L'):bq F q h L':=
 ⟨D.kt,D.old,D.size,λq hq=>D.own q (p.mem_iff.mpr hq),λq hq=>D.off' q (p.mem_iff.mpr hq),(p.map _).nodup_iff.mp D.nodup,D.olds,D.tabs,D.uniq,D.outs,D.low,D.lim0,D.lim,D.limT⟩
theorem bq.drop {F:Fx} {q:List C1} {h:Heap} {L L':ao} (D:bq F q h (L++L')):bq F q h L':=
 ⟨D.kt,D.old,D.size,λq hq=>D.own q (Dp _ hq),λq hq=>D.off' q (Dp _ hq),
  by have:=D.nodup;simp only [Da] at this;exact (Eu.mp this).2.1,D.olds,D.tabs,D.uniq,D.outs,D.low,D.lim0,D.lim,D.limT⟩
theorem px {h:Heap} {t:KT} (H:KT.Holds h 1 0 t) {a:C1} {o:Obj} (e:t.get a=some o):h.get? a=some o:=by
 have:=KT.Holds.get H e
 rw [Nat.one_mul,Nat.add_zero] at this
 exact this
theorem bq.look {F:Fx} {q:List C1} {h:Heap} {L:ao} (D:bq F q h L) {a:C1} {o:Obj} (e:F.kt.get a=some o) (ht:F.tab a=false):h.get? a=some o:=
 D.old a o (px D.kt e) ht
theorem bq.lt {F:Fx} {q:List C1} {h:Heap} {L:ao} (D:bq F q h L) {a:C1} (ha:a∈L.map (·.1)):a < h.objs.size:=by
 obtain ⟨p,hp,rfl⟩:=Fs.mp ha
 exact Heap.lt_size (D.own p hp)
theorem bq.alloc {F:Fx} {q:List C1} {h:Heap} {L:ao} (D:bq F q h L) {o:Obj} (hf:o.isFreed=false):bq F q (h.push o) ((h.objs.size,o)::L):=by
 refine ⟨D.kt,λb o' e q=>Heap.get?_push_of_some _ (D.old b o' e q),?_,λp hp=>?_,λp hp=>?_,?_,λb o' e hb=>?_,λT hT=>⟨?_,(D.tabs T hT).2⟩,D.uniq,D.outs,D.low,D.lim0,D.lim.push _,D.limT⟩
 ·rw [Heap.size_push];exact D0 D.size
 ·rcases Ei.mp hp with rfl | hp
  ·exact Heap.get?_push_size _ hf
  ·exact Heap.get?_push_of_some _ (D.own p hp)
 ·rcases Ei.mp hp with rfl | hp
  ·exact .inl D.size
  ·exact D.off' p hp
 ·rw [Dd,EP]
  exact ⟨λhm=>FF _ (D.lt hm),D.nodup⟩
 ·have x:=D.olds b o' e hb
  obtain ⟨o2,h2⟩:=gP x
  exact im ((Heap.get?_push_of_some _ h2).trans h2.symm) x
 ·rcases (D.tabs T hT).1 with x | x | ⟨c',a⟩
  ·exact .inl x
  ·exact .inr (.inl (Heap.get?_push_of_some _ x))
  ·exact .inr (.inr ⟨c',Heap.get?_push_of_some _ a⟩)
noncomputable def gf:ao→Nat→Option (C1×Obj)
 | [],_=>none
 | p::_,0=>some p
 | _::l,n+1=>gf l n
noncomputable def bm:ao→Nat→Obj→ao
 | [],_,_=>[]
 | p::l,0,o=>(p.1,o)::l
 | p::l,n+1,o=>p::bm l n o
theorem kU:∀(L:ao) (i:Nat) (o:Obj),(bm L i o).map (·.1)=L.map (·.1)
 | [],_,_=>rfl
 | _::_,0,_=>rfl
 | p::l,n+1,o=>by show p.1::(bm l n o).map (·.1)=_;rw [kU l n o];rfl
theorem cZ:∀{L:ao} {i:Nat} {p:C1×Obj},gf L i=some p→p∈L
 | [],_,_,e=>nomatch e
 | _::_,0,_,e=>by cases e;exact .head _
 | _::_,_+1,_,e=>.tail _ (cZ (by exact e))
theorem jU:∀{L:ao} {i:Nat} {a:C1} {o o':Obj},gf L i=some (a,o)→(L.map (·.1)).Nodup→∀p∈bm L i o',p=(a,o')∨(p∈L∧p.1≠a)
 | [],_,_,_,_,e,_,_,_=>nomatch e
 | q::l,0,a,o,o',e,nd,p,hp=>by
  cases e
  rcases Ei.mp hp with rfl | hp
  ·exact .inl rfl
  ·refine .inr ⟨.tail _ hp,λz=>?_⟩
   rw [Dd,EP] at nd
   exact nd.1 (by simp only [←z];exact DM (f:=(·.1)) hp)
 | q::l,n+1,a,o,o',e,nd,p,hp=>by
  have e':gf l n=some (a,o):=e
  rw [Dd,EP] at nd
  have hp':p∈q::bm l n o':=hp
  rcases Ei.mp hp' with rfl | hp'
  ·exact .inr ⟨.head _,λz=>nd.1 (by rw [z];exact DM (f:=(·.1)) (cZ e'))⟩
  ·rcases jU e' nd.2 p hp' with x | ⟨x,y⟩
   ·exact .inl x
   ·exact .inr ⟨.tail _ x,y⟩
theorem bq.update {F:Fx} {q:List C1} {h:Heap} {L rest:ao} (D:bq F q h (L++rest)) {i:Nat} {a:C1} {o:Obj} {f:Obj→Obj} (hi:gf L i=some (a,o)) (hf:(f o).isFreed=false):
  bq F q (h.update a f) (bm L i (f o)++rest):=by
 have hm:(a,o)∈L++rest:=C3 _ (cZ hi)
 have ho:=D.own _ hm
 have hoff:=D.off' _ hm
 have hs:Heap.SameBut a h (h.update a f):=Heap.SameBut.update ..
 have nq:∀b,F.tab b=false→b ∉ q:=λb hb z=>by have:=(D.outs b z).1;have this:=hb▸this;cases this
 have ge:(h.update a f).get? a=some (f o):=by first | exact Heap.get?_update_self f ho hf | exact Heap.get?_update_self _ ho hf
 have ne:∀b o',F.h0.get? b=some o'→b ∉ q→b≠a:=λb o' e hb z=>by
  refine Or.elim (hoff) (λhoff=>?_) (λhoff=>?_)
  ·exact absurd (Heap.lt_size e) (EJ.mpr (by simp only [z];exact hoff))
  ·exact hb (by simp only [z];exact hoff)
 have nd:=D.nodup
 simp only [Da] at nd
 have ndL:=(Eu.mp nd).1
 have key:∀p∈bm L i (f o)++rest,p=(a,f o)∨(p∈L++rest∧p.1≠a):=by
  intro p hp
  refine Or.elim (DA.mp hp) (λhp=>?_) (λhp=>?_)
  ·rcases jU hi ndL p hp with x | ⟨x,y⟩
   ·exact .inl x
   ·exact .inr ⟨C3 _ x,y⟩
  ·refine .inr ⟨Dp _ hp,λz=>?_⟩
   exact (Eu.mp nd).2.2 _ (DM (f:=(·.1)) (cZ hi)) _ (DM (f:=(·.1)) hp) z.symm
 have emap:(bm L i (f o)++rest).map (·.1)=(L++rest).map (·.1):=by simp only [Da,Da,kU]
 refine ⟨D.kt,λb o' e q=>(hs.2 b (ne b o' e (nq b q))).trans (D.old b o' e q),?_,λp hp=>?_,λp hp=>?_,by simp only [emap];exact D.nodup,λb o' e hb=>im (hs.2 b (ne b o' e hb)) (D.olds b o' e hb),λT hT=>⟨?_,(D.tabs T hT).2⟩,D.uniq,D.outs,D.low,D.lim0,D.lim.sameBut hs ?_,D.limT⟩
 rotate_right
 ·refine Or.elim (hoff) (λhoff=>?_) (λhoff=>?_)
  ·obtain ⟨mc,hns,_⟩:=D.lim0
   exact λz=>absurd hns.lt (EJ.mpr (by simp only [z];exact hoff))
  ·obtain ⟨T,hT,e⟩:=Fe.mp (D.outs _ hoff).1
   exact λz=>D.limT T hT ((DR e).trans z.symm)
 ·exact Ex D.size (Ga hs.1.symm)
 ·rcases key p hp with rfl | ⟨x,y⟩
  ·exact ge
  ·exact (hs.2 _ y).trans (D.own p x)
 ·rcases key p hp with rfl | ⟨x,_⟩
  ·exact hoff
  ·exact D.off' p x
 ·obtain ⟨c₀,hta⟩:=(D.tabs T hT).2
  refine Or.elim ((D.tabs T hT).1) (λx=>?_) (λx=>?_)
  ·exact .inl x
  by_cases hq:T.1∈q
  ·exact .inl hq
  refine .inr ?_
  have neT:T.1≠a:=ne _ _ hta.2 hq
  rcases x with x | ⟨c',p1⟩
  ·exact .inl ((hs.2 _ neT).trans x)
  ·exact .inr ⟨c',(hs.2 _ neT).trans p1⟩
theorem wu {F:Fx} {T:C1×Nat×Nat} (hT:T∈F.tabs):F.tab T.1=true:=Fe.mpr ⟨T,hT,Nat.beq_refl _⟩
theorem bq.fetch {F:Fx} {h:Heap} {L rest:ao} (D:bq F [] h (L++rest)) {T:C1×Nat×Nat} (hT:T∈F.tabs):
  ∃o,(o=tableObj #[]∨∃cc,o=cq T cc)∧bq F [T.1] h ((L++[(T.1,o)])++rest):=by
 obtain ⟨c₀,hta⟩:=(D.tabs T hT).2
 have hlt:T.1 < F.h0.objs.size:=Heap.lt_size hta.2
 have hno:T.1 ∉ (L++rest).map (·.1):=λhm=>by
  obtain ⟨p,hp,e⟩:=Fs.mp hm
  exact absurd hlt (EJ.mpr (by rw [←e];exact D.off p hp))
 have ⟨o,ho,hx⟩:∃o,(o=tableObj #[]∨∃cc,o=cq T cc)∧h.get? T.1=some o:=by
  rcases (D.tabs T hT).1 with x | x | ⟨cc,x⟩
  ·cases x
  ·exact ⟨_,.inl rfl,x⟩
  ·exact ⟨_,.inr ⟨_,rfl⟩,x⟩
 refine ⟨o,ho,?_⟩
 suffices k:bq F [T.1] h ((T.1,o)::(L++rest)) from k.perm (by
  rw [C6];exact (Dn (a:=(T.1,o)) (l₁:=L) (l₂:=rest)).symm)
 refine ⟨D.kt,D.old,D.size,λp hp=>?_,λp hp=>?_,?_,λb o e ξ=>D.olds b o e (λz=>nomatch z),λT' hT'=>⟨.inr ((D.tabs T' hT').1.resolve_left (λz=>nomatch z)),(D.tabs T' hT').2⟩,D.uniq,λa ha=>?_,D.low,D.lim0,D.lim,D.limT⟩
 ·rcases Ei.mp hp with rfl | hp
  ·exact hx
  ·exact D.own p hp
 ·rcases Ei.mp hp with rfl | hp
  ·exact .inr (Dl.mpr rfl)
  ·exact .inl (D.off p hp)
 ·rw [Dd,EP];exact ⟨hno,D.nodup⟩
 ·rw [Dl.mp ha];exact ⟨wu hT,_,hta.2⟩
theorem bq.stow {F:Fx} {h:Heap} {L:ao} {T:C1×Nat×Nat} (hT:T∈F.tabs) {cc:C1} (D:bq F [T.1] h ((T.1,cq T cc)::L)):bq F [] h L:=by
 have hx:=D.own _ (.head _)
 have nd:=D.nodup
 rw [Dd,EP] at nd
 refine ⟨D.kt,D.old,D.size,λp hp=>D.own p (.tail _ hp),λp hp=>.inl ?_,nd.2,λb o e ξ=>?_,λT' hT'=>⟨?_,(D.tabs T' hT').2⟩,D.uniq,λa ha=>(nomatch ha),D.low,D.lim0,D.lim,D.limT⟩
 ·rcases D.off' p (.tail _ hp) with x | x
  ·exact x
  ·exact absurd (DM (f:=(·.1)) hp) (by rw [Dl.mp x];exact nd.1)
 ·by_cases hb:b=T.1
  ·obtain ⟨c₀,hta⟩:=(D.tabs T hT).2
   subst hb
   have eo:o=tableObj #[]:=Option.some.inj (e.symm.trans hta.2)
   subst eo
   exact .inr (.inl ⟨hta.isCodeTable,rfl,#[],#[rawInt T.2.1,rawInt T.2.2,.ref cc],rfl,by simp only [hx];simp [cq,tableObj]⟩)
  ·exact D.olds b o e (λz=>hb (Dl.mp z))
 ·by_cases hq:T.1=T'.1
  ·refine (D.uniq T hT T' hT' hq)▸?_
   exact .inr (.inr ⟨cc,hx⟩)
  ·exact .inr ((D.tabs T' hT').1.resolve_left (λz=>hq (Dl.mp z).symm))
inductive bP where
 | base
 | ret (c:Code) (k:Dq→Sem Fin) (κ:bP)
set_option genCtorIdx true in
inductive d2 where
 | stop (n:Nat)
 | eq (a b:C1) (o:d2)
 | done (r:Dq) (L:ao) (n t:Nat)
 | cut (c:Code) (κ:bP) (L:ao) (n t:Nat)
 | stk (c:Code) (κ:bP) (k:List (Code×Pos)→Sem Fin) (L:ao) (n t:Nat)
 | yld (c:Code) (v:CX) (k:Resume→Sem Fin) (L:ao) (n t:Nat)
 | gen (c c':Code) (κ:bP) (k:Nat→Sem Fin) (L:ao) (n t:Nat)
noncomputable abbrev lU:=List Nat→Code→bP→Sem Fin→ao→Nat→Nat→d2
noncomputable def bP.wt:bP→Nat
 | .base=>0
 | .ret c _ κ=>κ.wt+c.weight
noncomputable def bP.un:bP→Nat
 | .base=>0
 | .ret c _ κ=>κ.un+c.cUnits
noncomputable def bP.ok (κ:bP):Bool:=FO κ.wt 19 && FO κ.un 90
noncomputable def eG (c:Code) (κ:bP):Option (Sem Fin):=match FO κ.un 90 && FO κ.wt 60 with
 | true=>some (py c)
 | false=>none
noncomputable def ue (sg:Bool) (c:Code) (κ:bP):Option (Sem Fin):=match sg,κ with
 | true,.base=>match c with
  | .compLoop e i it a env=>some (py (.compLoop e i it a env))
  | _=>none
 | _,κ=>eG c κ
noncomputable def yy (sg:Bool) (κ:bP):Bool:=match sg,κ with
 | true,.base=>false
 | _,_=>true
noncomputable def B0 (ih:lU) (orc:List Nat) (r:Dq) (κ:bP) (L:ao) (n tk:Nat):d2:=match κ with
 | .base=>.done r L n tk
 | .ret c k κ=>ih orc c κ (k r) L n tk
noncomputable def rg (F:Fx) (a:C1) (f:Obj→d2):d2:=match F.tab a with
 | true=>.stop 7
 | false=>match F.kt.get a with
  | some o=>f o
  | none=>.stop 1
noncomputable def iQ {α:Type} (x:Option α) (f:α→d2):d2:=match x with
 | some p=>f p
 | none=>.stop 2
noncomputable def fS (b:Bool) (x y:d2):d2:=match b with
 | true=>x
 | false=>y
noncomputable def qI (F:Fx) (sg:Bool) (ih:lU) (orc:List Nat) (c:Code) (κ:bP) (t:Sem Fin) (L:ao) (n tk:Nat):d2:=match t with
 | .pure fin=>match fin with
  | .done f=>B0 ih orc (.ok f) κ L n tk
  | .again c'=>fS c'.quiet (match orc with
   | 0::orc=>iQ (ue sg c' κ) λt=>ih orc c' κ t L n tk
   | _=>fS (yy sg κ) (.cut c' κ L n tk) (.stop 12)) (.stop 5)
 | .raise e=>B0 ih orc (.error e) κ L n tk
 | .rule _ k=>ih orc c κ (k ()) L n tk
 | .at _ k=>ih orc c κ (k ()) L n tk
 | .point _ k=>ih orc c κ (k ()) L n tk
 | .ask k=>ih orc c κ (k ⟨F.prog,F.w.params⟩) L n tk
 | .load a _ k=>match orc with
  | 0::orc=>rg F a λo=>ih orc c κ (k o) L n tk
  | (i+1)::orc=>iQ (gf L i) λp=>.eq a p.1 (ih orc c κ (k p.2) L n tk)
  | []=>.stop 3
 | .loadIfAlive a k=>match orc with
  | 0::orc=>rg F a λo=>ih orc c κ (k (some o)) L n tk
  | (i+1)::orc=>iQ (gf L i) λp=>.eq a p.1 (ih orc c κ (k (some p.2)) L n tk)
  | []=>.stop 3
 | .alloc o k=>fS o.isFreed (.stop 8) (ih orc c κ (k n) (L++[(n,o)]) (n+1) tk)
 | .update a _ f k=>match orc with
  | i::orc=>iQ (gf L i) λp=>fS (f p.2).isFreed (.stop 8) (.eq a p.1 (ih orc c κ (k ()) (bm L i (f p.2)) n tk))
  | []=>.stop 3
 | .fresh k=>ih orc c κ (k tk) L n (tk+1)
 | .handled own k=>fS own (.stop 9) (ih orc c κ (k none) L n tk)
 | .call c' hd _ _ k=>match hd with
  | none=>match orc with
   | 0::orc=>iQ (eG c' (.ret c k κ)) λt=>ih orc c' (.ret c k κ) t L n tk
   | _=>.cut c' (.ret c k κ) L n tk
  | some _=>.stop 10
 | .stack k=>.stk c κ k L n tk
 | .yield v gd _ k=>fS gd (.stop 31) (match κ with
  | .base=>.yld c v k L n tk
  | _=>.stop 31)
 | .newGen c' k=>.gen c c' κ k L n tk
 | _=>.stop 30
noncomputable def BK (F:Fx) (sg:Bool):Nat→lU
 | 0=>λξ ξ ξ ξ ξ ξ ξ=>.stop 40
 | n+1=>qI F sg (BK F sg n)
noncomputable def bo (A:Dk):bP→Dk
 | .base=>A
 | .ret c _ κ=>((bo A κ).under c).mark none
inductive dP where
 | plain (R:Dq→Df→Prop)
 | seg (P:End→Df→Prop)
noncomputable def dP.isSeg:dP→Bool
 | .plain _=>false
 | .seg _=>true
noncomputable def dP.fin:dP→Dq→Df→Prop
 | .plain R=>R
 | .seg P=>λr s=>P (.ret r) s
noncomputable def o6 (F:Fx) (A:Dk) (m:dP) (κ:bP) (E:Dq→Df→Prop) (c:Code) (t:Sem Fin) (s:Df):Prop:=match m,κ with
 | .seg P,.base=>SegX (model F.prog F.w) A c t [] s P
 | _,κ=>wpOwn (model F.prog F.w) (bo A κ) c t (postC F.prog F.w (bo A κ) E) (postE E) s
noncomputable def on (F:Fx) (A:Dk) (m:dP):bP→Dq→Df→Prop
 | .base=>m.fin
 | .ret c k κ=>λr s=>o6 F A m κ (on F A m κ) c (k r) s
noncomputable def bI (F:Fx) (A:Dk) (m:dP) (c:Code) (κ:bP) (t:Sem Fin) (s:Df):Prop:=o6 F A m κ (on F A m κ) c t s
noncomputable def dW (F:Fx) (A:Dk) (m:dP) (q:List C1) (rest:ao) (g:Array GenState) (d:Drawn) (os:Ea):d2→Prop
 | .stop _=>False
 | .eq a b o=>a=b∧dW F A m q rest g d os o
 | .done r L n t=>∀h,bq F q h (L++rest)→h.objs.size=n→m.fin r ⟨h,g,d,t,os⟩
 | .cut c κ L n t=>∀h,bq F q h (L++rest)→h.objs.size=n→codeAny (model F.prog F.w) (bo A κ) c (on F A m κ) ⟨h,g,d,t,os⟩
 | .stk c κ k L n t=>∀h,bq F q h (L++rest)→h.objs.size=n→∀(p:Pos) (below:List (Code×Pos)),bI F A m c κ (k ((c,p)::below)) ⟨h,g,d,t,os⟩
 | .yld c v k L n t=>match m with
  | .plain _=>False
  | .seg P=>∀h,bq F q h (L++rest)→h.objs.size=n→∀l p,P (.susp v false l k c p []) ⟨h,g,d,t,os⟩
 | .gen c c' κ k L n t=>∀h,bq F q h (L++rest)→h.objs.size=n→bI F A m c κ (k g.size) ⟨h,g.push (.fresh c'),d,t,os⟩
section
theorem kY (A:Dk) (c:Code):(A.under c).handled=A.handled:=rfl
theorem dS (hA:A.handled=none):∀κ:bP,(bo A κ).handled=none
 | .base=>hA
 | .ret c _ κ=>by show ((none:Option CX).or ((bo A κ).under c).handled)=none;simp only [kY,dS hA κ];rfl
end
structure rb (A:Dk):Prop where
 none:A.handled=none
 units:A.units < 9700
 depth:A.depth < 900
structure aP (k:Nat) (A:Dk):Prop where
 handled:rb A
 depth:A.depth+20 * k < 900
 units:A.units+100 * k < 9700
theorem dH (A:Dk):∀κ:bP,(bo A κ).depth=A.depth+κ.wt
 | .base=>rfl
 | .ret c k κ=>by
  show (bo A κ).depth+c.weight=A.depth+(κ.wt+c.weight)
  rw [dH A κ];lia
theorem dG (A:Dk):∀κ:bP,(bo A κ).units=A.units+κ.un
 | .base=>rfl
 | .ret c k κ=>by
  show (bo A κ).units+c.cUnits=A.units+(κ.un+c.cUnits)
  rw [dG A κ];lia
theorem aP.go {k:Nat} {A:Dk} (r:aP (k+1) A) {κ:bP} (h:κ.ok=true):aP k (bo A κ):=by
 obtain ⟨h1,h2⟩:=ET.mp h
 have h1:=DG h1
 have h2:=DG h2
 refine ⟨⟨dS r.handled.none κ,?_,?_⟩,?_,?_⟩
 ·rw [dG];have:=r.units;lia
 ·rw [dH];have:=r.depth;lia
 ·rw [dH];have:=r.depth;lia
 ·rw [dG];have:=r.units;lia
theorem aP.le {k j:Nat} {A:Dk} (r:aP k A) (h:j≤k):aP j A:=⟨r.handled,by have:=r.depth;lia,by have:=r.units;lia⟩
section
variable {prog:Program} {w:Ek} {A:Dk} {c:Code} {fs:List Frame} {P:End→Df→Prop}
theorem zw {s:Df} {c':Code} {g:Bool} {l:List CX} {k:Dq→Sem Fin} (x:codeAny (model prog w) ((A.over c fs).mark none) c' (λr s'=>SegX (model prog w) A c (k r) fs s' P) s):
  SegX (model prog w) A c (.call c' none g l k) fs s P:=by
 have z:wpAny (model prog w) (A.over c fs) (.call c' none g l .pure:Sem Dq) (λa s'=>SegX (model prog w) A c (k a) fs s' P) (λx s'=>SegX (model prog w) A c (.raise x) fs s' P) s:=
  y_start _ _ _ _ _ _ _ _ _ _ _ _ (λe=>nomatch e) (codeAny_mono x λr s' h=>Dc h)
 exact s_cmd prog w A c fs P (m:=(.call c' none g l .pure:Sem Dq)) (k:=k) z
end
theorem ky (A:Dk) (c:Code):A.over c []=A.under c:=by
 obtain ⟨a1,a2,a3,a4,a5⟩:=A
 rfl
section
variable {F:Fx} {A:Dk} {m:dP} {q:List C1} {rest:ao} {g:Array GenState} {d:Drawn} {os:Ea}
theorem ni {α:Type} {c:Code} {κ:bP} {t:Sem α} {k:α→Sem Fin} {s:Df} (x:wpAny (model F.prog F.w) ((bo A κ).under c) t (λa s'=>bI F A m c κ (k a) s') (λξ ξ=>False) s):bI F A m c κ (t.bind k) s:=by
 cases m with
 | plain R=>exact wpOwn_bind (wpOwn_of_wpAny (Fu x (λa s' y=>y) (λξ ξ y=>y.elim)))
 | seg P=>
  cases κ with
  | base=>
   rw [Sem.bind_eq_wrap]
   exact s_cmd _ _ _ _ _ _ (by rw [ky];exact Fu x (λξ ξ y=>y) (λξ ξ y=>y.elim))
  | ret c1 k1 κ1=>exact wpOwn_bind (wpOwn_of_wpAny (Fu x (λa s' y=>y) (λξ ξ y=>y.elim)))
theorem mW {c:Code} {κ:bP} {t:Sem Fin} {s:Df} (x:bI F A m c κ (skim ⟨F.prog,F.w.params⟩ 1 t) s):bI F A m c κ t s:=by
 cases m with
 | plain R=>exact y_skim _ _ _ _ _ _ _ _ _ 1 x
 | seg P=>
  cases κ with
  | base=>exact s_skim _ _ _ _ _ _ _ _ 1 x
  | ret c1 k1 κ1=>exact y_skim _ _ _ _ _ _ _ _ _ 1 x
theorem sA (hA:A.handled=none) {c:Code} {κ:bP} {k:Option CX→Sem Fin} {s:Df} (hk:(bo A κ).handled=none) (x:bI F A m c κ (k none) s):bI F A m c κ (.handled false k) s:=by
 cases m with
 | plain R=>exact y_handled _ _ _ _ _ _ _ _ _ (by refine hk▸?_;exact x)
 | seg P=>
  cases κ with
  | base=>
   refine s_handled _ _ _ _ _ _ _ _ ?_
   rw [ky]
   show SegX _ A c (k A.handled) _ _ _
   refine hA▸?_;exact x
  | ret c1 k1 κ1=>exact y_handled _ _ _ _ _ _ _ _ _ (by rw [hk];exact x)
theorem xC {c:Code} {κ:bP} {k:List (Code×Pos)→Sem Fin} {s:Df} (x:∀(p:Pos) (below:List (Code×Pos)),bI F A m c κ (k ((c,p)::below)) s):bI F A m c κ (.stack k) s:=by
 cases m with
 | plain R=>exact y_stack _ _ _ _ _ _ _ _ _ λp below ξ=>x p below
 | seg P=>
  cases κ with
  | base=>exact s_stack _ _ _ _ _ _ _ _ λp below ξ=>x p below
  | ret c1 k1 κ1=>exact y_stack _ _ _ _ _ _ _ _ _ λp below ξ=>x p below
theorem tI {c c':Code} {κ:bP} {k:Nat→Sem Fin} {h:Heap} {t:Nat} (x:bI F A m c κ (k g.size) ⟨h,g.push (.fresh c'),d,t,os⟩):bI F A m c κ (.newGen c' k) ⟨h,g,d,t,os⟩:=by
 cases m with
 | plain R=>exact y_newGen _ _ _ _ _ _ _ _ _ _ _ _ _ _ x
 | seg P=>
  cases κ with
  | base=>exact s_newGen _ _ _ _ _ _ _ _ _ _ _ _ _ x
  | ret c1 k1 κ1=>exact y_newGen _ _ _ _ _ _ _ _ _ _ _ _ _ _ x
theorem qU {c:Code} {κ:bP} {a:C1} {k:Option Obj→Sem Fin} {h:Heap} {t:Nat} {o:Obj} (ho:h.get? a=some o) (x:bI F A m c κ (k (some o)) ⟨h,g,d,t,os⟩):bI F A m c κ (.loadIfAlive a k) ⟨h,g,d,t,os⟩:=by
 cases m with
 | plain R=>exact y_alive _ _ _ _ _ _ _ _ _ _ _ _ _ _ o ho x
 | seg P=>
  cases κ with
  | base=>exact s_alive _ _ _ _ _ _ _ _ _ _ _ _ _ o ho x
  | ret c1 k1 κ1=>exact y_alive _ _ _ _ _ _ _ _ _ _ _ _ _ _ o ho x
theorem nv {a:C1} {f:Obj→d2} (x:dW F A m q rest g d os (rg F a f)):∃o,F.kt.get a=some o∧F.tab a=false∧dW F A m q rest g d os (f o):=by
 delta rg at x
 cases h1:F.tab a with
 | true=>have x:=h1▸x;exact x.elim
 | false=>
  have x:=h1▸x
  cases h2:F.kt.get a with
  | none=>have x:=h2▸x;exact x.elim
  | some o=>have x:=h2▸x;exact ⟨o,rfl,rfl,x⟩
theorem eN {α:Type} {y:Option α} {f:α→d2} (x:dW F A m q rest g d os (iQ y f)):∃p,y=some p∧dW F A m q rest g d os (f p):=by
 cases y with
 | none=>exact x.elim
 | some p=>exact ⟨p,rfl,x⟩
theorem gD {b:Bool} {o:d2} {i:Nat} (x:dW F A m q rest g d os (fS b (.stop i) o)):b=false∧dW F A m q rest g d os o:=by
 cases b with
 | true=>exact x.elim
 | false=>exact ⟨rfl,x⟩
theorem g7 {b:Bool} {o:d2} {i:Nat} (x:dW F A m q rest g d os (fS b o (.stop i))):b=true∧dW F A m q rest g d os o:=by
 cases b with
 | false=>exact x.elim
 | true=>exact ⟨rfl,x⟩
theorem zA {c c':Code} {κ:bP} {b:Bool} {l:List CX} {k:Dq→Sem Fin} {s:Df} (x:codeAny (model F.prog F.w) (bo A (.ret c k κ)) c' (on F A m (.ret c k κ)) s):bI F A m c κ (.call c' none b l k) s:=by
 have x:codeAny (model F.prog F.w) (((bo A κ).under c).mark none) c' (λr s=>o6 F A m κ (on F A m κ) c (k r) s) s:=x
 cases m with
 | plain R=>exact y_call _ _ _ _ _ _ _ _ _ _ _ _ _ (λe=>by cases e) x
 | seg P=>
  cases κ with
  | base=>exact zw (by rw [ky];exact x)
  | ret c1 k1 κ1=>exact y_call _ _ _ _ _ _ _ _ _ _ _ _ _ (λe=>by cases e) x
theorem uW {c:Code} {κ:bP} {r:Dq} {t:Sem Fin} (ht:t=leafOf r) {s:Df} (x:on F A m κ r s):bI F A m c κ t s:=by
 subst ht
 cases m with
 | plain R=>
  cases r with
  | ok f=>exact y_pure _ _ _ _ _ _ _ _ _ (y_done _ _ _ _ _ _ x)
  | error e=>exact y_raise _ _ _ _ _ _ _ _ _ (y_err _ _ _ x)
 | seg P=>
  cases κ with
  | base=>exact s_end _ _ _ _ _ _ r _ rfl x
  | ret c1 k1 κ1=>
   cases r with
   | ok f=>exact y_pure _ _ _ _ _ _ _ _ _ (y_done _ _ _ _ _ _ x)
   | error e=>exact y_raise _ _ _ _ _ _ _ _ _ (y_err _ _ _ x)
noncomputable def IH (F:Fx) (A:Dk) (m:dP) (q:List C1) (rest:ao) (g:Array GenState) (d:Drawn) (os:Ea) (ih:lU):Prop:=
 ∀orc c κ t L n tk h,dW F A m q rest g d os (ih orc c κ t L n tk)→bq F q h (L++rest)→h.objs.size=n→bI F A m c κ t ⟨h,g,d,tk,os⟩
theorem lu {ih:lU} (H:IH F A m q rest g d os ih) {orc:List Nat} {r:Dq} {κ:bP} {L:ao} {n tk:Nat} {h:Heap} (x:dW F A m q rest g d os (B0 ih orc r κ L n tk)) (D:bq F q h (L++rest)) (hn:h.objs.size=n):
  on F A m κ r ⟨h,g,d,tk,os⟩:=by
 cases κ with
 | base=>exact x h D hn
 | ret c k κ=>exact H _ _ _ _ _ _ _ _ x D hn
theorem iA {c:Code} {κ:bP} {t:Sem Fin} (e:eG c κ=some t):t=py c:=by
 unfold eG at e
 split at e
 ·cases e;rfl
 ·cases e
theorem fh (hA:rb A) {c:Code} {κ:bP} {t:Sem Fin} (e:eG c κ=some t):(bo A κ).units < 9800:=by
 unfold eG at e
 split at e
 ·rename_i h
  have h:=DG (ET.mp h).1
  have:=hA.units
  rw [dG];lia
 ·cases e
theorem fx (hA:rb A) {c:Code} {κ:bP} {t:Sem Fin} (e:eG c κ=some t):(bo A κ).depth < 990:=by
 unfold eG at e
 split at e
 ·rename_i h
  have h:=DG (ET.mp h).2
  have:=hA.depth
  rw [dH];lia
 ·cases e
theorem xS (hA:rb A) {c c':Code} {κ:bP} {t:Sem Fin} (q:c'.quiet=true) (e:ue m.isSeg c' κ=some t) {s:Df} (x:bI F A m c' κ t s):bI F A m c κ (.pure (.again c')) s:=by
 cases m with
 | plain R=>
  have e:eG c' κ=some t:=by cases κ <;> exact e
  have hu:=fh hA e
  have hd:=fx hA e
  rw [iA e] at x
  exact y_pure _ _ _ _ _ _ _ _ _ (y_again _ _ _ _ _ _ q (mD hu hd x))
 | seg P=>
  cases κ with
  | base=>
   cases c' with
   | compLoop ex i it ac env=>
    have e:some (py (.compLoop ex i it ac env))=some t:=e
    cases e
    refine s_again _ _ _ _ _ _ _ _ q ?_
    have x:SegX _ A _ (py (.compLoop ..)) [] s P:=x
    rw [dr]
    exact x
   | _=>cases e
  | ret c1 k1 κ1=>
   have e:eG c' (.ret c1 k1 κ1)=some t:=e
   have hu:=fh hA e
   have hd:=fx hA e
   rw [iA e] at x
   exact y_pure _ _ _ _ _ _ _ _ _ (y_again _ _ _ _ _ _ q (mD hu hd x))
theorem rr {c c':Code} {κ:bP} (q:c'.quiet=true) (e:yy m.isSeg κ=true) {s:Df} (x:codeAny (model F.prog F.w) (bo A κ) c' (on F A m κ) s):bI F A m c κ (.pure (.again c')) s:=by
 cases m with
 | plain R=>exact y_pure _ _ _ _ _ _ _ _ _ (y_again _ _ _ _ _ _ q x)
 | seg P=>
  cases κ with
  | base=>cases e
  | ret c1 k1 κ1=>exact y_pure _ _ _ _ _ _ _ _ _ (y_again _ _ _ _ _ _ q x)
theorem qk (hA:rb A) {ih:lU} (H:IH F A m q rest g d os ih):IH F A m q rest g d os (qI F m.isSeg ih):=by
 intro orc c κ t L n tk h x D hn
 cases t with
 | pure fin=>
  cases fin with
  | done f=>exact uW (r:=.ok f) rfl (lu H x D hn)
  | again c'=>
   obtain ⟨hq,x⟩:=g7 x
   rcases orc with _ | ⟨_ | i,orc⟩
   ·obtain ⟨ec,x⟩:=g7 x
    exact rr hq ec (x h D hn)
   ·obtain ⟨tt,et,x⟩:=eN x
    exact xS hA hq et (H _ _ _ _ _ _ _ _ x D hn)
   ·obtain ⟨ec,x⟩:=g7 x
    exact rr hq ec (x h D hn)
 | raise e=>exact uW (r:=.error e) rfl (lu H x D hn)
 | rule tag k=>exact mW (H _ _ _ _ _ _ _ _ x D hn)
 | «at» q k=>exact mW (H _ _ _ _ _ _ _ _ x D hn)
 | point l k=>exact mW (H _ _ _ _ _ _ _ _ x D hn)
 | ask k=>exact mW (H _ _ _ _ _ _ _ _ x D hn)
 | load a q k=>
  rcases orc with _ | ⟨_ | i,orc⟩
  ·exact x.elim
  ·obtain ⟨o,e,ht,x⟩:=nv x
   exact ni (t:=loadPart a q) (FW (D.look e ht) (H _ _ _ _ _ _ _ _ x D hn))
  ·obtain ⟨p,e,rfl,y⟩:=eN x
   exact ni (t:=loadPart p.1 q) (FW (o:=p.2) (D.own _ (C3 _ (cZ e))) (H _ _ _ _ _ _ _ _ y D hn))
 | loadIfAlive a k=>
  rcases orc with _ | ⟨_ | i,orc⟩
  ·exact x.elim
  ·obtain ⟨o,e,ht,x⟩:=nv x
   exact qU (D.look e ht) (H _ _ _ _ _ _ _ _ x D hn)
  ·obtain ⟨p,e,rfl,y⟩:=eN x
   exact qU (D.own _ (C3 _ (cZ e))) (H _ _ _ _ _ _ _ _ y D hn)
 | alloc o k=>
  obtain ⟨hf,x⟩:=gD x
  subst hn
  have D':bq F q (h.push o) (L++[(h.objs.size,o)]++rest):=(D.alloc hf).perm (by
   simp only [C6]
   exact (Dn (a:=(h.objs.size,o)) (l₁:=L) (l₂:=rest)).symm)
  exact ni (t:=alloc o) (wpAny_alloc (H _ _ _ _ _ _ _ _ x D' (Heap.size_push ..)))
 | update a pt f k=>
  rcases orc with _ | ⟨i,orc⟩
  ·exact x.elim
  ·obtain ⟨p,e,x⟩:=eN x
   obtain ⟨hf,rfl,y⟩:=gD x
   have ho:=D.own _ (C3 _ (cZ e))
   have D':=D.update (a:=p.1) (o:=p.2) e hf
   have hs:Heap.SameBut p.1 h (h.update p.1 f):=Heap.SameBut.update ..
   exact ni (t:=updatePart p.1 pt f) (Gk ho (H _ _ _ _ _ _ _ _ y D' (hs.1.trans hn)))
 | fresh k=>exact ni (t:=fresh) (wpAny_fresh (H _ _ _ _ _ _ _ _ x D hn))
 | handled own k=>
  obtain ⟨rfl,x⟩:=gD x
  exact sA hA.none (dS hA.none κ) (H _ _ _ _ _ _ _ _ x D hn)
 | call c' hd g l k=>
  cases hd with
  | some _=>exact x.elim
  | none=>
   refine zA ?_
   rcases orc with _ | ⟨_ | i,orc⟩
   ·exact x h D hn
   ·obtain ⟨tt,et,x⟩:=eN x
    have hu:=fh hA et
    have hd:=fx hA et
    simp only [iA et] at x
    refine mD hu hd ?_
    have y:=H _ _ _ _ _ _ _ _ x D hn
    cases m <;> exact y
   ·exact x h D hn
 | stack k=>exact xC λp below=>x h D hn p below
 | newGen c' k=>exact tI (x h D hn)
 | yield v gd l k=>
  obtain ⟨rfl,x⟩:=gD x
  cases κ with
  | ret c1 k1 κ1=>exact x.elim
  | base=>
   cases m with
   | plain R=>exact x.elim
   | seg P=>exact s_yield _ _ _ _ _ _ _ _ _ _ rfl rfl λp=>x h D hn l p
 | _=>exact x.elim
theorem iG (hA:rb A):∀n,IH F A m q rest g d os (BK F m.isSeg n)
 | 0=>λξ ξ ξ ξ ξ ξ ξ ξ x ξ ξ=>x.elim
 | n+1=>qk hA (iG hA n)
end
noncomputable def d2.core:d2→d2
 | .eq _ _ o=>o.core
 | .stop n=>.stop n
 | .done r L n t=>.done r L n t
 | .cut c κ L n t=>.cut c κ L n t
 | .stk c κ k L n t=>.stk c κ k L n t
 | .yld c v k L n t=>.yld c v k L n t
 | .gen c c' κ k L n t=>.gen c c' κ k L n t
noncomputable def d2.eqs:d2→List (C1×C1)
 | .eq a b o=>(a,b)::o.eqs
 | _=>[]
theorem lA {n k m:Nat} (h:n≤k) (e:k.blt m=true):n < m:=E4 h (DG e)
theorem lB {n k m:Nat} (h:n≤k) (e:k.ble m=true):n≤m:=Ex h (DG e)
theorem lC {n k m:Nat} (h:n < k) (e:k.ble m=true):n < m:=EK h (DG e)
theorem lD {n k m:Nat} (h:n < k) (e:k.ble m.succ=true):n≤m:=Nat.le_of_lt_succ (EK h (DG e))
noncomputable def dec (n:Nat):List Nat:=
 Nat.rec (motive:=λ_=>Nat→List Nat) (λ_=>[]) (λ_ f n=>bif n.beq 0 then [] else bif (n.mod 16).beq 15 then ((n.div 16).mod 256)::f (n.div 4096) else (n.mod 16).pred::f (n.div 16)) 199 n
noncomputable def i7:List (C1×C1)→List (C1×C1)
 | []=>[]
 | p::l=>(p.1,p.1)::i7 l
theorem j4 {F:Fx} {A:Dk} {m:dP} {q:List C1} {rest:ao} {g:Array GenState} {d:Drawn} {os:Ea}:∀o:d2,o.eqs=i7 o.eqs→dW F A m q rest g d os o.core→dW F A m q rest g d os o
 | .eq a b o,e,x=>by
  have e':(a,b)::o.eqs=(a,a)::i7 o.eqs:=e
  injection e' with e1 e2
  injection e1 with _ e3
  exact ⟨e3.symm,j4 o e2 x⟩
 | .stop _,_,x=>x
 | .done ..,_,x=>x
 | .cut ..,_,x=>x
 | .stk ..,_,x=>x
 | .yld ..,_,x=>x
 | .gen ..,_,x=>x
noncomputable def gE:Nat→ao→Option ((C1×Obj)×ao)
 | _,[]=>none
 | 0,p::l=>some (p,l)
 | i+1,p::l=>match gE i l with
  | some (q,l')=>some (q,p::l')
  | none=>none
noncomputable def nM:List Nat→ao→Option (ao×ao)
 | [],L=>some ([],L)
 | i::is,L=>match gE i L with
  | some (p,L')=>match nM is L' with
   | some (a,b)=>some (p::a,b)
   | none=>none
  | none=>none
set_option tactic.hygienic true in
theorem fy:∀{i:Nat} {L:ao} {p:C1×Obj} {L':ao},gE i L=some (p,L')→L.Perm (p::L')
 | _,[],_,_,e=>by cases ‹Nat› <;> cases e
 | 0,q::l,_,_,e=>by cases e;exact .refl _
 | i+1,q::l,p,L',e=>by
  unfold gE at e
  split at e
  ·rename_i q' l' e'
   cases e
   exact ((fy e').cons q).trans (.swap _ _ _)
  ·cases e
set_option tactic.hygienic true in
theorem cH:∀{is:List Nat} {L a b:ao},nM is L=some (a,b)→L.Perm (a++b)
 | [],L,a,b,e=>by cases e;exact .refl _
 | i::is,L,a,b,e=>by
  unfold nM at e
  split at e
  ·rename_i p L' e1
   split at e
   ·rename_i a' b' e2
    cases e
    exact (fy e1).trans ((cH e2).cons p)
   ·cases e
  ·cases e
noncomputable def bp:ao→List Obj→ao
 | p::l,o::os=>(p.1,o)::bp l os
 | _,_=>[]
structure Dr where
 d:Drawn
 G:Array GenState→Prop
 ok:∀g,G g→G (g.push .finished)
noncomputable def bZ (F:Fx) (rest:ao) (d:Dr) (os:Ea) (R:Dq→Df→Prop) (L:ao) {X:Type} (P:X→Prop) (r:X→Dq) (ob:X→List Obj) (new:X→ao):Prop:=
 ∀x h g t,P x→d.G g→d5 F h ((bp L (ob x)++new x)++rest)→R (r x) ⟨h,g,d.d,t,os⟩
inductive CV where
 | b (n:Nat) (args:Args)
 | cb (n:Nat) (args:Args)
 | ct (n:Nat) (args:Args)
 | o (c:Code)
noncomputable def qz:Code→CV
 | .builtin id args=>.b (PySem.code id) args
 | .call f args=>match f with
  | .builtin id=>.cb (PySem.code id) args
  | .type T=>.ct (PySem.code T) args
  | f=>.o (.call f args)
 | c=>.o c
noncomputable def g6:CV→Code→Prop
 | .b n args,c=>∃id,c=.builtin id args∧PySem.code id=n
 | .cb n args,c=>∃id,c=.call (.builtin id) args∧PySem.code id=n
 | .ct n args,c=>∃id,c=.call (.type id) args∧PySem.code id=n
 | .o c',c=>c=c'
theorem dN (c:Code):g6 (qz c) c:=by
 unfold qz
 split
 ·exact ⟨_,rfl,rfl⟩
 ·split
  ·exact ⟨_,rfl,rfl⟩
  ·exact ⟨_,rfl,rfl⟩
  ·rfl
 ·rfl
structure af (F:Fx) (k:Nat) (v:CV) (L:ao) {X:Type} (P:X→Prop) (r:X→Dq) (ob:X→List Obj) (new:X→ao):Prop where
 go:∀c,g6 v c→∀(rest:ao) (A:Dk) (R:Dq→Df→Prop) (d:Dr) (os:Ea),aP k A→bZ F rest d os R L P r ob new→
  ∀h g t,d.G g→d5 F h (L++rest)→codeAny (model F.prog F.w) A c R ⟨h,g,d.d,t,os⟩
structure bG (F:Fx) (k:Nat) (v:CV) (L:ao) {X:Type} (P:X→Prop) (r:X→Dq) (ob:X→List Obj) (new:X→ao) (D1 D2:Dr→Dr:=λd=>d):Prop where
 go:∀c,g6 v c→∀(rest:ao) (A:Dk) (R:Dq→Df→Prop) (d:Dr) (os:Ea),aP k A→bZ F rest (D2 d) os R L P r ob new→
  ∀h g t,(D1 d).G g→d5 F h (L++rest)→codeAny (model F.prog F.w) A c R ⟨h,g,(D1 d).d,t,os⟩
structure ae (F:Fx) (k:Nat) (v:CV) (L M:ao) {X:Type} (P:X→Prop) (r:X→Dq) (ob:X→List Obj) (new:X→ao) (D1 D2:Dr→Dr:=λd=>d):Prop where
 go:∀c,g6 v c→∀(rest:ao) (A:Dk) (R:Dq→Df→Prop) (d:Dr) (os:Ea),aP k A→bZ F (M++rest) (D2 d) os R L P r ob new→
  ∀h g t,(D1 d).G g→d5 F h (L++(M++rest))→codeAny (model F.prog F.w) A c R ⟨h,g,(D1 d).d,t,os⟩
theorem bG.toR {F:Fx} {k:Nat} {v:CV} {L:ao} {X:Type} {P:X→Prop} {r:X→Dq} {ob:X→List Obj} {new:X→ao} {D1 D2:Dr→Dr} (S:bG F k v L P r ob new D1 D2) (M:ao):ae F k v L M P r ob new D1 D2:=
 ⟨λc hc rest A R d os hr hR h g t hg D=>S.go c hc (M++rest) A R d os hr hR h g t hg D⟩
theorem ae.toT {F:Fx} {k:Nat} {v:CV} {L:ao} {X:Type} {P:X→Prop} {r:X→Dq} {ob:X→List Obj} {new:X→ao} {D1 D2:Dr→Dr} (S:ae F k v L [] P r ob new D1 D2):bG F k v L P r ob new D1 D2:=
 ⟨λc hc rest A R d os hr hR h g t hg D=>S.go c hc rest A R d os hr hR h g t hg D⟩
section
variable {F:Fx} {j k:Nat} {v:CV} {L M:ao} {X:Type} {P:X→Prop} {r:X→Dq} {ob:X→List Obj} {new:X→ao} {D1 D2:Dr→Dr}
theorem af.up (S:af F j v L P r ob new) (h:FO j k=true):af F k v L P r ob new:=⟨λc hc rest A R d os hr=>S.go c hc rest A R d os (hr.le (DG h))⟩
theorem bG.up (S:bG F j v L P r ob new D1 D2) (h:FO j k=true):bG F k v L P r ob new D1 D2:=⟨λc hc rest A R d os hr=>S.go c hc rest A R d os (hr.le (DG h))⟩
theorem ae.up (S:ae F j v L M P r ob new D1 D2) (h:FO j k=true):ae F k v L M P r ob new D1 D2:=⟨λc hc rest A R d os hr=>S.go c hc rest A R d os (hr.le (DG h))⟩
end
theorem af.toT {F:Fx} {k:Nat} {v:CV} {L:ao} {X:Type} {P:X→Prop} {r:X→Dq} {ob:X→List Obj} {new:X→ao} (S:af F k v L P r ob new):bG F k v L P r ob new:=⟨S.go⟩
theorem af.off {F:Fx} {k:Nat} {v:CV} {L:ao} {X:Type} {P:X→Prop} {r:X→Dq} {ob:X→List Obj} {new:X→ao} (x:(∀p∈L,F.low≤p.1)→af F k v L P r ob new):af F k v L P r ob new:=
 ⟨λc hc rest A R d os hr hR h g t hg D=>(x λp hp=>Ex D.low (D.off p (C3 _ hp))).go c hc rest A R d os hr hR h g t hg D⟩
inductive dR where
 | go (c:Code) (κ:bP) (t:Sem Fin) (L:ao) (n tk:Nat)
 | fin (r:Dq) (L:ao) (n tk:Nat)
 | bad
noncomputable def aQ (F:Fx) (sg:Bool) (fuel:Nat) (orc:List Nat):dR→d2
 | .go c κ t L n tk=>BK F sg fuel orc c κ t L n tk
 | .fin r L n tk=>.done r L n tk
 | .bad=>.stop 99
noncomputable def CT (F:Fx) (A:Dk) (m:dP) (rest:ao) (d:Dr) (os:Ea):dR→Prop
 | .go c κ t L n tk=>∀h g,d.G g→d5 F h (L++rest)→h.objs.size=n→bI F A m c κ t ⟨h,g,d.d,tk,os⟩
 | .fin r L n tk=>∀h g,d.G g→d5 F h (L++rest)→h.objs.size=n→m.fin r ⟨h,g,d.d,tk,os⟩
 | .bad=>∀g,d.G g→False
structure Go (F:Fx) (A:Dk) (m:dP) (rest:ao) (d:Dr) (os:Ea) (cfg:dR):Prop where
 go:CT F A m rest d os cfg
noncomputable def bT (is:List Nat) (o:d2):Option (CV×ao×Bool):=match o.core with
 | .cut c κ L _ _=>match nM is L with
  | some (a,_)=>some (qz c,a,κ.ok)
  | none=>none
 | _=>none
noncomputable def dY (is:List Nat) (o:d2) (r:Dq) (L:ao) (n t:Nat):dR:=match o.core with
 | .cut _ κ L0 _ _=>match nM is L0 with
  | some (_,b)=>match κ with
   | .base=>.fin r (L++b) n t
   | .ret c k κ=>.go c κ (k r) (L++b) n t
  | none=>.bad
 | _=>.bad
noncomputable def d8 (is:List Nat) (o:d2):Option (Dq×ao):=match o.core with
 | .done r L _ _=>match nM is L with
  | some (a,_)=>some (r,a)
  | none=>none
 | _=>none
section
variable {F:Fx} {A:Dk} {m:dP} {rest:ao} {d:Dr} {os:Ea} {X:Type} {P:X→Prop} {r:X→Dq} {ob:X→List Obj} {new:X→ao}
theorem cL (hA:rb A) (fuel:Nat) (orc:List Nat) {cfg:dR} (he:(aQ F m.isSeg fuel orc cfg).eqs=i7 (aQ F m.isSeg fuel orc cfg).eqs)
  (x:∀g,d.G g→dW F A m [] rest g d.d os (aQ F m.isSeg fuel orc cfg).core):Go F A m rest d os cfg:=by
 refine ⟨?_⟩
 cases cfg with
 | go c κ t L n tk=>exact λh g hg D hn=>iG hA fuel _ _ _ _ _ _ _ _ (j4 _ he (x g hg)) D hn
 | fin r L n tk=>exact λh g hg D hn=>x g hg h D hn
 | bad=>exact λg hg=>x g hg
set_option tactic.hygienic true in
theorem lM {D1 D2:Dr→Dr} {M rest':ao} {k:Nat} {v:CV} {L₁:ao} (hroom:aP (k+1) A) (S:ae F k v L₁ M P r ob new D1 D2) (hM:rest.Perm (M++rest')) (fuel:Nat) (orc is:List Nat) {cfg:dR}
  (hv:bT is (aQ F m.isSeg fuel orc cfg)=some (v,L₁,true)) (he:(aQ F m.isSeg fuel orc cfg).eqs=i7 (aQ F m.isSeg fuel orc cfg).eqs)
  (hx:∀x n t,P x→Go F A m rest (D2 d) os (dY is (aQ F m.isSeg fuel orc cfg) (r x) (bp L₁ (ob x)++new x) n t)):Go F A m rest (D1 d) os cfg:=by
 refine cL hroom.handled fuel orc he λg hg=>?_
 unfold bT at hv
 unfold dY at hx
 split at hv
 ·rename_i c κ L n t e
  rw [e]
  split at hv
  ·rename_i a b e2
   simp only [Option.some.injEq,Prod.mk.injEq] at hv
   obtain ⟨hcv,rfl,hok⟩:=hv
   have hcm:=hcv ▸ dN c
   intro h D hn
   have p:=cH e2
   have D':d5 F h (_++(M++(b++rest'))):=D.perm ((p.append_right rest).trans (by
    rw [C6]
    exact C7 _ ((C7 b hM).trans (Do _ _ _))))
   refine S.go c hcm (b++rest') (bo A κ) _ d os (hroom.go hok) ?_ h g t hg D'
   intro x h' g' t' hp hg' D''
   have y:=(hx x h'.objs.size t' hp).go
   have y:=e▸y
   simp only [e2] at y
   have D3:=(show d5 F h' (((bp _ (ob x)++new x)++b)++rest) from D''.perm (
    (C7 (bp _ (ob x)++new x) ((Do _ _ _).trans (C7 b hM.symm))).trans (.of_eq (C6 _ _ _).symm)))
   cases κ with
   | base=>exact y h' g' hg' D3 rfl
   | ret c k κ=>exact y h' g' hg' D3 rfl
  ·cases hv
 ·cases hv
theorem lO {D1 D2:Dr→Dr} {k:Nat} {v:CV} {L₁:ao} (hroom:aP (k+1) A) (S:bG F k v L₁ P r ob new D1 D2) (fuel:Nat) (orc is:List Nat) {cfg:dR}
  (hv:bT is (aQ F m.isSeg fuel orc cfg)=some (v,L₁,true)) (he:(aQ F m.isSeg fuel orc cfg).eqs=i7 (aQ F m.isSeg fuel orc cfg).eqs)
  (hx:∀x n t,P x→Go F A m rest (D2 d) os (dY is (aQ F m.isSeg fuel orc cfg) (r x) (bp L₁ (ob x)++new x) n t)):Go F A m rest (D1 d) os cfg:=
 lM hroom (S.toR []) (.refl _) fuel orc is hv he hx
theorem ou {k:Nat} {v:CV} {L₁:ao} (hroom:aP (k+1) A) (S:af F k v L₁ P r ob new) (fuel:Nat) (orc is:List Nat) {cfg:dR}
  (hv:bT is (aQ F m.isSeg fuel orc cfg)=some (v,L₁,true)) (he:(aQ F m.isSeg fuel orc cfg).eqs=i7 (aQ F m.isSeg fuel orc cfg).eqs)
  (hx:∀x n t,P x→Go F A m rest d os (dY is (aQ F m.isSeg fuel orc cfg) (r x) (bp L₁ (ob x)++new x) n t)):Go F A m rest d os cfg:=
 lO (D1:=λd=>d) (D2:=λd=>d) hroom S.toT fuel orc is hv he hx
noncomputable def bP.isBase:bP→Bool
 | .base=>true
 | _=>false
noncomputable def cQ (is:List Nat) (o:d2):Option (CV×ao×Bool):=match o.core with
 | .cut c κ L _ _=>match nM is L with
  | some (a,_)=>some (qz c,a,κ.isBase)
  | none=>none
 | _=>none
set_option tactic.hygienic true in
theorem ke {D1 D2:Dr→Dr} {M rest':ao} {k:Nat} {v:CV} {L₁:ao} (hroom:aP k A) (S:ae F k v L₁ M P r ob new D1 D2) (hM:rest.Perm (M++rest')) (fuel:Nat) (orc is:List Nat) {cfg:dR}
  (hv:cQ is (aQ F m.isSeg fuel orc cfg)=some (v,L₁,true)) (he:(aQ F m.isSeg fuel orc cfg).eqs=i7 (aQ F m.isSeg fuel orc cfg).eqs)
  (hx:∀x n t,P x→Go F A m rest (D2 d) os (dY is (aQ F m.isSeg fuel orc cfg) (r x) (bp L₁ (ob x)++new x) n t)):Go F A m rest (D1 d) os cfg:=by
 refine cL hroom.handled fuel orc he λg hg=>?_
 unfold cQ at hv
 unfold dY at hx
 split at hv
 ·rename_i c κ L n t e
  rw [e]
  split at hv
  ·rename_i a b e2
   simp only [Option.some.injEq,Prod.mk.injEq] at hv
   obtain ⟨hcv,rfl,hok⟩:=hv
   have hcm:=hcv ▸ dN c
   intro h D hn
   have p:=cH e2
   have D':d5 F h (_++(M++(b++rest'))):=D.perm ((p.append_right rest).trans (by
    rw [C6]
    exact C7 _ ((C7 b hM).trans (Do _ _ _))))
   cases κ with
   | ret c k κ=>cases hok
   | base=>
    refine S.go c hcm (b++rest') A _ d os hroom ?_ h g t hg D'
    intro x h' g' t' hp hg' D''
    have y:=(hx x h'.objs.size t' hp).go
    have y:=e▸y
    simp only [e2] at y
    have D3:=(show d5 F h' (((bp _ (ob x)++new x)++b)++rest) from D''.perm (
     (C7 (bp _ (ob x)++new x) ((Do _ _ _).trans (C7 b hM.symm))).trans (.of_eq (C6 _ _ _).symm)))
    exact y h' g' hg' D3 rfl
  ·cases hv
 ·cases hv
theorem pF {D1 D2:Dr→Dr} {k:Nat} {v:CV} {L₁:ao} (hroom:aP k A) (S:bG F k v L₁ P r ob new D1 D2) (fuel:Nat) (orc is:List Nat) {cfg:dR}
  (hv:cQ is (aQ F m.isSeg fuel orc cfg)=some (v,L₁,true)) (he:(aQ F m.isSeg fuel orc cfg).eqs=i7 (aQ F m.isSeg fuel orc cfg).eqs)
  (hx:∀x n t,P x→Go F A m rest (D2 d) os (dY is (aQ F m.isSeg fuel orc cfg) (r x) (bp L₁ (ob x)++new x) n t)):Go F A m rest (D1 d) os cfg:=
 ke hroom (S.toR []) (.refl _) fuel orc is hv he hx
theorem sI {k:Nat} {v:CV} {L₁:ao} (hroom:aP k A) (S:af F k v L₁ P r ob new) (fuel:Nat) (orc is:List Nat) {cfg:dR}
  (hv:cQ is (aQ F m.isSeg fuel orc cfg)=some (v,L₁,true)) (he:(aQ F m.isSeg fuel orc cfg).eqs=i7 (aQ F m.isSeg fuel orc cfg).eqs)
  (hx:∀x n t,P x→Go F A m rest d os (dY is (aQ F m.isSeg fuel orc cfg) (r x) (bp L₁ (ob x)++new x) n t)):Go F A m rest d os cfg:=
 pF (D1:=λd=>d) (D2:=λd=>d) hroom S.toT fuel orc is hv he hx
noncomputable def vF (o:d2):Bool:=match o.core with
 | .stk ..=>true
 | _=>false
noncomputable def jY (p:Pos) (below:List (Code×Pos)) (o:d2):dR:=match o.core with
 | .stk c κ k L n t=>.go c κ (k ((c,p)::below)) L n t
 | _=>.bad
set_option tactic.hygienic true in
theorem ud (hA:rb A) (fuel:Nat) (orc:List Nat) {cfg:dR}
  (hv:vF (aQ F m.isSeg fuel orc cfg)=true) (he:(aQ F m.isSeg fuel orc cfg).eqs=i7 (aQ F m.isSeg fuel orc cfg).eqs)
  (hx:∀p below,Go F A m rest d os (jY p below (aQ F m.isSeg fuel orc cfg))):Go F A m rest d os cfg:=by
 refine cL hA fuel orc he λg hg=>?_
 unfold vF at hv
 split at hv
 ·rename_i c κ k L n t e
  rw [e]
  intro h D hn p below
  have y:=(hx p below).go
  unfold jY at y
  rw [e] at y
  exact y h g hg D hn
 ·cases hv
set_option tactic.hygienic true in
theorem r3 {L:ao} (hA:rb A) (hR:bZ F rest d os m.fin L P r ob new) (x:X) (hp:P x) (fuel:Nat) (orc is:List Nat) {cfg:dR}
  (hv:d8 is (aQ F m.isSeg fuel orc cfg)=some (r x,bp L (ob x)++new x)) (he:(aQ F m.isSeg fuel orc cfg).eqs=i7 (aQ F m.isSeg fuel orc cfg).eqs):Go F A m rest d os cfg:=by
 refine cL hA fuel orc he λg hg=>?_
 unfold d8 at hv
 split at hv
 ·rename_i r0 L0 n t e
  rw [e]
  split at hv
  ·rename_i a b e2
   simp only [Option.some.injEq,Prod.mk.injEq] at hv
   obtain ⟨rfl,rfl⟩:=hv
   intro h D hn
   have p:=cH e2
   have D':d5 F h (b++((bp L (ob x)++new x)++rest)):=D.perm (by
    refine (p.append_right rest).trans ?_
    rw [C6]
    exact (Do _ _ _))
   exact hR x h g t hp hg D'.drop
  ·cases hv
 ·cases hv
theorem af.of_code {k:Nat} {c:Code} {L:ao} (x:∀rest A R d os,aP k A→bZ F rest d os R L P r ob new→∀n t,Go F A (.plain R) rest d os (.go c .base (jx c) L n t)):af F k (.o c) L P r ob new:=
 ⟨λc' hc' rest A R d os hr hR h g t hg D=>by
  cases hc'
  exact y_code _ _ _ _ _ _ (by rw [dr];exact (x rest A R d os hr hR _ t).go h g hg D rfl)⟩
theorem bG.of_cb {D1 D2:Dr→Dr} {k:Nat} {N:Nat} {id:String} {args:Args} {L:ao} (hN:PySem.code id=N) (x:∀rest A R d os,aP k A→bZ F rest (D2 d) os R L P r ob new→∀n t,Go F A (.plain R) rest (D1 d) os (.go (.builtin id args) .base (jx (.builtin id args)) L n t)):bG F k (.b N args) L P r ob new D1 D2:=
 ⟨λc' ⟨id',hc,hk⟩ rest A R d os hr hR h g t hg D=>by
  have e:id'=id:=PySem.code_inj _ _ (hk.trans hN.symm)
  subst e
  rw [hc]
  exact y_code _ _ _ _ _ _ (by rw [dr];exact (x rest A R d os hr hR _ t).go h g hg D rfl)⟩
theorem ae.of_code {D1 D2:Dr→Dr} {k:Nat} {c:Code} {L M:ao} (x:∀rest A R d os,aP k A→bZ F (M++rest) (D2 d) os R L P r ob new→∀n t,Go F A (.plain R) (M++rest) (D1 d) os (.go c .base (jx c) L n t)):ae F k (.o c) L M P r ob new D1 D2:=
 ⟨λc' hc' rest A R d os hr hR h g t hg D=>by
  cases hc'
  exact y_code _ _ _ _ _ _ (by rw [dr];exact (x rest A R d os hr hR _ t).go h g hg D rfl)⟩
theorem af.of_T {k:Nat} {v:CV} {L:ao} (S:bG F k v L P r ob new):af F k v L P r ob new:=⟨S.go⟩
end
noncomputable def xj (fd:FuncData) (self:C1) (args:Args):Sem Env:=do
 let compiled ←match fd.code with
  | .none=>pure fd.qualname
  | c=>do match ←field c 1 with
   | .str q _=>pure q
   | _=>pure fd.qualname
 newFunctionEnv fd.scope fd.globals fd.closure (←bindArgs fd args) (compiled++".<locals>.") (some self) fd.code none fd.builtins
noncomputable def nN (fd:FuncData) (env:Env):Sem Fin:=match fd.body with
 | .stmts b=>again (.func b env)
 | .expr e=>again (.expr e env)
noncomputable def zP (fd:FuncData) (self:C1) (args:Args):Sem Env:=do
 let compiled ←match fd.code with
  | .none=>pure fd.qualname
  | c=>do match ←ZFast.zw6609576154772507232 c 1 with
   | .str q _=>pure q
   | _=>pure fd.qualname
 ZFast.zw11113344188204177931 fd.scope fd.globals fd.closure (←ZFast.zw9782568553167038054 fd args) (compiled++".<locals>.") (some self) fd.code none fd.builtins
theorem qM:xj=zP:=by
 unfold xj zP
 exact ZFast.ze6609576154772507232▸ZFast.ze11113344188204177931▸ZFast.ze9782568553167038054▸rfl
noncomputable def mh (fd:FuncData) (self:C1) (args:Args):Sem Fin:=zP fd self args >>= λenv=>fq >>= λξ=>nN fd env
noncomputable def dM (F:Fx) (f:C1) (args:Args):Sem Fin:=match F.kt.get f with
 | some o=>match o.data with
  | .func fd=>mh fd f args
  | _=>.unsupported "no def"
 | none=>.unsupported "no def"
noncomputable def jb (F:Fx) (f:C1):Bool:=match F.tab f with
 | true=>false
 | false=>match F.kt.get f with
  | some o=>match o.data with
   | .func fd=>!fd.scope.isGenerator && !fd.scope.isCoroutine
   | _=>false
  | none=>false
theorem fT {M:Model} {A:Dk} {c:Code} {m:Sem Env} {f:Env→Sem Fin} {Q:Fin→Df→Prop} {E:CX→Df→Prop} {s:Df} (hd:A.depth+c.weight < recursionLimit)
  (x:wpOwn M A c (m >>= λenv=>fq >>= λξ=>f env) Q E s):wpOwn M A c (m >>= λenv=>enterFrame >>= λξ=>f env) Q E s:=λΓ p hc hΓ=>by
 have y:=x Γ p hc hΓ
 rw [Sem.wp_bind'] at y ⊢
 refine Sem.wp_mono M Γ m (λenv p' s' z=>?_) (λξ ξ ξ z=>z) p s y
 simp only [Sem.wp_bind'] at z ⊢
 exact ko (hc ▸ hΓ.in) hd z
section
variable {F:Fx} {A:Dk} {rest:ao} {d:Dr} {os:Ea} {X:Type} {P:X→Prop} {r:X→Dq} {ob:X→List Obj} {new:X→ao}
theorem CC {α:Type} (q0:Str) (K:Str→Sem α):(λx:CX=>match x with | .str q _=>pure q >>= K | _=>pure q0 >>= K)=λx=>(match x with | .str q _=>pure q | _=>pure q0:Sem Str) >>= K:=
 funext λx=>by cases x <;> rfl
theorem Cl {α:Type} (v:CX) (q0:Str) (K:Str→Sem α):(match v with | .none=>pure q0 >>= K | c=>field c 1 >>= λx=>match x with | .str q _=>pure q >>= K | _=>pure q0 >>= K)=
  (match v with | .none=>pure q0 | c=>field c 1 >>= λx=>match x with | .str q _=>pure q | _=>pure q0:Sem Str) >>= K:=by
 have h:=λc=>(congrArg (field c 1 >>= ·) (CC q0 K)).trans (bind_assoc _ _ _).symm
 cases v
 case none=>rfl
 all_goals exact h _
theorem dQ (fd:FuncData) (self:C1) (args:Args) (h1:fd.scope.isGenerator=false) (h2:fd.scope.isCoroutine=false):
  callFunction self fd args=xj fd self args >>= λenv=>enterFrame >>= λξ=>nN fd env:=by
 have hb:∀env,(match fd.scope.isGenerator,fd.scope.isCoroutine with
   | false,false=>again (match fd.body with | .stmts b=>Code.func b env | .expr e=>Code.expr e env)
   | true,false=>do ret (←newGenerator (match fd.body with | .stmts b=>Code.func b env | .expr e=>Code.expr e env) fd.name fd.qualname)
   | false,true=>do ret (←newCoroutine (match fd.body with | .stmts b=>Code.func b env | .expr e=>Code.expr e env) fd.name fd.qualname)
   | true,true=>do ret (←newAsyncGenerator (match fd.body with | .stmts b=>Code.func b env | .expr e=>Code.expr e env) fd.name fd.qualname):Sem Fin)=nN fd env:=λenv=>by
  simp only [h1,h2]
  delta nN
  cases fd.body <;> rfl
 refine (Cl fd.code fd.qualname _).trans (Eq.trans ?_ (congrArg (·>>= _) (Cl fd.code fd.qualname _).symm))
 rw [bind_assoc]
 refine congrArg _ (funext λq=>?_)
 rw [bind_assoc]
 exact congrArg _ (funext λb=>congrArg _ (funext λenv=>congrArg _ (funext λ_=>hb env)))
set_option tactic.hygienic true in
theorem ae.of_def {D1 D2:Dr→Dr} {k:Nat} {f:C1} {args:Args} {L M:ao} (ho:jb F f=true)
  (x:∀rest A R d os,aP (k+1) A→bZ F (M++rest) (D2 d) os R L P r ob new→∀n t,Go F A (.plain R) (M++rest) (D1 d) os (.go (.call (.ref f) args) .base (dM F f args) L n t)):ae F (k+1) (.o (.call (.ref f) args)) L M P r ob new D1 D2:=by
 refine ⟨λc' hc' rest A R d os hr hR h g t hg D=>?_⟩
 have y:=(x rest A R d os hr hR _ t).go h g hg D rfl
 have hc':c'=.call (.ref f) args:=hc'
 subst hc'
 unfold jb at ho
 unfold dM at y
 split at ho
 ·cases ho
 rename_i htab
 split at ho
 ·rename_i o e
  split at ho
  ·rename_i fd ed
   simp only [e,ed] at y
   have hl:=D.look e htab
   simp only [Dt,E8,E8] at ho
   unfold mh at y
   refine y_code _ _ _ _ _ _ ?_
   refine wpOwn_bind (wpOwn_of_wpAny (F7 hl ?_))
   simp only [ed]
   rw [dQ fd f args ho.1 ho.2,qM]
   refine fT ?_ y
   have:=hr.depth
   show A.depth+0 < 1000
   lia
  ·cases ho
 ·cases ho
theorem af.of_def {k:Nat} {f:C1} {args:Args} {L:ao} (ho:jb F f=true)
  (x:∀rest A R d os,aP (k+1) A→bZ F rest d os R L P r ob new→∀n t,Go F A (.plain R) rest d os (.go (.call (.ref f) args) .base (dM F f args) L n t)):af F (k+1) (.o (.call (.ref f) args)) L P r ob new:=
 af.of_T (ae.toT (ae.of_def (M:=[]) (D1:=λd=>d) (D2:=λd=>d) ho x))
end
noncomputable def vq (b1 b2:Bool) (w:Ek):Ek:=
 {w with params:={w.params with followText:=λr=>match E7 (PySem.code r) 10139888712337904147300001983332972444938612 with
  | true=>b1
  | false=>match E7 (PySem.code r) 2510650655181157320538776789020469319833841985448949215332 with
   | true=>b2
   | false=>w.params.followText r}}
theorem pI (w:Ek):vq (w.params.followText "special-get-raises") (w.params.followText "comprehension-iter-twice") w=w:=by
 obtain ⟨draws,params⟩:=w
 have h:(λr=>match E7 (PySem.code r) 10139888712337904147300001983332972444938612 with
  | true=>params.followText "special-get-raises"
  | false=>match E7 (PySem.code r) 2510650655181157320538776789020469319833841985448949215332 with
   | true=>params.followText "comprehension-iter-twice"
   | false=>params.followText r)=params.followText:=by
  funext r
  split
  ·rename_i h
   have h2:PySem.code r=PySem.code "special-get-raises":=(DR h).trans (by kernel_rfl)
   rw [PySem.code_inj _ _ h2]
  ·split
   ·rename_i h
    have h2:PySem.code r=PySem.code "comprehension-iter-twice":=(DR h).trans (by kernel_rfl)
    rw [PySem.code_inj _ _ h2]
   ·rfl
 unfold vq
 rw [h]
noncomputable def Fx.bits (F:Fx) (b1 b2:Bool):Fx:={F with w:=vq b1 b2 F.w}
theorem Fx.bits_self (F:Fx):F.bits (F.w.params.followText "special-get-raises") (F.w.params.followText "comprehension-iter-twice")=F:=by
 unfold Fx.bits
 rw [pI]
structure c9 (F:Fx) (A:Dk) (m:dP) (rest:ao) (d:Dr) (os:Ea) (cfg:Bool→Bool→dR):Prop where
 go:∀b1 b2,F.bits b1 b2=F→Go F A m rest d os (cfg b1 b2)
noncomputable def bC (F:Fx) (sg:Bool) (orc:List Nat) (cfg:Bool→Bool→dR) (b1 b2:Bool):d2:=aQ (F.bits b1 b2) sg 999 orc (cfg b1 b2)
noncomputable def jJ (is:List Nat) (o:Bool→Bool→d2) (r:Dq) (L:ao) (n t:Nat) (b1 b2:Bool):dR:=dY is (o b1 b2) r L n t
noncomputable def hC {X:Type} (is:List Nat) (o:Bool→Bool→d2) (L₁:ao) (r:X→Dq) (ob:X→List Obj) (new:X→ao) (x:X) (n t:Nat):Bool→Bool→dR:=jJ is o (r x) (bp L₁ (ob x)++new x) n t
noncomputable def qQ {X:Type} (is:List Nat) (o:Bool→Bool→d2) (r:X→Dq) (post:X→ao) (x:X) (n t:Nat):Bool→Bool→dR:=jJ is o (r x) (post x) n t
noncomputable def tB {α:Type} (V:d2→α) (o:Bool→Bool→d2):=
 ((V (o false false),(o false false).eqs),(V (o false true),(o false true).eqs),(V (o true false),(o true false).eqs),V (o true true),(o true true).eqs)
noncomputable def tC {α:Type} (a:α) (o:Bool→Bool→d2):=
 ((a,i7 (o false false).eqs),(a,i7 (o false true).eqs),(a,i7 (o true false).eqs),a,i7 (o true true).eqs)
abbrev HV (V:d2→Option (CV×ao×Bool)) (o:Bool→Bool→d2) (v:CV) (L:ao):Prop:=tB V o=tC (some (v,L,true)) o
theorem yk {α:Type} {V:d2→α} {a:α} {o:Bool→Bool→d2} (h:tB V o=tC a o) (b1 b2:Bool):V (o b1 b2)=a∧(o b1 b2).eqs=i7 (o b1 b2).eqs:=by
 unfold tB tC at h
 simp only [Prod.mk.injEq] at h
 obtain ⟨⟨h1,h2⟩,⟨h3,h4⟩,⟨h5,h6⟩,h7,h8⟩:=h
 cases b1 <;> cases b2
 ·exact ⟨h1,h2⟩
 ·exact ⟨h3,h4⟩
 ·exact ⟨h5,h6⟩
 ·exact ⟨h7,h8⟩
section
variable {F:Fx} {A:Dk} {m:dP} {rest:ao} {d:Dr} {os:Ea} {X:Type} {P:X→Prop} {r:X→Dq} {ob:X→List Obj} {new:X→ao}
theorem c9.one {cfg:dR} (x:c9 F A m rest d os λξ ξ=>cfg):Go F A m rest d os cfg:=x.go _ _ F.bits_self
theorem a9 {α:Type} {V:d2→α} {a:α} {sg:Bool} {orc:List Nat} {cfg:Bool→Bool→dR} (h:tB V (bC F sg orc cfg)=tC a (bC F sg orc cfg)) (b1 b2:Bool) (hb:F.bits b1 b2=F):
  V (aQ F sg 999 orc (cfg b1 b2))=a∧(aQ F sg 999 orc (cfg b1 b2)).eqs=i7 (aQ F sg 999 orc (cfg b1 b2)).eqs:=by
 have q:=yk h b1 b2
 unfold bC at q
 rw [hb] at q
 exact q
theorem c9.at {sg:Bool} {orc is:List Nat} {cfg:Bool→Bool→dR} {r0:Dq} {L:ao} {n t:Nat} (x:c9 F A m rest d os (jJ is (bC F sg orc cfg) r0 L n t)) (b1 b2:Bool) (hb:F.bits b1 b2=F):
  Go F A m rest d os (dY is (aQ F sg 999 orc (cfg b1 b2)) r0 L n t):=by
 have y:=x.go b1 b2 hb
 unfold jJ bC at y
 rw [hb] at y
 exact y
theorem gS {D1 D2:Dr→Dr} {M:ao} {k:Nat} {v:CV} {L₁:ao} (hroom:aP (k+1) A) (S:ae F k v L₁ M P r ob new D1 D2) (orc is:List Nat) {cfg:Bool→Bool→dR} (rest':ao) (hM:rest.Perm (M++rest'))
  (hx:let f:=hC is (bC F m.isSeg orc cfg) L₁ r ob new;∀x n t,P x→c9 F A m rest (D2 d) os (f x n t))
  (hv:HV (bT is) (bC F m.isSeg orc cfg) v L₁):c9 F A m rest (D1 d) os cfg:=
 ⟨λb1 b2 hb=>lM hroom S hM 999 orc is (a9 hv b1 b2 hb).1 (a9 hv b1 b2 hb).2 λx n t p=>c9.at (hx x n t p) b1 b2 hb⟩
theorem cT {D1 D2:Dr→Dr} {M rest':ao} {k:Nat} {v:CV} {L₁:ao} (hroom:aP (k+1) A) (S:ae F k v L₁ M P r ob new D1 D2) (orc is:List Nat) {cfg:Bool→Bool→dR}
  (hx:let f:=hC is (bC F m.isSeg orc cfg) L₁ r ob new;∀x n t,P x→c9 F A m (M++rest') (D2 d) os (f x n t))
  (hv:HV (bT is) (bC F m.isSeg orc cfg) v L₁):c9 F A m (M++rest') (D1 d) os cfg:=
 gS hroom S orc is rest' (.refl _) hx hv
theorem ui {D1 D2:Dr→Dr} {k:Nat} {v:CV} {L₁:ao} (hroom:aP (k+1) A) (S:bG F k v L₁ P r ob new D1 D2) (orc is:List Nat) {cfg:Bool→Bool→dR}
  (hx:let f:=hC is (bC F m.isSeg orc cfg) L₁ r ob new;∀x n t,P x→c9 F A m rest (D2 d) os (f x n t))
  (hv:HV (bT is) (bC F m.isSeg orc cfg) v L₁):c9 F A m rest (D1 d) os cfg:=
 ⟨λb1 b2 hb=>lO hroom S 999 orc is (a9 hv b1 b2 hb).1 (a9 hv b1 b2 hb).2 λx n t p=>c9.at (hx x n t p) b1 b2 hb⟩
theorem cutB {k:Nat} {v:CV} {L₁:ao} (hroom:aP (k+1) A) (S:af F k v L₁ P r ob new) (orc is:List Nat) {cfg:Bool→Bool→dR}
  (hx:let f:=hC is (bC F m.isSeg orc cfg) L₁ r ob new;∀x n t,P x→c9 F A m rest d os (f x n t))
  (hv:HV (bT is) (bC F m.isSeg orc cfg) v L₁):c9 F A m rest d os cfg:=
 ⟨λb1 b2 hb=>ou hroom S 999 orc is (a9 hv b1 b2 hb).1 (a9 hv b1 b2 hb).2 λx n t p=>c9.at (hx x n t p) b1 b2 hb⟩
theorem aW {D1 D2:Dr→Dr} {M rest':ao} {k:Nat} {v:CV} {L₁:ao} (hroom:aP k A) (S:ae F k v L₁ M P r ob new D1 D2) (orc is:List Nat) {cfg:Bool→Bool→dR}
  (hx:let f:=hC is (bC F m.isSeg orc cfg) L₁ r ob new;∀x n t,P x→c9 F A m (M++rest') (D2 d) os (f x n t))
  (hv:HV (cQ is) (bC F m.isSeg orc cfg) v L₁):c9 F A m (M++rest') (D1 d) os cfg:=
 ⟨λb1 b2 hb=>ke hroom S (.refl _) 999 orc is (a9 hv b1 b2 hb).1 (a9 hv b1 b2 hb).2 λx n t p=>c9.at (hx x n t p) b1 b2 hb⟩
theorem cy {k:Nat} {v:CV} {L₁:ao} (hroom:aP k A) (S:af F k v L₁ P r ob new) (orc is:List Nat) {cfg:Bool→Bool→dR}
  (hx:let f:=hC is (bC F m.isSeg orc cfg) L₁ r ob new;∀x n t,P x→c9 F A m rest d os (f x n t))
  (hv:HV (cQ is) (bC F m.isSeg orc cfg) v L₁):c9 F A m rest d os cfg:=
 ⟨λb1 b2 hb=>sI hroom S 999 orc is (a9 hv b1 b2 hb).1 (a9 hv b1 b2 hb).2 λx n t p=>c9.at (hx x n t p) b1 b2 hb⟩
noncomputable def Av (p:Pos) (below:List (Code×Pos)) (o:Bool→Bool→d2) (b1 b2:Bool):dR:=jY p below (o b1 b2)
theorem vU (hA:rb A) (orc:List Nat) {cfg:Bool→Bool→dR}
  (hx:∀p below,let c:=Av p below (bC F m.isSeg orc cfg);c9 F A m rest d os c)
  (hv:tB vF (bC F m.isSeg orc cfg)=tC true (bC F m.isSeg orc cfg)):c9 F A m rest d os cfg:=
 ⟨λb1 b2 hb=>ud hA 999 orc (a9 hv b1 b2 hb).1 (a9 hv b1 b2 hb).2 λp below=>by
  have y:=c9.go (hx p below) b1 b2 hb
  unfold Av bC at y
  rw [hb] at y
  exact y⟩
theorem ar {L:ao} {kr:Nat} (hroom:aP kr A) (hR:bZ F rest d os m.fin L P r ob new) (x:X) (orc is:List Nat) {cfg:Bool→Bool→dR}
  (hv:tB (d8 is) (bC F m.isSeg orc cfg)=tC (some (r x,bp L (ob x)++new x)) (bC F m.isSeg orc cfg)) (hp:P x):c9 F A m rest d os cfg:=
 ⟨λb1 b2 hb=>r3 hroom.handled hR x hp 999 orc is (a9 hv b1 b2 hb).1 (a9 hv b1 b2 hb).2⟩
theorem af.of_codeB {k:Nat} {c:Code} {L:ao} (x:∀rest A R d os,aP k A→bZ F rest d os R L P r ob new→∀n t,c9 F A (.plain R) rest d os λξ ξ=>.go c .base (jx c) L n t):af F k (.o c) L P r ob new:=
 af.of_code λrest A R d os hr hR n t=>(x rest A R d os hr hR n t).one
theorem bG.of_cbB {D1 D2:Dr→Dr} {k:Nat} {N:Nat} {id:String} {args:Args} {L:ao} (hN:PySem.code id=N) (x:∀rest A R d os,aP k A→bZ F rest (D2 d) os R L P r ob new→∀n t,c9 F A (.plain R) rest (D1 d) os λξ ξ=>.go (.builtin id args) .base (jx (.builtin id args)) L n t):bG F k (.b N args) L P r ob new D1 D2:=
 bG.of_cb hN λrest A R d os hr hR n t=>(x rest A R d os hr hR n t).one
theorem ae.of_codeB {D1 D2:Dr→Dr} {k:Nat} {c:Code} {L M:ao} (x:∀rest A R d os,aP k A→bZ F (M++rest) (D2 d) os R L P r ob new→∀n t,c9 F A (.plain R) (M++rest) (D1 d) os λξ ξ=>.go c .base (jx c) L n t):ae F k (.o c) L M P r ob new D1 D2:=
 ae.of_code λrest A R d os hr hR n t=>(x rest A R d os hr hR n t).one
theorem ae.of_defB {D1 D2:Dr→Dr} {k:Nat} {f:C1} {args:Args} {L M:ao}
  (x:∀rest A R d os,aP (k+1) A→bZ F (M++rest) (D2 d) os R L P r ob new→∀n t,c9 F A (.plain R) (M++rest) (D1 d) os λξ ξ=>.go (.call (.ref f) args) .base (dM F f args) L n t) (ho:jb F f=true):ae F (k+1) (.o (.call (.ref f) args)) L M P r ob new D1 D2:=
 ae.of_def ho λrest A R d os hr hR n t=>(x rest A R d os hr hR n t).one
theorem af.of_defB {k:Nat} {f:C1} {args:Args} {L:ao}
  (x:∀rest A R d os,aP (k+1) A→bZ F rest d os R L P r ob new→∀n t,c9 F A (.plain R) rest d os λξ ξ=>.go (.call (.ref f) args) .base (dM F f args) L n t) (ho:jb F f=true):af F (k+1) (.o (.call (.ref f) args)) L P r ob new:=
 af.of_def ho λrest A R d os hr hR n t=>(x rest A R d os hr hR n t).one
noncomputable def qZ (F:Fx) (sg:Bool) (o0 o1:List Nat) (cfg:Bool→Bool→dR) (b1 b2:Bool):d2:=aQ (F.bits b1 b2) sg 999 (match b2 with | false=>o0 | true=>o1) (cfg b1 b2)
theorem qy {k:Nat} {v:CV} {L₁:ao} (hroom:aP (k+1) A) (S:af F k v L₁ P r ob new) (o0 o1 is:List Nat) {cfg:Bool→Bool→dR}
  (hx:let f:=hC is (qZ F m.isSeg o0 o1 cfg) L₁ r ob new;∀x n t,P x→c9 F A m rest d os (f x n t))
  (hv:HV (bT is) (qZ F m.isSeg o0 o1 cfg) v L₁):c9 F A m rest d os cfg:=
 ⟨λb1 b2 hb=>by
  have q:=yk hv b1 b2
  unfold qZ at q
  rw [hb] at q
  refine ou hroom S 999 _ is q.1 q.2 λx n t p=>?_
  have y:=(hx x n t p).go b1 b2 hb
  unfold hC jJ qZ at y
  rw [hb] at y
  exact y⟩
end
end
end
section
open PyProof.Rows PySem PySem.Calls PySem.W PySem.W.X
section
noncomputable abbrev S (l:List Nat):Str:=⟨⟨l⟩⟩
section
variable {F:Fx} {X:Type} {P:X→Prop} {r:X→Dq} {ob:X→List Obj} {new:X→ao}
noncomputable abbrev yX (F:Fx) (A:Dk) (R:Dq→Df→Prop):Fin→Df→Prop:=λfin s'=>match fin with
 | .done f=>R (.ok f) s'
 | .again c'=>c'.quiet=true∧codeAny (model F.prog F.w) A c' R s'
theorem af.of_b {k:Nat} {N:Nat} {id:String} {args:Args} {b:Builtin} {L:ao} (hN:PySem.code id=N) (hb:entryFor table id=some b) (hp:plainId id=true)
  (x:∀rest A R d os,aP k A→bZ F rest d os R L P r ob new→∀h g t,d.G g→d5 F h (L++rest)→
   wpAny (model F.prog F.w) A.in1 (b args) (yX F A R) (λe s'=>R (.error e) s') ⟨h,g,d.d,t,os⟩):af F k (.b N args) L P r ob new:=
 ⟨λc ⟨id',hc,hk⟩ rest A R d os hr hR h g t hg D=>by
  have e:id'=id:=PySem.code_inj _ _ (hk.trans hN.symm)
  subst e
  rw [hc]
  exact DP hb (by rw [Dk.under_plainId hp];exact x rest A R d os hr hR h g t hg D)⟩
theorem af.of_val {k:Nat} {N:Nat} {id:String} {args:Args} {b:Builtin} {v:CX} (hN:PySem.code id=N) (hb:entryFor table id=some b) (hp:plainId id=true) (g:Gives (b args) (.val v)):
  af F k (.b N args) [] (X:=Unit) (λξ=>True) (λξ=>.ok (.ret v)) (λξ=>[]) (λξ=>[]):=
 .of_b hN hb hp λξ A R ξ ξ ξ hR h g' t hg D=>g F.prog F.w A R ⟨h,g',_,t,_⟩ (hR () h g' t trivial hg D)
theorem af.of_int {k:Nat} {N:Nat} {id:String} {args:Args} {b:Builtin} {i:Int} (hN:PySem.code id=N) (hb:entryFor table id=some b) (hp:plainId id=true) (g:Gives (b args) (.int i)):
  af F k (.b N args) [] (X:=Tok) (λξ=>True) (λt=>.ok (.ret (.int i t))) (λξ=>[]) (λξ=>[]):=
 .of_b hN hb hp λξ A R ξ ξ ξ hR h g' t hg D=>g F.prog F.w A R ⟨h,g',_,t,_⟩ (hR t h g' (t+1) trivial hg D)
theorem af.of_str {k:Nat} {N:Nat} {id:String} {args:Args} {b:Builtin} {s:Str} (hN:PySem.code id=N) (hb:entryFor table id=some b) (hp:plainId id=true) (hs:s.length≤CZ) (g:Gives (b args) (.str s)):
  af F k (.b N args) [] (X:=Tok) (λξ=>True) (λt=>.ok (.ret (.str s t))) (λξ=>[]) (λξ=>[]):=
 .of_b hN hb hp λξ A R ξ ξ ξ hR h g' t hg D=>g F.prog F.w A R ⟨h,g',_,t,_⟩ ⟨hs,hR t h g' (t+1) trivial hg D⟩
theorem af.of_strs {k:Nat} {N:Nat} {id:String} {args:Args} {b:Builtin} {s:Str} {m:Made} (hN:PySem.code id=N) (hb:entryFor table id=some b) (hp:plainId id=true) (g:Gives (b args) m)
  (hm:∀(Q:CX→Df→Prop) (s0:Df),(∀tk t',Q (.str s tk) {s0 with toks:=t'})→m.post Q s0):
  af F k (.b N args) [] (X:=Tok) (λξ=>True) (λt=>.ok (.ret (.str s t))) (λξ=>[]) (λξ=>[]):=
 .of_b hN hb hp λξ A R ξ ξ ξ hR h g' t hg D=>g F.prog F.w A R ⟨h,g',_,t,_⟩ (hm _ _ λtk t'=>hR tk h g' t' trivial hg D)
end
theorem jn (l:List Nat):(S l).length=l.length:=rfl
theorem nQ (a b:List Nat):S a++S b=S (a++b):=by
 show Str.append (S a) (S b)=S (a++b)
 unfold Str.append
 simp
theorem uR {s:Str} (h:s.length≤CZ) {Q:CX→Df→Prop} {s0:Df} (q:∀tk t',Q (.str s tk) {s0 with toks:=t'}):(Made.str s).post Q s0:=⟨h,q _ _⟩
theorem nU {s:Str} {tk:Tok} {Q:CX→Df→Prop} {s0:Df} (q:∀tk t',Q (.str s tk) {s0 with toks:=t'}):(Made.val (.str s tk)).post Q s0:=q _ s0.toks
theorem jg {F:Fx} {k:Nat} (a:Int) (t:Tok) (b:Int) (u:Tok):af F k (.b 455126529904428302298986 ⟨[.int a t,.int b u],[]⟩) [] (X:=Unit) (λξ=>True) (λξ=>.ok (.ret (.bool (decide (a > b))))) (λξ=>[]) (λξ=>[]):=
 .of_val (id:="int.__gt__") (by kernel_rfl) (Db (b:=Builtin.«int.__gt__») (by kernel_rfl)) (by decide+kernel) (gives_int_gt a b t u)
theorem d1 {F:Fx} {k:Nat} (a:Int) (t:Tok) (b:Int) (u:Tok):af F k (.b 116512060628576343961202538 ⟨[.int a t,.int b u],[]⟩) [] (X:=Tok) (λξ=>True) (λt=>.ok (.ret (.int (a - b) t))) (λξ=>[]) (λξ=>[]):=
 .of_int (id:="int.__sub__") (by kernel_rfl) (Db (b:=Builtin.«int.__sub__») (by kernel_rfl)) (by decide+kernel) (gives_int_sub a b t u)
theorem hP {F:Fx} {k:Nat} (a:Int) (t:Tok) (b:Int) (u:Tok) (hb:(b == 0)=false):af F k (.b 116512097088030077292474218 ⟨[.int a t,.int b u],[]⟩) [] (X:=Tok) (λξ=>True) (λt=>.ok (.ret (.int (Gy a b) t))) (λξ=>[]) (λξ=>[]):=
 .of_int (id:="int.__mod__") (by kernel_rfl) (Db (b:=Builtin.«int.__mod__») (by kernel_rfl)) (by decide+kernel) (PySem.AutoIntG6.int___mod___int_int_1 a t b u (by rw [hb];exact Dy))
theorem i5 {F:Fx} {k:Nat} (x:List Nat) (t:Tok) (y:List Nat) (u:Tok):af F k (.b 455126313168696234964340 ⟨[.str (S x) t,.str (S y) u],[]⟩) [] (X:=Unit) (λξ=>True) (λξ=>.ok (.ret (.bool (x == y)))) (λξ=>[]) (λξ=>[]):=
 .of_val (id:="str.__eq__") (by kernel_rfl) (Db (b:=Builtin.«str.__eq__») (by kernel_rfl)) (by decide+kernel) (gives_str_eq (S x) (S y) t u)
theorem m6 {F:Fx} {k:Nat} (x:List Nat) (t:Tok) (y:List Nat) (u:Tok):af F k (.b 455125451010842570225012 ⟨[.str (S x) t,.str (S y) u],[]⟩) [] (X:=Unit) (λξ=>True) (λξ=>.ok (.ret (.bool (x != y)))) (λξ=>[]) (λξ=>[]):=
 .of_val (id:="str.__ne__") (by kernel_rfl) (Db (b:=Builtin.«str.__ne__») (by kernel_rfl)) (by decide+kernel) (gives_str_ne (S x) (S y) t u)
theorem ie {F:Fx} {k:Nat} (x:List Nat) (t:Tok) (y:List Nat) (u:Tok):af F k (.b 128106709680535770272165659069392319860 ⟨[.str (S x) t,.str (S y) u],[]⟩) [] (X:=Unit) (λξ=>True) (λξ=>.ok (.ret (.bool !(Builtin.Str.occurrences (S x) (S y) 0 (S x).length 1).isEmpty))) (λξ=>[]) (λξ=>[]):=
 .of_val (id:="str.__contains__") (by kernel_rfl) (Db (b:=Builtin.«str.__contains__») (by kernel_rfl)) (by decide+kernel) (gives_str_contains (S x) (S y) t u)
theorem bW {F:Fx} {k:Nat} (x:List Nat) (t:Tok):af F k (.b 123784486205185586873202036 ⟨[.str (S x) t],[]⟩) [] (X:=Unit) (λξ=>True) (λξ=>.ok (.ret (.bool ((S x).length > 0 && (S x).cps.all Unicode.isSpace)))) (λξ=>[]) (λξ=>[]):=
 .of_val (id:="str.isspace") (by kernel_rfl) (Db (b:=Builtin.«str.isspace») (by kernel_rfl)) (by decide+kernel) (gives_str_isspace (S x) t)
theorem gO {F:Fx} {k:Nat} (x:List Nat) (t:Tok) (i:Int) (u:Tok) (c:Nat) (hr:(decide (i < -(2 ^ 63:Int)) || decide (i ≥ 2 ^ 63))=false) (h:(seqIndex? i (S x).length).bind ((S x).cps[·]?)=some c):af F k (.b 500416356548588640944365259017385332 ⟨[.str (S x) t,.int i u],[]⟩) [] (X:=Tok) (λξ=>True) (λt=>.ok (.ret (.str (S [c]) t))) (λξ=>[]) (λξ=>[]):=
 .of_str (id:="str.__getitem__") (by kernel_rfl) (Db (b:=Builtin.«str.__getitem__») (by kernel_rfl)) (by decide+kernel) (DG rfl) (gives_str_getitem (S x) i t u c hr h)
theorem ak {F:Fx} {k:Nat} (x:List Nat) (t:Tok) (y:List Nat) (u:Tok) (hz:x.length+y.length≤CZ):af F k (.b 116512096292018843154609524 ⟨[.str (S x) t,.str (S y) u],[]⟩) [] (X:=Tok) (λξ=>True) (λt=>.ok (.ret (.str (S (x++y)) t))) (λξ=>[]) (λξ=>[]):=
 .of_strs (id:="str.__add__") (by kernel_rfl) (Db (b:=Builtin.«str.__add__») (by kernel_rfl)) (by decide+kernel) (gives_str_add (S x) (S y) t u) λQ s0 q=>by
  split
  ·rename_i h
   have:x=[]:=Fi (by simpa [jn] using h)
   subst this
   exact nU q
  ·split
   ·rename_i h
    have:y=[]:=Fi (by simpa [jn] using h)
    subst this
    rw [Dm] at q
    exact nU q
   ·rw [nQ]
    exact uR (by simp only [jn,CY];exact hz) q
theorem eZ {F:Fx} {k:Nat} (a:C1) (cls:CX) (dd:Option C1) (sl:Array (Option CX)) (xs:List CX) (e:Nat) (v:CX) (hsz:xs.length≤CZ):
  af F k (.b 122627580202994350266018413 ⟨[.ref a,v],[]⟩) [(a,⟨cls,dd,.seq ⟨xs⟩ e,sl⟩)] (X:=Unit) (λξ=>True) (λξ=>.ok (.ret .none)) (λξ=>[⟨cls,dd,.seq ⟨xs++[v]⟩ (e+1),sl⟩]) (λξ=>[]):=by
 refine af.of_b (id:="list.append") (by kernel_rfl) (Db (b:=Builtin.«list.append») (by kernel_rfl)) (by decide+kernel) λrest A R d os hr hR h g t hg D=>?_
 have ha:h.get? a=some ⟨cls,dd,.seq ⟨xs⟩ e,sl⟩:=D.own (a,_) (C3 _ (.head _))
 have hz':((⟨xs⟩:Array CX).push v).size≤CZ+1:=by simp only [E2];show xs.length+1≤_;lia
 have D':=D.update (L:=[(a,⟨cls,dd,.seq ⟨xs⟩ e,sl⟩)]) (i:=0) (f:=Obj.mapSeq λx=>x.push v) rfl rfl
 have e2:(Obj.mapSeq (λx=>x.push v) ⟨cls,dd,.seq ⟨xs⟩ e,sl⟩)=⟨cls,dd,.seq ⟨xs++[v]⟩ (e+1),sl⟩:=by
  simp [Obj.mapSeq]
 simp only [e2] at D'
 have y:=hR () _ g t trivial hg D'
 wp_walk using (EC ha rfl (hz:=hsz) (_hz':=hz'))
 exact y
theorem Az (a b:Nat):Int.fdiv (C4 a) (C4 b)=C4 (a / b):=by
 show Int.fdiv (a:Int) (b:Int)=((a / b:Nat):Int)
 rw [Int.fdiv_eq_ediv_of_nonneg _ (EL b)];rfl
theorem AU (a b:Nat):Gy (C4 a) (C4 b)=C4 (a % b):=by
 show Gy (a:Int) (b:Int)=((a % b:Nat):Int)
 rw [Fv _ (EL b)];rfl
theorem aq {F:Fx} {k:Nat} (a:Nat) (t:Tok) (b:Nat) (u:Tok) (hb:((C4 b) == 0)=false):af F k (.b 116512097088030077292474218 ⟨[.int (.ofNat a) t,.int (.ofNat b) u],[]⟩) [] (X:=Tok) (λξ=>True) (λt=>.ok (.ret (.int (.ofNat (a % b)) t))) (λξ=>[]) (λξ=>[]):=
 .of_int (id:="int.__mod__") (by kernel_rfl) (Db (b:=Builtin.«int.__mod__») (by kernel_rfl)) (by decide+kernel) (by rw [←AU];exact PySem.AutoIntG6.int___mod___int_int_1 _ t _ u (by rw [hb];exact Dy))
theorem am {F:Fx} {k:Nat} (a:Nat) (t:Tok) (b:Nat) (u:Tok) (hb:((C4 b) == 0)=false) (hs:(C4 b).natAbs < 1073741824):af F k (.b 128106770130096871752080967664072486762 ⟨[.int (.ofNat a) t,.int (.ofNat b) u],[]⟩) [] (X:=Tok) (λξ=>True) (λt=>.ok (.ret (.int (.ofNat (a / b)) t))) (λξ=>[]) (λξ=>[]):=
 .of_int (id:="int.__floordiv__") (by kernel_rfl) (Db (b:=Builtin.«int.__floordiv__») (by kernel_rfl)) (by decide+kernel) (by rw [←Az];exact PySem.AutoIntG4.int___floordiv___int_int_1 _ t _ u (by rw [hb];exact Dy) (by rw [PyProof.noPylong_small hs];exact Dy))
theorem ba {F:Fx} {k:Nat} (a:Nat) (t:Tok) (b:Nat) (u:Tok):af F k (.b 116512096292018843154739050 ⟨[.int (.ofNat a) t,.int (.ofNat b) u],[]⟩) [] (X:=Tok) (λξ=>True) (λt=>.ok (.ret (.int (.ofNat (a+b)) t))) (λξ=>[]) (λξ=>[]):=
 .of_int (id:="int.__add__") (by kernel_rfl) (Db (b:=Builtin.«int.__add__») (by kernel_rfl)) (by decide+kernel) (gives_int_add _ _ t u)
theorem Cu (a b:Nat):decide (a > b)=decide ((C4 a) > (C4 b)):=decide_eq_decide.mpr Gb.symm
theorem Cv (a b:Nat):(a == b)=((C4 a) == (C4 b)):=by
 by_cases h:a=b
 ·subst h;simp
 ·have h':¬(C4 a=C4 b):=λe=>h (C4.inj e)
  simp only [beq_eq_false_iff_ne.mpr h,beq_eq_false_iff_ne.mpr h']
theorem ww {x:List Nat} {i c:Nat} (h:x[i]?=some c):(seqIndex? (i:Int) (S x).length).bind ((S x).cps[·]?)=some c:=by
 obtain ⟨hl,he⟩:=Dg.mp h
 have e:seqIndex? (i:Int) (S x).length=some i:=by
  unfold seqIndex?
  have h1:¬((i:Int) < 0):=by lia
  have h2:(i:Int) < ((S x).length:Int):=by simp only [jn];lia
  have h3:(0:Int)≤(i:Int):=by lia
  simp only [if_neg h1,h3,h2,decide_true,FG,if_true,Gc]
 rw [e]
 exact (by simpa using h)
theorem b8 {F:Fx} {k:Nat} (a:Nat) (t:Tok) (b:Nat) (u:Tok):af F k (.b 455126529904428302298986 ⟨[.int (.ofNat a) t,.int (.ofNat b) u],[]⟩) [] (X:=Unit) (λξ=>True) (λξ=>.ok (.ret (.bool (decide (a > b))))) (λξ=>[]) (λξ=>[]):=
 .of_val (id:="int.__gt__") (by kernel_rfl) (Db (b:=Builtin.«int.__gt__») (by kernel_rfl)) (by decide+kernel) (by rw [Cu];exact gives_int_gt _ _ t u)
theorem ax {F:Fx} {k:Nat} (a:Nat) (t:Tok) (b:Nat) (u:Tok):af F k (.b 455126313168696235093866 ⟨[.int (.ofNat a) t,.int (.ofNat b) u],[]⟩) [] (X:=Unit) (λξ=>True) (λξ=>.ok (.ret (.bool (a == b)))) (λξ=>[]) (λξ=>[]):=
 .of_val (id:="int.__eq__") (by kernel_rfl) (Db (b:=Builtin.«int.__eq__») (by kernel_rfl)) (by decide+kernel) (by rw [Cv];exact gives_int_eq _ _ t u)
theorem jK {F:Fx} {k:Nat} (x:List Nat) (t:Tok) (i:Nat) (u:Tok) (hi:i < x.length) (hx:x.length < 1000000):af F k (.b 500416356548588640944365259017385332 ⟨[.str (S x) t,.int (.ofNat i) u],[]⟩) [] (X:=Tok) (λξ=>True) (λt=>.ok (.ret (.str (S [x.getD i 0]) t))) (λξ=>[]) (λξ=>[]):=
 .of_str (id:="str.__getitem__") (by kernel_rfl) (Db (b:=Builtin.«str.__getitem__») (by kernel_rfl)) (by decide+kernel) (DG rfl) (gives_str_getitem (S x) i t u (x.getD i 0) (by simp;lia) (ww (by rw [List.getD_eq_getElem?_getD,DB hi];rfl)))
theorem dj {F:Fx} {k:Nat} (a:C1) (xs:List CX) (e:Nat) (v:CX) (hsz:xs.length≤CZ):
  af F k (.b 122627580202994350266018413 ⟨[.ref a,v],[]⟩) [(a,⟨.type "list",none,.seq ⟨xs⟩ e,#[]⟩)] (X:=Unit) (λξ=>True) (λξ=>.ok (.ret .none)) (λξ=>[⟨.type "list",none,.seq ⟨xs++[v]⟩ (e+1),#[]⟩]) (λξ=>[]):=
 eZ a (.type "list") none #[] xs e v hsz
end
noncomputable def aE (cls:String) (vs:List CX):Obj:=⟨.type cls,none,.fields ⟨vs⟩,#[]⟩
noncomputable abbrev aS (l:C1) (i:Nat):Obj:=aE "list_iterator" [.ref l,.int (.ofNat i) 0]
noncomputable abbrev eS (i:Nat):Obj:=aE "list_iterator" [.none,.int (.ofNat i) 0]
noncomputable def bx (tu:C1):Obj:=⟨.type "StopIteration",none,.fields ⟨[.ref tu,.none,.none,.none,.bool false,.none]⟩,#[]⟩
theorem lZ (p q a b:C1×Obj) (rest:ao):(q::p::([a,b]++rest)).Perm (([a,b]++[p,q])++rest):=
 ((DH (l₁:=[q,p]) (l₂:=[a,b])).append_right rest).trans (((Ey p q []).append_left [a,b]).append_right rest)
theorem cE {F:Fx} {k:Nat} (it l:C1) (i:Nat) (cls:CX) (dd:Option C1) (sl:Array (Option CX)) (xs:List CX) (e:Nat) (v:CX) (hv:xs[i]?=some v):
  af F k (.b 36058839055461744822429329989390181918337346850548333 ⟨[.ref it],[]⟩) [(it,aS l i),(l,⟨cls,dd,.seq ⟨xs⟩ e,sl⟩)] (X:=Unit) (λξ=>True) (λξ=>.ok (.ret v))
   (λξ=>[aS l (i+1),⟨cls,dd,.seq ⟨xs⟩ e,sl⟩]) (λξ=>[]):=by
 refine af.of_b (id:="list_iterator.__next__") (by kernel_rfl) (Db (b:=Builtin.«list_iterator.__next__») (by kernel_rfl)) (by decide+kernel) λrest A R d os hr hR h g t hg D=>?_
 have ha:h.get? it=some (aS l i):=D.own (it,_) (C3 _ (.head _))
 have hl:h.get? l=some ⟨cls,dd,.seq ⟨xs⟩ e,sl⟩:=D.own (l,_) (C3 _ (.tail _ (.head _)))
 have D':=D.update (L:=[(it,aS l i),(l,⟨cls,dd,.seq ⟨xs⟩ e,sl⟩)]) (i:=0) (f:=Obj.mapFields (·.setIfInBounds 1 (rawInt (C4 i+1)))) rfl rfl
 have y:=hR () _ g t trivial hg D'
 have hx:(⟨xs⟩:Array CX)[(C4 i).toNat]?=some v:=by simpa using hv
 wp_walk
 refine hx▸?_
 dsimp only
 wp_walk
 exact y
theorem bQ {F:Fx} {k:Nat} (it l:C1) (i:Nat) (cls:CX) (dd:Option C1) (sl:Array (Option CX)) (xs:List CX) (e:Nat) (hv:xs.length≤i):
  af F k (.b 36058839055461744822429329989390181918337346850548333 ⟨[.ref it],[]⟩) [(it,aS l i),(l,⟨cls,dd,.seq ⟨xs⟩ e,sl⟩)] (X:=C1×C1) (λξ=>True) (λx=>.error (.ref x.2))
   (λξ=>[eS i,⟨cls,dd,.seq ⟨xs⟩ e,sl⟩]) (λx=>[(x.1,⟨.type "tuple",none,.seq ⟨[]⟩ 0,#[]⟩),(x.2,bx x.1)]):=by
 refine af.of_b (id:="list_iterator.__next__") (by kernel_rfl) (Db (b:=Builtin.«list_iterator.__next__») (by kernel_rfl)) (by decide+kernel) λrest A R d os hr hR h g t hg D=>?_
 have hx:(⟨xs⟩:Array CX)[(C4 i).toNat]?=none:=by simpa using hv
 have ha:h.get? it=some (aS l i):=D.own (it,_) (C3 _ (.head _))
 have hl:h.get? l=some ⟨cls,dd,.seq ⟨xs⟩ e,sl⟩:=D.own (l,_) (C3 _ (.tail _ (.head _)))
 have D':=D.update (L:=[(it,aS l i),(l,⟨cls,dd,.seq ⟨xs⟩ e,sl⟩)]) (i:=0) (f:=Obj.mapFields (·.setIfInBounds 0 CX.none)) rfl rfl
 have hh:=hr.handled.none
 wp_walk
 refine hx▸?_
 dsimp only
 wp_walk
 have D1:=D'.alloc (o:={cls:=.type "tuple",data:=.seq #[]}) rfl
 have D2:=D1.alloc (o:=bx (h.update it (Obj.mapFields λx=>x.setIfInBounds 0 CX.none)).objs.size) rfl
 have key:∀o,o=bx (h.update it (Obj.mapFields λx=>x.setIfInBounds 0 CX.none)).objs.size→R (.error (.ref ((h.update it (Obj.mapFields λx=>x.setIfInBounds 0 CX.none)).push {cls:=.type "tuple",data:=.seq #[]}).objs.size))
   ⟨((h.update it (Obj.mapFields λx=>x.setIfInBounds 0 CX.none)).push {cls:=.type "tuple",data:=.seq #[]}).push o,g,d.d,t,os⟩:=by
  intro o ho
  subst ho
  exact hR ((h.update it (Obj.mapFields λx=>x.setIfInBounds 0 CX.none)).objs.size,((h.update it (Obj.mapFields λx=>x.setIfInBounds 0 CX.none)).push {cls:=.type "tuple",data:=.seq #[]}).objs.size) _ g t trivial hg (D2.perm (lZ _ _ _ _ _))
 have hh':A.in1.handled=none:=hr.handled.none
 refine C0 (Fh ?_)
 rw [hh']
 exact FC (key _ (by kernel_rfl))
theorem bb {F:Fx} {k:Nat} (it l:C1) (i:Nat) (xs:List CX) (e:Nat) (v:CX) (hv:xs[i]?=some v):
  af F k (.b 36058839055461744822429329989390181918337346850548333 ⟨[.ref it],[]⟩) [(it,aS l i),(l,⟨.type "list",none,.seq ⟨xs⟩ e,#[]⟩)] (X:=Unit) (λξ=>True) (λξ=>.ok (.ret v))
   (λξ=>[aS l (i+1),⟨.type "list",none,.seq ⟨xs⟩ e,#[]⟩]) (λξ=>[]):=
 cE it l i (.type "list") none #[] xs e v hv
theorem iX {F:Fx} {k:Nat} (it l:C1) (i:Nat) (xs:List CX) (e:Nat) (hv:xs.length≤i):
  af F k (.b 36058839055461744822429329989390181918337346850548333 ⟨[.ref it],[]⟩) [(it,aS l i),(l,⟨.type "list",none,.seq ⟨xs⟩ e,#[]⟩)] (X:=C1×C1) (λξ=>True) (λx=>.error (.ref x.2))
   (λξ=>[eS i,⟨.type "list",none,.seq ⟨xs⟩ e,#[]⟩]) (λx=>[(x.1,⟨.type "tuple",none,.seq ⟨[]⟩ 0,#[]⟩),(x.2,bx x.1)]):=
 bQ it l i (.type "list") none #[] xs e hv
end
section
open PyProof.Rows PySem PySem.Calls PySem.Spec PySem.W PySem.W.X
section
noncomputable def dg (γ:Nat) (S:GenState→Prop) (d:Dr):Dr:=
 ⟨d.d,λg=>(∃st,g[γ]?=some st∧S st)∧d.G (g.setIfInBounds γ .finished),λg ⟨⟨st,h1,h2⟩,h3⟩=>by
  have hlt:γ < g.size:=by
   rcases FP γ g.size with h | h
   ·exact h
   ·rw [E9 h] at h1;cases h1
  refine ⟨⟨st,?_,h2⟩,?_⟩
  ·rw [Array.getElem?_push_lt hlt,←h1,Array.getElem?_eq_getElem hlt]
  ·have e:(g.push GenState.finished).setIfInBounds γ .finished=(g.setIfInBounds γ .finished).push .finished:=by
    apply Er
    intro i
    rw [DQ,E0,E0,DQ,E2,E1]
    by_cases hi:γ=i
    ·subst hi
     have h1:γ < g.size+1:=by omega
     have h2:¬γ=g.size:=by omega
     simp [hlt,h1,h2]
    ·simp [hi]
   rw [e];exact d.ok _ h3⟩
noncomputable def mu (F:Fx) (c₀ c₁:Code) (k:Resume→Sem Fin):Prop:=
 ∀A s P,SegX (model F.prog F.w) A c₀ (denote table c₀) [] s P→SegX (model F.prog F.w) A c₁ (k (.send .none)) [] s P
theorem pL {F:Fx} {c₀ c₁:Code} {k:Resume→Sem Fin} {j:Nat} (h:skim ⟨F.prog,F.w.params⟩ j (k (.send .none))=.pure (.again c₀)) (hq:c₀.quiet=true):mu F c₀ c₁ k:=λA s P x=>
 s_skim _ _ _ _ _ _ s _ j (by rw [h];exact s_again _ _ _ _ _ _ s c₀ hq x)
noncomputable def aH (F:Fx) (c₀:Code) (st:GenState):Prop:=st=.fresh c₀∨∃k l c₁ p b,st=.suspended k l c₁ p [] b∧mu F c₀ c₁ k
noncomputable def oA (F:Fx) (rest:ao) (d:Dr) (os:Ea) (Pst:End→Df→Prop) (cl:Code) (L:ao) {X:Type} (P:X→Prop) (v:X→CX) (ob:X→List Obj) (new:X→ao):Prop:=
 ∀x h g t k l p c₁,P x→d.G g→d5 F h ((bp L (ob x)++new x)++rest)→mu F cl c₁ k→Pst (.susp (v x) false l k c₁ p []) ⟨h,g,d.d,t,os⟩
structure bR (F:Fx) (k:Nat) (c₀ cl:Code) (L M:ao) {X:Type} (P:X→Prop) (v:X→CX) (ob:X→List Obj) (new:X→ao):Prop where
 go:∀(rest:ao) (A:Dk) (Pst:End→Df→Prop) (d:Dr) (os:Ea),aP k A→oA F (M++rest) d os Pst cl L P v ob new→
  ∀h g t,d.G g→d5 F h (L++(M++rest))→SegX (model F.prog F.w) A c₀ (denote table c₀) [] ⟨h,g,d.d,t,os⟩ Pst
structure cP (F:Fx) (k:Nat) (c₀:Code) (L M:ao) {X:Type} (P:X→Prop) (ob:X→List Obj) (new:X→ao):Prop where
 go:∀(rest:ao) (A:Dk) (Pst:End→Df→Prop) (d:Dr) (os:Ea),aP k A→bZ F (M++rest) d os (λr s=>Pst (.ret r) s) L P (λξ=>.ok .next) ob new→
  ∀h g t,d.G g→d5 F h (L++(M++rest))→SegX (model F.prog F.w) A c₀ (denote table c₀) [] ⟨h,g,d.d,t,os⟩ Pst
section
variable {F:Fx} {X:Type} {P:X→Prop} {r:X→Dq} {v:X→CX} {ob:X→List Obj} {new:X→ao}
theorem bR.of_code {k:Nat} {c₀ cl:Code} {L M:ao} (x:∀rest A Pst d os,aP k A→oA F (M++rest) d os Pst cl L P v ob new→∀n t,Go F A (.seg Pst) (M++rest) d os (.go c₀ .base (jx c₀) L n t)):bR F k c₀ cl L M P v ob new:=
 ⟨λrest A Pst d os hr hR h g t hg D=>by rw [dr];exact (x rest A Pst d os hr hR _ t).go h g hg D rfl⟩
theorem cP.of_code {k:Nat} {c₀:Code} {L M:ao} (x:∀rest A Pst d os,aP k A→bZ F (M++rest) d os (dP.fin (.seg Pst)) L P (λξ=>.ok .next) ob new→∀n t,Go F A (.seg Pst) (M++rest) d os (.go c₀ .base (jx c₀) L n t)):cP F k c₀ L M P ob new:=
 ⟨λrest A Pst d os hr hR h g t hg D=>by rw [dr];exact (x rest A Pst d os hr hR _ t).go h g hg D rfl⟩
end
noncomputable def mR (is:List Nat) (o:d2):Option (CX×ao):=match o.core with
 | .yld _ v _ L _ _=>match nM is L with
  | some (a,_)=>some (v,a)
  | none=>none
 | _=>none
noncomputable def mx (j:Nat) (st:Setting) (o:d2):Option Code:=match o.core with
 | .yld _ _ k _ _ _=>match skim st j (k (.send .none)) with
  | .pure (.again c)=>some c
  | _=>none
 | _=>none
noncomputable def gx (i:Nat) (o:d2):Option (Code×(C1×Obj)):=match o.core with
 | .gen _ c' _ _ L _ _=>match gE i L with
  | some (p,_)=>some (c',p)
  | none=>none
 | _=>none
noncomputable def eK (i:Nat) (γ:Nat) (o:d2):dR:=match o.core with
 | .gen c _ κ k L n t=>match gE i L with
  | some (_,L')=>.go c κ (k γ) L' n t
  | none=>.bad
 | _=>.bad
noncomputable def fi (p:C1×Obj):dR→dR
 | .go c κ t L n tk=>.go c κ t (L++[p]) n tk
 | .fin ..=>.bad
 | .bad=>.bad
noncomputable def uB (F:Fx) (T:C1×Nat×Nat):Bool:=F.tabs.any λp=>E7 p.1 T.1 && (E7 p.2.1 T.2.1 && E7 p.2.2 T.2.2)
theorem sr {F:Fx} {T:C1×Nat×Nat} (h:uB F T=true):T∈F.tabs:=by
 obtain ⟨p,hp,e⟩:=Fe.mp h
 simp only [Dt,Dt] at e
 have e1:=DR e.1
 have e2:=DR e.2.1
 have e3:=DR e.2.2
 have:p=T:=Prod.ext e1 (Prod.ext e2 e3)
 exact this ▸ hp
section
variable {F:Fx} {A:Dk} {m:dP} {rest:ao} {d:Dr} {os:Ea} {X:Type} {P:X→Prop} {v:X→CX} {ob:X→List Obj} {new:X→ao}
set_option tactic.hygienic true in
theorem oW {Pst:End→Df→Prop} {cl:Code} {L:ao} (hA:rb A) (hR:oA F rest d os Pst cl L P v ob new) (x:X) (hp:P x) (fuel:Nat) (orc is:List Nat) (j:Nat) {cfg:dR}
  (hv:mR is (aQ F true fuel orc cfg)=some (v x,bp L (ob x)++new x)) (hc:mx j ⟨F.prog,F.w.params⟩ (aQ F true fuel orc cfg)=some cl) (hq:cl.quiet=true)
  (he:(aQ F true fuel orc cfg).eqs=i7 (aQ F true fuel orc cfg).eqs):Go F A (.seg Pst) rest d os cfg:=by
 refine cL hA fuel orc he λg hg=>?_
 show dW F A (.seg Pst) [] rest g d.d os (aQ F true fuel orc cfg).core
 unfold mR at hv
 unfold mx at hc
 split at hv
 ·rename_i c v0 k L0 n t e
  rw [e]
  rw [e] at hc
  dsimp only at hc
  split at hv
  ·rename_i a b e2
   simp only [Option.some.injEq,Prod.mk.injEq] at hv
   obtain ⟨rfl,rfl⟩:=hv
   split at hc
   ·rename_i c2 e3
    cases hc
    intro h D hn l p
    have pm:=cH e2
    have D':d5 F h (b++((bp L (ob x)++new x)++rest)):=D.perm (by
     refine (pm.append_right rest).trans ?_
     rw [C6]
     exact (Do _ _ _))
    exact hR x h g t k l p c hp hg D'.drop (pL e3 hq)
   ·cases hc
  ·cases hv
 ·cases hv
set_option tactic.hygienic true in
theorem vJ (hA:rb A) (T:C1×Nat×Nat) (hT:uB F T=true) {c:Code} {κ:bP} {tr:Sem Fin} {L:ao} {n tk:Nat} (cc1:C1) (fuel1:Nat) (orc1:List Nat) (i1:Nat) {c1:Fx→Code}
  (hv1:gx i1 (aQ F m.isSeg fuel1 orc1 (fi (T.1,tableObj #[]) (.go c κ tr L n tk)))=some (c1 F,T.1,cq T cc1))
  (he1:(aQ F m.isSeg fuel1 orc1 (fi (T.1,tableObj #[]) (.go c κ tr L n tk))).eqs=i7 (aQ F m.isSeg fuel1 orc1 (fi (T.1,tableObj #[]) (.go c κ tr L n tk))).eqs)
  (fuel2:Nat) (orc2:List Nat) (i2:Nat) {c2:Fx→C1→Code}
  (h2:∀cc,gx i2 (aQ F m.isSeg fuel2 orc2 (fi (T.1,cq T cc) (.go c κ tr L n tk)))=some (c2 F cc,T.1,cq T cc)∧
   (aQ F m.isSeg fuel2 orc2 (fi (T.1,cq T cc) (.go c κ tr L n tk))).eqs=i7 (aQ F m.isSeg fuel2 orc2 (fi (T.1,cq T cc) (.go c κ tr L n tk))).eqs)
  (hx1:∀γ,Go F A m rest (dg γ (aH F (c1 F)) d) os (eK i1 γ (aQ F m.isSeg fuel1 orc1 (fi (T.1,tableObj #[]) (.go c κ tr L n tk)))))
  (hx2:∀cc γ,Go F A m rest (dg γ (aH F (c2 F cc)) d) os (eK i2 γ (aQ F m.isSeg fuel2 orc2 (fi (T.1,cq T cc) (.go c κ tr L n tk))))):Go F A m rest d os (.go c κ tr L n tk):=by
 have hT:=sr hT
 have key:∀(o:Obj) (fuel:Nat) (orc:List Nat) (i:Nat) (c3:Code) (cc:C1),gx i (aQ F m.isSeg fuel orc (fi (T.1,o) (.go c κ tr L n tk)))=some (c3,T.1,cq T cc)→
   (aQ F m.isSeg fuel orc (fi (T.1,o) (.go c κ tr L n tk))).eqs=i7 (aQ F m.isSeg fuel orc (fi (T.1,o) (.go c κ tr L n tk))).eqs→
   (∀γ,Go F A m rest (dg γ (aH F c3) d) os (eK i γ (aQ F m.isSeg fuel orc (fi (T.1,o) (.go c κ tr L n tk)))))→
   ∀h g,d.G g→bq F [T.1] h ((L++[(T.1,o)])++rest)→h.objs.size=n→bI F A m c κ tr ⟨h,g,d.d,tk,os⟩:=by
  intro o fuel orc i c3 cc hv he hx h g hg D hn
  refine iG hA fuel orc c κ tr (L++[(T.1,o)]) n tk h (j4 _ he ?_) D hn
  show dW F A m [T.1] rest g d.d os (aQ F m.isSeg fuel orc (fi (T.1,o) (.go c κ tr L n tk))).core
  unfold gx at hv
  unfold eK at hx
  split at hv
  ·rename_i c0 c' κ0 k L0 n0 t0 e
   simp only [e]
   simp only [e] at hx
   split at hv
   ·rename_i p L' e2
    simp only [Option.some.injEq,Prod.mk.injEq] at hv
    obtain ⟨rfl,rfl⟩:=hv
    intro h' D' hn'
    have D2:bq F [T.1] h' ((T.1,cq T cc)::(L'++rest)):=D'.perm ((fy e2).append_right rest)
    have y:=(hx g.size).go
    simp only [e2] at y
    refine y h' (g.push (.fresh c')) ⟨⟨_,Array.getElem?_push_size,.inl rfl⟩,?_⟩ (D2.stow hT) hn'
    have e3:(g.push (GenState.fresh c')).setIfInBounds g.size .finished=g.push .finished:=by
     apply Er
     intro j
     simp only [DQ,E0,E0,E2]
     by_cases hj:g.size=j
     ·subst hj;simp
     ·simp [hj,Ne.symm hj]
    simp only [e3];exact d.ok g hg
   ·cases hv
  ·cases hv
 refine ⟨λh g hg D hn=>?_⟩
 obtain ⟨o,ho,D'⟩:=D.fetch hT
 rcases ho with rfl | ⟨cc,rfl⟩
 ·exact key _ fuel1 orc1 i1 (c1 F) cc1 hv1 he1 hx1 h g hg D' hn
 ·exact key _ fuel2 orc2 i2 (c2 F cc) cc (h2 cc).1 (h2 cc).2 (hx2 cc) h g hg D' hn
end
section
variable {F:Fx} {A:Dk} {m:dP} {rest:ao} {d:Dr} {os:Ea} {X:Type} {P:X→Prop} {r:X→Dq} {v:X→CX} {ob:X→List Obj} {new:X→ao}
theorem bR.of_codeB {k:Nat} {c₀ cl:Code} {L M:ao} (x:∀rest A Pst d os,aP k A→oA F (M++rest) d os Pst cl L P v ob new→∀n t,c9 F A (.seg Pst) (M++rest) d os λξ ξ=>.go c₀ .base (jx c₀) L n t):bR F k c₀ cl L M P v ob new:=
 bR.of_code λrest A Pst d os hr hR n t=>(x rest A Pst d os hr hR n t).one
theorem cP.of_codeB {k:Nat} {c₀:Code} {L M:ao} (x:∀rest A Pst d os,aP k A→bZ F (M++rest) d os (dP.fin (.seg Pst)) L P (λξ=>.ok .next) ob new→∀n t,c9 F A (.seg Pst) (M++rest) d os λξ ξ=>.go c₀ .base (jx c₀) L n t):cP F k c₀ L M P ob new:=
 cP.of_code λrest A Pst d os hr hR n t=>(x rest A Pst d os hr hR n t).one
theorem mT {Pst:End→Df→Prop} {cl:Code} {L:ao} {kr:Nat} (hroom:aP kr A) (hR:oA F rest d os Pst cl L P v ob new) (x:X) (orc is:List Nat) (j:Nat) {cfg:Bool→Bool→dR} (hq:cl.quiet=true)
  (hv:tB (λo=>(mR is o,mx j ⟨F.prog,F.w.params⟩ o)) (bC F true orc cfg)=tC (some (v x,bp L (ob x)++new x),some cl) (bC F true orc cfg)) (hp:P x):c9 F A (.seg Pst) rest d os cfg:=
 ⟨λb1 b2 hb=>oW hroom.handled hR x hp 999 orc is j (congrArg Prod.fst (a9 hv b1 b2 hb).1) (congrArg Prod.snd (a9 hv b1 b2 hb).1) hq (a9 hv b1 b2 hb).2⟩
end
section
variable {F:Fx} {A:Dk} {m:dP} {rest:ao} {d:Dr} {os:Ea}
noncomputable def wJ (i γ:Nat) (o:Bool→Bool→d2) (b1 b2:Bool):dR:=eK i γ (o b1 b2)
theorem rC {i γ:Nat} {sg:Bool} {orc:List Nat} {cfg:Bool→Bool→dR} {d':Dr} (x:c9 F A m rest d' os (wJ i γ (bC F sg orc cfg))) (b1 b2:Bool) (hb:F.bits b1 b2=F):Go F A m rest d' os (eK i γ (aQ F sg 999 orc (cfg b1 b2))):=by
 have y:=x.go b1 b2 hb
 unfold wJ bC at y
 rw [hb] at y
 exact y
theorem Bi (hA:rb A) (T:C1×Nat×Nat) (hT:uB F T=true) {c:Code} {κ:bP} {tr:Sem Fin} {L:ao} {n tk:Nat} (cc1:C1) (orc1:List Nat) (i1:Nat) (c1:Fx→Code) (orc2:List Nat) (i2:Nat) (c2:Fx→C1→Code)
  (hx1:∀γ,let x:=wJ i1 γ (bC F m.isSeg orc1 λξ ξ=>fi (T.1,tableObj #[]) (.go c κ tr L n tk));c9 F A m rest (dg γ (aH F (c1 F)) d) os x)
  (hx2:∀cc γ,let x:=wJ i2 γ (bC F m.isSeg orc2 λξ ξ=>fi (T.1,cq T cc) (.go c κ tr L n tk));c9 F A m rest (dg γ (aH F (c2 F cc)) d) os x)
  (hv1:tB (gx i1) (bC F m.isSeg orc1 λξ ξ=>fi (T.1,tableObj #[]) (.go c κ tr L n tk))=tC (some (c1 F,T.1,cq T cc1)) (bC F m.isSeg orc1 λξ ξ=>fi (T.1,tableObj #[]) (.go c κ tr L n tk)))
  (hv2:∀cc,tB (gx i2) (bC F m.isSeg orc2 λξ ξ=>fi (T.1,cq T cc) (.go c κ tr L n tk))=tC (some (c2 F cc,T.1,cq T cc)) (bC F m.isSeg orc2 λξ ξ=>fi (T.1,cq T cc) (.go c κ tr L n tk))):c9 F A m rest d os λξ ξ=>.go c κ tr L n tk:=
 ⟨λb1 b2 hb=>vJ hA T hT cc1 999 orc1 i1 (c1:=c1) (a9 hv1 b1 b2 hb).1 (a9 hv1 b1 b2 hb).2 999 orc2 i2 (c2:=c2) (λcc=>⟨(a9 (hv2 cc) b1 b2 hb).1,(a9 (hv2 cc) b1 b2 hb).2⟩)
  (λγ=>rC (hx1 γ) b1 b2 hb) λcc γ=>rC (hx2 cc γ) b1 b2 hb⟩
end
end
section
section
variable {F:Fx} {X:Type} {P:X→Prop} {r:X→Dq} {ob:X→List Obj} {new:X→ao}
theorem ae.of_b {D1 D2:Dr→Dr} {k:Nat} {N:Nat} {id:String} {args:Args} {b:Builtin} {L M:ao} (hN:PySem.code id=N) (hb:entryFor table id=some b) (hp:plainId id=true)
  (x:∀rest A R d os,aP k A→bZ F (M++rest) (D2 d) os R L P r ob new→∀h g t,(D1 d).G g→d5 F h (L++(M++rest))→
   wpAny (model F.prog F.w) A.in1 (b args) (yX F A R) (λe s'=>R (.error e) s') ⟨h,g,(D1 d).d,t,os⟩):ae F k (.b N args) L M P r ob new D1 D2:=
 ⟨λc ⟨id',hc,hk⟩ rest A R d os hr hR h g t hg D=>by
  have e:id'=id:=PySem.code_inj _ _ (hk.trans hN.symm)
  subst e
  rw [hc]
  exact DP hb (by rw [Dk.under_plainId hp];exact x rest A R d os hr hR h g t hg D)⟩
end
theorem aP.in1 {k:Nat} {A:Dk} (r:aP (k+1) A):aP k A.in1:=by
 refine ⟨⟨r.handled.none,?_,r.handled.depth⟩,?_,?_⟩
 ·have:=r.units;show A.units+1 < 9700;lia
 ·have:=r.depth;show A.depth+20 * k < 900;lia
 ·have:=r.units;show A.units+1+100 * k < 9700;lia
noncomputable def aN (γ:Nat) (nm qn:CX):Obj:=aE "generator" [.int (.ofNat γ) 0,nm,qn]
theorem gM {α:Type} {prog:Program} {w:Ek} {A:Dk} {E:CX→Df→Prop} {s:Df} {γ:Nat} {gs:GenState} {l:List CX} {k:GenResult→Sem α} {Q:α→Df→Prop} {F:Fx} (hF:F.prog=prog) (hw:F.w=w) {c₀:Code} (hg:s.gens[γ]?=some gs) (hgs:aH F c₀ gs)
  (x:SegX (model prog w) A c₀ (denote table c₀) [] (s.setGen γ .running) (λe s₁=>wpAny (model prog w) A (k e.result) Q E (s₁.setGen γ e.genState))):
  wpAny (model prog w) A (.resume γ (.send .none) l k) Q E s:=by
 subst hF hw
 rcases hgs with rfl | ⟨k₀,l₀,c₁,p₀,b,rfl,hr⟩
 ·exact λΓ p hΓ=>wake_any α _ _ hg (.inl ⟨rfl,rfl,rfl,rfl⟩) (λΓ=>Γ.In A) (λξ h=>h) x Γ p hΓ
 ·exact λΓ p hΓ=>wake_any α _ _ hg (.inr ⟨k₀,l₀,p₀,b,rfl,rfl⟩) (λΓ=>Γ.In A) (λξ h=>h) (hr A _ _ x) Γ p hΓ
theorem mj (g:Array GenState) (γ:Nat) (a b:GenState):(g.setIfInBounds γ a).setIfInBounds γ b=g.setIfInBounds γ b:=by
 apply Er
 intro i
 simp only [DQ,DQ,DQ,E1]
 by_cases h:γ=i <;> simp [h]
theorem iJ {g:Array GenState} {γ:Nat} {st:GenState} (h:g[γ]?=some st):γ < g.size:=by
 rcases FP γ g.size with h' | h'
 ·exact h'
 ·have h:=(E9 h')▸h;cases h
theorem mB (g:Array GenState) (γ:Nat) (a:GenState) (h:γ < g.size):(g.setIfInBounds γ a)[γ]?=some a:=by
 rw [DQ];simp [h]
theorem dF {F:Fx} {k:Nat} {X:Type} {P:X→Prop} {v:X→CX} {ob:X→List Obj} {new:X→ao} {c₀ cl:Code} {L M:ao} (ga:C1) (γ:Nat) (nm qn:CX) (T:bR F k c₀ cl L M P v ob new):
  ae F (k+1) (.b 8395602706694450420893107072773897535317608 ⟨[.ref ga],[]⟩) ((ga,aN γ nm qn)::L) M P (λx=>.ok (.ret (v x))) (λx=>aN γ nm qn::ob x) new (dg γ (aH F c₀)) (dg γ (aH F cl)):=by
 refine ae.of_b (id:="generator.__next__") (by kernel_rfl) (Db (b:=Builtin.«generator.__next__») (by kernel_rfl)) (by decide+kernel) λrest A R d os hr hR h g t hg D=>?_
 obtain ⟨⟨gs,hgs,hrd⟩,hG⟩:=hg
 have hga:h.get? ga=some (aN γ nm qn):=D.own (ga,_) (C3 _ (.head _))
 have hrd':=hrd
 have hig:h.IsGen ga γ:=⟨_,nm,qn,hga,rfl,rfl,rfl⟩
 have hlt:=iJ hgs
 show wpAny _ _ (Builtin.Generator.genWake (.ref ga) (.send .none)) _ _ _
 unfold Builtin.Generator.genWake
 refine C0 (Ej (Gs hig (C0 (Gz hgs ?_))))
 rcases hrd with rfl | ⟨k₀,l₀,c₁,p₀,b,rfl,hr0⟩
 all_goals
  refine C0 (Gl D.lim ?_ ?_)
  ·have:=hr.depth;show A.depth < 1000;lia
  refine gM rfl rfl hgs hrd' ?_
  have D2:d5 F h (L++(M++((ga,aN γ nm qn)::rest))):=D.perm (by
   exact (Dn (a:=(ga,aN γ nm qn)) (l₁:=L) (l₂:=M++rest)).symm.trans (C7 _ Dn.symm))
  refine T.go ((ga,aN γ nm qn)::rest) A.in1 _ (dg γ (λst=>st=.running) d) os hr.in1 ?_ h (g.setIfInBounds γ .running) t ⟨⟨_,mB g γ _ hlt,rfl⟩,by simp only [mj];exact hG⟩ D2
  intro x h' g' t' k' l' p' c₁ hp ⟨⟨st,hst,_⟩,hG'⟩ D3 hres
  have D4:d5 F h' ((aN γ nm qn::ob x |> bp ((ga,aN γ nm qn)::L))++new x++(M++rest)):=D3.perm (by
   exact (C7 _ Dn).trans Dn)
  refine Dc ?_
  exact hR x h' (g'.setIfInBounds γ _) t' hp ⟨⟨_,mB g' γ _ (iJ hst),.inr ⟨k',l',c₁,p',_,rfl,hres⟩⟩,by simp only [mj];exact hG'⟩ D4
theorem d0 {F:Fx} {k:Nat} {X:Type} {P:X→Prop} {ob:X→List Obj} {new:X→ao} {c₀:Code} {L M:ao} (ga:C1) (γ:Nat) (nm qn:CX) (T:cP F k c₀ L M P ob new):
  ae F (k+1) (.b 8395602706694450420893107072773897535317608 ⟨[.ref ga],[]⟩) ((ga,aN γ nm qn)::L) M (X:=X×C1×C1) (λx=>P x.1) (λx=>.error (.ref x.2.2)) (λx=>aN γ nm qn::ob x.1) (λx=>new x.1++[(x.2.1,⟨.type "tuple",none,.seq ⟨[]⟩ 0,#[]⟩),(x.2.2,bx x.2.1)]) (dg γ (aH F c₀)) (λd=>d):=by
 refine ae.of_b (id:="generator.__next__") (by kernel_rfl) (Db (b:=Builtin.«generator.__next__») (by kernel_rfl)) (by decide+kernel) λrest A R d os hr hR h g t hg D=>?_
 obtain ⟨⟨gs,hgs,hrd⟩,hG⟩:=hg
 have hh:A.in1.handled=none:=hr.handled.none
 have hga:h.get? ga=some (aN γ nm qn):=D.own (ga,_) (C3 _ (.head _))
 have hig:h.IsGen ga γ:=⟨_,nm,qn,hga,rfl,rfl,rfl⟩
 have hlt:=iJ hgs
 show wpAny _ _ (Builtin.Generator.genWake (.ref ga) (.send .none)) _ _ _
 refine C0 (Ej (Gs hig (C0 (Gz hgs ?_))))
 have hrd':=hrd
 rcases hrd with rfl | ⟨k₀,l₀,c₁,p₀,b,rfl,hr0⟩
 all_goals
  refine C0 (Gl D.lim ?_ ?_)
  ·have:=hr.depth;show A.depth < 1000;lia
  refine gM rfl rfl hgs hrd' ?_
  have D2:d5 F h (L++(M++((ga,aN γ nm qn)::rest))):=D.perm (by
   exact (Dn (a:=(ga,aN γ nm qn)) (l₁:=L) (l₂:=M++rest)).symm.trans (C7 _ Dn.symm))
  refine T.go ((ga,aN γ nm qn)::rest) A.in1 _ (dg γ (λst=>st=.running) d) os hr.in1 ?_ h (g.setIfInBounds γ .running) t ⟨⟨_,mB g γ _ hlt,rfl⟩,by rw [mj];exact hG⟩ D2
  intro x h' g' t' hp ⟨⟨st,hst,_⟩,hG'⟩ D3
  have D4:=D3.alloc (o:={cls:=.type "tuple",data:=.seq #[]}) rfl
  have D5:=D4.alloc (o:=bx h'.objs.size) rfl
  have key:∀o,o=bx h'.objs.size→R (.error (.ref (h'.push {cls:=.type "tuple",data:=.seq #[]}).objs.size)) ⟨(h'.push {cls:=.type "tuple",data:=.seq #[]}).push o,g'.setIfInBounds γ .finished,d.d,t',os⟩:=by
   rintro o rfl
   refine hR (x,h'.objs.size,_) _ _ t' hp hG' (D5.perm ?_)
   refine ((((C7 _ Dn).trans (Dn (a:=(ga,aN γ nm qn)) (l₁:=bp L (ob x)++new x) (l₂:=M++rest))).cons _).cons _).trans ?_
   refine (DH (l₁:=[_,_]) (l₂:=(ga,aN γ nm qn)::(bp L (ob x)++new x))).append_right (M++rest) |>.trans ?_
   simp only [Ff,C6]
   refine Ee _ (C7 _ (C7 _ ?_))
   exact Ey _ _ _
  show wpAny _ _ (newExc (.type "StopIteration") [] >>= _) _ _ _
  refine C0 ?_
  simp only [newExc,newTuple]
  refine C0 (DU ?_ (by size_fits))
  refine C0 (m:=firstArgMember _ _) (Es (a:=CX.none) (by first | rfl | (simp only [firstArgMember];rfl)) ?_)
  refine DU ?_ (by size_fits)
  rw [raiseNew]
  refine C0 (C0 (Fh ?_))
  refine hh▸?_
  exact FC (key _ (by kernel_rfl))
end
section
theorem gi:∀(L E:ao) (os:List Obj),os.length=L.length→bp (L++E) (os++E.map (·.2))=bp L os++E
 | [],E,[],_=>by
  show bp E (E.map (·.2))=E
  induction E with
  | nil=>rfl
  | cons p E ih=>show (p.1,p.2)::bp E (E.map (·.2))=_;rw [ih]
 | p::L,E,o::os,h=>by
  show (p.1,o)::bp (L++E) (os++E.map (·.2))=(p.1,o)::(bp L os++E)
  rw [gi L E os (by simpa using h)]
 | [],_,_::_,h=>by cases h
 | _::_,_,[],h=>by cases h
section
variable {F:Fx} {X:Type} {P:X→Prop} {r:X→Dq} {v:X→CX} {ob:X→List Obj} {new:X→ao} {k:Nat} {L E M M' M2:ao}
theorem hQ (A B C D:ao):((A++E)++B++(C++D)).Perm (A++B++((E++C)++D)):=by
 simp only [C6]
 refine C7 _ ?_
 exact Do _ _ _
theorem ae.lay {vw:CV} {D1 D2:Dr→Dr} (S:ae F k vw (L++E) M P r (λx=>ob x++E.map (·.2)) new D1 D2) (hl:∀x,(ob x).length=L.length):ae F k vw L (E++M) P r ob new D1 D2:=
 ⟨λc hc rest A R d os hr hR h g t hg D=>S.go c hc rest A R d os hr (λx h' g' t' hp hg' D'=>by
  rw [gi L E _ (hl x)] at D'
  exact hR x h' g' t' hp hg' (D'.perm (hQ _ _ _ _))) h g t hg (D.perm (by
   have:=(hQ (E:=E) L [] M rest).symm
   simp only [Dm] at this
   exact this))⟩
theorem bR.lay {c₀ cl:Code} (S:bR F k c₀ cl (L++E) M P v (λx=>ob x++E.map (·.2)) new) (hl:∀x,(ob x).length=L.length):bR F k c₀ cl L (E++M) P v ob new:=
 ⟨λrest A R d os hr hR h g t hg D=>S.go rest A R d os hr (λx h' g' t' k' l' p' c₁ hp hg' D' hres=>by
  rw [gi L E _ (hl x)] at D'
  exact hR x h' g' t' k' l' p' c₁ hp hg' (D'.perm (hQ _ _ _ _)) hres) h g t hg (D.perm (by
   have:=(hQ (E:=E) L [] M rest).symm
   simp only [Dm] at this
   exact this))⟩
theorem ae.wider {vw:CV} {D1 D2:Dr→Dr} (S:ae F k vw L M P r ob new D1 D2) (p:M'.Perm (M++M2)):ae F k vw L M' P r ob new D1 D2:=
 ⟨λc hc rest A R d os hr hR h g t hg D=>S.go c hc (M2++rest) A R d os hr (λx h' g' t' hp hg' D'=>hR x h' g' t' hp hg' (D'.perm (C7 _ (by
   rw [←C6];exact (p.append_right rest).symm)))) h g t hg (D.perm (C7 _ (by
   rw [←C6];exact p.append_right rest)))⟩
theorem bR.wider {c₀ cl:Code} (S:bR F k c₀ cl L M P v ob new) (p:M'.Perm (M++M2)):bR F k c₀ cl L M' P v ob new:=
 ⟨λrest A R d os hr hR h g t hg D=>S.go (M2++rest) A R d os hr (λx h' g' t' k' l' p' c₁ hp hg' D' hres=>hR x h' g' t' k' l' p' c₁ hp hg' (D'.perm (C7 _ (by
   rw [←C6];exact (p.append_right rest).symm))) hres) h g t hg (D.perm (C7 _ (by
   rw [←C6];exact p.append_right rest)))⟩
theorem cP.wider {c₀:Code} (S:cP F k c₀ L M P ob new) (p:M'.Perm (M++M2)):cP F k c₀ L M' P ob new:=
 ⟨λrest A R d os hr hR h g t hg D=>S.go (M2++rest) A R d os hr (λx h' g' t' hp hg' D'=>hR x h' g' t' hp hg' (D'.perm (C7 _ (by
   rw [←C6];exact (p.append_right rest).symm)))) h g t hg (D.perm (C7 _ (by
   rw [←C6];exact p.append_right rest)))⟩
theorem af.toR {vw:CV} (S:af F k vw L P r ob new) (M:ao):ae F k vw L M P r ob new:=S.toT.toR M
end
end
end
section
open PyProof.Rows PySem PySem.Calls PySem.W PySem.W.X
theorem aG {F:Fx} {k:Nat} (x:List Nat) (tx:Tok) (hz:x.length≤CZ):af F k (.b 7300717 ⟨[.str (S x) tx],[]⟩) [] (X:=Tok) (λξ=>True) (λt=>.ok (.ret (.int (.ofNat x.length) t))) (λξ=>[]) (λξ=>[]):=by
 refine af.of_b (id:="len") (by kernel_rfl) (Db (b:=Builtin.«len») (by kernel_rfl)) (by decide+kernel) λrest A R d os hr hR h g t hg D=>?_
 have hz:x.length≤16777216:=hz
 exact Fu (GA (Q:=λr s'=>R (.ok (.ret r)) s') (typeIs_str _ (S x) tx) PySem.F.slot_str_len PySem.F.entry_str_len (PySem.F.args_str_len_1 _) (gives_str_len (S x) tx) (by lia) (by show ¬(x.length:Int) ≥ 2 ^ 63;lia) (hR _ h g _ trivial hg D))
  (λfin s' ⟨r,e,q⟩=>by subst e;exact q) (λξ ξ q=>q)
theorem dy {F:Fx} {k:Nat} (a:C1) (xs:List CX) (e:Nat) (hz:xs.length≤CZ):af F k (.b 7300717 ⟨[.ref a],[]⟩) [(a,⟨.type "list",none,.seq ⟨xs⟩ e,#[]⟩)] (X:=Tok) (λξ=>True) (λt=>.ok (.ret (.int (.ofNat xs.length) t))) (λξ=>[⟨.type "list",none,.seq ⟨xs⟩ e,#[]⟩]) (λξ=>[]):=by
 have hz:xs.length≤16777216:=hz
 refine af.of_b (id:="len") (by kernel_rfl) (Db (b:=Builtin.«len») (by kernel_rfl)) (by decide+kernel) λrest A R d os hr hR h g t hg D=>?_
 have ha:h.get? a=some ⟨.type "list",none,.seq ⟨xs⟩ e,#[]⟩:=D.own (a,_) (C3 _ (.head _))
 exact Fu (wpAny_len_body_list (items:=⟨xs⟩) (Q:=λr s'=>R (.ok (.ret r)) s') ⟨_,ha,rfl,e,rfl⟩ (by show (xs.length:Int) < 2 ^ 63;lia) (hR _ h g _ trivial hg D))
  (λfin s' ⟨r,e,q⟩=>by subst e;exact q) (λξ ξ q=>q)
end
section
open PyProof.Rows PySem PySem.Calls PySem.Spec PySem.W PySem.W.X
@[irreducible] noncomputable def ktop (P:Params):KT:=KT.of (k0.heap_1 P)
noncomputable def gI (w:Ek) (h0:Heap):Fx:=⟨PySem.Challenge.pw_pe0278_01,w,h0,ktop w.params,[(162,101,19),(169,104,32)],394⟩
noncomputable def z3 (p:Ek×Heap):Prop:=AllIn p.2 (k0.heap_1 p.1.params)→p.2.objs.size=394→∀(s1:Df) (zs:List (Int×Tok)),zs.length≤1000→s1.heap=p.2.push ⟨.type "list",none,.seq ⟨zs.map λx=>.int x.1 x.2⟩ 0,#[]⟩→s1.heap.NoLimit→s1.gens=#[]→
 ∀R:Dq→Df→Prop,(∀h g t,AllBare g→OldK s1.heap h→R (.ok (.ret (.bool true))) ⟨h,g,s1.drawn,t,s1.os⟩)→codeAny (model PySem.Challenge.pw_pe0278_01 p.1) callerA (.call (.ref 393) ⟨[.ref 394],[]⟩) R s1
theorem oD:∃p:Ek×Heap,z3 p→∀q,z3 q:=by
 by_cases h:∃p:Ek×Heap,¬z3 p
 ·obtain ⟨p,hp⟩:=h
  exact ⟨p,λx=>absurd x hp⟩
 ·exact ⟨(⟨λξ ξ=>0,{strHash:=λξ=>0,shareClass:=λξ=>0,mergeTok:=id,idOf:=λξ=>0,idOfShared:=λξ ξ=>0,followText:=λξ=>false,idOfImm:=λξ=>0}⟩,default),λξ q=>Classical.byContradiction λx=>h ⟨q,x⟩⟩
@[irreducible] noncomputable def worst:Ek×Heap:=Classical.choose oD
theorem qc (h:z3 worst) (q:Ek×Heap):z3 q:=by
 unfold worst at h
 exact Classical.choose_spec oD h q
@[irreducible] noncomputable def Z:Fx:=gI worst.1 worst.2
end
section
open PySem PySem.W PySem.W.X
noncomputable def eu (F:Fx) (f:C1):FuncData:=match F.kt.get f with
 | some o=>match o.data with
  | .func fd=>fd
  | _=>default
 | none=>default
noncomputable def fH (F:Fx) (f L:C1):Env:=
 {scope:=(eu F f).scope,locals:=L,globals:=(eu F f).globals,cells:=(eu F f).closure,qual:=(eu F f).qualname++".<locals>.",func:=some f,code:=(eu F f).code,frame:=some L,builtins:=(eu F f).builtins}
noncomputable def Aq:Stmt→List Stmt
 | .For _ _ b _ _=>b
 | .While _ b _ _=>b
 | .If _ b _ _=>b
 | _=>[]
noncomputable def uv:List Nat→List Stmt→Stmt
 | [],_=>.Pass default
 | [i],b=>b.getD i (.Pass default)
 | i::is,b=>uv is (Aq (b.getD i (.Pass default)))
noncomputable def gF (F:Fx) (f:C1) (is:List Nat):Stmt:=uv is (match (eu F f).body with | .stmts b=>b | _=>[])
noncomputable def zq (env:Env):Stmt→Code
 | .While t b o _=>.whileLoop t b o env
 | _=>.block [] env
noncomputable def hH (env:Env) (it:CX):Stmt→Code
 | .For t _ b o _=>.forLoop t it b o env
 | _=>.block [] env
noncomputable def bY (es:List Dj) (e:Nat):Obj:=⟨.type "frame",none,.dict ⟨es⟩ e,#[]⟩
noncomputable def pd (F:Fx) (name:List Nat):Int:=ZFast.zw12210062019545310541 (F.w.params.strHash (S name).cps)
noncomputable abbrev en (F:Fx) (name:List Nat) (k:Tok) (v:CX):Dj:=⟨pd F name,.str (S name) k,v⟩
noncomputable def aw (d:C1) (xs:List CX) (e:Nat):Obj:=⟨.ref 200,some d,.seq ⟨xs⟩ e,#[]⟩
noncomputable def ai (es:List Dj) (n:Nat):Obj:=⟨.type "dict",none,.dict ⟨es⟩ n,#[]⟩
noncomputable def aa (xs:List CX) (e:Nat):Obj:=⟨.type "list",none,.seq ⟨xs⟩ e,#[]⟩
noncomputable def gV (xs:List CX):Obj:=⟨.type "tuple",none,.seq ⟨xs⟩ 0,#[]⟩
theorem af.offs {k:Nat} {v:CV} {L:ao} {X:Type} {P:X→Prop} {r:X→Dq} {ob:X→List Obj} {new:X→ao} (x:(∀p∈L,394≤p.1)→af Z k v L P r ob new):af Z k v L P r ob new:=
 af.off λh=>x (by unfold Z gI at h;exact h)
theorem ab:CZ=16777216:=by decide+kernel
end
section
open PyProof.Rows PySem PySem.Calls PySem.W PySem.W.X
theorem qm (xs:List CX) (v:CX):((seqIndex? (-1) (⟨xs++[v]⟩:Array CX).size).bind λk=>(⟨xs++[v]⟩:Array CX)[k]?.map (k,·))=some (xs.length,v):=by
 have e:seqIndex? (-1) (⟨xs++[v]⟩:Array CX).size=some xs.length:=by
  have h3:(-1:Int) < 0:=by decide
  unfold seqIndex?
  have h4:(0:Int)≤-1+((xs.length+1:Nat):Int):=by lia
  have h2:(⟨xs++[v]⟩:Array CX).size=xs.length+1:=by simp
  refine h2▸?_
  simp only [h3,if_true]
  have h5: -1+((xs.length+1:Nat):Int) < ((xs.length+1:Nat):Int):=by lia
  have h6:(-1+((xs.length+1:Nat):Int)).toNat=xs.length:=by lia
  simp only [h4,h5,h6,decide_true,FG,if_true]
 rw [e]
 simp
theorem lR (v:CX):∀xs:List CX,(xs++[v]).eraseIdx xs.length=xs
 | []=>rfl
 | x::xs=>congrArg (x::·) (lR v xs)
theorem k8 {F:Fx} {k:Nat} (a:C1) (cls:CX) (dd:Option C1) (sl:Array (Option CX)) (xs:List CX) (v:CX) (e:Nat) (hsz:xs.length < CZ):
  af F k (.b 8174157772325415533 ⟨[.ref a],[]⟩) [(a,⟨cls,dd,.seq ⟨xs++[v]⟩ e,sl⟩)] (X:=Nat) (λξ=>True) (λξ=>.ok (.ret v)) (λx=>[⟨cls,dd,.seq ⟨xs⟩ x,sl⟩]) (λξ=>[]):=by
 refine af.of_b (id:="list.pop") (by kernel_rfl) (Db (b:=Builtin.«list.pop») (by kernel_rfl)) (by decide+kernel) λrest A R d os hr hR h g t hg D=>?_
 have ha:h.get? a=some ⟨cls,dd,.seq ⟨xs++[v]⟩ e,sl⟩:=D.own (a,_) (C3 _ (.head _))
 have D':=D.update (L:=[(a,⟨cls,dd,.seq ⟨xs++[v]⟩ e,sl⟩)]) (i:=0) (f:=Obj.mapSeq λx=>x.eraseIdxIfInBounds xs.length) rfl rfl
 have e2:(Obj.mapSeq (λx=>x.eraseIdxIfInBounds xs.length) ⟨cls,dd,.seq ⟨xs++[v]⟩ e,sl⟩)=⟨cls,dd,.seq ⟨xs⟩ (e+1),sl⟩:=by
  simp [Obj.mapSeq,lR]
 rw [show bm [(a,(⟨cls,dd,.seq ⟨xs++[v]⟩ e,sl⟩:Obj))] 0 (Obj.mapSeq (λx=>x.eraseIdxIfInBounds xs.length) ⟨cls,dd,.seq ⟨xs++[v]⟩ e,sl⟩)=[(a,(⟨cls,dd,.seq ⟨xs⟩ (e+1),sl⟩:Obj))] from by simp only [e2];rfl] at D'
 have y:=hR (e+1) _ g t trivial hg D'
 have hne:(⟨xs++[v]⟩:Array CX).isEmpty=false:=by simp [Array.isEmpty]
 have hp:(Data.seq (⟨xs⟩:Array CX) (e+1)).pastItsLine=none:=pastItsLine_seq (by show xs.length≤_;exact lD ‹_› rfl)
 wp_walk
 rw [qm]
 dsimp only
 wp_walk using (EC ha rfl (hz:=by show (xs++[v]).length≤CZ;rw [CY];exact hsz))
 simp only [e2,hp]
 refine Dc ?_
 refine Dc ?_
 exact y
theorem gN {M:Model} {A:Dk} {E:CX→Df→Prop} {s:Df} {sl:C1} {Q:Option Int→Df→Prop} (hTs:s.TypeIs (.ref sl) "slice") (h:Q none s):wpAny M A (Builtin.List.listSubscript? (.ref sl)) Q E s:=by
 unfold Builtin.List.listSubscript?
 refine C0 (Fm hTs slice_no_index ?_)
 simp only [Option.isNone_none,if_true]
 exact Dc h
theorem i8 {M:Model} {A:Dk} {E:CX→Df→Prop} {s:Df} {sl:C1} {o:Obj} {vl vu:CX} {lo hi:Option Int} {Q:CX×CX×CX→Df→Prop} (hos:s.heap.get? sl=some o) (hds:o.data=.fields #[vl,vu,.none]) (pl:IsPart vl lo) (pu:IsPart vu hi)
  (h:Q (rawPart lo,rawPart hi,rawPart none) s):wpAny M A (Builtin.List.listSliceParts (.ref sl)) Q E s:=by
 rw [listSliceParts_eq]
 refine C0 (ED hos hds (x:=.none) rfl (C0 (FX IsPart.none ?_)))
 rw [if_neg (show ¬((rawPart none == rawInt 0)=true) from Dy)]
 refine C0 (ED hos hds (x:=vl) rfl (C0 (FX pl ?_)))
 exact C0 (ED hos hds (x:=vu) rfl (C0 (FX pu (Dc h))))
theorem cX {F:Fx} {k:Nat} (a sl:C1) (cls:CX) (dd:Option C1) (sls:Array (Option CX)) (xs:List CX) (e:Nat) (vl vu:CX) (lo hi:Option Int) (ys:List CX) (pl:IsPart vl lo) (pu:IsPart vu hi) (hsz:xs.length≤CZ) (hy:slicePick ⟨xs⟩ lo hi none=⟨ys⟩):
  af F k (.b 128106587276438692081757506308484131437 ⟨[.ref a,.ref sl],[]⟩) [(a,⟨cls,dd,.seq ⟨xs⟩ e,sls⟩),(sl,aE "slice" [vl,vu,.none])] (X:=C1) (λξ=>True) (λx=>.ok (.ret (.ref x)))
   (λξ=>[⟨cls,dd,.seq ⟨xs⟩ e,sls⟩,aE "slice" [vl,vu,.none]]) (λx=>[(x,⟨.type "list",none,.seq ⟨ys⟩ 0,#[]⟩)]):=by
 refine af.of_b (id:="list.__getitem__") (by kernel_rfl) (Db (b:=Builtin.«list.__getitem__») (by kernel_rfl)) (by decide+kernel) λrest A R d os hr hR h g t hg D=>?_
 have ha:h.get? a=some ⟨cls,dd,.seq ⟨xs⟩ e,sls⟩:=D.own (a,_) (C3 _ (.head _))
 have hs:h.get? sl=some (aE "slice" [vl,vu,.none]):=D.own (sl,_) (C3 _ (.tail _ (.head _)))
 have hTs:(⟨h,g,d.d,t,os⟩:Df).TypeIs (.ref sl) "slice":=⟨_,hs,rfl⟩
 have D1:=D.alloc (o:=⟨.type "list",none,.seq ⟨ys⟩ 0,#[]⟩) rfl
 have y:=hR h.objs.size _ g t trivial hg (D1.perm (by
  exact (Dn (l₁:=[_,_]) (a:=(h.objs.size,_)) (l₂:=rest)).symm))
 show wpAny _ _ (Builtin.List.listSubscript? (.ref sl) >>= _) _ _ _
 refine C0 (gN hTs ?_)
 refine C0 (Ft hTs ?_)
 rw [if_neg (by decide)]
 refine C0 (i8 hs rfl pl pu ?_)
 refine C0 (m:=Builtin.List.listItems (.ref a)) ?_
 refine C0 (Ez ha rfl (Dc ?_))
 refine C0 (Es (sliceIndices_raw lo hi none xs.length (by decide)) ?_)
 have hy':((sliceRange (sliceBounds lo hi none xs.length).1 (sliceBounds lo hi none xs.length).2.1 (sliceBounds lo hi none xs.length).2.2).filterMap ((⟨xs⟩:Array CX)[·]?)).toArray=⟨ys⟩:=hy
 dsimp only
 refine hy'▸?_
 refine C0 (DU (Dc y) ?_)
 refine hy▸?_
 exact Ex (slicePick_size_le ⟨xs⟩ lo hi none) hsz
theorem c7 {F:Fx} {k:Nat} (a sl v:C1) (cls:CX) (dd:Option C1) (sls:Array (Option CX)) (xs:List CX) (e:Nat) (vl vu:CX) (lo hi:Option Int) (ys:List CX) (e2:Nat) (p q:Int) (pl:IsPart vl lo) (pu:IsPart vu hi) (hsz:xs.length+ys.length≤CZ)
  (hb:sliceBounds lo hi none xs.length=(p,q,1)):
  af F k (.b 128106587276438692082622197436939266669 ⟨[.ref a,.ref sl,.ref v],[]⟩) [(a,⟨cls,dd,.seq ⟨xs⟩ e,sls⟩),(sl,aE "slice" [vl,vu,.none]),(v,⟨.type "list",none,.seq ⟨ys⟩ e2,#[]⟩)] (X:=Nat) (λξ=>True) (λx=>.ok (.ret .none))
   (λx=>[⟨cls,dd,.seq ⟨xs.take p.toNat++ys++xs.drop (max p q).toNat⟩ x,sls⟩,aE "slice" [vl,vu,.none],⟨.type "list",none,.seq ⟨ys⟩ e2,#[]⟩]) (λx=>[]):=by
 refine af.of_b (id:="list.__setitem__") (by kernel_rfl) (Db (b:=Builtin.«list.__setitem__») (by kernel_rfl)) (by decide+kernel) λrest A R d os hr hR h g t hg D=>?_
 have ha:h.get? a=some ⟨cls,dd,.seq ⟨xs⟩ e,sls⟩:=D.own (a,_) (C3 _ (.head _))
 have hs:h.get? sl=some (aE "slice" [vl,vu,.none]):=D.own (sl,_) (C3 _ (.tail _ (.head _)))
 have hv:h.get? v=some ⟨.type "list",none,.seq ⟨ys⟩ e2,#[]⟩:=D.own (v,_) (C3 _ (.tail _ (.tail _ (.head _))))
 have hTs:(⟨h,g,d.d,t,os⟩:Df).TypeIs (.ref sl) "slice":=⟨_,hs,rfl⟩
 have hTv:(⟨h,g,d.d,t,os⟩:Df).TypeIs (.ref v) "list":=⟨_,hv,rfl⟩
 show wpAny _ _ (Builtin.List.listSubscript? (.ref sl) >>= _) _ _ _
 refine C0 (gN hTs ?_)
 refine C0 (Ft hTs ?_)
 rw [if_neg (by decide)]
 refine C0 (i8 hs rfl pl pu ?_)
 dsimp only
 have hav:a≠v:=by
  have nd:=D.nodup
  simp only [Da] at nd
  have nd:=(Eu.mp nd).1
  intro e0
  subst e0
  simp at nd
 have hne:Builtin.List.listSameRef (.ref a) (.ref v)=false:=by
  show (a == v)=false
  exact beq_eq_false_iff_ne.mpr hav
 rw [hne]
 rw [if_neg Dy]
 refine C0 (m:=Builtin.List.listAllItems (.ref v) "must assign iterable to extended slice") ?_
 refine C0 (Ft hTv ?_)
 rw [if_pos (by decide)]
 refine C0 (Ez hv rfl (Dc ?_))
 refine C0 ?_
 refine C0 (Ez ha rfl (Dc ?_))
 refine C0 (Es (sliceIndices_raw lo hi none xs.length (by decide)) ?_)
 refine hb▸?_
 dsimp only
 rw [if_pos (by decide)]
 have hlong:Builtin.List.listTooLong ((⟨xs⟩:Array CX).size+(⟨ys⟩:Array CX).size)=false:=by
  unfold Builtin.List.listTooLong
  exact decide_eq_false (by show ¬(xs.length+ys.length > CZ);exact EJ.mpr ‹_›)
 refine hlong▸(if_neg Dy)▸?_
 have eo:(Obj.mapSeq (λzs=>zs.extract 0 p.toNat++⟨ys⟩++zs.extract (max p q).toNat) ⟨cls,dd,.seq ⟨xs⟩ e,sls⟩)=⟨cls,dd,.seq ⟨xs.take p.toNat++ys++xs.drop (max p q).toNat⟩ (if (xs.take p.toNat++ys++xs.drop (max p q).toNat).length=xs.length then e else e+1),sls⟩:=by
  simp [Obj.mapSeq]
  have hd:GI (xs.length - (max p q).toNat) (DX (max p q).toNat xs)=DX (max p q).toNat xs:=EM (by simp)
  first
  | (rw [hd];done)
  | (rw [hd];simp)
 have D':=D.update (L:=[(a,⟨cls,dd,.seq ⟨xs⟩ e,sls⟩),(sl,aE "slice" [vl,vu,.none]),(v,⟨.type "list",none,.seq ⟨ys⟩ e2,#[]⟩)]) (i:=0) (f:=Obj.mapSeq (λzs=>zs.extract 0 p.toNat++⟨ys⟩++zs.extract (max p q).toNat)) rfl rfl
 wp_walk using (EC ha rfl (hz:=by show xs.length≤CZ;lia))
 have hlen:(xs.take p.toNat++ys++xs.drop (max p q).toNat).length≤CZ+1:=by
  have h1:(max p q).toNat ≥ p.toNat:=Int.toNat_le_toNat (Int.le_max_left p q)
  simp only [CY,DY,DO]
  lia
 rw [eo,pastItsLine_seq (xs:=⟨xs.take p.toNat++ys++xs.drop (max p q).toNat⟩) hlen]
 refine Dc ?_
 refine C0 (Gr ?_)
 refine Dc ?_
 refine hR (if (xs.take p.toNat++ys++xs.drop (max p q).toNat).length=xs.length then e else e+1) _ g t trivial hg ?_
 have D2:d5 F _ (bm [(a,⟨cls,dd,.seq ⟨xs⟩ e,sls⟩),(sl,aE "slice" [vl,vu,.none]),(v,⟨.type "list",none,.seq ⟨ys⟩ e2,#[]⟩)] 0 _++rest):=D'
 rw [eo] at D2
 exact D2
theorem af.ob_eq {F:Fx} {k:Nat} {v:CV} {L:ao} {X:Type} {P:X→Prop} {r:X→Dq} {ob ob':X→List Obj} {new:X→ao} (h:ob=ob') (x:af F k v L P r ob new):af F k v L P r ob' new:=h ▸ x
theorem dA {F:Fx} {k:Nat} (a sl v:C1) (cls:CX) (dd:Option C1) (sls:Array (Option CX)) (xs:List CX) (e:Nat) (ys:List CX) (e2:Nat) (hsz:xs.length+ys.length≤CZ):
  af F k (.b 128106587276438692082622197436939266669 ⟨[.ref a,.ref sl,.ref v],[]⟩) [(a,⟨cls,dd,.seq ⟨xs⟩ e,sls⟩),(sl,aE "slice" [.none,.none,.none]),(v,⟨.type "list",none,.seq ⟨ys⟩ e2,#[]⟩)] (X:=Nat) (λξ=>True) (λx=>.ok (.ret .none))
   (λx=>[⟨cls,dd,.seq ⟨ys⟩ x,sls⟩,aE "slice" [.none,.none,.none],⟨.type "list",none,.seq ⟨ys⟩ e2,#[]⟩]) (λx=>[]):=by
 refine af.ob_eq (funext λx=>?_) (c7 a sl v cls dd sls xs e .none .none none none ys e2 0 xs.length IsPart.none IsPart.none hsz ?_)
 ·have h1:xs.take (0:Int).toNat++ys++xs.drop (max 0 (xs.length:Int)).toNat=ys:=by
   have:(max 0 (xs.length:Int)).toNat=xs.length:=by lia
   rw [this];simp
  rw [h1]
 ·rw [sliceBounds_plain];rfl
theorem hX {F:Fx} {k:Nat} (a sl v:C1) (cls:CX) (dd:Option C1) (sls:Array (Option CX)) (xs:List CX) (e:Nat) (j:Nat) (tj:Tok) (ys:List CX) (e2:Nat) (hj:j≤xs.length) (hsz:xs.length+ys.length≤CZ):
  af F k (.b 128106587276438692082622197436939266669 ⟨[.ref a,.ref sl,.ref v],[]⟩) [(a,⟨cls,dd,.seq ⟨xs⟩ e,sls⟩),(sl,aE "slice" [.int (.ofNat j) tj,.none,.none]),(v,⟨.type "list",none,.seq ⟨ys⟩ e2,#[]⟩)] (X:=Nat) (λξ=>True) (λx=>.ok (.ret .none))
   (λx=>[⟨cls,dd,.seq ⟨xs.take j++ys⟩ x,sls⟩,aE "slice" [.int (.ofNat j) tj,.none,.none],⟨.type "list",none,.seq ⟨ys⟩ e2,#[]⟩]) (λx=>[]):=by
 refine af.ob_eq (funext λx=>?_) (c7 a sl v cls dd sls xs e (.int (.ofNat j) tj) .none (some (C4 j)) none ys e2 j xs.length (IsPart.int _ _) IsPart.none hsz ?_)
 ·have h1:xs.take (j:Int).toNat++ys++xs.drop (max (j:Int) (xs.length:Int)).toNat=xs.take j++ys:=by
   have:(max (j:Int) (xs.length:Int)).toNat=xs.length:=by lia
   rw [this];simp
  rw [h1]
 ·rw [sliceBounds_plain]
  show (((clipAt xs.length (C4 j):Nat):Int),((xs.length:Nat):Int),(1:Int))=_
  have:clipAt xs.length (C4 j)=j:=by
   have:=clipAt_nat xs.length j
   rw [Nat.min_eq_left hj] at this
   exact this
  rw [this]
theorem ik {F:Fx} {k:Nat} (a sl v:C1) (cls:CX) (dd:Option C1) (sls:Array (Option CX)) (xs:List CX) (e:Nat) (tj:Tok) (ys:List CX) (e2:Nat) (hsz:xs.length+ys.length≤CZ):
  af F k (.b 128106587276438692082622197436939266669 ⟨[.ref a,.ref sl,.ref v],[]⟩) [(a,⟨cls,dd,.seq ⟨xs⟩ e,sls⟩),(sl,aE "slice" [.none,.int (.ofNat 0) tj,.none]),(v,⟨.type "list",none,.seq ⟨ys⟩ e2,#[]⟩)] (X:=Nat) (λξ=>True) (λx=>.ok (.ret .none))
   (λx=>[⟨cls,dd,.seq ⟨ys++xs⟩ x,sls⟩,aE "slice" [.none,.int (.ofNat 0) tj,.none],⟨.type "list",none,.seq ⟨ys⟩ e2,#[]⟩]) (λx=>[]):=by
 refine af.ob_eq (funext λx=>?_) (c7 a sl v cls dd sls xs e .none (.int (.ofNat 0) tj) none (some (C4 0)) ys e2 0 0 IsPart.none (IsPart.int _ _) hsz ?_)
 ·rfl
 ·rw [sliceBounds_plain]
  have h0:clipAt xs.length (C4 0)=0:=by
   have:=clipAt_nat xs.length 0
   rw [GJ] at this
   exact this
  show (((0:Nat):Int),((clipAt xs.length (C4 0):Nat):Int),(1:Int))=_
  rw [h0];rfl
theorem g9 {F:Fx} {k:Nat} (a sl:C1) (cls:CX) (dd:Option C1) (sls:Array (Option CX)) (xs:List CX) (e:Nat) (j:Nat) (tj:Tok) (hsz:xs.length≤CZ):
  af F k (.b 128106587276438692081757506308484131437 ⟨[.ref a,.ref sl],[]⟩) [(a,⟨cls,dd,.seq ⟨xs⟩ e,sls⟩),(sl,aE "slice" [.int (.ofNat j) tj,.none,.none])] (X:=C1) (λξ=>True) (λx=>.ok (.ret (.ref x)))
   (λξ=>[⟨cls,dd,.seq ⟨xs⟩ e,sls⟩,aE "slice" [.int (.ofNat j) tj,.none,.none]]) (λx=>[(x,⟨.type "list",none,.seq ⟨xs.drop j⟩ 0,#[]⟩)]):=
 cX a sl cls dd sls xs e _ _ (some (j:Int)) none (xs.drop j) (IsPart.int _ _) IsPart.none hsz (slicePick_from' _ _)
theorem iT {F:Fx} {k:Nat} (a sl:C1) (cls:CX) (dd:Option C1) (sls:Array (Option CX)) (xs:List CX) (e:Nat) (hsz:xs.length≤CZ):
  af F k (.b 128106587276438692081757506308484131437 ⟨[.ref a,.ref sl],[]⟩) [(a,⟨cls,dd,.seq ⟨xs⟩ e,sls⟩),(sl,aE "slice" [.none,.none,.none])] (X:=C1) (λξ=>True) (λx=>.ok (.ret (.ref x)))
   (λξ=>[⟨cls,dd,.seq ⟨xs⟩ e,sls⟩,aE "slice" [.none,.none,.none]]) (λx=>[(x,⟨.type "list",none,.seq ⟨xs⟩ 0,#[]⟩)]):=
 cX a sl cls dd sls xs e _ _ none none xs IsPart.none IsPart.none hsz (slicePick_all _)
theorem ez {F:Fx} {k:Nat} (a sl:C1) (cls:CX) (dd:Option C1) (sls:Array (Option CX)) (xs:List CX) (e:Nat) (m:Nat) (tm:Tok) (hsz:xs.length≤CZ):
  af F k (.b 128106587276438692081757506308484131437 ⟨[.ref a,.ref sl],[]⟩) [(a,⟨cls,dd,.seq ⟨xs⟩ e,sls⟩),(sl,aE "slice" [.none,.int (.ofNat m) tm,.none])] (X:=C1) (λξ=>True) (λx=>.ok (.ret (.ref x)))
   (λξ=>[⟨cls,dd,.seq ⟨xs⟩ e,sls⟩,aE "slice" [.none,.int (.ofNat m) tm,.none]]) (λx=>[(x,⟨.type "list",none,.seq ⟨xs.take m⟩ 0,#[]⟩)]):=
 cX a sl cls dd sls xs e _ _ none (some (m:Int)) (xs.take m) IsPart.none (IsPart.int _ _) hsz (slicePick_upto' _ _)
end
section
open PySem PySem.W PySem.W.X
noncomputable abbrev CN:List Nat:=[95,105,110,105,116,105,97,108,95,115,105,122,101]
noncomputable abbrev dO (F:Fx) (k:Tok) (i:Nat) (ti:Tok) (de:Nat):Obj:=ai [en F CN k (.int (.ofNat i) ti)] de
theorem db (a dd:C1) (xs:List CX) (m e:Nat) (hm:xs.length=m):
  af Z 3 (.o (.call (.ref 197) ⟨[.ref a],[]⟩)) [(a,aw dd xs e)] (X:=Tok) (λξ=>True) (λt=>.ok (.ret (.int (.ofNat m) t)))
   (λt=>[aw dd xs e]) (λt=>[]):=by
 subst hm
 refine af.offs λho=>?_
 obtain ⟨a,rfl⟩:=DZ (ho (a,_) (.head _))
 exists 1,af.of_defB
 exists ar,t+1+1,0x215151211114441414434343412211414411111131111111231,1
theorem bU (a dd:C1) (xs:List CX) (e:Nat) (k:Tok) (i:Nat) (ti:Tok) (de:Nat) (x y:List Nat) (tx ty:Tok) (hsz:xs.length≤CZ):
  af Z 3 (.o (.call (.ref 144) ⟨[.ref a,.str (S x) tx,.str (S y) ty],[]⟩)) [(a,aw dd xs e),(dd,dO Z k i ti de)] (X:=C1) (λξ=>True) (λξ=>.ok (.ret .none))
   (λt=>[aw dd (xs++[.ref t]) (e+1),dO Z k i ti de]) (λt=>[(t,gV [.str (S x) tx,.str (S y) ty])]):=by
 exists 1,af.of_defB
 exists 1,eZ a (.ref 200) (some dd) #[] xs e (.ref (n+1)) ‹_›,0x12144321112111211124113434341,1
 exists ar,n+1,0,529
theorem sW (a dd:C1) (e:Nat) (k:Tok) (i:Nat) (ti:Tok) (de:Nat):
  af Z 4 (.o (.call (.ref 160) ⟨[.ref a],[]⟩)) [(a,aw dd [] e),(dd,dO Z k i ti de)] (X:=C1×Tok×Tok) (λξ=>True) (λx=>.ok (.ret (.ref x.1)))
   (λt=>[aw dd [] e,dO Z k i ti de]) (λx=>[(x.1,gV [.str (S []) x.2.1,.str (S []) x.2.2])]):=by
 refine af.offs λho=>?_
 obtain ⟨a,rfl⟩:=DZ (ho (a,_) (.head _))
 exists 1,af.of_defB
 exists 1,db (a+394) dd [] 0 e rfl,0x1321111211121112411341,1
 exists 2,ax 0 x1 0 t1,1,0
 exists ar,(n2,t2,t2+1),0,529
theorem gk (a dd:C1) (xs:List CX) (v:C1) (e:Nat) (k:Tok) (i:Nat) (ti:Tok) (de:Nat) (hsz:xs.length < CZ):
  af Z 4 (.o (.call (.ref 160) ⟨[.ref a],[]⟩)) [(a,aw dd (xs++[.ref v]) e),(dd,dO Z k i ti de)] (X:=Nat) (λξ=>True) (λx=>.ok (.ret (.ref v)))
   (λx=>[aw dd xs x,dO Z k i ti de]) (λx=>[]):=by
 refine af.offs λho=>?_
 obtain ⟨a,rfl⟩:=DZ (ho (a,_) (.head _))
 exists 1,af.of_defB
 exists 1,db (a+394) dd (xs++[.ref v]) (xs.length+1) e (by simp),0x1321111211121112411341,1
 exists 2,ax (xs.length+1) x1 0 t1,1,0
 exists 3,k8 (a+394) (.ref 200) (some dd) #[] xs (.ref v) e ‹_›,0x11221261612111155515155454545122115155111111411111,1
 exists ar,x3,0,17
theorem fM (a dd:C1) (xs:List CX) (e:Nat) (k:Tok) (i:Nat) (ti:Tok) (de:Nat) (hsz:xs.length≤CZ):
  af Z 4 (.o (.call (.ref 182) ⟨[.ref a],[]⟩)) [(a,aw dd xs e),(dd,dO Z k i ti de)] (X:=Nat×Tok×Tok×Nat) (λξ=>True) (λξ=>.ok (.ret .none))
   (λx=>[aw dd [] x.1,dO Z x.2.1 0 x.2.2.1 x.2.2.2]) (λx=>[]):=by
 refine af.offs λho=>?_
 obtain ⟨a,rfl⟩:=DZ (ho (a,_) (.head _))
 exists 1,af.of_defB
 exists 1,dA (a+394) (n+1+1) (n+1) (.ref 200) (some dd) #[] xs e [] 0 ‹_›,0x1211112124434411343411,833
 exists ar,(x1,k,t1,de),0x54512111212112111126,49
theorem oh (a dd l:C1) (xs ys:List CX) (e el:Nat) (k:Tok) (i:Nat) (ti:Tok) (de:Nat) (hsz:xs.length+ys.length≤CZ):
  af Z 4 (.o (.call (.ref 182) ⟨[.ref a,.ref l],[]⟩)) [(a,aw dd xs e),(dd,dO Z k i ti de),(l,aa ys el)] (X:=Nat×Tok×Tok×Nat) (λξ=>True) (λξ=>.ok (.ret .none))
   (λx=>[aw dd ys x.1,dO Z x.2.1 0 x.2.2.1 x.2.2.2,aa ys el]) (λx=>[]):=by
 refine af.offs λho=>?_
 obtain ⟨a,rfl⟩:=DZ (ho (a,_) (.head _))
 exists 1,af.of_defB
 exists 1,dA (a+394) (n+1) l (.ref 200) (some dd) #[] xs e ys el ‹_›,0x12111121255511454511,577
 exists ar,(x1,k,t1,de),0x54512111212112111126,561
theorem mL (a dd:C1) (xs:List CX) (j:Nat) (tj:Tok) (e:Nat) (k:Tok) (i:Nat) (ti:Tok) (de:Nat) (hj:j≤xs.length) (hsz:xs.length≤CZ):
  af Z 4 (.o (.call (.ref 152) ⟨[.ref a,.int (.ofNat j) tj],[]⟩)) [(a,aw dd xs e),(dd,dO Z k i ti de)] (X:=C1×Nat) (λξ=>True) (λx=>.ok (.ret (.ref x.1)))
   (λx=>[aw dd (xs.take j++[]) x.2,dO Z k i ti de]) (λx=>[(x.1,aa (xs.drop j) 0)]):=by
 refine af.offs λho=>?_
 obtain ⟨a,rfl⟩:=DZ (ho (a,_) (.head _))
 exists 1,af.of_defB
 exists 1,g9 (a+394) (n+1) (.ref 200) (some dd) #[] xs e j tj ‹_›,0x12111121211124411343411,49
 exists 2,hX (a+394) (n1+1) n1 (.ref 200) (some dd) #[] xs e j tj [] 0 ‹_› ‹_›,0x1211112126656,1377
 exists ar,(x1,x2),8,1105
noncomputable abbrev aK:List Nat:=[46,48]
noncomputable abbrev cF:List Nat:=[102,119,115]
noncomputable abbrev bA:List Nat:=[112,97,114,116]
noncomputable def zi (F:Fx) (f:C1):Expr:=match (eu F f).body with
 | .stmts [.Return (some (.Call _ (g::_) _ _)) _]=>g
 | _=>.Name "" default
noncomputable def wv:Expr→Scope
 | .GeneratorExp _ _ s _=>s
 | _=>default
noncomputable def AX (F:Fx) (f C cc:C1):Env:=
 {scope:=wv (zi F f),locals:=C,globals:=(eu F f).globals,cells:=[],qual:=((eu F f).qualname++".<locals>.")++"<genexpr>.",func:=none,code:=.ref cc,frame:=some C,builtins:=(eu F f).builtins}
noncomputable def bX (F:Fx) (f C cc it:C1):Code:=.compStart (zi F f) 0 (.ref it) .none (AX F f C cc)
noncomputable def b0 (F:Fx) (f C cc it:C1):Code:=.compLoop (zi F f) 0 (.ref it) .none (AX F f C cc)
noncomputable def an (x:List Nat) (tx:Tok) (y:List Nat) (ty:Tok):Obj:=gV [.str (S x) tx,.str (S y) ty]
theorem sP (it a C cc dd p:C1) (i:Nat) (xs:List CX) (e ef:Nat) (k0:Tok) (f q:List Nat) (tf tq:Tok) (hi:xs[i]?=some (.ref p)) (h1:f.length+q.length < CZ):
  bR Z 4 (bX Z 167 C cc it) (b0 Z 167 C cc it)
   ([(it,aS a i),(a,aw dd xs e),(C,bY [en Z aK k0 (.ref it)] ef)]++[(p,an f tf q tq)]) []
   (X:=Tok×Tok×Tok×Nat) (λξ=>True) (λx=>.int (.ofNat (f.length+q.length)) x.1)
   (λx=>[aS a (i+1),aw dd xs e,bY [en Z aK k0 (.ref it),en Z cF x.2.1 (.str (S f) tf),en Z bA x.2.2.1 (.str (S q) tq)] x.2.2.2]++[an f tf q tq]) (λξ=>[]):=by
 refine bR.of_codeB λrest A Pst d os hroom hR n t=>?_
 refine qy hroom (cE it a i (.ref 200) (some dd) #[] xs e (.ref p) hi) (dec 0x2121212122) (dec 8481) [0,0] ?_ (by kernel_rfl)
 intro cf1 x1 n1 t1 p1
 exists 2,aG f tf (by lia),0x14113434856566161656566161656566161661515552,0
 exists 3,aG q tq (by lia),5137,0
 exists 4,ba (C9 f) x2 (C9 q) x3,1,0
 exact mT hroom hR (x4,t1,t1+1,ef+1+1) [] (dec 4369) 20 (by kernel_rfl) (by kernel_rfl) (by trivial)
theorem vV (it a C cc dd p:C1) (i:Nat) (xs:List CX) (e ef:Nat) (k0 k1 k2:Tok) (v1 v2:CX) (f q:List Nat) (tf tq:Tok) (hi:xs[i]?=some (.ref p)) (h1:f.length+q.length < CZ):
  bR Z 4 (b0 Z 167 C cc it) (b0 Z 167 C cc it)
   ([(it,aS a i),(a,aw dd xs e),(C,bY [en Z aK k0 (.ref it),en Z cF k1 v1,en Z bA k2 v2] ef)]++[(p,an f tf q tq)]) []
   (X:=Tok×Nat) (λξ=>True) (λx=>.int (.ofNat (f.length+q.length)) x.1)
   (λx=>[aS a (i+1),aw dd xs e,bY [en Z aK k0 (.ref it),en Z cF k1 (.str (S f) tf),en Z bA k2 (.str (S q) tq)] x.2]++[an f tf q tq]) (λξ=>[]):=by
 refine bR.of_codeB λrest A Pst d os hroom hR n t=>?_
 exists 1,cE it a i (.ref 200) (some dd) #[] xs e (.ref p) hi,530,17
 exists 2,aG f tf (by lia),0x14113434856566161656566161656566161661515552,0
 exists 3,aG q tq (by lia),5137,0
 exists 4,ba (C9 f) x2 (C9 q) x3,1,0
 exact mT hroom hR (x4,ef) [] (dec 4369) 20 (by kernel_rfl) (by kernel_rfl) (by trivial)
theorem uS (it a C cc dd:C1) (i:Nat) (xs:List CX) (e ef:Nat) (k0:Tok) (hi:xs.length≤i):
  cP Z 4 (bX Z 167 C cc it)
   [(it,aS a i),(a,aw dd xs e),(C,bY [en Z aK k0 (.ref it)] ef)] []
   (X:=Nat) (λξ=>True)
   (λx=>[eS i,aw dd xs e,bY [en Z aK k0 (.ref it)] x]) (λξ=>[]):=by
 refine cP.of_codeB λrest A Pst d os hroom hR n t=>?_
 refine qy hroom (bQ it a i (.ref 200) (some dd) #[] xs e ‹_›) (dec 0x2121212122) (dec 8481) [0,0] ?_ (by kernel_rfl)
 intro cf1 x1 n1 t1 p1
 exists ar,ef,5,785
theorem wn (it a C cc dd:C1) (i:Nat) (xs:List CX) (e ef:Nat) (k0 k1 k2:Tok) (v1 v2:CX) (hi:xs.length≤i):
  cP Z 4 (b0 Z 167 C cc it)
   [(it,aS a i),(a,aw dd xs e),(C,bY [en Z aK k0 (.ref it),en Z cF k1 v1,en Z bA k2 v2] ef)] []
   (X:=Nat) (λξ=>True)
   (λx=>[eS i,aw dd xs e,bY [en Z aK k0 (.ref it),en Z cF k1 v1,en Z bA k2 v2] x]) (λξ=>[]):=by
 refine cP.of_codeB λrest A Pst d os hroom hR n t=>?_
 exists 1,bQ it a i (.ref 200) (some dd) #[] xs e ‹_›,530,17
 exists ar,ef,5,785
end
section
open PyProof.Rows PySem PySem.Calls PySem.Spec PySem.W PySem.W.X
section
structure a7 (F:Fx) (k:Nat) (v:CV) (L M:ao) {X:Type} (P:X→Prop) (r:X→Dq) (post:X→ao) (D1 D2:Dr→Dr:=λd=>d):Prop where
 go:∀c,g6 v c→∀(rest:ao) (A:Dk) (R:Dq→Df→Prop) (d:Dr) (os:Ea),aP k A→(∀x h g t,P x→(D2 d).G g→d5 F h (post x++(M++rest))→R (r x) ⟨h,g,(D2 d).d,t,os⟩)→
  ∀h g t,(D1 d).G g→d5 F h (L++(M++rest))→codeAny (model F.prog F.w) A c R ⟨h,g,(D1 d).d,t,os⟩
section
variable {F:Fx} {k:Nat} {vw:CV} {L L' M:ao} {X:Type} {P:X→Prop} {r:X→Dq} {ob:X→List Obj} {new:X→ao} {post:X→ao} {D1 D2 D3:Dr→Dr}
theorem ae.toP (S:ae F k vw L M P r ob new D1 D2):a7 F k vw L M P r (λx=>bp L (ob x)++new x) D1 D2:=⟨S.go⟩
theorem a7.toR (S:a7 F k vw L M P r post D1 D2) (h:∀x,(post x).Perm (bp L (ob x)++new x)):ae F k vw L M P r ob new D1 D2:=
 ⟨λc hc rest A R d os hr hR h' g t hg D=>S.go c hc rest A R d os hr (λx h2 g2 t2 hp hg2 D2=>hR x h2 g2 t2 hp hg2 (D2.perm ((h x).append_right _))) h' g t hg D⟩
theorem a7.pre (S:a7 F k vw L M P r post D1 D2) (h:L'.Perm L):a7 F k vw L' M P r post D1 D2:=
 ⟨λc hc rest A R d os hr hR h' g t hg D=>S.go c hc rest A R d os hr hR h' g t hg (D.perm (h.append_right _))⟩
end
section
variable {prog:Program} {w:Ek}
theorem cA {A:Dk} {E:CX→Df→Prop} {s:Df} {I:C1} {T id:String} {Q:Option CX→Df→Prop} (hT:s.TypeIs (.ref I) T) (slot:Slot T (Str.ofString "__next__") id)
  (hc:codeAny (model prog w) A (.call (.builtin id) ⟨[.ref I],[]⟩) (λr s'=>match r with | .ok (.ret v)=>Q (some v) s' | .ok _=>False | .error e=>s'.TypeIs e "StopIteration"∧Q none s') s):wpAny (model prog w) A (pyNext (.ref I)) Q E s:=by
 unfold pyNext
 refine C0 (wpAny_attempt (wpAny_callSpecial?_slot (name:=Str.ofString "__next__") hT slot (F8 (codeAny_mono hc λr s' h=>?_))))
 match r,h with
 | .ok (.ret v),h=>exact Dc h
 | .ok .next,h=>exact h
 | .ok .brk,h=>exact h
 | .ok .cont,h=>exact h
 | .error e,h=>
  refine C0 (Eh (T:="StopIteration") (b:=true) h.1 isSubtype_stop ?_)
  exact Dc h.2
end
theorem ae.of_cc {F:Fx} {X:Type} {P:X→Prop} {r:X→Dq} {ob:X→List Obj} {new:X→ao} {D1 D2:Dr→Dr} {k:Nat} {N:Nat} {id:String} {args:Args} {L M:ao} (hN:PySem.code id=N) (x:∀rest A R d os,aP k A→bZ F (M++rest) (D2 d) os R L P r ob new→∀n t,Go F A (.plain R) (M++rest) (D1 d) os (.go (.call (.builtin id) args) .base (jx (.call (.builtin id) args)) L n t)):ae F k (.cb N args) L M P r ob new D1 D2:=
 ⟨λc' ⟨id',hc,hk⟩ rest A R d os hr hR h g t hg D=>by
  have e:id'=id:=PySem.code_inj _ _ (hk.trans hN.symm)
  subst e
  rw [hc]
  exact y_code _ _ _ _ _ _ (by rw [dr];exact (x rest A R d os hr hR _ t).go h g hg D rfl)⟩
theorem cR:PySem.code "sum.loop"=8174156937926964852:=by kernel_rfl
theorem rW {F:Fx} {k:Nat} {L M:ao} {X Y:Type} {P:X→Prop} {P':Y→Prop} {tk:X→Tok} {post:X→ao} {r':Y→Dq} {post':Y→ao} {D1 D2 D3:Dr→Dr} {T id:String} {N:Nat} {I st:C1} {oI:Obj} {b a:Int} {tt:Tok} {es:Nat}
  (hI:(I,oI)∈L) (hoI:oI.cls=.type T) (hN:PySem.code id=N) (slot:Slot T (Str.ofString "__next__") id) (hfit:0≤a∧0≤b∧a+b < 16777216)
  (SN:a7 F k (.cb N ⟨[.ref I],[]⟩) L M P (λx=>.ok (.ret (.int b (tk x)))) post D1 D2)
  (next:∀x tk2 e2,P x→a7 F (k+1) (.b 8174156937926964852 ⟨[.ref I,.ref st,rawInt 0,rawInt 0],[]⟩) (post x++[(st,aa [.int (a+b) tk2] e2)]) M P' r' post' D2 D3):
  a7 F (k+1) (.b 8174156937926964852 ⟨[.ref I,.ref st,rawInt 0,rawInt 0],[]⟩) (L++[(st,aa [.int a tt] es)]) M P' r' post' D1 D3:=by
 refine ⟨λc ⟨id',hc,hk⟩ rest A R d os hr hR h g t hg D=>?_⟩
 have e:id'="sum.loop":=PySem.code_inj _ _ (hk.trans cR.symm)
 subst e
 refine hc▸?_
 have hS:h.get? st=some (aa [.int a tt] es):=D.own (st,_) (C3 _ (Dp _ (.head _)))
 have hT:Df.TypeIs ⟨h,g,(D1 d).d,t,os⟩ (.ref I) T:=⟨oI,D.own (I,oI) (C3 _ (C3 _ hI)),hoI⟩
 refine DP PySem.F.entry_sum_loop ?_
 refine (Dk.under_plainId PySem.F.plain_sum_loop _)▸?_
 show wpAny _ A.in1 (seqItems? (.ref st) >>= _) _ _ _
 refine C0 (Ez hS rfl ?_)
 refine C0 (Fw (cA hT slot ?_))
 have D':d5 F h (L++(M++((st,aa [.int a tt] es)::rest))):=D.perm (by
  rw [C6]
  refine C7 _ ?_
  exact (Dn (a:=(st,aa [.int a tt] es)) (l₁:=M) (l₂:=rest)).symm)
 refine SN.go (.call (.builtin id) ⟨[.ref I],[]⟩) ⟨id,rfl,hN⟩ ((st,aa [.int a tt] es)::rest) A.in1 _ d os hr.in1 ?_ h g t hg D'
 intro x h' g' t' hp hg' D2
 have hS':h'.get? st=some (aa [.int a tt] es):=D2.own (st,_) (Dp _ (Dp _ (.head _)))
 have hc:((decide (-(2 ^ 63)≤b) && decide (b < 2 ^ 63)) && (decide (-(2 ^ 63)≤a+b) && decide (a+b < 2 ^ 63)))=true:=by
  simp only [Dt,decide_eq_true_eq]
  omega
 show wpAny _ A.in1 (if (_:Bool)=true then (mkInt (a+b) >>= _) else _) _ _ _
 split
 ·refine C0 (FY ?_)
  show wpAny _ A.in1 (updateSeq st (λξ=>#[.int (a+b) t']) >>= _) _ _ _
  refine C0 ?_
  have D3:d5 F h' ([(st,aa [.int a tt] es)]++(post x++(M++rest))):=D2.perm (by
   refine (C7 _ Dn).trans ?_
   exact Dn)
  have D4:=D3.update (i:=0) (f:=Obj.mapSeq λξ=>#[.int (a+b) t']) rfl rfl
  refine EC hS' rfl (Dc ⟨plainId_quiet PySem.F.plain_sum_loop _,(next x t' es hp).go _ ⟨"sum.loop",rfl,cR⟩ rest A R d os hr hR _ g' _ hg' (D4.perm ?_)⟩)
  have e5:bm [(st,aa [CX.int a tt] es)] 0 (Obj.mapSeq (λξ=>#[CX.int (a+b) t']) (aa [CX.int a tt] es))=[(st,aa [CX.int (a+b) t'] es)]:=by
   simp [bm,Obj.mapSeq,aa]
  simp only [e5,C6 (post x)]
  exact Do _ _ _
 ·rename_i hneg
  exact absurd hc hneg
theorem jP {F:Fx} {k:Nat} {L M:ao} {X Y:Type} {P:X→Prop} {P':Y→Prop} {tk:X→Tok} {post:X→ao} {r':Y→Dq} {post':Y→ao} {D1 D2 D3:Dr→Dr} {T id:String} {N:Nat} {I st:C1} {oI:Obj} {vi tot:Nat} {tt:Tok} {es:Nat}
  (hI:(I,oI)∈L) (hoI:oI.cls=.type T) (hN:PySem.code id=N) (slot:Slot T (Str.ofString "__next__") id) (hfit:tot+vi < CZ)
  (SN:a7 F k (.cb N ⟨[.ref I],[]⟩) L M P (λx=>.ok (.ret (.int (.ofNat vi) (tk x)))) post D1 D2)
  (next:∀x tk2 e2,P x→a7 F (k+1) (.b 8174156937926964852 ⟨[.ref I,.ref st,rawInt 0,rawInt 0],[]⟩) (post x++[(st,aa [.int (.ofNat (tot+vi)) tk2] e2)]) M P' r' post' D2 D3):
  a7 F (k+1) (.b 8174156937926964852 ⟨[.ref I,.ref st,rawInt 0,rawInt 0],[]⟩) (L++[(st,aa [.int (.ofNat tot) tt] es)]) M P' r' post' D1 D3:=
 rW hI hoI hN slot ⟨EL _,EL _,by have hz:CZ=16777216:=ab;show (tot:Int)+(vi:Int) < 16777216;omega⟩ SN next
theorem md {F:Fx} {k:Nat} {L M:ao} {X:Type} {P:X→Prop} {ev:X→C1} {oe:X→Obj} {post post':X→ao} {D1 D2:Dr→Dr} {T id:String} {N:Nat} {I st:C1} {oI:Obj} {tot:Nat} {tt:Tok} {es:Nat}
  (hI:(I,oI)∈L) (hoI:oI.cls=.type T) (hN:PySem.code id=N) (slot:Slot T (Str.ofString "__next__") id)
  (SN:a7 F k (.cb N ⟨[.ref I],[]⟩) L M P (λx=>.error (.ref (ev x))) post D1 D2) (he:∀x,P x→(ev x,oe x)∈post x∧(oe x).cls=.type "StopIteration") (hp':∀x,∃L2,(post x).Perm (L2++post' x)):
  a7 F (k+1) (.b 8174156937926964852 ⟨[.ref I,.ref st,rawInt 0,rawInt 0],[]⟩) (L++[(st,aa [.int (.ofNat tot) tt] es)]) M P (λξ=>.ok (.ret (.int (.ofNat tot) tt))) post' D1 D2:=by
 refine ⟨λc ⟨id',hc,hk⟩ rest A R d os hr hR h g t hg D=>?_⟩
 have e:id'="sum.loop":=PySem.code_inj _ _ (hk.trans cR.symm)
 subst e
 refine hc▸?_
 have hS:h.get? st=some (aa [.int (.ofNat tot) tt] es):=D.own (st,_) (C3 _ (Dp _ (.head _)))
 have hT:Df.TypeIs ⟨h,g,(D1 d).d,t,os⟩ (.ref I) T:=⟨oI,D.own (I,oI) (C3 _ (C3 _ hI)),hoI⟩
 refine DP PySem.F.entry_sum_loop ?_
 refine (Dk.under_plainId PySem.F.plain_sum_loop _)▸?_
 refine C0 (Ez hS rfl ?_)
 refine C0 (Fw (cA hT slot ?_))
 have D':d5 F h (L++(M++((st,aa [.int (.ofNat tot) tt] es)::rest))):=D.perm (by
  rw [C6]
  refine C7 _ ?_
  exact (Dn (a:=(st,aa [.int (.ofNat tot) tt] es)) (l₁:=M) (l₂:=rest)).symm)
 refine SN.go (.call (.builtin id) ⟨[.ref I],[]⟩) ⟨id,rfl,hN⟩ ((st,aa [.int (.ofNat tot) tt] es)::rest) A.in1 _ d os hr.in1 ?_ h g t hg D'
 intro x h' g' t' hp hg' D2
 obtain ⟨he1,he2⟩:=he x hp
 obtain ⟨L2,hL2⟩:=hp' x
 refine ⟨⟨oe x,D2.own _ (C3 _ he1),he2⟩,?_⟩
 refine Dc (hR x h' g' t' hp hg' ?_)
 have D3:d5 F h' ((st,aa [.int (.ofNat tot) tt] es)::(post x++(M++rest))):=D2.perm ((C7 _ Dn).trans Dn)
 have D4:d5 F h' (((st,aa [.int (.ofNat tot) tt] es)::L2)++(post' x++(M++rest))):=D3.perm (by
  exact Ee _ ((hL2.append_right _).trans (.of_eq (C6 _ _ _))))
 exact D4.drop
theorem ae.of_ccB {F:Fx} {X:Type} {P:X→Prop} {r:X→Dq} {ob:X→List Obj} {new:X→ao} {D1 D2:Dr→Dr} {k:Nat} {N:Nat} {id:String} {args:Args} {L M:ao} (hN:PySem.code id=N) (x:∀rest A R d os,aP k A→bZ F (M++rest) (D2 d) os R L P r ob new→∀n t,c9 F A (.plain R) (M++rest) (D1 d) os λξ ξ=>.go (.call (.builtin id) args) .base (jx (.call (.builtin id) args)) L n t):ae F k (.cb N args) L M P r ob new D1 D2:=
 ae.of_cc hN λrest A R d os hr hR n t=>(x rest A R d os hr hR n t).one
end
end
section
open PySem PySem.W PySem.W.X
structure Pt where
 p:C1
 f:List Nat
 tf:Tok
 q:List Nat
 tq:Tok
noncomputable def Pt.e (x:Pt):C1×Obj:=(x.p,an x.f x.tf x.q x.tq)
noncomputable def Pt.len (x:Pt):Nat:=x.f.length+x.q.length
noncomputable def Pt.text (x:Pt):List Nat:=x.f++x.q
noncomputable def ah (ps:List Pt):List CX:=ps.map λx=>.ref x.p
noncomputable def aj (ps:List Pt):ao:=ps.map Pt.e
noncomputable def aT (ps:List Pt):Nat:=(ps.map Pt.len).sum
noncomputable def bh (ps:List Pt):List Nat:=ps.flatMap Pt.text
theorem lw {α:Type}:∀{l:List α} {i:Nat} {a:α},l[i]?=some a→l.Perm (a::l.eraseIdx i)
 | [],_,_,h=>by cases h
 | x::l,0,a,h=>by cases h;exact .refl _
 | x::l,i+1,a,h=>by
  have h:l[i]?=some a:=h
  exact ((lw h).cons x).trans (.swap _ _ _)
theorem hE {ps:List Pt} {i:Nat} {x:Pt} (h:ps[i]?=some x):(aj ps).Perm ([x.e]++(aj ps).eraseIdx i):=lw (by unfold aj;rw [Dv,h];rfl)
theorem eD {ps:List Pt} {i:Nat} {x:Pt} (h:ps[i]?=some x):(ah ps)[i]?=some (.ref x.p):=by unfold ah;rw [Dv,h];rfl
theorem s8 (ga:C1) (γ:Nat) (nm qn:CX) (it a C cc dd:C1) (i:Nat) (ps:List Pt) (e ef:Nat) (k0:Tok) (x:Pt) (hx:ps[i]?=some x) (h1:x.len < CZ):
  ae Z 5 (.b 8395602706694450420893107072773897535317608 ⟨[.ref ga],[]⟩)
   [(ga,aN γ nm qn),(it,aS a i),(a,aw dd (ah ps) e),(C,bY [en Z aK k0 (.ref it)] ef)] (aj ps)
   (X:=Tok×Tok×Tok×Nat) (λξ=>True) (λy=>.ok (.ret (.int (.ofNat x.len) y.1)))
   (λy=>[aN γ nm qn,aS a (i+1),aw dd (ah ps) e,bY [en Z aK k0 (.ref it),en Z cF y.2.1 (.str (S x.f) x.tf),en Z bA y.2.2.1 (.str (S x.q) x.tq)] y.2.2.2]) (λξ=>[])
   (dg γ (aH Z (bX Z 167 C cc it))) (dg γ (aH Z (b0 Z 167 C cc it))):=
 dF ga γ nm qn (bR.wider (bR.lay (E:=[x.e]) (sP it a C cc dd x.p i (ah ps) e ef k0 x.f x.q x.tf x.tq (eD hx) h1) (λξ=>rfl)) (M2:=(aj ps).eraseIdx i) (hE hx))
theorem vS (ga:C1) (γ:Nat) (nm qn:CX) (it a C cc dd:C1) (i:Nat) (ps:List Pt) (e ef:Nat) (k0 k1 k2:Tok) (v1 v2:CX) (x:Pt) (hx:ps[i]?=some x) (h1:x.len < CZ):
  ae Z 5 (.b 8395602706694450420893107072773897535317608 ⟨[.ref ga],[]⟩)
   [(ga,aN γ nm qn),(it,aS a i),(a,aw dd (ah ps) e),(C,bY [en Z aK k0 (.ref it),en Z cF k1 v1,en Z bA k2 v2] ef)] (aj ps)
   (X:=Tok×Nat) (λξ=>True) (λy=>.ok (.ret (.int (.ofNat x.len) y.1)))
   (λy=>[aN γ nm qn,aS a (i+1),aw dd (ah ps) e,bY [en Z aK k0 (.ref it),en Z cF k1 (.str (S x.f) x.tf),en Z bA k2 (.str (S x.q) x.tq)] y.2]) (λξ=>[])
   (dg γ (aH Z (b0 Z 167 C cc it))) (dg γ (aH Z (b0 Z 167 C cc it))):=
 dF ga γ nm qn (bR.wider (bR.lay (E:=[x.e]) (vV it a C cc dd x.p i (ah ps) e ef k0 k1 k2 v1 v2 x.f x.q x.tf x.tq (eD hx) h1) (λξ=>rfl)) (M2:=(aj ps).eraseIdx i) (hE hx))
theorem s9 (ga:C1) (γ:Nat) (nm qn:CX) (it a C cc dd:C1) (i:Nat) (ps:List Pt) (e ef:Nat) (k0:Tok) (hx:ps.length≤i):
  ae Z 5 (.b 8395602706694450420893107072773897535317608 ⟨[.ref ga],[]⟩)
   [(ga,aN γ nm qn),(it,aS a i),(a,aw dd (ah ps) e),(C,bY [en Z aK k0 (.ref it)] ef)] (aj ps)
   (X:=Nat×C1×C1) (λξ=>True) (λy=>.error (.ref y.2.2))
   (λy=>[aN γ nm qn,eS i,aw dd (ah ps) e,bY [en Z aK k0 (.ref it)] y.1]) (λy=>[(y.2.1,⟨.type "tuple",none,.seq ⟨[]⟩ 0,#[]⟩),(y.2.2,bx y.2.1)])
   (dg γ (aH Z (bX Z 167 C cc it))) (λd=>d):=
 d0 ga γ nm qn (cP.wider (M2:=aj ps) (uS it a C cc dd i (ah ps) e ef k0 (by unfold ah;rw [C2];exact hx)) (.refl _))
theorem vg (ga:C1) (γ:Nat) (nm qn:CX) (it a C cc dd:C1) (i:Nat) (ps:List Pt) (e ef:Nat) (k0 k1 k2:Tok) (v1 v2:CX) (hx:ps.length≤i):
  ae Z 5 (.b 8395602706694450420893107072773897535317608 ⟨[.ref ga],[]⟩)
   [(ga,aN γ nm qn),(it,aS a i),(a,aw dd (ah ps) e),(C,bY [en Z aK k0 (.ref it),en Z cF k1 v1,en Z bA k2 v2] ef)] (aj ps)
   (X:=Nat×C1×C1) (λξ=>True) (λy=>.error (.ref y.2.2))
   (λy=>[aN γ nm qn,eS i,aw dd (ah ps) e,bY [en Z aK k0 (.ref it),en Z cF k1 v1,en Z bA k2 v2] y.1]) (λy=>[(y.2.1,⟨.type "tuple",none,.seq ⟨[]⟩ 0,#[]⟩),(y.2.2,bx y.2.1)])
   (dg γ (aH Z (b0 Z 167 C cc it))) (λd=>d):=
 d0 ga γ nm qn (cP.wider (M2:=aj ps) (wn it a C cc dd i (ah ps) e ef k0 k1 k2 v1 v2 (by unfold ah;rw [C2];exact hx)) (.refl _))
theorem nn (ga:C1) (γ:Nat) (nm qn:CX) (it a C cc dd:C1) (i:Nat) (ps:List Pt) (e ef:Nat) (k0:Tok) (x:Pt) (hx:ps[i]?=some x) (h1:x.len < CZ):
  ae Z 5 (.cb 8395602706694450420893107072773897535317608 ⟨[.ref ga],[]⟩)
   [(ga,aN γ nm qn),(it,aS a i),(a,aw dd (ah ps) e),(C,bY [en Z aK k0 (.ref it)] ef)] (aj ps)
   (X:=Tok×Tok×Tok×Nat) (λξ=>True) (λy=>.ok (.ret (.int (.ofNat x.len) y.1)))
   (λy=>[aN γ nm qn,aS a (i+1),aw dd (ah ps) e,bY [en Z aK k0 (.ref it),en Z cF y.2.1 (.str (S x.f) x.tf),en Z bA y.2.2.1 (.str (S x.q) x.tq)] y.2.2.2]) (λξ=>[])
   (dg γ (aH Z (bX Z 167 C cc it))) (dg γ (aH Z (b0 Z 167 C cc it))):=by
 refine ae.of_ccB (id:="generator.__next__") (by kernel_rfl) λrest A R d os hroom hR n t=>?_
 exists 1,aW,s8 ga γ nm qn it a C _ dd i ps e ef k0 x hx ‹_›,2,4369
 exists ar,(x1.1,x1.2.1,x1.2.2.1,x1.2.2.2),0,4369
theorem pX (ga:C1) (γ:Nat) (nm qn:CX) (it a C cc dd:C1) (i:Nat) (ps:List Pt) (e ef:Nat) (k0 k1 k2:Tok) (v1 v2:CX) (x:Pt) (hx:ps[i]?=some x) (h1:x.len < CZ):
  ae Z 5 (.cb 8395602706694450420893107072773897535317608 ⟨[.ref ga],[]⟩)
   [(ga,aN γ nm qn),(it,aS a i),(a,aw dd (ah ps) e),(C,bY [en Z aK k0 (.ref it),en Z cF k1 v1,en Z bA k2 v2] ef)] (aj ps)
   (X:=Tok×Nat) (λξ=>True) (λy=>.ok (.ret (.int (.ofNat x.len) y.1)))
   (λy=>[aN γ nm qn,aS a (i+1),aw dd (ah ps) e,bY [en Z aK k0 (.ref it),en Z cF k1 (.str (S x.f) x.tf),en Z bA k2 (.str (S x.q) x.tq)] y.2]) (λξ=>[])
   (dg γ (aH Z (b0 Z 167 C cc it))) (dg γ (aH Z (b0 Z 167 C cc it))):=by
 refine ae.of_ccB (id:="generator.__next__") (by kernel_rfl) λrest A R d os hroom hR n t=>?_
 exists 1,aW,vS ga γ nm qn it a C _ dd i ps e ef k0 k1 k2 v1 v2 x hx ‹_›,2,4369
 exists ar,(x1.1,x1.2),0,4369
theorem nh (ga:C1) (γ:Nat) (nm qn:CX) (it a C cc dd:C1) (i:Nat) (ps:List Pt) (e ef:Nat) (k0:Tok) (hx:ps.length≤i):
  ae Z 5 (.cb 8395602706694450420893107072773897535317608 ⟨[.ref ga],[]⟩)
   [(ga,aN γ nm qn),(it,aS a i),(a,aw dd (ah ps) e),(C,bY [en Z aK k0 (.ref it)] ef)] (aj ps)
   (X:=Nat×C1×C1) (λξ=>True) (λy=>.error (.ref y.2.2))
   (λy=>[aN γ nm qn,eS i,aw dd (ah ps) e,bY [en Z aK k0 (.ref it)] y.1]) (λy=>[(y.2.1,⟨.type "tuple",none,.seq ⟨[]⟩ 0,#[]⟩),(y.2.2,bx y.2.1)])
   (dg γ (aH Z (bX Z 167 C cc it))) (λd=>d):=by
 refine ae.of_ccB (id:="generator.__next__") (by kernel_rfl) λrest A R d os hroom hR n t=>?_
 exists 1,aW,s9 ga γ nm qn it a C _ dd i ps e ef k0 ‹_›,2,4369
 exists ar,(x1.1,x1.2.1,x1.2.2),0,1118481
theorem pO (ga:C1) (γ:Nat) (nm qn:CX) (it a C cc dd:C1) (i:Nat) (ps:List Pt) (e ef:Nat) (k0 k1 k2:Tok) (v1 v2:CX) (hx:ps.length≤i):
  ae Z 5 (.cb 8395602706694450420893107072773897535317608 ⟨[.ref ga],[]⟩)
   [(ga,aN γ nm qn),(it,aS a i),(a,aw dd (ah ps) e),(C,bY [en Z aK k0 (.ref it),en Z cF k1 v1,en Z bA k2 v2] ef)] (aj ps)
   (X:=Nat×C1×C1) (λξ=>True) (λy=>.error (.ref y.2.2))
   (λy=>[aN γ nm qn,eS i,aw dd (ah ps) e,bY [en Z aK k0 (.ref it),en Z cF k1 v1,en Z bA k2 v2] y.1]) (λy=>[(y.2.1,⟨.type "tuple",none,.seq ⟨[]⟩ 0,#[]⟩),(y.2.2,bx y.2.1)])
   (dg γ (aH Z (b0 Z 167 C cc it))) (λd=>d):=by
 refine ae.of_ccB (id:="generator.__next__") (by kernel_rfl) λrest A R d os hroom hR n t=>?_
 exists 1,aW,vg ga γ nm qn it a C _ dd i ps e ef k0 k1 k2 v1 v2 ‹_›,2,4369
 exists ar,(x1.1,x1.2.1,x1.2.2),0,1118481
theorem lg {ps:List Pt} {i:Nat} {x:Pt} (h:ps[i]?=some x):aT (ps.drop i)=x.len+aT (ps.drop (i+1)):=by
 obtain ⟨hi,e⟩:=Dg.mp h
 simp only [EY hi,e]
 unfold aT
 simp only [Dd,DC]
noncomputable abbrev Al (F:Fx) (ga:C1) (γ:Nat) (nm qn:CX) (it a C dd:C1) (ps:List Pt) (e i ef:Nat) (k0 k1 k2:Tok) (v1 v2:CX):ao:=
 [(ga,aN γ nm qn),(it,aS a i),(a,aw dd (ah ps) e),(C,bY [en F aK k0 (.ref it),en F cF k1 v1,en F bA k2 v2] ef)]
theorem uK (ga:C1) (γ:Nat) (nm qn:CX) (it a C cc dd st:C1) (ps:List Pt) (e:Nat) (k0 k1 k2:Tok):∀(m i:Nat) (hm:i+m=ps.length) (v1 v2:CX) (ef:Nat) (tot:Nat) (tt:Tok) (es:Nat) (ht:tot+aT (ps.drop i) < CZ),
  a7 Z 6 (.b 8174156937926964852 ⟨[.ref ga,.ref st,rawInt 0,rawInt 0],[]⟩)
   (Al Z ga γ nm qn it a C dd ps e i ef k0 k1 k2 v1 v2++[(st,aa [.int (.ofNat tot) tt] es)]) (aj ps)
   (X:=Tok) (λξ=>True) (λy=>.ok (.ret (.int (.ofNat (tot+aT (ps.drop i))) y)))
   (λξ=>[(a,aw dd (ah ps) e)])
   (dg γ (aH Z (b0 Z 167 C cc it))) (λd=>d):=by
 intro m
 induction m with
 | zero=>
  intro i hm v1 v2 ef tot tt es ht
  have hx:ps.length≤i:=by lia
  have e0:aT (ps.drop i)=0:=by rw [List.drop_eq_nil_of_le hx];rfl
  refine e0▸?_
  have S:=md (st:=st) (tot:=tot) (tt:=tt) (es:=es) (post':=λξ=>[(a,aw dd (ah ps) e)]) (DL (a:=(ga,aN γ nm qn))) rfl (by kernel_rfl) slot_gen_next (pO ga γ nm qn it a C cc dd i ps e ef k0 k1 k2 v1 v2 hx).toP (oe:=λx=>bx x.2.1) (λx ξ=>⟨Dp _ (.tail _ (.head _)),rfl⟩) (λx=>⟨[(ga,aN γ nm qn),(it,_),(C,_),(x.2.1,_),(x.2.2,_)],by
   refine (Ee _ (Ee _ ?_))
   exact DH (l₁:=[(a,aw dd (ah ps) e)]) (l₂:=[(C,_),(x.2.1,_),(x.2.2,_)])⟩)
  exact ⟨λc hc rest A R d os hr hR h g t hg D=>S.go c hc rest A R d os hr (λx h2 g2 t2 hp hg2 D2=>hR tt h2 g2 t2 trivial hg2 D2) h g t hg D⟩
 | succ m ih=>
  intro i hm v1 v2 ef tot tt es ht
  have hi:i < ps.length:=by lia
  obtain ⟨x,hx⟩:∃x,ps[i]?=some x:=⟨_,DB hi⟩
  have e0:=lg hx
  rw [e0] at ht ⊢
  have h1:x.len < CZ:=by lia
  refine jP (DL (a:=(ga,aN γ nm qn))) rfl (by kernel_rfl) slot_gen_next (by lia) (pX ga γ nm qn it a C cc dd i ps e ef k0 k1 k2 v1 v2 x hx h1).toP λy tk2 e2 ξ=>?_
  have:=ih (i+1) (by lia) (.str (S x.f) x.tf) (.str (S x.q) x.tq) y.2 (tot+x.len) tk2 e2 (by lia)
  rw [ER] at this
  exact this
theorem sE (ga:C1) (γ:Nat) (nm qn:CX) (it a C cc dd st:C1) (ps:List Pt) (e:Nat) (k0:Tok) (ef:Nat) (tot:Nat) (tt:Tok) (es:Nat) (ht:tot+aT ps < CZ):
  ae Z 6 (.b 8174156937926964852 ⟨[.ref ga,.ref st,rawInt 0,rawInt 0],[]⟩)
   [(a,aw dd (ah ps) e),(ga,aN γ nm qn),(it,aS a 0),(C,bY [en Z aK k0 (.ref it)] ef),(st,aa [.int (.ofNat tot) tt] es)] (aj ps)
   (X:=Tok) (λξ=>True) (λy=>.ok (.ret (.int (.ofNat (tot+aT ps)) y)))
   (λξ=>[aw dd (ah ps) e]) (λξ=>[])
   (dg γ (aH Z (bX Z 167 C cc it))) (λd=>d):=by
 refine a7.toR (post:=λξ=>[(a,aw dd (ah ps) e)]) (a7.pre (L:=[(ga,aN γ nm qn),(it,aS a 0),(a,aw dd (ah ps) e),(C,bY [en Z aK k0 (.ref it)] ef)]++[(st,aa [.int (.ofNat tot) tt] es)]) ?_ ?_) (λξ=>.refl _)
 ·cases hl:ps with
  | nil=>
   have S:=md (st:=st) (tot:=tot) (tt:=tt) (es:=es) (post':=λξ=>[(a,aw dd (ah []) e)]) (DL (a:=(ga,aN γ nm qn))) rfl (by kernel_rfl) slot_gen_next (nh ga γ nm qn it a C cc dd 0 [] e ef k0 (Dh _)).toP (oe:=λx=>bx x.2.1) (λx ξ=>⟨Dp _ (.tail _ (.head _)),rfl⟩) (λx=>⟨[(ga,aN γ nm qn),(it,_),(C,_),(x.2.1,_),(x.2.2,_)],by
    refine (Ee _ (Ee _ ?_))
    exact DH (l₁:=[(a,aw dd (ah []) e)]) (l₂:=[(C,_),(x.2.1,_),(x.2.2,_)])⟩)
   exact ⟨λc hc rest A R d os hr hR h g t hg D=>S.go c hc rest A R d os hr (λx h2 g2 t2 hp hg2 D2=>hR tt h2 g2 t2 trivial hg2 D2) h g t hg D⟩
  | cons x ps'=>
   have hx:ps[0]?=some x:=by rw [hl];rfl
   refine hl▸?_
   have e0:aT ps=x.len+aT (ps.drop 1):=lg hx
   have h1:x.len < CZ:=by lia
   rw [e0] at ht ⊢
   refine jP (DL (a:=(ga,aN γ nm qn))) rfl (by kernel_rfl) slot_gen_next (by lia) (nn ga γ nm qn it a C cc dd 0 ps e ef k0 x hx h1).toP λy tk2 e2 ξ=>?_
   have:=uK ga γ nm qn it a C cc dd st ps e k0 y.2.1 y.2.2.1 (ps.length - 1) 1 (by rw [hl];simp;lia) (.str (S x.f) x.tf) (.str (S x.q) x.tq) y.2.2.2 (tot+x.len) tk2 e2 (by lia)
   rw [ER] at this
   exact this
 ·refine (DH (l₁:=[(a,aw dd (ah ps) e)]) (l₂:=[(ga,aN γ nm qn),(it,_)])).append_right [(C,_),(st,_)] |>.trans ?_
  exact .refl _
end
section
open PyProof.Rows PySem PySem.Calls PySem.Spec PySem.W PySem.W.X
theorem oF:PySem.code "sum"=7239284:=by kernel_rfl
theorem wK {F:Fx} {k:Nat} {L M:ao} {X:Type} {P:X→Prop} {r:X→Dq} {post:X→ao} {D1 D2:Dr→Dr} (ga:C1) (γ:Nat) (nm qn:CX) (a:Int) (ta:Tok) (hfit:0≤a∧a < 16777216)
  (hga:(ga,aN γ nm qn)∈L)
  (next:∀st tk,a7 F k (.b 8174156937926964852 ⟨[.ref ga,.ref st,rawInt 0,rawInt 0],[]⟩) (L++[(st,aa [.int a tk] 0)]) M P r post D1 D2):
  a7 F k (.b 7239284 ⟨[.ref ga,.int a ta],[]⟩) L M P r post D1 D2:=by
 refine ⟨λc ⟨id',hc,hk⟩ rest A R d os hr hR h g t hg D=>?_⟩
 have e:id'="sum":=PySem.code_inj _ _ (hk.trans oF.symm)
 subst e
 refine hc▸?_
 have hig:h.IsGen ga γ:=⟨_,nm,qn,D.own (ga,aN γ nm qn) (C3 _ hga),rfl,rfl,rfl⟩
 refine DP PySem.F.entry_sum ?_
 rw [Dk.under_plainId PySem.F.plain_sum _]
 unfold Builtin.«sum»
 simp only [C5,De]
 rw [if_neg (by decide)]
 refine C0 (Es (show Builtin.Builtins.bindParams "sum" ["start"] 0 ⟨[CX.int a ta],[]⟩=pure [some (.int a ta)] from rfl) ?_)
 refine C0 (FJ hig ?_)
 have hc:(decide (-(2 ^ 63)≤a) && decide (a < 2 ^ 63))=true:=by
  simp only [Dt,decide_eq_true_eq]
  lia
 show wpAny _ A.in1 (if (_:Bool)=true then (rule "sum.start-copied" >>= _) else _) _ _ _
 split
 ·refine C0 (Fy (C0 (FY (C0 (Dc ?_)))))
  simp only [Ev,EF]
  refine C0 (C0 (C0 (Eh (T:="int") (b:=false) (typeIs_int _ _ _) PySem.sub_int_str ?_)))
  simp only [Eg,if_false]
  refine Dc (C0 (C0 (Eh (T:="int") (b:=false) (typeIs_int _ _ _) PySem.sub_int_bytes ?_)))
  simp only [Eg,if_false]
  refine Dc (C0 (C0 (Eh (T:="int") (b:=false) (typeIs_int _ _ _) PySem.sub_int_bytearray ?_)))
  simp only [Eg,if_false]
  refine Dc (Dc ?_)
  refine C0 (DU ?_)
  have D':=D.alloc (o:=aa [.int a t] 0) rfl
  refine Dc ⟨plainId_quiet PySem.F.plain_sum_loop _,(next h.objs.size t).go _ ⟨"sum.loop",rfl,cR⟩ rest A R d os hr hR _ g _ hg (D'.perm ?_)⟩
  simp only [C6]
  exact (Dn (a:=(h.objs.size,aa [.int a t] 0)) (l₁:=L) (l₂:=M++rest)).symm
 ·rename_i hneg
  exact absurd hc hneg
end
section
open PySem PySem.W PySem.W.X
theorem ro (ga:C1) (γ:Nat) (nm qn:CX) (it a C cc dd:C1) (ps:List Pt) (e:Nat) (k0:Tok) (ef:Nat) (i:Nat) (ti:Tok) (ht:i+aT ps < CZ):
  ae Z 6 (.b 7239284 ⟨[.ref ga,.int (.ofNat i) ti],[]⟩)
   [(a,aw dd (ah ps) e),(ga,aN γ nm qn),(it,aS a 0),(C,bY [en Z aK k0 (.ref it)] ef)] (aj ps)
   (X:=Tok) (λξ=>True) (λy=>.ok (.ret (.int (.ofNat (i+aT ps)) y)))
   (λξ=>[aw dd (ah ps) e]) (λξ=>[])
   (dg γ (aH Z (bX Z 167 C cc it))) (λd=>d):=
 a7.toR (post:=λξ=>[(a,aw dd (ah ps) e)]) (wK ga γ nm qn (C4 i) ti ⟨EL _,by have:=ab;show (i:Int) < 16777216;lia⟩ (.tail _ (.head _)) λst tk=>(sE ga γ nm qn it a C cc dd st ps e k0 ef i tk 0 ht).toP) (λξ=>.refl _)
theorem sV (a dd:C1) (ps:List Pt) (e:Nat) (k:Tok) (i:Nat) (ti:Tok) (de:Nat) (hz:i+aT ps < CZ):
  ae Z 8 (.o (.call (.ref 167) ⟨[.ref a],[]⟩)) [(a,aw dd (ah ps) e),(dd,dO Z k i ti de)] (aj ps) (X:=Tok) (λξ=>True) (λt=>.ok (.ret (.int (.ofNat (i+aT ps)) t)))
   (λt=>[aw dd (ah ps) e,dO Z k i ti de]) (λt=>[]):=by
 exists 1,ae.of_defB
 have hz2:(C4 i < 2 ^ 62):=by have:=ab;show (i:Int) < 2 ^ 62;lia
 refine Bi hroom.handled (162,101,19) (by kernel_rfl) (n+1+1+1+1) (dec 0x9a11434411611211112111251111451) 2 (λF=>bX F 167 (n+1+1+1+1+1) (n+1+1+1+1) (n+1)) (dec 0x6711411611211112111251111451) 2 (λF cc=>bX F 167 (n+1+1) cc (n+1)) ?_ ?_ (by kernel_rfl) (λcc=>by kernel_rfl)
 ·intro γ cf
  exists 1,cT,(ro (n+1+1+1+1+1+1) γ (.str (S [60,103,101,110,101,120,112,114,62]) (t+1+1+1+1+1+1+1)) (.str (S [95,65,99,99,117,109,117,108,97,116,111,114,46,95,95,108,101,110,95,95,46,60,108,111,99,97,108,115,62,46,60,103,101,110,101,120,112,114,62]) (t+1+1+1+1+1+1+1+1)) (n+1) a (n+1+1+1+1+1) _ dd ps e (t+1+1+1+1+1+1) (0+1) i ti ‹_›).up rfl,0x131221112112111111124,25473
  exists ar,x1,0,17
 ·intro cc γ cf
  exists 1,cT,(ro (n+1+1+1) γ (.str (S [60,103,101,110,101,120,112,114,62]) (t+1+1)) (.str (S [95,65,99,99,117,109,117,108,97,116,111,114,46,95,95,108,101,110,95,95,46,60,108,111,99,97,108,115,62,46,60,103,101,110,101,120,112,114,62]) (t+1+1+1)) (n+1) a (n+1+1) _ dd ps e (t+1) (0+1) i ti ‹_›).up rfl,0x131221112112111111124,13137
  exists ar,x1,0,17
end
section
open PyProof.Rows PySem PySem.Calls PySem.Spec PySem.W PySem.W.X
theorem ip:PySem.code "list.extend.loop"=150786581052265140416522592343328844397:=by kernel_rfl
theorem e9:PySem.code "proto.collect"=9300767342341403084508581884785:=by kernel_rfl
theorem iP:PySem.code "str.join"=8028352891401237876:=by kernel_rfl
theorem oH {F:Fx} {k:Nat} {L M:ao} {X Y:Type} {P:X→Prop} {P':Y→Prop} {v:X→CX} {post:X→ao} {r':Y→Dq} {post':Y→ao} {D1 D2 D3:Dr→Dr} {T id:String} {N:Nat} {I st:C1} {oI:Obj} {acc:List CX} {es:Nat} {res:CX}
  (hI:(I,oI)∈L) (hoI:oI.cls=.type T) (hN:PySem.code id=N) (slot:Slot T (Str.ofString "__next__") id) (hfit:acc.length < CZ)
  (SN:a7 F k (.cb N ⟨[.ref I],[]⟩) L M P (λx=>.ok (.ret (v x))) post D1 D2)
  (next:∀x,P x→a7 F (k+1) (.b 150786581052265140416522592343328844397 ⟨[.ref st,.ref I,res],[]⟩) (post x++[(st,aa (acc++[v x]) (es+1))]) M P' r' post' D2 D3):
  a7 F (k+1) (.b 150786581052265140416522592343328844397 ⟨[.ref st,.ref I,res],[]⟩) (L++[(st,aa acc es)]) M P' r' post' D1 D3:=by
 refine ⟨λc ⟨id',hc,hk⟩ rest A R d os hr hR h g t hg D=>?_⟩
 have e:id'="list.extend.loop":=PySem.code_inj _ _ (hk.trans ip.symm)
 subst e
 rw [hc]
 have hT:Df.TypeIs ⟨h,g,(D1 d).d,t,os⟩ (.ref I) T:=⟨oI,D.own (I,oI) (C3 _ (C3 _ hI)),hoI⟩
 refine DP PySem.F.entry_extend_loop ?_
 refine (Dk.under_plainId PySem.F.plain_extend_loop _)▸?_
 show wpAny _ A.in1 (pyNext (.ref I) >>= _) _ _ _
 refine C0 (cA hT slot ?_)
 have D':d5 F h (L++(M++((st,aa acc es)::rest))):=D.perm (by
  rw [C6]
  refine C7 _ ?_
  exact (Dn (a:=(st,aa acc es)) (l₁:=M) (l₂:=rest)).symm)
 refine SN.go (.call (.builtin id) ⟨[.ref I],[]⟩) ⟨id,rfl,hN⟩ ((st,aa acc es)::rest) A.in1 _ d os hr.in1 ?_ h g t hg D'
 intro x h' g' t' hp hg' D2
 have hS':h'.get? st=some (aa acc es):=D2.own (st,_) (Dp _ (Dp _ (.head _)))
 refine C0 ?_
 have D3:d5 F h' ([(st,aa acc es)]++(post x++(M++rest))):=D2.perm (by
  refine (C7 _ Dn).trans ?_
  exact Dn)
 have D4:=D3.update (i:=0) (f:=Obj.mapSeq (·.push (v x))) rfl rfl
 refine EC hS' rfl (Dc ⟨plainId_quiet PySem.F.plain_extend_loop _,(next x hp).go _ ⟨"list.extend.loop",rfl,ip⟩ rest A R d os hr hR _ g' _ hg' (D4.perm ?_)⟩) (by show acc.length≤CZ;exact Ef ‹_›) (by show (Array.push ⟨acc⟩ (v x)).size≤CZ+1;rw [E2];show acc.length+1≤_;lia)
 have e5:bm [(st,aa acc es)] 0 (Obj.mapSeq (·.push (v x)) (aa acc es))=[(st,aa (acc++[v x]) (es+1))]:=by
  simp [bm,Obj.mapSeq,aa]
 simp only [e5,C6 (post x)]
 exact Do _ _ _
theorem rB {F:Fx} {k:Nat} {L M:ao} {X:Type} {P:X→Prop} {ev:X→C1} {oe:X→Obj} {post:X→ao} {D1 D2:Dr→Dr} {T id:String} {N:Nat} {I st:C1} {oI:Obj} {acc:List CX} {es:Nat} {res:CX}
  (hI:(I,oI)∈L) (hoI:oI.cls=.type T) (hN:PySem.code id=N) (slot:Slot T (Str.ofString "__next__") id)
  (SN:a7 F k (.cb N ⟨[.ref I],[]⟩) L M P (λx=>.error (.ref (ev x))) post D1 D2) (he:∀x,P x→(ev x,oe x)∈post x∧(oe x).cls=.type "StopIteration"):
  a7 F (k+1) (.b 150786581052265140416522592343328844397 ⟨[.ref st,.ref I,res],[]⟩) (L++[(st,aa acc es)]) M P (λξ=>.ok (.ret res)) (λx=>post x++[(st,aa acc es)]) D1 D2:=by
 refine ⟨λc ⟨id',hc,hk⟩ rest A R d os hr hR h g t hg D=>?_⟩
 have e:id'="list.extend.loop":=PySem.code_inj _ _ (hk.trans ip.symm)
 subst e
 rw [hc]
 have hT:Df.TypeIs ⟨h,g,(D1 d).d,t,os⟩ (.ref I) T:=⟨oI,D.own (I,oI) (C3 _ (C3 _ hI)),hoI⟩
 refine DP PySem.F.entry_extend_loop ?_
 refine (Dk.under_plainId PySem.F.plain_extend_loop _)▸?_
 show wpAny _ A.in1 (pyNext (.ref I) >>= _) _ _ _
 refine C0 (cA hT slot ?_)
 have D':d5 F h (L++(M++((st,aa acc es)::rest))):=D.perm (by
  rw [C6]
  refine C7 _ ?_
  exact (Dn (a:=(st,aa acc es)) (l₁:=M) (l₂:=rest)).symm)
 refine SN.go (.call (.builtin id) ⟨[.ref I],[]⟩) ⟨id,rfl,hN⟩ ((st,aa acc es)::rest) A.in1 _ d os hr.in1 ?_ h g t hg D'
 intro x h' g' t' hp hg' D2
 obtain ⟨he1,he2⟩:=he x hp
 refine ⟨⟨oe x,D2.own _ (C3 _ he1),he2⟩,?_⟩
 refine Dc (hR x h' g' t' hp hg' (D2.perm ?_))
 simp only [C6]
 exact C7 _ Dn
theorem oc {F:Fx} {k:Nat} {L M:ao} {X:Type} {P:X→Prop} {post:C1→X→ao} {D1 D2:Dr→Dr} (ga:C1) (γ:Nat) (nm qn:CX) (hga:(ga,aN γ nm qn)∈L)
  (next:∀st es,a7 F k (.b 150786581052265140416522592343328844397 ⟨[.ref st,.ref ga,.ref st],[]⟩) (L++[(st,aa [] es)]) M P (λξ=>.ok (.ret (.ref st))) (post st) D1 D2):
  a7 F k (.b 9300767342341403084508581884785 ⟨[.ref ga],[]⟩) L M (X:=C1×X) (λx=>P x.2) (λx=>.ok (.ret (.ref x.1))) (λx=>post x.1 x.2) D1 D2:=by
 refine ⟨λc ⟨id',hc,hk⟩ rest A R d os hr hR h g t hg D=>?_⟩
 have e:id'="proto.collect":=PySem.code_inj _ _ (hk.trans e9.symm)
 subst e
 rw [hc]
 have D1':=D.alloc (o:=aa [] 0) rfl
 have hga':=D.own (ga,aN γ nm qn) (C3 _ hga)
 have hne:h.objs.size≠ga:=λe=>absurd (Heap.lt_size hga') (by simp only [e];exact FF _)
 refine DP PySem.F.entry_proto_collect ?_
 have h2:(CX.type "generator" == CX.type "list")=false:=by decide
 have h1:Builtin.List.listSameRef (.ref h.objs.size) (.ref ga)=false:=by simp [Builtin.List.listSameRef,hne]
 simp only [Dk.under_plainId PySem.F.plain_proto_collect _]
 show wpAny _ A.in1 (newList [] >>= λl=>again (.builtin "list.__iadd__" ⟨[l,.ref ga],[]⟩)) _ _ _
 refine C0 (DU ?_)
 have hS₁:(h.push (aa [] 0)).get? h.objs.size=some (aa [] 0):=D1'.own (h.objs.size,_) (.head _)
 have hga1:=D1'.own (ga,aN γ nm qn) (.tail _ (C3 _ hga))
 have D2':=bq.update (L:=[(h.objs.size,aa [] 0)]) (rest:=L++(M++rest)) D1' (i:=0) (f:=Obj.mapSeq (·.push CX.none)) rfl rfl
 have hS₂:=D2'.own (h.objs.size,_) (.head _)
 have D3':=bq.update (L:=[(h.objs.size,aa [.none] 1)]) (rest:=L++(M++rest)) D2' (i:=0) (f:=Obj.mapSeq (·.pop)) rfl rfl
 have e3:bm [(h.objs.size,aa [.none] 1)] 0 (Obj.mapSeq (·.pop) (aa [.none] 1))=[(h.objs.size,aa [] 2)]:=by simp [bm,Obj.mapSeq,aa]
 have hig:(h.push (aa [] 0)).IsGen ga γ:=⟨_,nm,qn,hga1,rfl,rfl,rfl⟩
 refine Dc ⟨plainId_quiet PySem.F.plain_list_iadd _,DP PySem.F.entry_list_iadd ?_⟩
 simp only [Dk.under_plainId PySem.F.plain_list_iadd _]
 show wpAny _ A.in1 (Builtin.List.listExtendWith (.ref h.objs.size) (.ref ga) (.ref h.objs.size)) _ _ _
 have hT:∀(t':Nat) (g':Array GenState),Df.TypeIs ⟨h.push (aa [] 0),g',(D1 d).d,t',os⟩ (.ref ga) "generator":=λξ ξ=>⟨_,hga1,rfl⟩
 refine C0 (Ft (hT _ _) ?_)
 have h3:(CX.type "generator" == CX.type "tuple")=false:=by decide
 simp only [h1,h2,h3,GF,Eg,if_false]
 refine C0 (FJ hig ?_)
 refine C0 (Ej ?_)
 refine C0 (Fm (hT _ _) PySem.F.gen_no_len ?_)
 refine C0 (Fm (hT _ _) PySem.F.gen_no_hint ?_)
 refine Dc ?_
 refine C0 (Fy ?_)
 refine C0 ?_
 show wpAny _ A.in1 (updateSeq h.objs.size (·.push .none) >>= λξ=>updateSeq h.objs.size (·.pop)) _ _ _
 refine C0 (EC hS₁ rfl ?_)
 have e2:bm [(h.objs.size,aa [] 0)] 0 (Obj.mapSeq (·.push CX.none) (aa [] 0))=[(h.objs.size,aa [.none] 1)]:=by simp [bm,Obj.mapSeq,aa]
 simp only [e2] at D2'
 refine EC hS₂ rfl ?_
 simp only [e3] at D3'
 refine Dc ⟨plainId_quiet PySem.F.plain_extend_loop _,(next h.objs.size 2).go _ ⟨"list.extend.loop",rfl,ip⟩ rest A R d os hr (λx h' g' t' hp hg' D'=>hR (h.objs.size,x) h' g' t' hp hg' D') _ g _ hg (D3'.perm ?_)⟩
 simp only [C6]
 exact (Dn (a:=(h.objs.size,aa [] 2)) (l₁:=L) (l₂:=M++rest)).symm
noncomputable def al (l:List (List Nat×Tok)):List CX:=l.map λp=>.str (S p.1) p.2
noncomputable def ap (sep:List Nat):List (List Nat)→List Nat
 | []=>[]
 | [x]=>x
 | x::y::r=>x++sep++ap sep (y::r)
theorem uF (sep:List Nat):∀ts:List (List Nat),Str.join (S sep) (ts.map S)=S (ap sep ts)
 | []=>rfl
 | [x]=>rfl
 | x::y::r=>by
  show S x++S sep++Str.join (S sep) ((y::r).map S)=_
  simp only [uF sep (y::r),nQ,nQ]
  rfl
noncomputable def fF (l:List (List Nat×Tok)):List (Str×Tok):=l.map λp=>(S p.1,p.2)
theorem my (l:List (List Nat×Tok)):strValues (fF l)=al l:=by
 delta strValues fF al
 rw [DV]
 rfl
theorem l6 (l:List (List Nat×Tok)):(fF l).map (·.1)=(l.map (·.1)).map S:=by
 unfold fF
 simp only [DV,DV]
 rfl
theorem rz:∀ts:List (List Nat),((ts.map S).map (·.length)).sum=(ts.map (·.length)).sum
 | []=>rfl
 | x::r=>by
  simp only [Dd,DC]
  rw [rz r];rfl
theorem gu {sep:List Nat} {l:List (List Nat×Tok)} (hz:((l.map (·.1)).map (·.length)).sum+l.length * sep.length≤CZ):PySem.Builtin.Str.tooLong (((fF l).map (·.1)).toArray.foldl (·+·.length+(S sep).length) 0)=false:=by
 rw [l6,StrLaws.joinTotal,rz]
 unfold PySem.Builtin.Str.tooLong
 refine decide_eq_false ?_
 have e:((l.map (·.1)).map S).length=l.length:=by simp
 rw [e]
 exact EJ.mpr hz
theorem o9 {sep:List Nat} {l:List (List Nat×Tok)} (hz:((l.map (·.1)).map (·.length)).sum+l.length * sep.length≤CZ):Gives (PySem.joinTail (S sep) (al l)) (joinMade (S sep) (fF l)):=by
 have g0:=gives_joinTail (S sep) (fF l) (gu hz)
 rw [my] at g0
 cases l with
 | nil=>exact g0
 | cons p r=>cases r with
  | nil=>exact g0
  | cons q r'=>exact g0
theorem iL {sep:List Nat} {l:List (List Nat×Tok)} {s:Df} {Q:CX→Df→Prop} (hz:((l.map (·.1)).map (·.length)).sum+l.length * sep.length≤CZ) (h:∀t' k,Q (.str (S (ap sep (l.map (·.1)))) t') {s with toks:=k}):(joinMade (S sep) (fF l)).post Q s:=by
 have e:Txt.join (S sep) ((fF l).map (·.1))=S (ap sep (l.map (·.1))):=by
  show Builtin.Str.glued (S sep) _=_
  simp only [StrLaws.glued_eq_join,l6,uF]
 have x:=post_join (s:=s) (Q:=Q) (sep:=S sep) (fF l) ⟨joinFit_length (gu hz),λt' k=>by rw [e];exact h t' k⟩
 clear hz
 cases l with
 | nil=>exact x
 | cons p r=>cases r with
  | nil=>exact x
  | cons q r'=>exact x
theorem dt {F:Fx} {k:Nat} (sep:List Nat) (ts:Tok) (a:C1) (l:List (List Nat×Tok)) (e:Nat) (hz:((l.map (·.1)).map (·.length)).sum+l.length * sep.length≤CZ):
  af F k (.b 8028352891401237876 ⟨[.str (S sep) ts,.ref a],[]⟩) [(a,⟨.type "list",none,.seq ⟨al l⟩ e,#[]⟩)] (X:=Tok) (λξ=>True) (λt=>.ok (.ret (.str (S (ap sep (l.map (·.1)))) t))) (λξ=>[⟨.type "list",none,.seq ⟨al l⟩ e,#[]⟩]) (λξ=>[]):=by
 refine af.of_b (id:="str.join") iP PySem.F.entry_str_join (by decide+kernel) λrest A R d os hr hR h g t hg D=>?_
 have ha:h.get? a=some ⟨.type "list",none,.seq ⟨al l⟩ e,#[]⟩:=D.own (a,_) (C3 _ (.head _))
 exact meets_str_join_list (S sep) ts a (fF l) (gu hz) F.prog F.w A R ⟨h,g,d.d,t,os⟩ ⟨⟨_,ha,rfl,e,by rw [my]⟩,iL hz λt' k=>hR t' h g k trivial hg D⟩
theorem js {F:Fx} {k:Nat} (sep:List Nat) (ts:Tok) (a:C1) (l:List (List Nat×Tok)) (e:Nat) (hz:((l.map (·.1)).map (·.length)).sum+l.length * sep.length≤CZ):
  af F k (.b 8028352891401237876 ⟨[.str (S sep) ts,.ref a],[]⟩) [(a,⟨.type "tuple",none,.seq ⟨al l⟩ e,#[]⟩)] (X:=Tok) (λξ=>True) (λt=>.ok (.ret (.str (S (ap sep (l.map (·.1)))) t))) (λξ=>[⟨.type "tuple",none,.seq ⟨al l⟩ e,#[]⟩]) (λξ=>[]):=by
 refine af.of_b (id:="str.join") iP PySem.F.entry_str_join (by decide+kernel) λrest A R d os hr hR h g t hg D=>?_
 have ha:h.get? a=some ⟨.type "tuple",none,.seq ⟨al l⟩ e,#[]⟩:=D.own (a,_) (C3 _ (.head _))
 exact meets_str_join_tuple (S sep) ts a (fF l) (gu hz) F.prog F.w A R ⟨h,g,d.d,t,os⟩ ⟨⟨_,e,ha,rfl,by rw [my]⟩,iL hz λt' k=>hR t' h g k trivial hg D⟩
theorem jQ {F:Fx} {k:Nat} (ts:Tok) (a:C1) (x y:List Nat) (tx ty:Tok) (e:Nat) (hz:x.length+y.length≤CZ):
  af F k (.b 8028352891401237876 ⟨[.str (S []) ts,.ref a],[]⟩) [(a,⟨.type "tuple",none,.seq ⟨[.str (S x) tx,.str (S y) ty]⟩ e,#[]⟩)] (X:=Tok) (λξ=>True) (λt=>.ok (.ret (.str (S (x++y)) t))) (λξ=>[⟨.type "tuple",none,.seq ⟨[.str (S x) tx,.str (S y) ty]⟩ e,#[]⟩]) (λξ=>[]):=by
 have:=js (F:=F) (k:=k) [] ts a [(x,tx),(y,ty)] e (by simpa using hz)
 have e:ap [] ([(x,tx),(y,ty)].map (·.1))=x++y:=by show x++[]++y=x++y;rw [Dm]
 rw [e] at this
 exact this
theorem uk {F:Fx} {k:Nat} {L M:ao} {X:Type} {P:X→Prop} {l:X→List (List Nat×Tok)} {st:X→C1} {es:X→Nat} {post:X→ao} {D1 D2:Dr→Dr} (ga:C1) (γ:Nat) (nm qn:CX) (hga:(ga,aN γ nm qn)∈L) (sep:List Nat) (ts:Tok) (texts:List (List Nat))
  (hz:(texts.map (·.length)).sum+texts.length * sep.length≤CZ)
  (coll:a7 F k (.b 9300767342341403084508581884785 ⟨[.ref ga],[]⟩) L M P (λx=>.ok (.ret (.ref (st x)))) post D1 D2)
  (hl:∀x,P x→(l x).map (·.1)=texts∧(st x,aa (al (l x)) (es x))∈post x):
  a7 F (k+1) (.b 8028352891401237876 ⟨[.str (S sep) ts,.ref ga],[]⟩) L M (X:=X×Tok) (λx=>P x.1) (λx=>.ok (.ret (.str (S (ap sep texts)) x.2))) (λx=>post x.1) D1 D2:=by
 refine ⟨λc ⟨id',hc,hk⟩ rest A R d os hr hR h g t hg D=>?_⟩
 have e:id'="str.join":=PySem.code_inj _ _ (hk.trans iP.symm)
 subst e
 rw [hc]
 have hga':=D.own (ga,aN γ nm qn) (C3 _ hga)
 have hig:h.IsGen ga γ:=⟨_,nm,qn,hga',rfl,rfl,rfl⟩
 refine DP PySem.F.entry_str_join ?_
 rw [Dk.under_plainId (by decide+kernel:plainId "str.join"=true) _]
 rw [join_tree_other]
 refine C0 (Ft (T:="generator") ⟨_,hga',rfl⟩ ?_)
 refine C0 (Fw (FJ hig ?_))
 refine C0 (C0 (wpAny_runValue ?_))
 refine coll.go _ ⟨"proto.collect",rfl,e9⟩ rest A.in1 _ d os hr.in1 ?_ h g t hg D
 intro x h' g' t' hp hg' D2
 obtain ⟨hl1,hl2⟩:=hl x hp
 have hst:=D2.own _ (C3 _ hl2)
 refine C0 (F7 hst ?_)
 refine Dc ?_
 have hz':(((l x).map (·.1)).map (·.length)).sum+(l x).length * sep.length≤CZ:=by
  have e:(l x).length=texts.length:=by simp only [←hl1,C2]
  refine hl1▸e▸?_;exact hz
 refine o9 hz' F.prog F.w A R _ (iL hz' λt2 k2=>?_)
 refine hl1▸?_
 exact hR (x,t2) h' g' k2 hp hg' D2
end
section
open PySem PySem.W PySem.W.X
theorem r9 (it a C cc dd p:C1) (i:Nat) (xs:List CX) (e ef:Nat) (k0:Tok) (f q:List Nat) (tf tq:Tok) (hi:xs[i]?=some (.ref p)) (h1:f.length+q.length < CZ):
  bR Z 4 (bX Z 174 C cc it) (b0 Z 174 C cc it)
   ([(it,aS a i),(a,aw dd xs e),(C,bY [en Z aK k0 (.ref it)] ef)]++[(p,an f tf q tq)]) []
   (X:=Tok×Tok×Tok×Nat) (λξ=>True) (λx=>.str (S (f++q)) x.1)
   (λx=>[aS a (i+1),aw dd xs e,bY [en Z aK k0 (.ref it),en Z cF x.2.1 (.str (S f) tf),en Z bA x.2.2.1 (.str (S q) tq)] x.2.2.2]++[an f tf q tq]) (λξ=>[]):=by
 refine bR.of_codeB λrest A Pst d os hroom hR n t=>?_
 refine qy hroom (cE it a i (.ref 200) (some dd) #[] xs e (.ref p) hi) (dec 0x2121212122) (dec 8481) [0,0] ?_ (by kernel_rfl)
 intro cf1 x1 n1 t1 p1
 exists 2,jQ 321 (n1+1+1+1) f q tf tq 0 (by exact Ef ‹_›),0x14413434856566161656566161656566161661515552,8
 exact mT hroom hR (x2,t1,t1+1,ef+1+1) [] (dec 8738) 20 (by kernel_rfl) (by kernel_rfl) (by trivial)
theorem vc (it a C cc dd p:C1) (i:Nat) (xs:List CX) (e ef:Nat) (k0 k1 k2:Tok) (v1 v2:CX) (f q:List Nat) (tf tq:Tok) (hi:xs[i]?=some (.ref p)) (h1:f.length+q.length < CZ):
  bR Z 4 (b0 Z 174 C cc it) (b0 Z 174 C cc it)
   ([(it,aS a i),(a,aw dd xs e),(C,bY [en Z aK k0 (.ref it),en Z cF k1 v1,en Z bA k2 v2] ef)]++[(p,an f tf q tq)]) []
   (X:=Tok×Nat) (λξ=>True) (λx=>.str (S (f++q)) x.1)
   (λx=>[aS a (i+1),aw dd xs e,bY [en Z aK k0 (.ref it),en Z cF k1 (.str (S f) tf),en Z bA k2 (.str (S q) tq)] x.2]++[an f tf q tq]) (λξ=>[]):=by
 refine bR.of_codeB λrest A Pst d os hroom hR n t=>?_
 exists 1,cE it a i (.ref 200) (some dd) #[] xs e (.ref p) hi,530,17
 exists 2,jQ 321 (n1+1+1+1) f q tf tq 0 (by exact Ef ‹_›),0x14413434856566161656566161656566161661515552,8
 exact mT hroom hR (x2,ef) [] (dec 8738) 20 (by kernel_rfl) (by kernel_rfl) (by trivial)
theorem u0 (it a C cc dd:C1) (i:Nat) (xs:List CX) (e ef:Nat) (k0:Tok) (hi:xs.length≤i):
  cP Z 4 (bX Z 174 C cc it)
   [(it,aS a i),(a,aw dd xs e),(C,bY [en Z aK k0 (.ref it)] ef)] []
   (X:=Nat) (λξ=>True)
   (λx=>[eS i,aw dd xs e,bY [en Z aK k0 (.ref it)] x]) (λξ=>[]):=by
 refine cP.of_codeB λrest A Pst d os hroom hR n t=>?_
 refine qy hroom (bQ it a i (.ref 200) (some dd) #[] xs e ‹_›) (dec 0x2121212122) (dec 8481) [0,0] ?_ (by kernel_rfl)
 intro cf1 x1 n1 t1 p1
 exists ar,ef,5,785
theorem xT (it a C cc dd:C1) (i:Nat) (xs:List CX) (e ef:Nat) (k0 k1 k2:Tok) (v1 v2:CX) (hi:xs.length≤i):
  cP Z 4 (b0 Z 174 C cc it)
   [(it,aS a i),(a,aw dd xs e),(C,bY [en Z aK k0 (.ref it),en Z cF k1 v1,en Z bA k2 v2] ef)] []
   (X:=Nat) (λξ=>True)
   (λx=>[eS i,aw dd xs e,bY [en Z aK k0 (.ref it),en Z cF k1 v1,en Z bA k2 v2] x]) (λξ=>[]):=by
 refine cP.of_codeB λrest A Pst d os hroom hR n t=>?_
 exists 1,bQ it a i (.ref 200) (some dd) #[] xs e ‹_›,530,17
 exists ar,ef,5,785
theorem sd (ga:C1) (γ:Nat) (nm qn:CX) (it a C cc dd:C1) (i:Nat) (ps:List Pt) (e ef:Nat) (k0:Tok) (x:Pt) (hx:ps[i]?=some x) (h1:x.len < CZ):
  ae Z 5 (.b 8395602706694450420893107072773897535317608 ⟨[.ref ga],[]⟩)
   [(ga,aN γ nm qn),(it,aS a i),(a,aw dd (ah ps) e),(C,bY [en Z aK k0 (.ref it)] ef)] (aj ps)
   (X:=Tok×Tok×Tok×Nat) (λξ=>True) (λy=>.ok (.ret (.str (S x.text) y.1)))
   (λy=>[aN γ nm qn,aS a (i+1),aw dd (ah ps) e,bY [en Z aK k0 (.ref it),en Z cF y.2.1 (.str (S x.f) x.tf),en Z bA y.2.2.1 (.str (S x.q) x.tq)] y.2.2.2]) (λξ=>[])
   (dg γ (aH Z (bX Z 174 C cc it))) (dg γ (aH Z (b0 Z 174 C cc it))):=
 dF ga γ nm qn (bR.wider (bR.lay (E:=[x.e]) (r9 it a C cc dd x.p i (ah ps) e ef k0 x.f x.q x.tf x.tq (eD hx) h1) (λξ=>rfl)) (M2:=(aj ps).eraseIdx i) (hE hx))
theorem vH (ga:C1) (γ:Nat) (nm qn:CX) (it a C cc dd:C1) (i:Nat) (ps:List Pt) (e ef:Nat) (k0 k1 k2:Tok) (v1 v2:CX) (x:Pt) (hx:ps[i]?=some x) (h1:x.len < CZ):
  ae Z 5 (.b 8395602706694450420893107072773897535317608 ⟨[.ref ga],[]⟩)
   [(ga,aN γ nm qn),(it,aS a i),(a,aw dd (ah ps) e),(C,bY [en Z aK k0 (.ref it),en Z cF k1 v1,en Z bA k2 v2] ef)] (aj ps)
   (X:=Tok×Nat) (λξ=>True) (λy=>.ok (.ret (.str (S x.text) y.1)))
   (λy=>[aN γ nm qn,aS a (i+1),aw dd (ah ps) e,bY [en Z aK k0 (.ref it),en Z cF k1 (.str (S x.f) x.tf),en Z bA k2 (.str (S x.q) x.tq)] y.2]) (λξ=>[])
   (dg γ (aH Z (b0 Z 174 C cc it))) (dg γ (aH Z (b0 Z 174 C cc it))):=
 dF ga γ nm qn (bR.wider (bR.lay (E:=[x.e]) (vc it a C cc dd x.p i (ah ps) e ef k0 k1 k2 v1 v2 x.f x.q x.tf x.tq (eD hx) h1) (λξ=>rfl)) (M2:=(aj ps).eraseIdx i) (hE hx))
theorem rX (ga:C1) (γ:Nat) (nm qn:CX) (it a C cc dd:C1) (i:Nat) (ps:List Pt) (e ef:Nat) (k0:Tok) (hx:ps.length≤i):
  ae Z 5 (.b 8395602706694450420893107072773897535317608 ⟨[.ref ga],[]⟩)
   [(ga,aN γ nm qn),(it,aS a i),(a,aw dd (ah ps) e),(C,bY [en Z aK k0 (.ref it)] ef)] (aj ps)
   (X:=Nat×C1×C1) (λξ=>True) (λy=>.error (.ref y.2.2))
   (λy=>[aN γ nm qn,eS i,aw dd (ah ps) e,bY [en Z aK k0 (.ref it)] y.1]) (λy=>[(y.2.1,⟨.type "tuple",none,.seq ⟨[]⟩ 0,#[]⟩),(y.2.2,bx y.2.1)])
   (dg γ (aH Z (bX Z 174 C cc it))) (λd=>d):=
 d0 ga γ nm qn (cP.wider (M2:=aj ps) (u0 it a C cc dd i (ah ps) e ef k0 (by unfold ah;rw [C2];exact hx)) (.refl _))
theorem tT (ga:C1) (γ:Nat) (nm qn:CX) (it a C cc dd:C1) (i:Nat) (ps:List Pt) (e ef:Nat) (k0 k1 k2:Tok) (v1 v2:CX) (hx:ps.length≤i):
  ae Z 5 (.b 8395602706694450420893107072773897535317608 ⟨[.ref ga],[]⟩)
   [(ga,aN γ nm qn),(it,aS a i),(a,aw dd (ah ps) e),(C,bY [en Z aK k0 (.ref it),en Z cF k1 v1,en Z bA k2 v2] ef)] (aj ps)
   (X:=Nat×C1×C1) (λξ=>True) (λy=>.error (.ref y.2.2))
   (λy=>[aN γ nm qn,eS i,aw dd (ah ps) e,bY [en Z aK k0 (.ref it),en Z cF k1 v1,en Z bA k2 v2] y.1]) (λy=>[(y.2.1,⟨.type "tuple",none,.seq ⟨[]⟩ 0,#[]⟩),(y.2.2,bx y.2.1)])
   (dg γ (aH Z (b0 Z 174 C cc it))) (λd=>d):=
 d0 ga γ nm qn (cP.wider (M2:=aj ps) (xT it a C cc dd i (ah ps) e ef k0 k1 k2 v1 v2 (by unfold ah;rw [C2];exact hx)) (.refl _))
theorem oj (ga:C1) (γ:Nat) (nm qn:CX) (it a C cc dd:C1) (i:Nat) (ps:List Pt) (e ef:Nat) (k0:Tok) (x:Pt) (hx:ps[i]?=some x) (h1:x.len < CZ):
  ae Z 5 (.cb 8395602706694450420893107072773897535317608 ⟨[.ref ga],[]⟩)
   [(ga,aN γ nm qn),(it,aS a i),(a,aw dd (ah ps) e),(C,bY [en Z aK k0 (.ref it)] ef)] (aj ps)
   (X:=Tok×Tok×Tok×Nat) (λξ=>True) (λy=>.ok (.ret (.str (S x.text) y.1)))
   (λy=>[aN γ nm qn,aS a (i+1),aw dd (ah ps) e,bY [en Z aK k0 (.ref it),en Z cF y.2.1 (.str (S x.f) x.tf),en Z bA y.2.2.1 (.str (S x.q) x.tq)] y.2.2.2]) (λξ=>[])
   (dg γ (aH Z (bX Z 174 C cc it))) (dg γ (aH Z (b0 Z 174 C cc it))):=by
 refine ae.of_ccB (id:="generator.__next__") (by kernel_rfl) λrest A R d os hroom hR n t=>?_
 exists 1,aW,sd ga γ nm qn it a C _ dd i ps e ef k0 x hx ‹_›,2,4369
 exists ar,(x1.1,x1.2.1,x1.2.2.1,x1.2.2.2),0,4369
theorem oU (ga:C1) (γ:Nat) (nm qn:CX) (it a C cc dd:C1) (i:Nat) (ps:List Pt) (e ef:Nat) (k0 k1 k2:Tok) (v1 v2:CX) (x:Pt) (hx:ps[i]?=some x) (h1:x.len < CZ):
  ae Z 5 (.cb 8395602706694450420893107072773897535317608 ⟨[.ref ga],[]⟩)
   [(ga,aN γ nm qn),(it,aS a i),(a,aw dd (ah ps) e),(C,bY [en Z aK k0 (.ref it),en Z cF k1 v1,en Z bA k2 v2] ef)] (aj ps)
   (X:=Tok×Nat) (λξ=>True) (λy=>.ok (.ret (.str (S x.text) y.1)))
   (λy=>[aN γ nm qn,aS a (i+1),aw dd (ah ps) e,bY [en Z aK k0 (.ref it),en Z cF k1 (.str (S x.f) x.tf),en Z bA k2 (.str (S x.q) x.tq)] y.2]) (λξ=>[])
   (dg γ (aH Z (b0 Z 174 C cc it))) (dg γ (aH Z (b0 Z 174 C cc it))):=by
 refine ae.of_ccB (id:="generator.__next__") (by kernel_rfl) λrest A R d os hroom hR n t=>?_
 exists 1,aW,vH ga γ nm qn it a C _ dd i ps e ef k0 k1 k2 v1 v2 x hx ‹_›,2,4369
 exists ar,(x1.1,x1.2),0,4369
theorem nH (ga:C1) (γ:Nat) (nm qn:CX) (it a C cc dd:C1) (i:Nat) (ps:List Pt) (e ef:Nat) (k0:Tok) (hx:ps.length≤i):
  ae Z 5 (.cb 8395602706694450420893107072773897535317608 ⟨[.ref ga],[]⟩)
   [(ga,aN γ nm qn),(it,aS a i),(a,aw dd (ah ps) e),(C,bY [en Z aK k0 (.ref it)] ef)] (aj ps)
   (X:=Nat×C1×C1) (λξ=>True) (λy=>.error (.ref y.2.2))
   (λy=>[aN γ nm qn,eS i,aw dd (ah ps) e,bY [en Z aK k0 (.ref it)] y.1]) (λy=>[(y.2.1,⟨.type "tuple",none,.seq ⟨[]⟩ 0,#[]⟩),(y.2.2,bx y.2.1)])
   (dg γ (aH Z (bX Z 174 C cc it))) (λd=>d):=by
 refine ae.of_ccB (id:="generator.__next__") (by kernel_rfl) λrest A R d os hroom hR n t=>?_
 exists 1,aW,rX ga γ nm qn it a C _ dd i ps e ef k0 ‹_›,2,4369
 exists ar,(x1.1,x1.2.1,x1.2.2),0,1118481
theorem pz (ga:C1) (γ:Nat) (nm qn:CX) (it a C cc dd:C1) (i:Nat) (ps:List Pt) (e ef:Nat) (k0 k1 k2:Tok) (v1 v2:CX) (hx:ps.length≤i):
  ae Z 5 (.cb 8395602706694450420893107072773897535317608 ⟨[.ref ga],[]⟩)
   [(ga,aN γ nm qn),(it,aS a i),(a,aw dd (ah ps) e),(C,bY [en Z aK k0 (.ref it),en Z cF k1 v1,en Z bA k2 v2] ef)] (aj ps)
   (X:=Nat×C1×C1) (λξ=>True) (λy=>.error (.ref y.2.2))
   (λy=>[aN γ nm qn,eS i,aw dd (ah ps) e,bY [en Z aK k0 (.ref it),en Z cF k1 v1,en Z bA k2 v2] y.1]) (λy=>[(y.2.1,⟨.type "tuple",none,.seq ⟨[]⟩ 0,#[]⟩),(y.2.2,bx y.2.1)])
   (dg γ (aH Z (b0 Z 174 C cc it))) (λd=>d):=by
 refine ae.of_ccB (id:="generator.__next__") (by kernel_rfl) λrest A R d os hroom hR n t=>?_
 exists 1,aW,tT ga γ nm qn it a C _ dd i ps e ef k0 k1 k2 v1 v2 ‹_›,2,4369
 exists ar,(x1.1,x1.2.1,x1.2.2),0,1118481
theorem gt (l:List (List Nat×Tok)) (x:List Nat) (t:Tok):al l++[.str (S x) t]=al (l++[(x,t)]):=by unfold al;simp only [Da];rfl
theorem vh (g i a c p q s:C1×Obj) (R:ao):(([g,i,a,c]++[p,q])++[s]++R).Perm ([g,i,c,p,q]++([a,s]++R)):=
 .cons _ (.cons _ ((DH (l₁:=[a]) (l₂:=[c,p,q])).append_right (s::R)))
theorem uI (ga:C1) (γ:Nat) (nm qn:CX) (it a C cc dd st:C1) (ps:List Pt) (e:Nat) (k0 k1 k2:Tok) (hps:ps.length≤CZ) (hlen:∀x∈ps,x.len < CZ):∀(m i:Nat) (hm:i+m=ps.length) (v1 v2:CX) (ef:Nat) (acc:List (List Nat×Tok)) (es:Nat) (ha:acc.map (·.1)=(ps.take i).map Pt.text),
  a7 Z 6 (.b 150786581052265140416522592343328844397 ⟨[.ref st,.ref ga,.ref st],[]⟩)
   (Al Z ga γ nm qn it a C dd ps e i ef k0 k1 k2 v1 v2++[(st,aa (al acc) es)]) (aj ps)
   (X:=List (List Nat×Tok)×Nat) (λx=>x.1.map (·.1)=ps.map Pt.text) (λξ=>.ok (.ret (.ref st)))
   (λx=>[(a,aw dd (ah ps) e),(st,aa (al x.1) x.2)])
   (dg γ (aH Z (b0 Z 174 C cc it))) (λd=>d):=by
 intro m
 induction m with
 | zero=>
  intro i hm v1 v2 ef acc es ha
  have hx:ps.length≤i:=by lia
  simp only [EM hx] at ha
  have S:=rB (st:=st) (acc:=al acc) (es:=es) (res:=.ref st) (DL (a:=(ga,aN γ nm qn))) rfl (by kernel_rfl) slot_gen_next (pz ga γ nm qn it a C cc dd i ps e ef k0 k1 k2 v1 v2 hx).toP (oe:=λx=>bx x.2.1) (λx ξ=>⟨Dp _ (.tail _ (.head _)),rfl⟩)
  exact ⟨λc hc rest A R d os hr hR h g t hg D=>S.go c hc rest A R d os hr (λx h2 g2 t2 hp hg2 D2=>hR (acc,es) h2 g2 t2 ha hg2 (bq.drop (L:=[(ga,aN γ nm qn),(it,_),(C,_),(x.2.1,_),(x.2.2,_)]) (D2.perm (vh _ _ _ _ _ _ _ _)))) h g t hg D⟩
 | succ m ih=>
  intro i hm v1 v2 ef acc es ha
  have hi:i < ps.length:=by lia
  obtain ⟨x,hx⟩:∃x,ps[i]?=some x:=⟨_,DB hi⟩
  have h1:x.len < CZ:=hlen x (Dw hx)
  have hal:acc.length=i:=by
   have:=congrArg C9 ha
   simp only [C2,C2,DY] at this
   lia
  refine oH (DL (a:=(ga,aN γ nm qn))) rfl (by kernel_rfl) slot_gen_next (by unfold al;simp only [C2];lia) (oU ga γ nm qn it a C cc dd i ps e ef k0 k1 k2 v1 v2 x hx h1).toP λy ξ=>?_
  rw [gt]
  exact ih (i+1) (by lia) (.str (S x.f) x.tf) (.str (S x.q) x.tq) y.2 (acc++[(x.text,y.1)]) (es+1) (by
   simp only [Da,ha,FD,hx,Da];rfl)
theorem sv (ga:C1) (γ:Nat) (nm qn:CX) (it a C cc dd st:C1) (ps:List Pt) (e:Nat) (k0:Tok) (ef:Nat) (es:Nat) (hps:ps.length≤CZ) (hlen:∀x∈ps,x.len < CZ):
  a7 Z 6 (.b 150786581052265140416522592343328844397 ⟨[.ref st,.ref ga,.ref st],[]⟩)
   ([(ga,aN γ nm qn),(it,aS a 0),(a,aw dd (ah ps) e),(C,bY [en Z aK k0 (.ref it)] ef)]++[(st,aa [] es)]) (aj ps)
   (X:=List (List Nat×Tok)×Nat) (λx=>x.1.map (·.1)=ps.map Pt.text) (λξ=>.ok (.ret (.ref st)))
   (λx=>[(a,aw dd (ah ps) e),(st,aa (al x.1) x.2)])
   (dg γ (aH Z (bX Z 174 C cc it))) (λd=>d):=by
 cases hl:ps with
 | nil=>
  have S:=rB (st:=st) (acc:=[]) (es:=es) (res:=.ref st) (DL (a:=(ga,aN γ nm qn))) rfl (by kernel_rfl) slot_gen_next (nH ga γ nm qn it a C cc dd 0 [] e ef k0 (Dh _)).toP (oe:=λx=>bx x.2.1) (λx ξ=>⟨Dp _ (.tail _ (.head _)),rfl⟩)
  exact ⟨λc hc rest A R d os hr hR h g t hg D=>S.go c hc rest A R d os hr (λx h2 g2 t2 hp hg2 D2=>hR ([],es) h2 g2 t2 rfl hg2 (bq.drop (L:=[(ga,aN γ nm qn),(it,_),(C,_),(x.2.1,_),(x.2.2,_)]) (D2.perm (vh _ _ _ _ _ _ _ _)))) h g t hg D⟩
 | cons x ps'=>
  refine hl▸?_
  have hx:ps[0]?=some x:=by rw [hl];rfl
  have h1:x.len < CZ:=hlen x (Dw hx)
  refine oH (DL (a:=(ga,aN γ nm qn))) rfl (by kernel_rfl) slot_gen_next (by rw [ab];decide) (oj ga γ nm qn it a C cc dd 0 ps e ef k0 x hx h1).toP λy ξ=>?_
  exact uI ga γ nm qn it a C cc dd st ps e k0 y.2.1 y.2.2.1 hps hlen (ps.length - 1) 1 (by rw [hl];simp;lia) (.str (S x.f) x.tf) (.str (S x.q) x.tq) y.2.2.2 [(x.text,y.1)] (es+1) (by rw [hl];rfl)
theorem lV:∀ts:List (List Nat),ap [] ts=ts.flatten
 | []=>rfl
 | [x]=>by simp [ap]
 | x::y::r=>by
  have:=lV (y::r)
  simp only [ap] at this ⊢
  rw [this];simp
theorem qt (ps:List Pt):ap [] (ps.map Pt.text)=bh ps:=by
 rw [lV];unfold bh;rw [List.flatMap_def]
theorem jI:∀ps:List Pt,((ps.map Pt.text).map (·.length)).sum=aT ps
 | []=>rfl
 | x::r=>by
  have:=jI r
  unfold aT at this ⊢
  simp only [Dd,DC]
  rw [this]
  delta Pt.text Pt.len
  rw [CY]
theorem iY {ps:List Pt} {x:Pt} (h:x∈ps):x.len≤aT ps:=by
 induction ps with
 | nil=>cases h
 | cons y r ih=>
  have e:aT (y::r)=y.len+aT r:=by unfold aT;simp only [Dd,DC]
  rcases Ei.mp h with rfl | h
  ·lia
  ·have:=ih h;lia
theorem nB (ga:C1) (γ:Nat) (nm qn:CX) (it a C cc dd:C1) (ps:List Pt) (e:Nat) (k0:Tok) (ef:Nat) (ts:Tok) (hz:aT ps < CZ) (hps:ps.length≤CZ):
  ae Z 7 (.b 8028352891401237876 ⟨[.str (S []) ts,.ref ga],[]⟩)
   [(a,aw dd (ah ps) e),(ga,aN γ nm qn),(it,aS a 0),(C,bY [en Z aK k0 (.ref it)] ef)] (aj ps)
   (X:=Tok) (λξ=>True) (λy=>.ok (.ret (.str (S (bh ps)) y)))
   (λξ=>[aw dd (ah ps) e]) (λξ=>[])
   (dg γ (aH Z (bX Z 174 C cc it))) (λd=>d):=by
 have hlen:∀x∈ps,x.len < CZ:=λx hx=>E4 (iY hx) hz
 have J:=uk (X:=C1×List (List Nat×Tok)×Nat) (sep:=[]) (ts:=ts) (texts:=ps.map Pt.text) (l:=λx=>x.2.1) (st:=λx=>x.1) (es:=λx=>x.2.2) ga γ nm qn (DL (a:=(ga,aN γ nm qn))) (by rw [jI];simp;exact Ef ‹_›)
  (oc (post:=λst x=>[(a,aw dd (ah ps) e),(st,aa (al x.1) x.2)]) ga γ nm qn (DL (a:=(ga,aN γ nm qn))) λst es=>sv ga γ nm qn it a C cc dd st ps e k0 ef es hps hlen)
  (λx hp=>⟨hp,.tail _ (.head _)⟩)
 rw [qt] at J
 refine ⟨λc hc rest A R d os hr hR h g t hg D=>J.go c hc rest A R d os hr (λx h2 g2 t2 hp hg2 D2=>hR x.2 h2 g2 t2 trivial hg2 (bq.drop (L:=[(x.1.1,aa (al x.1.2.1) x.1.2.2)]) (D2.perm (.swap _ _ _)))) h g t hg (D.perm ?_)⟩
 ·refine List.Perm.append_right _ ?_
  exact (DH (l₁:=[(a,aw dd (ah ps) e)]) (l₂:=[(ga,aN γ nm qn),(it,_)])).append_right [(C,_)]
theorem sa (a dd:C1) (ps:List Pt) (e:Nat) (hz:aT ps < CZ) (hps:ps.length≤CZ):
  ae Z 8 (.o (.call (.ref 174) ⟨[.ref a],[]⟩)) [(a,aw dd (ah ps) e)] (aj ps) (X:=Tok) (λξ=>True) (λt=>.ok (.ret (.str (S (bh ps)) t)))
   (λt=>[aw dd (ah ps) e]) (λt=>[]):=by
 exists 1,ae.of_defB
 refine Bi hroom.handled (169,104,32) (by kernel_rfl) (n+1+1+1+1) (dec 0x891132331151121111211124111341) 1 (λF=>bX F 174 (n+1+1+1+1+1) (n+1+1+1+1) (n+1)) (dec 0x561131151121111211124111341) 1 (λF cc=>bX F 174 (n+1+1) cc (n+1)) ?_ ?_ (by kernel_rfl) (λcc=>by kernel_rfl)
 ·intro γ cf
  exists 1,cT,nB (n+1+1+1+1+1+1) γ (.str (S [60,103,101,110,101,120,112,114,62]) (t+1+1+1+1+1+1+1)) (.str (S [95,65,99,99,117,109,117,108,97,116,111,114,46,95,95,115,116,114,95,95,46,60,108,111,99,97,108,115,62,46,60,103,101,110,101,120,112,114,62]) (t+1+1+1+1+1+1+1+1)) (n+1) a (n+1+1+1+1+1) _ dd ps e (t+1+1+1+1+1+1) (0+1) 321 ‹_› ‹_›,1,21105
  exists ar,x1,0,1
 ·intro cc γ cf
  exists 1,cT,nB (n+1+1+1) γ (.str (S [60,103,101,110,101,120,112,114,62]) (t+1+1)) (.str (S [95,65,99,99,117,109,117,108,97,116,111,114,46,95,95,115,116,114,95,95,46,60,108,111,99,97,108,115,62,46,60,103,101,110,101,120,112,114,62]) (t+1+1+1)) (n+1) a (n+1+1) _ dd ps e (t+1) (0+1) 321 ‹_› ‹_›,1,8769
  exists ar,x1,0,1
end
section
open PyProof.Rows PySem PySem.Calls PySem.Spec PySem.W PySem.W.X
noncomputable def wE (o:Option Obj) (name:Str) (f:C1):Bool:=match o with
 | some o=>match o.data with
  | .dict es _=>es.toList.all (λe=>match e.key with | .str ..=>true | _=>false) && (match nsFind es name with | some (.ref a)=>E7 a f | _=>false)
  | _=>false
 | none=>false
noncomputable def xa (o:Option Obj):Bool:=match o with
 | some o=>match o.cls with
  | .type s=>E7 (PySem.code s) (PySem.code "function")
  | _=>false
 | none=>false
theorem mq {h:Heap} {a:C1} {o:Option Obj} {name:Str} {f:C1} (hk:wE o name f=true) (ho:∀x,o=some x→h.get? a=some x):∃m,h.Ns a m∧m name=some (.ref f):=by
 cases o with
 | none=>exact nomatch hk
 | some x=>
  obtain ⟨c,d,da,sl⟩:=x
  cases da with
  | dict es n=>
   have hk:=ET.mp hk
   refine ⟨λy=>nsFind es y,⟨_,es,n,ho _ rfl,rfl,λe he=>?_,λξ=>rfl⟩,?_⟩
   ·have this:=EW.mp hk.1 e (Array.mem_toList_iff.mpr he)
    generalize e.key=k at this ⊢
    cases k with
    | str s t=>exact ⟨s,t,rfl⟩
    | _=>exact nomatch this
   ·have h2:=hk.2
    show nsFind es name=_
    generalize nsFind es name=q at h2 ⊢
    cases q with
    | none=>exact nomatch h2
    | some v=>
     cases v with
     | ref b=>rw [DR h2]
     | _=>exact nomatch h2
  | _=>exact nomatch hk
theorem mI {o:Option Obj} (hk:xa o=true):∃x,o=some x∧x.cls=.type "function":=by
 cases o with
 | none=>exact nomatch hk
 | some x=>
  obtain ⟨c,d,da,sl⟩:=x
  cases c with
  | type s=>exact ⟨_,rfl,by show CX.type s=_;rw [PySem.code_inj _ _ (DR hk)]⟩
  | _=>exact nomatch hk
theorem nE:mroOf (.type "list")=pure [.type "list",.type "object"]:=by kernel_rfl
theorem rH:Z.kt.get 200=some (excClassObj "_Accumulator" "_Accumulator" 200 199 [.type "list"] [.type "list",.type "object"] true [] [] false none none (some (.ref 121)) none (some (.str "_Accumulator" 433)) (some (.str "_Accumulator" 441)) (some (.bool true)) "list.__new__"):=by kernel_rfl
theorem yP:wE (Z.kt.get 199) "__len__" 167=true:=by kernel_rfl
theorem y8:xa (Z.kt.get 167)=true:=by kernel_rfl
theorem jW:Z.tab 200=false∧Z.tab 199=false∧Z.tab 167=false:=⟨by kernel_rfl,by kernel_rfl,by kernel_rfl⟩
theorem w4 {h:Heap} {q:List C1} {L:ao} (D:bq Z q h L) {a dd:C1} {xs:List CX} {e:Nat} (ha:h.get? a=some (aw dd xs e)):h.OwnSpecial a 200 167 "list" "__len__":=by
 have hcls:=D.look rH jW.1
 obtain ⟨m,hn,hm⟩:=mq (h:=h) (a:=199) yP λx hx=>D.look hx jW.2.1
 obtain ⟨of,hof,hfc⟩:=mI y8
 exact ⟨aw dd xs e,of,_,_,199,_,_,_,_,_,_,_,_,_,_,_,_,_,_,m,_,ha,rfl,hcls,hn,hm,D.look hof jW.2.2,hfc,nE,slot_list_len.lookup⟩
theorem xc:wE (Z.kt.get 199) "__str__" 174=true:=by kernel_rfl
theorem rf:xa (Z.kt.get 174)=true∧Z.tab 174=false:=⟨by kernel_rfl,by kernel_rfl⟩
theorem uQ {h:Heap} {q:List C1} {L:ao} (D:bq Z q h L) {a dd:C1} {xs:List CX} {e:Nat} (ha:h.get? a=some (aw dd xs e)):h.OwnSpecial a 200 174 "list" "__str__":=by
 have hcls:=D.look rH jW.1
 obtain ⟨m,hn,hm⟩:=mq (h:=h) (a:=199) xc λx hx=>D.look hx jW.2.1
 obtain ⟨of,hof,hfc⟩:=mI rf.1
 have hy:typeLookup (.type "list") "__str__"=pure (some (.builtin "object.__str__")):=by rw [typeLookup_type,builtinLookup_eq_fast];kernel_rfl
 exact ⟨aw dd xs e,of,_,_,199,_,_,_,_,_,_,_,_,_,_,_,_,_,_,m,_,ha,rfl,hcls,hn,hm,D.look hof rf.2,hfc,nE,hy⟩
theorem nG:PySem.code "str.__new__"=116512446855873012371256692:=by kernel_rfl
theorem kQ {F:Fx} {k:Nat} {L M:ao} {X:Type} {P:X→Prop} {tx:X→List Nat} {tk:X→Tok} {post:X→ao} {D1 D2:Dr→Dr} {x C f:C1} {B:String}
  (own:∀h L',bq F [] h (L++L')→h.OwnSpecial x C f B "__str__") (S0:a7 F k (.o (.call (.ref f) ⟨[.ref x],[]⟩)) L M P (λy=>.ok (.ret (.str (S (tx y)) (tk y)))) post D1 D2):
  a7 F (k+1) (.b 116512446855873012371256692 ⟨[.type "str",.ref x],[]⟩) L M P (λy=>.ok (.ret (.str (S (tx y)) (tk y)))) post D1 D2:=by
 refine ⟨λc ⟨id',hc,hk⟩ rest A R d os hr hR h g t hg D=>?_⟩
 have e:id'="str.__new__":=PySem.code_inj _ _ (hk.trans nG.symm)
 subst e
 refine hc▸?_
 have hv:Builtin.Str.isExactStr (.ref x)=false:=rfl
 refine DP PySem.F.entry_str_new ?_
 rw [Dk.under_plainId (by decide+kernel:plainId "str.__new__"=true) _]
 rw [str_new_tree]
 refine C0 (Dc ?_)
 refine C0 (Es isSubtype_str_str ?_)
 refine C0 ?_
 unfold Builtin.Str.strOf
 simp only [hv]
 simp only [Eg,if_false]
 refine C0 (wpAny_cRoomFor (by have:=hr.units;show A.units+1 < 9900;lia) ?_)
 refine C0 (m:=callSpecial? (.ref x) (Str.ofString "__str__")) (FQ (own h _ D) (F8 ?_))
 refine S0.go (.call (.ref f) ⟨[.ref x],[]⟩) rfl rest A.in1 _ d os hr.in1 ?_ h g t hg D
 intro y h' g' t' hp hg' D2
 exact Dc (Dc (hR y h' g' t' hp hg' D2))
end
section
open PyProof.Rows PySem PySem.Calls PySem.W PySem.W.X
theorem sK {F:Fx} {k:Nat} (x:List Nat) (t:Tok) (c:Bool) (h:((S x).length > 0 && (S x).cps.all Unicode.isSpace)=c):af F k (.b 123784486205185586873202036 ⟨[.str (S x) t],[]⟩) [] (X:=Unit) (λξ=>True) (λξ=>.ok (.ret (.bool c))) (λξ=>[]) (λξ=>[]):=by
 have:=bW (F:=F) (k:=k) x t
 rw [h] at this;exact this
theorem bJ {F:Fx} {k:Nat} (a:Nat) (t:Tok) (b:Nat) (u:Tok) (c:Bool) (h:decide (a > b)=c):af F k (.b 455126529904428302298986 ⟨[.int (.ofNat a) t,.int (.ofNat b) u],[]⟩) [] (X:=Unit) (λξ=>True) (λξ=>.ok (.ret (.bool c))) (λξ=>[]) (λξ=>[]):=by
 have:=b8 (F:=F) (k:=k) a t b u
 rw [h] at this;exact this
theorem sz {F:Fx} {k:Nat} (a:Nat) (t:Tok) (b:Nat) (u:Tok) (c:Bool) (h:(a == b)=c):af F k (.b 455126313168696235093866 ⟨[.int (.ofNat a) t,.int (.ofNat b) u],[]⟩) [] (X:=Unit) (λξ=>True) (λξ=>.ok (.ret (.bool c))) (λξ=>[]) (λξ=>[]):=by
 have:=ax (F:=F) (k:=k) a t b u
 rw [h] at this;exact this
theorem cB {F:Fx} {k:Nat} (x:List Nat) (t:Tok) (y:List Nat) (u:Tok) (c:Bool) (h:(x == y)=c):af F k (.b 455126313168696234964340 ⟨[.str (S x) t,.str (S y) u],[]⟩) [] (X:=Unit) (λξ=>True) (λξ=>.ok (.ret (.bool c))) (λξ=>[]) (λξ=>[]):=by
 have:=i5 (F:=F) (k:=k) x t y u
 rw [h] at this;exact this
theorem bv {F:Fx} {k:Nat} (x:List Nat) (t:Tok) (y:List Nat) (u:Tok) (c:Bool) (h:(x != y)=c):af F k (.b 455125451010842570225012 ⟨[.str (S x) t,.str (S y) u],[]⟩) [] (X:=Unit) (λξ=>True) (λξ=>.ok (.ret (.bool c))) (λξ=>[]) (λξ=>[]):=by
 have:=m6 (F:=F) (k:=k) x t y u
 rw [h] at this;exact this
end
section
open PyProof.Rows PySem PySem.Calls PySem.Spec PySem.W PySem.W.X
theorem qF (a dd:C1) (ps:List Pt) (e:Nat) (k:Tok) (i:Nat) (ti:Tok) (de:Nat) (hz:i+aT ps < CZ):
  ae Z 9 (.b 7300717 ⟨[.ref a],[]⟩) [(a,aw dd (ah ps) e),(dd,dO Z k i ti de)] (aj ps) (X:=Tok) (λξ=>True) (λt=>.ok (.ret (.int (.ofNat (i+aT ps)) t)))
   (λt=>[aw dd (ah ps) e,dO Z k i ti de]) (λt=>[]):=by
 refine ae.of_b (id:="len") (by kernel_rfl) (Db (b:=Builtin.«len») (by kernel_rfl)) (by decide+kernel) λrest A R d os hr hR h g t hg D=>?_
 have ha:h.get? a=some (aw dd (ah ps) e):=D.own (a,_) (C3 _ (.head _))
 have X:=w4 D ha
 have hz':i+aT ps < 16777216:=hz
 refine C0 (m:=oneArg "len" _) (Dc ?_)
 refine C0 (m:=callSpecial? (.ref a) (Str.ofString "__len__")) (FQ X (F8 ?_))
 refine (sV a dd ps e k i ti de hz).go (.call (.ref 167) ⟨[.ref a],[]⟩) rfl rest A.in1 _ d os hr.in1 ?_ h g t hg D
 intro x h' g' t' hp hg' D2
 refine C0 (Ej (Dc ?_))
 refine C0 (Gr ?_)
 rw [if_neg (by show ¬((i+aT ps:Nat):Int) < 0;lia)]
 show wpAny _ _ (if C4 (i+aT ps) ≥ 2 ^ 63 then _ else _) _ _ _
 rw [if_neg (by show ¬((i+aT ps:Nat):Int) ≥ 2 ^ 63;lia)]
 exact C0 (FY (Dc (hR t' h' g' (t'+1) trivial hg' D2)))
theorem gU (a dd:C1) (ps:List Pt) (e:Nat) (hz:aT ps < CZ) (hps:ps.length≤CZ):
  ae Z 9 (.b 116512446855873012371256692 ⟨[.type "str",.ref a],[]⟩) [(a,aw dd (ah ps) e)] (aj ps) (X:=Tok) (λξ=>True) (λt=>.ok (.ret (.str (S (bh ps)) t)))
   (λt=>[aw dd (ah ps) e]) (λt=>[]):=
 a7.toR (kQ (C:=200) (f:=174) (B:="list") (λh L' D=>uQ D (D.own (a,aw dd (ah ps) e) (C3 _ (.head _)))) (sa a dd ps e hz hps).toP) (λξ=>.refl _)
theorem oL (a dd:C1) (ps:List Pt) (e:Nat) (k:Tok) (ti:Tok) (de:Nat) (m:Nat) (hm:0+aT ps=m+1) (hz:0+aT ps < CZ) (hps:ps.length≤CZ) (hsp:((S (bh ps)).length > 0 && (S (bh ps)).cps.all Unicode.isSpace)=false):
  ae Z 10 (.o (.call (.ref 189) ⟨[.ref a],[]⟩)) [(a,aw dd (ah ps) e),(dd,dO Z k 0 ti de)] (aj ps) (X:=Unit) (λξ=>True) (λt=>.ok (.ret (.bool false)))
   (λt=>[aw dd (ah ps) e,dO Z k 0 ti de]) (λt=>[]):=by
 have len_acc':=qF a dd ps e k 0 ti de hz
 rw [hm] at len_acc'
 exists 1,ae.of_defB
 exists 1,ax 0 ti 0 (t+1+1),0x13122111211211111112411341,0
 exists 2,cT,len_acc',4582347044,17
 exists 3,cT,gU a dd ps e (by lia) ‹_›,1119249,1
 exists 4,sK (bh ps) x3 _ hsp,273,0
 exists ar,(),0,17
end
section
open PySem PySem.W PySem.W.X
noncomputable def fB (d:C1):Obj:=⟨.ref 116,some d,.plain,#[]⟩
theorem qi (a dd:C1) (e de:Nat) (hl:Nat) (tl:Tok):
  af Z 4 (.o (.call (.ref 137) ⟨[.ref a,.int (.ofNat hl) tl],[]⟩)) [(a,aw dd [] e),(dd,ai [] de)] (X:=Tok×Nat×Nat) (λξ=>True) (λξ=>.ok (.ret .none))
   (λx=>[aw dd [] x.2.2,dO Z x.1 hl tl x.2.1]) (λx=>[]):=by
 refine af.offs λho=>?_
 obtain ⟨a,rfl⟩:=DZ (ho (a,_) (.head _))
 exists 1,af.of_defB
 exists ar,(t+1+1+1,de+1,e),0x212216161211115551515545454512211515511111141111132312111212112111124411343411,17
noncomputable abbrev Ca:List Nat:=[95,109,97,120,108,101,110]
noncomputable abbrev Cw:List Nat:=[95,99,111,110,116,105,110,117,97,116,105,111,110,95,119,115]
noncomputable abbrev Ce:List Nat:=[95,99,111,110,116,105,110,117,97,116,105,111,110,95,119,115,95,108,101,110]
noncomputable abbrev zu:List Nat:=[95,115,112,108,105,116,99,104,97,114,115]
noncomputable abbrev zU:List Nat:=[95,108,105,110,101,115]
noncomputable abbrev B7:List Nat:=[95,99,117,114,114,101,110,116,95,108,105,110,101]
noncomputable abbrev Vk:=Tok×Tok×Tok×Tok×Tok×Tok×Tok×Tok×Tok×Tok
noncomputable abbrev fI (F:Fx) (K:Vk) (m:Nat) (la a:C1) (e:Nat):Obj:=
 ai [en F Ca K.1 (.int (.ofNat m) K.2.1),en F Cw K.2.2.1 (.str (S [32]) K.2.2.2.1),en F Ce K.2.2.2.2.1 (.int (.ofNat 1) K.2.2.2.2.2.1),en F zu K.2.2.2.2.2.2.1 (.str (S [59]) K.2.2.2.2.2.2.2.1),en F zU K.2.2.2.2.2.2.2.2.1 (.ref la),en F B7 K.2.2.2.2.2.2.2.2.2 (.ref a)] e
theorem ka (v vd:C1) (e:Nat) (hl:Nat) (tl:Tok) (m:Nat) (tm tc ts:Tok):
  af Z 6 (.o (.call (.ref 57) ⟨[.ref v,.int (.ofNat hl) tl,.int (.ofNat m) tm,.str (S [32]) tc,.str (S [59]) ts],[]⟩)) [(v,fB vd),(vd,ai [] e)] (X:=Vk×Nat×C1×C1×C1×Nat×Tok×Nat×Nat) (λξ=>True) (λt=>.ok (.ret .none))
   (λx=>[fB vd,fI Z x.1 m x.2.2.1 x.2.2.2.1 x.2.1]) (λx=>[(x.2.2.1,aa [] 0),(x.2.2.2.1,aw x.2.2.2.2.1 [] x.2.2.2.2.2.1),(x.2.2.2.2.1,dO Z x.2.2.2.2.2.2.1 hl tl x.2.2.2.2.2.2.2.1)]):=by
 exists 1,af.of_defB
 exists 1,aG [32] tc (DD _),0x14113231211121211211112443231211121211211112441134343434341,0
 refine vU hroom.handled [3,1,0,0,0,0,1,0,0,1,0,1,0,0,0,1,0,2,1,2,3,3,1,0,0,0,0,1,0,0,1,0,1,0,0,0,1,0,2,1,2,3,1,0,0,0,0,1,0,0,1,0,1,0,0,0,1,0,2,1,2,0,3,0,0,0,0,0,0,0,0,0,0,0,0,0,0,0,0,0,0,0,0] ?_ (by kernel_rfl)
 intro q2 u2 cf2
 exists 3,(qi (n1+1+1) (n1+1) 0 0 hl tl).up rfl,73307091217,86
 exists ar,((t+1+1+1+1+1+1,tm,t+1+1+1+1+1+1+1+1,tc,t1+1,x1,t1+1+1+1,ts,t1+1+1+1+1+1,t3+1),e+1+1+1+1+1+1,n1,n1+1+1,n1+1,x3.2.2,x3.1,x3.2.1,x3.2.2),0x54514111414114111146,70707
end
section
open PyProof.Rows PySem PySem.Calls PySem.Spec PySem.W PySem.W.X
section
structure ad (F:Fx) (k:Nat) (v:CV) (L M:ao) {X:Type} (P:X→Prop) (r:X→Dq) (post pm:X→ao) (D1 D2:Dr→Dr:=λd=>d):Prop where
 go:∀c,g6 v c→∀(rest:ao) (A:Dk) (R:Dq→Df→Prop) (d:Dr) (os:Ea),aP k A→(∀x h g t,P x→(D2 d).G g→d5 F h (post x++(pm x++rest))→R (r x) ⟨h,g,(D2 d).d,t,os⟩)→
  ∀h g t,(D1 d).G g→d5 F h (L++(M++rest))→codeAny (model F.prog F.w) A c R ⟨h,g,(D1 d).d,t,os⟩
noncomputable def eY (F:Fx) (rest:ao) (d:Dr) (os:Ea) (R:Dq→Df→Prop) {X:Type} (P:X→Prop) (r:X→Dq) (post pm:X→ao):Prop:=
 ∀x h g t,P x→d.G g→d5 F h (post x++(pm x++rest))→R (r x) ⟨h,g,d.d,t,os⟩
section
variable {F:Fx} {j k:Nat} {vw:CV} {L L' M M':ao} {X:Type} {P:X→Prop} {r:X→Dq} {ob:X→List Obj} {new:X→ao} {post pm:X→ao} {D1 D2:Dr→Dr}
theorem ad.up (S:ad F j vw L M P r post pm D1 D2) (h:FO j k=true):ad F k vw L M P r post pm D1 D2:=⟨λc hc rest A R d os hr=>S.go c hc rest A R d os (hr.le (DG h))⟩
theorem a7.toM (S:a7 F k vw L M P r post D1 D2):ad F k vw L M P r post (λξ=>M) D1 D2:=⟨S.go⟩
theorem ae.toM (S:ae F k vw L M P r ob new D1 D2):ad F k vw L M P r (λx=>bp L (ob x)++new x) (λξ=>M) D1 D2:=⟨S.go⟩
end
section
variable {F:Fx} {A:Dk} {m:dP} {rest rest':ao} {d:Dr} {os:Ea} {X:Type} {P:X→Prop} {r:X→Dq} {post pm:X→ao} {D1 D2:Dr→Dr} {M:ao}
set_option tactic.hygienic true in
theorem sx {k:Nat} {v:CV} {L₁:ao} (hroom:aP (k+1) A) (S:ad F k v L₁ M P r post pm D1 D2) (hM:rest.Perm (M++rest')) (fuel:Nat) (orc is:List Nat) {cfg:dR}
  (hv:bT is (aQ F m.isSeg fuel orc cfg)=some (v,L₁,true)) (he:(aQ F m.isSeg fuel orc cfg).eqs=i7 (aQ F m.isSeg fuel orc cfg).eqs)
  (hx:∀x n t,P x→Go F A m (pm x++rest') (D2 d) os (dY is (aQ F m.isSeg fuel orc cfg) (r x) (post x) n t)):Go F A m rest (D1 d) os cfg:=by
 refine cL hroom.handled fuel orc he λg hg=>?_
 unfold bT at hv
 unfold dY at hx
 split at hv
 ·rename_i c κ L n t e
  rw [e]
  split at hv
  ·rename_i a b e2
   simp only [Option.some.injEq,Prod.mk.injEq] at hv
   obtain ⟨hcv,rfl,hok⟩:=hv
   have hcm:=hcv ▸ dN c
   intro h D hn
   have p:=cH e2
   have D':d5 F h (_++(M++(b++rest'))):=D.perm ((p.append_right rest).trans (by
    rw [C6]
    exact C7 _ ((C7 b hM).trans (Do _ _ _))))
   refine S.go c hcm (b++rest') (bo A κ) _ d os (hroom.go hok) ?_ h g t hg D'
   intro x h' g' t' hp hg' D''
   have y:=(hx x h'.objs.size t' hp).go
   have y:=e▸y
   simp only [e2] at y
   have D3:=(show d5 F h' ((post x++b)++(pm x++rest')) from D''.perm (by
    simp only [C6]
    exact C7 _ (Do _ _ _)))
   cases κ with
   | base=>exact y h' g' hg' D3 rfl
   | ret c k κ=>exact y h' g' hg' D3 rfl
  ·cases hv
 ·cases hv
set_option tactic.hygienic true in
theorem pZ {k:Nat} {v:CV} {L₁:ao} (hroom:aP k A) (S:ad F k v L₁ M P r post pm D1 D2) (hM:rest.Perm (M++rest')) (fuel:Nat) (orc is:List Nat) {cfg:dR}
  (hv:cQ is (aQ F m.isSeg fuel orc cfg)=some (v,L₁,true)) (he:(aQ F m.isSeg fuel orc cfg).eqs=i7 (aQ F m.isSeg fuel orc cfg).eqs)
  (hx:∀x n t,P x→Go F A m (pm x++rest') (D2 d) os (dY is (aQ F m.isSeg fuel orc cfg) (r x) (post x) n t)):Go F A m rest (D1 d) os cfg:=by
 refine cL hroom.handled fuel orc he λg hg=>?_
 unfold cQ at hv
 unfold dY at hx
 split at hv
 ·rename_i c κ L n t e
  rw [e]
  split at hv
  ·rename_i a b e2
   simp only [Option.some.injEq,Prod.mk.injEq] at hv
   obtain ⟨hcv,rfl,hok⟩:=hv
   have hcm:=hcv ▸ dN c
   intro h D hn
   have p:=cH e2
   have D':d5 F h (_++(M++(b++rest'))):=D.perm ((p.append_right rest).trans (by
    rw [C6]
    exact C7 _ ((C7 b hM).trans (Do _ _ _))))
   cases κ with
   | ret c k κ=>cases hok
   | base=>
    refine S.go c hcm (b++rest') A _ d os hroom ?_ h g t hg D'
    intro x h' g' t' hp hg' D''
    have y:=(hx x h'.objs.size t' hp).go
    have y:=e▸y
    simp only [e2] at y
    have D3:=(show d5 F h' ((post x++b)++(pm x++rest')) from D''.perm (by
     simp only [C6]
     exact C7 _ (Do _ _ _)))
    exact y h' g' hg' D3 rfl
  ·cases hv
 ·cases hv
set_option tactic.hygienic true in
theorem pP {rest0 Md:ao} (hA:rb A) (hR:eY F rest0 d os m.fin P r post pm) (x:X) (hp:P x) (hM:rest.Perm (pm x++(Md++rest0))) (fuel:Nat) (orc is:List Nat) {cfg:dR}
  (hv:d8 is (aQ F m.isSeg fuel orc cfg)=some (r x,post x)) (he:(aQ F m.isSeg fuel orc cfg).eqs=i7 (aQ F m.isSeg fuel orc cfg).eqs):Go F A m rest d os cfg:=by
 refine cL hA fuel orc he λg hg=>?_
 unfold d8 at hv
 split at hv
 ·rename_i r0 L0 n t e
  rw [e]
  split at hv
  ·rename_i a b e2
   simp only [Option.some.injEq,Prod.mk.injEq] at hv
   obtain ⟨rfl,rfl⟩:=hv
   intro h D hn
   have p:=cH e2
   have D':d5 F h ((b++Md)++(post x++(pm x++rest0))):=D.perm (by
    refine ((p.append_right rest).trans (C7 _ hM)).trans ?_
    simp only [C6]
    refine (Do _ _ _).trans (C7 b ?_)
    refine (C7 (post x) (Do (pm x) Md rest0)).trans ?_
    exact Do _ _ _)
   exact hR x h g t hp hg D'.drop
  ·cases hv
 ·cases hv
end
section
variable {F:Fx} {X:Type} {P:X→Prop} {r:X→Dq} {post pm:X→ao} {D1 D2:Dr→Dr}
theorem ad.of_code {k:Nat} {c:Code} {L M:ao} (x:∀rest A R d os,aP k A→eY F rest (D2 d) os R P r post pm→∀n t,Go F A (.plain R) (M++rest) (D1 d) os (.go c .base (jx c) L n t)):ad F k (.o c) L M P r post pm D1 D2:=
 ⟨λc' hc' rest A R d os hr hR h g t hg D=>by
  cases hc'
  exact y_code _ _ _ _ _ _ (by rw [dr];exact (x rest A R d os hr hR _ t).go h g hg D rfl)⟩
set_option tactic.hygienic true in
theorem ad.of_def {k:Nat} {f:C1} {args:Args} {L M:ao} (ho:jb F f=true)
  (x:∀rest A R d os,aP (k+1) A→eY F rest (D2 d) os R P r post pm→∀n t,Go F A (.plain R) (M++rest) (D1 d) os (.go (.call (.ref f) args) .base (dM F f args) L n t)):ad F (k+1) (.o (.call (.ref f) args)) L M P r post pm D1 D2:=by
 refine ⟨λc' hc' rest A R d os hr hR h g t hg D=>?_⟩
 have hc':c'=.call (.ref f) args:=hc'
 subst hc'
 have y:=(x rest A R d os hr hR _ t).go h g hg D rfl
 unfold jb at ho
 unfold dM at y
 split at ho
 ·cases ho
 rename_i htab
 split at ho
 ·rename_i o e
  split at ho
  ·rename_i fd ed
   simp only [e,ed] at y
   have hl:=D.look e htab
   simp only [Dt,E8,E8] at ho
   unfold mh at y
   refine y_code _ _ _ _ _ _ ?_
   refine wpOwn_bind (wpOwn_of_wpAny (F7 hl ?_))
   simp only [ed]
   simp only [dQ fd f args ho.1 ho.2,qM]
   refine fT ?_ y
   have:=hr.depth
   show A.depth+0 < 1000
   lia
  ·cases ho
 ·cases ho
end
noncomputable def wc (a:C1×Obj) (L:ao):Nat:=@List.count _ (@instBEqOfDecidableEq _ (λa b=>Classical.propDecidable (a=b))) a L
noncomputable def BM (a x:C1×Obj):Nat:=wc a [x]
theorem rt (a:C1×Obj):wc a []=0:=rfl
theorem mi (a:C1×Obj) (A B:ao):wc a (A++B)=wc a A+wc a B:=by unfold wc;exact @List.count_append _ (@instBEqOfDecidableEq _ (λa b=>Classical.propDecidable (a=b))) ..
theorem nZ (a x:C1×Obj) (A:ao):wc a (x::A)=BM a x+wc a A:=mi a [x] A
theorem i9 {A B:ao} (h:∀a,wc a A=wc a B):A.Perm B:=by
 letI:DecidableEq (C1×Obj):=λa b=>Classical.propDecidable (a=b)
 exact List.perm_iff_count.mpr h
section
variable {F:Fx} {A:Dk} {m:dP} {rest rest':ao} {d:Dr} {os:Ea} {X:Type} {P:X→Prop} {r:X→Dq} {post pm:X→ao} {D1 D2:Dr→Dr} {M:ao}
theorem cM {k:Nat} {v:CV} {L₁:ao} (hroom:aP (k+1) A) (S:ad F k v L₁ M P r post pm D1 D2) (orc is:List Nat) {cfg:Bool→Bool→dR} (rest':ao) (hM:rest.Perm (M++rest'))
  (hx:let f:=qQ is (bC F m.isSeg orc cfg) r post;∀x n t,P x→c9 F A m (pm x++rest') (D2 d) os (f x n t))
  (hv:HV (bT is) (bC F m.isSeg orc cfg) v L₁):c9 F A m rest (D1 d) os cfg:=
 ⟨λb1 b2 hb=>sx hroom S hM 999 orc is (a9 hv b1 b2 hb).1 (a9 hv b1 b2 hb).2 λx n t p=>c9.at (hx x n t p) b1 b2 hb⟩
theorem dx {k:Nat} {v:CV} {L₁:ao} (hroom:aP (k+1) A) (S:ad F k v L₁ M P r post pm D1 D2) (orc is:List Nat) {cfg:Bool→Bool→dR}
  (hx:let f:=qQ is (bC F m.isSeg orc cfg) r post;∀x n t,P x→c9 F A m (pm x++rest') (D2 d) os (f x n t))
  (hv:HV (bT is) (bC F m.isSeg orc cfg) v L₁):c9 F A m (M++rest') (D1 d) os cfg:=
 cM hroom S orc is rest' (.refl _) hx hv
theorem fZ {k:Nat} {v:CV} {L₁:ao} (hroom:aP k A) (S:ad F k v L₁ M P r post pm D1 D2) (orc is:List Nat) {cfg:Bool→Bool→dR} (rest':ao) (hM:rest.Perm (M++rest'))
  (hx:let f:=qQ is (bC F m.isSeg orc cfg) r post;∀x n t,P x→c9 F A m (pm x++rest') (D2 d) os (f x n t))
  (hv:HV (cQ is) (bC F m.isSeg orc cfg) v L₁):c9 F A m rest (D1 d) os cfg:=
 ⟨λb1 b2 hb=>pZ hroom S hM 999 orc is (a9 hv b1 b2 hb).1 (a9 hv b1 b2 hb).2 λx n t p=>c9.at (hx x n t p) b1 b2 hb⟩
theorem aX {k:Nat} {v:CV} {L₁:ao} (hroom:aP k A) (S:ad F k v L₁ M P r post pm D1 D2) (orc is:List Nat) {cfg:Bool→Bool→dR}
  (hx:let f:=qQ is (bC F m.isSeg orc cfg) r post;∀x n t,P x→c9 F A m (pm x++rest') (D2 d) os (f x n t))
  (hv:HV (cQ is) (bC F m.isSeg orc cfg) v L₁):c9 F A m (M++rest') (D1 d) os cfg:=
 fZ hroom S orc is rest' (.refl _) hx hv
theorem fR {rest0 Md:ao} {kr:Nat} (hroom:aP kr A) (hR:eY F rest0 d os m.fin P r post pm) (x:X) (orc is:List Nat) {cfg:Bool→Bool→dR}
  (hv:tB (d8 is) (bC F m.isSeg orc cfg)=tC (some (r x,post x)) (bC F m.isSeg orc cfg)) (hp:P x) (hM:rest.Perm (pm x++(Md++rest0))):c9 F A m rest d os cfg:=
 ⟨λb1 b2 hb=>pP hroom.handled hR x hp hM 999 orc is (a9 hv b1 b2 hb).1 (a9 hv b1 b2 hb).2⟩
theorem az {rest0:ao} {kr:Nat} (hroom:aP kr A) (hR:eY F rest0 d os m.fin P r post pm) (x:X) (hM:rest=pm x++rest0) (orc is:List Nat) {cfg:Bool→Bool→dR}
  (hv:tB (d8 is) (bC F m.isSeg orc cfg)=tC (some (r x,post x)) (bC F m.isSeg orc cfg)) (hp:P x):c9 F A m rest d os cfg:=
 fR (Md:=[]) hroom hR x orc is hv hp (hM▸.refl _)
theorem ad.of_codeB {k:Nat} {c:Code} {L M:ao} (x:∀rest A R d os,aP k A→eY F rest (D2 d) os R P r post pm→∀n t,c9 F A (.plain R) (M++rest) (D1 d) os λξ ξ=>.go c .base (jx c) L n t):ad F k (.o c) L M P r post pm D1 D2:=
 ad.of_code λrest A R d os hr hR n t=>(x rest A R d os hr hR n t).one
theorem ad.of_defB {k:Nat} {f:C1} {args:Args} {L M:ao}
  (x:∀rest A R d os,aP (k+1) A→eY F rest (D2 d) os R P r post pm→∀n t,c9 F A (.plain R) (M++rest) (D1 d) os λξ ξ=>.go (.call (.ref f) args) .base (dM F f args) L n t) (ho:jb F f=true):ad F (k+1) (.o (.call (.ref f) args)) L M P r post pm D1 D2:=
 ad.of_def ho λrest A R d os hr hR n t=>(x rest A R d os hr hR n t).one
end
end
theorem qb (st:C1) (xs:List CX):∃e,bm [(st,aa [] 0)] 0 (Obj.mapSeq (·++(⟨xs⟩:Array CX)) (aa [] 0))=[(st,aa xs e)]:=by
 have e:(⟨[]⟩:Array CX)++⟨xs⟩=⟨xs⟩:=by simp
 refine ⟨if (⟨xs⟩:Array CX).size == (⟨[]⟩:Array CX).size then 0 else 0+1,?_⟩
 delta bm aa Obj.mapSeq
 simp only [e]
theorem nu {F:Fx} {k:Nat} (a:C1) (T:String) (hT:T="list"∨T="tuple") (xs:List CX) (e:Nat) (hz:xs.length≤CZ):
  af F k (.b 9300767342341403084508581884785 ⟨[.ref a],[]⟩) [(a,⟨.type T,none,.seq ⟨xs⟩ e,#[]⟩)] (X:=C1×Nat) (λξ=>True) (λx=>.ok (.ret (.ref x.1))) (λξ=>[⟨.type T,none,.seq ⟨xs⟩ e,#[]⟩]) (λx=>[(x.1,aa xs x.2)]):=by
 refine ⟨λc ⟨id',hc,hk⟩ rest A R d os hr hR h g t hg D=>?_⟩
 have e:id'="proto.collect":=PySem.code_inj _ _ (hk.trans e9.symm)
 subst e
 refine hc▸?_
 have D1:=D.alloc (o:=aa [] 0) rfl
 have ha:=D.own (a,_) (C3 _ (.head _))
 refine DP PySem.F.entry_proto_collect ?_
 rw [Dk.under_plainId PySem.F.plain_proto_collect _]
 show wpAny _ A.in1 (newList [] >>= λl=>again (.builtin "list.__iadd__" ⟨[l,.ref a],[]⟩)) _ _ _
 refine C0 (DU ?_)
 refine Dc ⟨plainId_quiet PySem.F.plain_list_iadd _,DP PySem.F.entry_list_iadd ?_⟩
 refine (Dk.under_plainId PySem.F.plain_list_iadd _)▸?_
 show wpAny _ A.in1 (Builtin.List.listExtendWith (.ref h.objs.size) (.ref a) (.ref h.objs.size)) _ _ _
 have D2:=bq.update (L:=[(h.objs.size,aa [] 0)]) D1 (i:=0) (f:=Obj.mapSeq (·++(⟨xs⟩:Array CX))) rfl rfl
 obtain ⟨e2,he2⟩:=qb h.objs.size xs
 simp only [he2] at D2
 have hS:(h.push (aa [] 0)).get? h.objs.size=some (aa [] 0):=D1.own (h.objs.size,_) (.head _)
 refine wpAny_extend_seq (hsz:=hz) (A:=A) (R:=R) (s:=⟨h.push (aa [] 0),g,d.d,t,os⟩) h.objs.size a _ 0 hT hS (D1.own (a,_) (.tail _ (C3 _ (.head _)))) rfl rfl ?_
 exact hR (h.objs.size,e2) _ g t trivial hg (D2.perm (by
  exact .swap _ _ _))
theorem eI {F:Fx} {k:Nat} (a:C1) (xs:List CX) (e:Nat) (hz:xs.length≤CZ):
  af F k (.b 9300767342341403084508581884785 ⟨[.ref a],[]⟩) [(a,⟨.type "tuple",none,.seq ⟨xs⟩ e,#[]⟩)] (X:=C1×Nat) (λξ=>True) (λx=>.ok (.ret (.ref x.1))) (λξ=>[⟨.type "tuple",none,.seq ⟨xs⟩ e,#[]⟩]) (λx=>[(x.1,aa xs x.2)]):=nu a "tuple" (.inr rfl) xs e hz
section
section
variable {F:Fx} {X:Type} {P:X→Prop} {r:X→Dq} {ob:X→List Obj} {new:X→ao} {k:Nat} {L E M:ao}
theorem ae.unlay {vw:CV} {D1 D2:Dr→Dr} (S:ae F k vw L (M++E) P r ob new D1 D2) (hl:∀x,(ob x).length=L.length):ae F k vw (L++E) M P r (λx=>ob x++E.map (·.2)) new D1 D2:=
 ⟨λc hc rest A R d os hr hR h g t hg D=>S.go c hc rest A R d os hr (λx h' g' t' hp hg' D'=>hR x h' g' t' hp hg' (by
  refine (gi L E _ (hl x))▸?_
  exact D'.perm (by exact pT [_,_,_,_,_] [2,3,0,4,5,0,6,0,0] [2,5,0,3,0,4,6,0,0] rfl))) h g t hg (D.perm (by exact pT [_,_,_,_] [2,3,0,4,5,0,0] [2,4,3,0,5,0,0] rfl))⟩
end
theorem dc (ps:List Pt) (x:Pt):ah (ps++[x])=ah ps++[.ref x.p]:=by unfold ah;rw [Da];rfl
theorem c8 (ps:List Pt) (x:Pt):aj (ps++[x])=aj ps++[x.e]:=by unfold aj;rw [Da];rfl
theorem gy (ps:List Pt) (x:Pt):aT (ps++[x])=aT ps+x.len:=by unfold aT;simp only [Da,EQ];simp
theorem ft (ps:List Pt) (x:Pt):bh (ps++[x])=bh ps++x.text:=by unfold bh;rw [Eb];simp
theorem eL (a dd:C1) (ps:List Pt) (p:C1) (f:List Nat) (tf:Tok) (q:List Nat) (tq:Tok) (e:Nat) (k:Tok) (i:Nat) (ti:Tok) (de:Nat) (n:Nat) (hn:i+(aT ps+(f.length+q.length))=n) (hz:n < CZ):
  ae Z 9 (.b 7300717 ⟨[.ref a],[]⟩) [(a,aw dd (ah ps++[.ref p]) e),(dd,dO Z k i ti de),(p,an f tf q tq)] (aj ps) (X:=Tok) (λξ=>True) (λt=>.ok (.ret (.int (.ofNat n) t)))
   (λt=>[aw dd (ah ps++[.ref p]) e,dO Z k i ti de,an f tf q tq]) (λt=>[]):=by
 have e1:aT (ps++[⟨p,f,tf,q,tq⟩])=aT ps+(f.length+q.length):=gy ps _
 have S:=qF a dd (ps++[⟨p,f,tf,q,tq⟩]) e k i ti de (by rw [e1];lia)
 rw [e1,hn,dc,c8] at S
 exact ae.unlay S λξ=>rfl
theorem gc (a dd:C1) (ps:List Pt) (p:C1) (f:List Nat) (tf:Tok) (q:List Nat) (tq:Tok) (e:Nat) (hz:aT ps+(f.length+q.length) < CZ) (hps:ps.length < CZ):
  ae Z 9 (.b 116512446855873012371256692 ⟨[.type "str",.ref a],[]⟩) [(a,aw dd (ah ps++[.ref p]) e),(p,an f tf q tq)] (aj ps) (X:=Tok) (λξ=>True) (λt=>.ok (.ret (.str (S (bh ps++(f++q))) t)))
   (λt=>[aw dd (ah ps++[.ref p]) e,an f tf q tq]) (λt=>[]):=by
 have e1:aT (ps++[⟨p,f,tf,q,tq⟩])=aT ps+(f.length+q.length):=gy ps _
 have e2:bh (ps++[⟨p,f,tf,q,tq⟩])=bh ps++(f++q):=ft ps _
 have S:=gU a dd (ps++[⟨p,f,tf,q,tq⟩]) e (by rw [e1];exact hz) (by rw [CY];exact hps)
 rw [e2,dc,c8] at S
 exact ae.unlay S λξ=>rfl
theorem jm (a dd:C1) (xs:List CX) (e:Nat) (k:Tok) (i:Nat) (ti:Tok) (de:Nat):
  af Z 10 (.o (.call (.ref 189) ⟨[.ref a],[]⟩)) [(a,aw dd xs e),(dd,dO Z k (i+1) ti de)] (X:=Unit) (λξ=>True) (λt=>.ok (.ret (.bool false)))
   (λt=>[aw dd xs e,dO Z k (i+1) ti de]) (λt=>[]):=by
 exists 1,af.of_defB
 exists 1,ax (i+1) ti 0 (t+1+1),0x13122111211211111112411341,0
 exists ar,(),0,17
theorem mv (a dd:C1) (ps:List Pt) (p:C1) (f:List Nat) (tf:Tok) (q:List Nat) (tq:Tok) (e:Nat) (k:Tok) (ti:Tok) (de:Nat) (m:Nat) (hm:0+(aT ps+(f.length+q.length))=m+1) (hz:m+1 < CZ) (hps:ps.length < CZ) (hsp:((S (bh ps++(f++q))).length > 0 && (S (bh ps++(f++q))).cps.all Unicode.isSpace)=false):
  ae Z 10 (.o (.call (.ref 189) ⟨[.ref a],[]⟩)) [(a,aw dd (ah ps++[.ref p]) e),(dd,dO Z k 0 ti de),(p,an f tf q tq)] (aj ps) (X:=Unit) (λξ=>True) (λt=>.ok (.ret (.bool false)))
   (λt=>[aw dd (ah ps++[.ref p]) e,dO Z k 0 ti de,an f tf q tq]) (λt=>[]):=by
 have e1:aT (ps++[⟨p,f,tf,q,tq⟩])=aT ps+(f.length+q.length):=gy ps _
 have e2:bh (ps++[⟨p,f,tf,q,tq⟩])=bh ps++(f++q):=ft ps _
 have S:=oL a dd (ps++[⟨p,f,tf,q,tq⟩]) e k ti de m (by rw [e1];exact hm) (by rw [e1,hm];exact hz) (by rw [CY];exact hps) (by refine e2▸?_;exact hsp)
 rw [dc,c8] at S
 exact ae.unlay S λξ=>rfl
theorem kC (a dd:C1) (p:C1) (f:List Nat) (tf:Tok) (q:List Nat) (tq:Tok) (e:Nat) (k:Tok) (i:Nat) (ti:Tok) (de:Nat) (n:Nat) (hn:i+(f.length+q.length)=n) (hz:n < CZ):
  af Z 9 (.b 7300717 ⟨[.ref a],[]⟩) [(a,aw dd [.ref p] e),(dd,dO Z k i ti de),(p,an f tf q tq)] (X:=Tok) (λξ=>True) (λt=>.ok (.ret (.int (.ofNat n) t)))
   (λt=>[aw dd [.ref p] e,dO Z k i ti de,an f tf q tq]) (λt=>[]):=
 af.of_T (ae.toT (eL a dd [] p f tf q tq e k i ti de n (by rw [show aT []=0 from rfl,EN];exact hn) hz))
theorem nz (a dd:C1) (p:C1) (f:List Nat) (tf:Tok) (q:List Nat) (tq:Tok) (e:Nat) (hz:f.length+q.length < CZ):
  af Z 9 (.b 116512446855873012371256692 ⟨[.type "str",.ref a],[]⟩) [(a,aw dd [.ref p] e),(p,an f tf q tq)] (X:=Tok) (λξ=>True) (λt=>.ok (.ret (.str (S (f++q)) t)))
   (λt=>[aw dd [.ref p] e,an f tf q tq]) (λt=>[]):=
 af.of_T (ae.toT (gc a dd [] p f tf q tq e (by rw [show aT []=0 from rfl,EN];exact hz) (by rw [ab];decide)))
theorem pM (v vd la a dd:C1) (K:Vk) (m e el ea:Nat) (k:Tok) (i:Nat) (ti:Tok) (de:Nat) (lines:List (List Nat×Tok)) (hl:lines.length < CZ) (hi:i+1 < CZ):
  ad Z 12 (.o (.call (.ref 78) ⟨[.ref v],[]⟩)) [(v,fB vd),(vd,fI Z K m la a e),(la,aa (al lines) el),(a,aw dd [] ea),(dd,dO Z k (i+1) ti de)] []
   (X:=Tok×Nat×Tok×Tok×Nat) (λξ=>True) (λξ=>.ok (.ret .none))
   (λx=>[(v,fB vd),(vd,fI Z K m la a e),(la,aa (al lines++[.str (S []) x.1]) (el+1)),(a,aw dd [] x.2.1),(dd,dO Z x.2.2.1 0 x.2.2.2.1 x.2.2.2.2)]) (λξ=>[]):=by
 exists 1,ad.of_defB
 have hl':(al lines).length≤CZ:=by unfold al;rw [C2];exact Ef ‹_›
 have hn:i+1+(([]:List Nat).length+([]:List Nat).length)=i+1:=rfl
 exists 1,(sW a dd ea k (i+1) ti de).up rfl,0x16511115111511153122111211112711671,68
 exists 2,i5 [] x1.2.1 [32] (t1+1),0x1949141494878,0
 exists 3,eI x1.1 [.str (S []) x1.2.1,.str (S []) x1.2.2] 0 (by simp only [CY,C5,De];lia),0x48111312211111121121111111261551115111158,3
 exists 4,(bU a dd [] ea k (i+1) ti de [] [] x1.2.1 x1.2.2 (by decide)).up rfl,725427,51
 exists 5,(kC a dd x4 [] x1.2.1 [] x1.2.2 (ea+1) k (i+1) ti de (i+1) hn ‹_›).up rfl,0x18177111711117a11,273
 exists 6,b8 (i+1) x5 0 t5,1,0
 exists 7,(jm a dd [.ref x4] (ea+1) k i ti de).up rfl,0x13211112111211128177111711117a,17
 exists 8,(nz a dd x4 [] x1.2.1 [] x1.2.2 (ea+1) (DD _)).up rfl,0x1118177111711117a1199998177111711117a,33
 exists 9,dj la (al lines) el (.str (S []) x8) ‹_›,37137,8
 exists 10,(fM a dd [.ref x4] (ea+1) k (i+1) ti de (DD _)).up rfl,0x15311113111311139188111811118a,50
 exact fR (Md:=[]) hroom hR (x8,x10.1,x10.2.1,x10.2.2.1,x10.2.2.2) [] (dec 70519) (by kernel_rfl) trivial (.refl _)
end
theorem nx (x y:List Nat):((S x:Str) == S y)=(x == y):=by
 rw [←PySem.SeqAt.str_beq]
theorem lH {F:Fx} {k:Nat} (l b:C1) (x y x' y':List Nat) (tx ty tx' ty':Tok) (e e':Nat) (c:Bool) (hc:(!(x == x' && y == y'))=c):
  af F k (.b 29827101557446578626297427573 ⟨[.ref l,.ref b],[]⟩) [(l,⟨.type "tuple",none,.seq ⟨[.str (S x) tx,.str (S y) ty]⟩ e,#[]⟩),(b,⟨.type "tuple",none,.seq ⟨[.str (S x') tx',.str (S y') ty']⟩ e',#[]⟩)] (X:=Unit) (λξ=>True) (λξ=>.ok (.ret (.bool c)))
   (λξ=>[⟨.type "tuple",none,.seq ⟨[.str (S x) tx,.str (S y) ty]⟩ e,#[]⟩,⟨.type "tuple",none,.seq ⟨[.str (S x') tx',.str (S y') ty']⟩ e',#[]⟩]) (λξ=>[]):=by
 refine af.of_b (id:="tuple.__ne__") (by kernel_rfl) (Db (b:=Builtin.«tuple.__ne__») (by kernel_rfl)) (by decide+kernel) λrest A R d os hr hR h g t hg D=>?_
 refine PySem.SeqAt.tuple_neAt l b ⟨[.str (S x) tx,.str (S y) ty]⟩ ⟨[.str (S x') tx',.str (S y') ty']⟩ e e' none none #[] #[] (λj=>if j=0 then x == x' else y == y') F.prog F.w A R ⟨h,g,d.d,t,os⟩ ⟨D.own (l,_) (C3 _ (.head _)),D.own (b,_) (C3 _ (.tail _ (.head _))),λj h1 h2=>?_,?_⟩
 ·match j,h1,h2 with
  | 0,_,_=>
   have:=PySem.SeqAt.EqAt.str_str (A:=A.in1) (s:=⟨h,g,d.d,t,os⟩) (S x) tx (S x') tx'
   simp only [nx] at this
   exact this
  | 1,_,_=>
   have:=PySem.SeqAt.EqAt.str_str (A:=A.in1) (s:=⟨h,g,d.d,t,os⟩) (S y) ty (S y') ty'
   simp only [nx] at this
   exact this
  | j+2,h1,_=>exact absurd (show j+2 < 2 from h1) (by lia)
 ·have e5:(!((FR (min (⟨[.str (S x) tx,.str (S y) ty]⟩:Array CX).size (⟨[.str (S x') tx',.str (S y') ty']⟩:Array CX).size)).all (λj=>if j=0 then x == x' else y == y') && (⟨[.str (S x) tx,.str (S y) ty]⟩:Array CX).size == (⟨[.str (S x') tx',.str (S y') ty']⟩:Array CX).size))=c:=by
   simp only [←hc]
   simp [FR,FR.loop]
  refine e5▸?_
  exact hR () h g t trivial hg D
theorem vM (v vd la a dd:C1) (K:Vk) (m e el ea:Nat) (k:Tok) (i:Nat) (ti:Tok) (de:Nat) (lines:List (List Nat×Tok)) (hl:lines.length < CZ) (ps:List Pt) (p:C1) (f:List Nat) (tf:Tok) (q0:Nat) (qr:List Nat) (tq:Tok) (hf:(!(f == [32] && (q0::qr) == []))=true) (n0:Nat) (hn:i+1+(aT ps+(f.length+(q0::qr).length))=n0+1) (hz:n0+1 < CZ) (hps:ps.length+1 < CZ):
  ad Z 12 (.o (.call (.ref 78) ⟨[.ref v],[]⟩)) [(v,fB vd),(vd,fI Z K m la a e),(la,aa (al lines) el),(a,aw dd (ah ps++[.ref p]) ea),(dd,dO Z k (i+1) ti de),(p,an f tf (q0::qr) tq)] (aj ps)
   (X:=Tok×Nat×Tok×Tok×Nat) (λξ=>True) (λξ=>.ok (.ret .none))
   (λx=>[(v,fB vd),(vd,fI Z K m la a e),(la,aa (al lines++[.str (S (bh ps++(f++q0::qr))) x.1]) (el+1)),(a,aw dd [] x.2.1),(dd,dO Z x.2.2.1 0 x.2.2.2.1 x.2.2.2.2)]) (λξ=>[]):=by
 have hl':(al lines).length≤CZ:=by unfold al;rw [C2];exact Ef ‹_›
 have hr':(ah ps).length < CZ:=by unfold ah;rw [C2];exact DK ‹_›
 have hr1:(ah ps).length≤CZ:=by exact Ef ‹_›
 have hr2:(ah ps++[CX.ref p]).length≤CZ:=by rw [CY];exact hr'
 have hr3:∀x:C1,(ah ps++[CX.ref x]).length≤CZ:=λx=>by rw [CY];exact hr'
 exists 1,ad.of_defB
 exists 1,(gk a dd (ah ps) p ea k (i+1) ti de ‹_›).up rfl,0x16511115111511153122111211112811781,68
 exists 2,lH p n1 f (q0::qr) [32] [] tf tq (t1+1) (t1+1+1) 0 0 _ hf,0x71797878,118
 exists 3,eI p [.str (S f) tf,.str (S (q0::qr)) tq] 0 (by simp only [CY,C5,De];lia),0x29111514411111141141111111471661116111169,1
 exists 4,(bU a dd (ah ps) x1 k (i+1) ti de f (q0::qr) tf tq ‹_›).up rfl,725427,68
 exists 5,cT,(eL a dd ps x4 f tf (q0::qr) tq (x1+1) k (i+1) ti de (n0+1) hn ‹_›).up rfl,0x19188111811118b11,273
 exists 6,b8 (n0+1) x5 0 t5,1,0
 exists 7,(jm a dd (ah ps++[.ref x4]) (x1+1) k i ti de).up rfl,0x13211112111211129188111811118b,17
 exists 8,cT,(gc a dd ps x4 f tf (q0::qr) tq (x1+1) (by lia) (by exact DK ‹_›)).up rfl,0x1119188111811118b11aaaa9188111811118b,33
 exists 9,dj la (al lines) el (.str (S (bh ps++(f++q0::qr))) x8) ‹_›,41233,9
 exists 10,(fM a dd (ah ps++[.ref x4]) (x1+1) k (i+1) ti de (by apply_assumption <;> assumption)).up rfl,0x1531111311131113a199111911119b,50
 exact fR hroom hR (x8,x10.1,x10.2.1,x10.2.2.1,x10.2.2.2) (Md:=aj ps) [] (dec 70536) (by kernel_rfl) (by trivial) (.refl _)
theorem sS (v vd la a dd:C1) (K:Vk) (m e el ea:Nat) (k:Tok) (ti:Tok) (de:Nat) (lines:List (List Nat×Tok)) (hl:lines.length < CZ) (ps:List Pt) (p:C1) (f:List Nat) (tf:Tok) (q0:Nat) (qr:List Nat) (tq:Tok) (hf:(!(f == [32] && (q0::qr) == []))=true) (n0:Nat) (hn:0+(aT ps+(f.length+(q0::qr).length))=n0+1) (hz:n0+1 < CZ) (hps:ps.length+1 < CZ) (hsp:((S (bh ps++(f++q0::qr))).length > 0 && (S (bh ps++(f++q0::qr))).cps.all Unicode.isSpace)=false):
  ad Z 12 (.o (.call (.ref 78) ⟨[.ref v],[]⟩)) [(v,fB vd),(vd,fI Z K m la a e),(la,aa (al lines) el),(a,aw dd (ah ps++[.ref p]) ea),(dd,dO Z k 0 ti de),(p,an f tf (q0::qr) tq)] (aj ps)
   (X:=Tok×Nat×Tok×Tok×Nat) (λξ=>True) (λξ=>.ok (.ret .none))
   (λx=>[(v,fB vd),(vd,fI Z K m la a e),(la,aa (al lines++[.str (S (bh ps++(f++q0::qr))) x.1]) (el+1)),(a,aw dd [] x.2.1),(dd,dO Z x.2.2.1 0 x.2.2.2.1 x.2.2.2.2)]) (λξ=>[]):=by
 have hl':(al lines).length≤CZ:=by unfold al;rw [C2];exact Ef ‹_›
 have hr':(ah ps).length < CZ:=by unfold ah;rw [C2];exact DK ‹_›
 have hr1:(ah ps).length≤CZ:=by exact Ef ‹_›
 have hr3:∀x:C1,(ah ps++[CX.ref x]).length≤CZ:=λx=>by rw [CY];exact hr'
 exists 1,ad.of_defB
 exists 1,(gk a dd (ah ps) p ea k 0 ti de ‹_›).up rfl,0x16511115111511153122111211112811781,68
 exists 2,lH p n1 f (q0::qr) [32] [] tf tq (t1+1) (t1+1+1) 0 0 _ hf,0x71797878,118
 exists 3,eI p [.str (S f) tf,.str (S (q0::qr)) tq] 0 (by simp only [CY,C5,De];lia),0x29111514411111141141111111471661116111169,1
 exists 4,(bU a dd (ah ps) x1 k 0 ti de f (q0::qr) tf tq ‹_›).up rfl,725427,68
 exists 5,cT,(eL a dd ps x4 f tf (q0::qr) tq (x1+1) k 0 ti de (n0+1) hn ‹_›).up rfl,0x19188111811118b11,273
 exists 6,b8 (n0+1) x5 0 t5,1,0
 exists 7,cT,(mv a dd ps x4 f tf (q0::qr) tq (x1+1) k ti de n0 hn ‹_› (by exact DK ‹_›) ‹_›).up rfl,0x13211112111211129188111811118b,273
 exists 8,cT,(gc a dd ps x4 f tf (q0::qr) tq (x1+1) (by lia) (by exact DK ‹_›)).up rfl,0x1119188111811118b11aaaa9188111811118b,33
 exists 9,dj la (al lines) el (.str (S (bh ps++(f++q0::qr))) x8) ‹_›,41233,9
 exists 10,(fM a dd (ah ps++[.ref x4]) (x1+1) k 0 ti de (by apply_assumption <;> assumption)).up rfl,0x1531111311131113a199111911119b,50
 exact fR hroom hR (x8,x10.1,x10.2.1,x10.2.2.1,x10.2.2.2) (Md:=aj ps) [] (dec 70536) (by kernel_rfl) (by trivial) (.refl _)
section
open AutoSeq1 (idx_int wpAny_loadPart')
theorem fE (n:Nat):Builtin.Range.rangeSize (C4 n) 0 (-1)=C4 n:=by
 unfold Builtin.Range.rangeSize
 rw [if_neg (by decide)]
 split
 ·have e:(- -1:Int)=1:=by decide
  simp only [e,GK]
  show ((n:Int) - 0 - 1)+1=(n:Int)
  lia
 ·rename_i h
  show (0:Int)=(n:Int)
  have h:¬((n:Int) > 0):=h
  lia
theorem gR (n:Nat):Builtin.Range.rangeSize 0 (C4 n) 1=C4 n:=by
 unfold Builtin.Range.rangeSize
 rw [if_pos (by decide)]
 split
 ·rw [GK]
  show ((n:Int) - 0 - 1)+1=(n:Int)
  lia
 ·rename_i h
  show (0:Int)=(n:Int)
  have h:¬((0:Int) < (n:Int)):=h
  lia
theorem pw (n:Nat) (h:n < 16777216):Builtin.Range.small (C4 n) 0 (-1)=true:=by
 unfold Builtin.Range.small
 rw [fE]
 have h1:Builtin.Range.rangeFitsLong (C4 n)=true:=by
  unfold Builtin.Range.rangeFitsLong
  simp only [Dt,decide_eq_true_eq,Dz]
  lia
 rw [h1]
 cases (C4 n == 0) <;> decide
theorem va (n:Nat) (h:n < 16777216):Builtin.Range.small 0 (C4 n) 1=true:=by
 unfold Builtin.Range.small
 rw [gR]
 have h1:Builtin.Range.rangeFitsLong (C4 n)=true:=by
  unfold Builtin.Range.rangeFitsLong
  simp only [Dt,decide_eq_true_eq,Dz]
  lia
 have h2:Builtin.Range.rangeFitsLong (C4 n+(1 - 1))=true:=by
  rw [show C4 n+(1 - 1)=C4 n from by show (n:Int)+(1 - 1)=(n:Int);lia];exact h1
 rw [h1,if_pos (by decide),h2]
 simp
 decide
theorem kI {F:Fx} {k:Nat} (r:C1) (a b c:Int) (n:Nat) (t u v:Tok) (hs:Builtin.Range.small a b c=true) (hn:Builtin.Range.rangeSize a b c=C4 n):
  af F k (.b 1954752940192971970453299505619571 ⟨[.ref r],[]⟩) [(r,aE "range" [.int a t,.int b u,.int c v])] (X:=C1) (λξ=>True) (λx=>.ok (.ret (.ref x))) (λξ=>[aE "range" [.int a t,.int b u,.int c v]]) (λx=>[(x,aE "range_iterator" [.int a 0,.int (.ofNat n) 0,.int c 0])]):=by
 refine af.of_b (id:="range.__iter__") (by kernel_rfl) PySem.F.entry_range_iter (by decide+kernel) λrest A R d os hr hR h g t' hg D=>?_
 have hs':=hs
 have D':=D.alloc (o:=aE "range_iterator" [.int a 0,.int (.ofNat n) 0,.int c 0]) rfl
 unfold Builtin.Range.small at hs'
 refine AutoRange.range___iter___range_1 r a b c t u v (by simp [hs']) F.prog F.w A R ⟨h,g,d.d,t',os⟩ ⟨D.own (r,_) (C3 _ (.head _)),?_⟩
 simp only [hs',if_true]
 refine hn▸?_
 exact hR h.objs.size _ g t' trivial hg (D'.perm (.swap _ _ _))
theorem cW {F:Fx} {k:Nat} (r:C1) (n:Nat) (t u v:Tok) (hz:n < 16777216):
  af F k (.b 1954752940192971970453299505619571 ⟨[.ref r],[]⟩) [(r,aE "range" [.int (.ofNat n) t,.int 0 u,.int (-1) v])] (X:=C1) (λξ=>True) (λx=>.ok (.ret (.ref x))) (λξ=>[aE "range" [.int (.ofNat n) t,.int 0 u,.int (-1) v]]) (λx=>[(x,aE "range_iterator" [.int (.ofNat n) 0,.int (.ofNat n) 0,.int (-1) 0])]):=
 kI r _ _ _ n t u v (pw n hz) (fE n)
theorem gL {F:Fx} {k:Nat} (r:C1) (n:Nat) (t u v:Tok) (hz:n < 16777216):
  af F k (.b 1954752940192971970453299505619571 ⟨[.ref r],[]⟩) [(r,aE "range" [.int 0 t,.int (.ofNat n) u,.int 1 v])] (X:=C1) (λξ=>True) (λx=>.ok (.ret (.ref x))) (λξ=>[aE "range" [.int 0 t,.int (.ofNat n) u,.int 1 v]]) (λx=>[(x,aE "range_iterator" [.int 0 0,.int (.ofNat n) 0,.int 1 0])]):=
 kI r _ _ _ n t u v (va n hz) (gR n)
theorem kJ {F:Fx} {k:Nat} (it:C1) (x c x':Int) (n:Nat) (hx:x+c=x'):
  af F k (.b 9231062798198206674541908477283886571094360729114862195 ⟨[.ref it],[]⟩) [(it,aE "range_iterator" [.int x 0,.int (.ofNat (n+1)) 0,.int c 0])] (X:=Tok) (λξ=>True) (λt=>.ok (.ret (.int x t))) (λξ=>[aE "range_iterator" [.int x' 0,.int (.ofNat n) 0,.int c 0]]) (λξ=>[]):=by
 refine af.of_b (id:="range_iterator.__next__") (by kernel_rfl) PySem.F.entry_range_iterator_next (by decide+kernel) λrest A R d os hr hR h g t hg D=>?_
 have D1:=D.update (L:=[(it,aE "range_iterator" [.int x 0,.int (.ofNat (n+1)) 0,.int c 0])]) (i:=0) (f:=Obj.mapFields (·.setIfInBounds 0 (rawInt (x+c)))) rfl rfl
 have D2:=bq.update (L:=[(it,aE "range_iterator" [.int (x+c) 0,.int (.ofNat (n+1)) 0,.int c 0])]) (rest:=rest) D1 (i:=0) (f:=Obj.mapFields (·.setIfInBounds 1 (rawInt (C4 (n+1) - 1)))) rfl rfl
 refine AutoRange.range_iterator___next___range_iterator_1 it x (C4 (n+1)) c (by show ¬((n+1:Nat):Int)≤0;lia) F.prog F.w A R ⟨h,g,d.d,t,os⟩ ⟨D.own (it,_) (C3 _ (.head _)),?_⟩
 have e:bm [(it,aE "range_iterator" [.int (x+c) 0,.int (.ofNat (n+1)) 0,.int c 0])] 0 (Obj.mapFields (·.setIfInBounds 1 (rawInt (C4 (n+1) - 1))) (aE "range_iterator" [.int (x+c) 0,.int (.ofNat (n+1)) 0,.int c 0]))=[(it,aE "range_iterator" [.int x' 0,.int (.ofNat n) 0,.int c 0])]:=by
  have e1:C4 (n+1) - 1=C4 n:=by show ((n+1:Nat):Int) - 1=(n:Int);lia
  refine hx▸e1▸?_
  rfl
 simp only [e] at D2
 exact hR t _ g (t+1) trivial hg D2
theorem cV {F:Fx} {k:Nat} (it:C1) (j:Nat):
  af F k (.b 9231062798198206674541908477283886571094360729114862195 ⟨[.ref it],[]⟩) [(it,aE "range_iterator" [.int (.ofNat (j+1)) 0,.int (.ofNat (j+1)) 0,.int (-1) 0])] (X:=Tok) (λξ=>True) (λt=>.ok (.ret (.int (.ofNat (j+1)) t))) (λξ=>[aE "range_iterator" [.int (.ofNat j) 0,.int (.ofNat j) 0,.int (-1) 0]]) (λξ=>[]):=
 kJ it _ _ _ j (by show ((j+1:Nat):Int)+ -1=(j:Int);lia)
theorem dI {F:Fx} {k:Nat} (it:C1) (i j:Nat):
  af F k (.b 9231062798198206674541908477283886571094360729114862195 ⟨[.ref it],[]⟩) [(it,aE "range_iterator" [.int (.ofNat i) 0,.int (.ofNat (j+1)) 0,.int 1 0])] (X:=Tok) (λξ=>True) (λt=>.ok (.ret (.int (.ofNat i) t))) (λξ=>[aE "range_iterator" [.int (.ofNat (i+1)) 0,.int (.ofNat j) 0,.int 1 0]]) (λξ=>[]):=
 kJ it _ _ _ j rfl
theorem ek {F:Fx} {k:Nat} (it:C1) (x c:Int):
  af F k (.b 9231062798198206674541908477283886571094360729114862195 ⟨[.ref it],[]⟩) [(it,aE "range_iterator" [.int x 0,.int (.ofNat 0) 0,.int c 0])] (X:=C1×C1) (λξ=>True) (λx=>.error (.ref x.2)) (λξ=>[aE "range_iterator" [.int x 0,.int (.ofNat 0) 0,.int c 0]]) (λx=>[(x.1,⟨.type "tuple",none,.seq ⟨[]⟩ 0,#[]⟩),(x.2,bx x.1)]):=by
 refine af.of_b (id:="range_iterator.__next__") (by kernel_rfl) PySem.F.entry_range_iterator_next (by decide+kernel) λrest A R d os hr hR h g t hg D=>?_
 have hit:h.get? it=some (aE "range_iterator" [.int x 0,.int (.ofNat 0) 0,.int c 0]):=D.own (it,_) (C3 _ (.head _))
 have hh:A.in1.handled=none:=hr.handled.none
 have D1:=D.alloc (o:={cls:=.type "tuple",data:=.seq #[]}) rfl
 have D2:=D1.alloc (o:=bx h.objs.size) rfl
 have key:∀o,o=bx h.objs.size→R (.error (.ref (h.push {cls:=.type "tuple",data:=.seq #[]}).objs.size)) ⟨(h.push {cls:=.type "tuple",data:=.seq #[]}).push o,g,d.d,t,os⟩:=by
  rintro o rfl
  exact hR (h.objs.size,_) _ g t trivial hg (D2.perm (by
   refine (DH (l₁:=[_,_]) (l₂:=_::rest)).trans ?_
   refine Ee _ ?_
   exact DH.trans (.swap _ _ _)))
 show wpAny _ _ (field (.ref it) 0 >>= _) _ _ _
 refine C0 (ED hit rfl (x:=rawInt x) rfl ?_)
 refine C0 (ED hit rfl (x:=rawInt (C4 0)) rfl ?_)
 refine C0 (ED hit rfl (x:=rawInt c) rfl ?_)
 show wpAny _ _ (if C4 0≤0 then _ else _) _ _ _
 rw [if_pos (by decide)]
 refine C0 (Fy ?_)
 refine C0 ?_
 refine C0 ?_
 simp only [newExc,newTuple]
 refine C0 (DU ?_ (by size_fits))
 refine C0 (m:=firstArgMember _ _) (Es (a:=CX.none) (by first | rfl | (rw [firstArgMember];rfl)) ?_)
 refine DU ?_ (by size_fits)
 rw [raiseNew]
 refine C0 (Fh ?_)
 refine hh▸?_
 exact FC (key _ (by kernel_rfl))
theorem cG {F:Fx} {k:Nat} (a:Nat) (t:Tok) (u:Tok) (b:Nat) (h:a=b+1):af F k (.b 116512060628576343961202538 ⟨[.int (.ofNat a) t,.int 1 u],[]⟩) [] (X:=Tok) (λξ=>True) (λt=>.ok (.ret (.int (.ofNat b) t))) (λξ=>[]) (λξ=>[]):=by
 subst h
 have:=d1 (F:=F) (k:=k) (C4 (b+1)) t 1 u
 rw [show C4 (b+1) - 1=C4 b from by show ((b+1:Nat):Int) - 1=(b:Int);lia] at this
 exact this
theorem pk {F:Fx} {k:Nat} (a:C1) (cls:CX) (dd:Option C1) (sl:Array (Option CX)) (xs:List CX) (e:Nat) (i:Nat) (x:Int) (t:Tok) (v:CX) (hv:xs[i]?=some v) (hidx:x=C4 i) (hfit:(!Builtin.List.listFitsIndex x)=false):
  af F k (.b 128106587276438692081757506308484131437 ⟨[.ref a,.int x t],[]⟩) [(a,⟨cls,dd,.seq ⟨xs⟩ e,sl⟩)] (X:=Unit) (λξ=>True) (λξ=>.ok (.ret v)) (λξ=>[⟨cls,dd,.seq ⟨xs⟩ e,sl⟩]) (λξ=>[]):=by
 refine af.of_b (id:="list.__getitem__") (by kernel_rfl) (Db (b:=Builtin.«list.__getitem__») (by kernel_rfl)) (by decide+kernel) λrest A R d os hr hR h g t' hg D=>?_
 have hl:=D.own (a,⟨cls,dd,.seq ⟨xs⟩ e,sl⟩) (C3 _ (.head _))
 have f1:=idx_int
 have hv':(⟨xs⟩:Array CX)[i]?=some v:=by simpa using hv
 wp_walk using Fn hl
 subst hidx
 rw [if_neg (by rw [hfit];exact Dy)]
 refine Dc ?_
 refine C0 ?_
 refine C0 (wpAny_seqItemAt hl rfl ?_)
 refine hv'▸?_
 refine Dc ?_
 refine Dc ?_
 exact hR () h g t' trivial hg D
theorem dz {F:Fx} {k:Nat} (a:C1) (cls:CX) (dd:Option C1) (sl:Array (Option CX)) (xs:List CX) (e:Nat) (i:Nat) (t:Tok) (v:CX) (hv:xs[i]?=some v) (hz:i < 16777216):
  af F k (.b 128106587276438692081757506308484131437 ⟨[.ref a,.int (.ofNat i) t],[]⟩) [(a,⟨cls,dd,.seq ⟨xs⟩ e,sl⟩)] (X:=Unit) (λξ=>True) (λξ=>.ok (.ret v)) (λξ=>[⟨cls,dd,.seq ⟨xs⟩ e,sl⟩]) (λξ=>[]):=by
 refine pk a cls dd sl xs e i (C4 i) t v hv rfl ?_
 ·unfold Builtin.List.listFitsIndex
  simp only [F9,Dt,decide_eq_true_eq,Dz]
  lia
theorem tJ {F:Fx} {k:Nat} (x:List Nat) (c:Nat) (t u:Tok) (hz:x.length+1 < 16777216):af F k (.b 500416356548588640944365259017385332 ⟨[.str (S (x++[c])) t,.int (-1) u],[]⟩) [] (X:=Tok) (λξ=>True) (λt=>.ok (.ret (.str (S [c]) t))) (λξ=>[]) (λξ=>[]):=by
 refine gO (x++[c]) t (-1) u c (by decide) ?_
 have e:seqIndex? (-1) (S (x++[c])).length=some x.length:=by
  have h3:(-1:Int) < 0:=by decide
  unfold seqIndex?
  have h4:(0:Int)≤-1+((x.length+1:Nat):Int):=by lia
  have h2:(S (x++[c])).length=x.length+1:=by simp only [jn];simp
  refine h2▸?_
  simp only [h3,if_true]
  have h5: -1+((x.length+1:Nat):Int) < ((x.length+1:Nat):Int):=by lia
  have h6:(-1+((x.length+1:Nat):Int)).toNat=x.length:=by lia
  simp only [h4,h5,h6,decide_true,FG,if_true]
 rw [e]
 show (⟨x++[c]⟩:Array Nat)[x.length]?=some c
 simp
theorem em {F:Fx} {k:Nat} (a:C1) (xs:List CX) (e:Nat) (i:Nat) (t:Tok) (v:CX) (hv:xs[i]?=some v) (hz:i < 16777216):
  af F k (.b 128106587276438692081757506308484131437 ⟨[.ref a,.int (.ofNat i) t],[]⟩) [(a,⟨.type "list",none,.seq ⟨xs⟩ e,#[]⟩)] (X:=Unit) (λξ=>True) (λξ=>.ok (.ret v)) (λξ=>[⟨.type "list",none,.seq ⟨xs⟩ e,#[]⟩]) (λξ=>[]):=
 dz a (.type "list") none #[] xs e i t v hv hz
end
noncomputable abbrev kP:List Nat:=[115,101,108,102]
noncomputable abbrev jC:List Nat:=[115,116,114,105,110,103]
noncomputable abbrev Cj:List Nat:=[99,104]
noncomputable abbrev nI:List Nat:=[105]
noncomputable abbrev Ag:List Nat:=[112,114,101,118,112,97,114,116]
noncomputable abbrev Ck:=Tok×Tok×Tok×Tok×Tok×Tok×Tok
noncomputable abbrev nL (F:Fx) (K:Ck) (v:C1) (f q:List Nat) (e:Nat):Obj:=
 bY [en F kP K.1 (.ref v),en F cF K.2.1 (.str (S f) K.2.2.1),en F jC K.2.2.2.1 (.str (S q) K.2.2.2.2.1),en F Cj K.2.2.2.2.2.1 (.str (S [59]) K.2.2.2.2.2.2)] e
noncomputable abbrev gH (F:Fx) (K:Ck) (v:C1) (f q:List Nat) (ki kp:Tok) (i:Nat) (ti:Tok) (pv:CX) (e:Nat):Obj:=
 bY [en F kP K.1 (.ref v),en F cF K.2.1 (.str (S f) K.2.2.1),en F jC K.2.2.2.1 (.str (S q) K.2.2.2.2.1),en F Cj K.2.2.2.2.2.1 (.str (S [59]) K.2.2.2.2.2.2),en F nI ki (.int (.ofNat i) ti),en F Ag kp pv] e
theorem gl {F:Fx} {k:Nat} (x:List Nat) (c:Nat) (t u:Tok) (h:x.getLast?=some c) (hz:x.length < 16777216):af F k (.b 500416356548588640944365259017385332 ⟨[.str (S x) t,.int (-1) u],[]⟩) [] (X:=Tok) (λξ=>True) (λt=>.ok (.ret (.str (S [c]) t))) (λξ=>[]) (λξ=>[]):=by
 obtain ⟨l,rfl⟩:=List.getLast?_eq_some_iff.mp h
 exact tJ l c t u (by rw [CY] at hz;exact hz)
theorem tK (L it v vd la a dd:C1) (K:Vk) (J:Ck) (m e ea:Nat) (f q:List Nat) (ps:List Pt) (ef:Nat) (p:C1) (j:Nat) (xf:List Nat) (xtf:Tok) (q0:Nat) (qr:List Nat) (xtq:Tok) (hx:(ah ps)[j]?=some (.ref p)) (hj:j < 1000000) (c:Nat) (hc:(q0::qr).getLast?=some c) (hq:(q0::qr).length < 16777216) (h59:([c] == [59])=true):
  af Z 6 (.o (hH (fH Z 113 L) (.ref it) (gF Z 113 [1,0,0])))
   ([(L,nL Z J v f q ef),(it,aE "range_iterator" [.int (.ofNat (j+1)) 0,.int (.ofNat (j+1)) 0,.int (-1) 0]),(v,fB vd),(vd,fI Z K m la a e),(a,aw dd (ah ps) ea)]++[(p,an xf xtf (q0::qr) xtq)])
   (X:=Tok×Tok×Tok×CX×Nat×Obj) (λξ=>True) (λξ=>.ok .next)
   (λx=>[gH Z J v f q x.1 x.2.1 (j+1) x.2.2.1 x.2.2.2.1 x.2.2.2.2.1,x.2.2.2.2.2,fB vd,fI Z K m la a e,aw dd (ah ps) ea]++[an xf xtf (q0::qr) xtq]) (λξ=>[]):=by
 have hjj:j+1=j+1:=rfl
 have hq2:(q0::qr).length≤CZ:=by have:=ab;exact lD ‹_› rfl
 exists 0,af.of_codeB
 exists 1,cV it j,787,2
 exists 2,bW [59] J.2.2.2.2.2.2,4899,0
 exists 3,cG (j+1) x1 (t2+1) j hjj,0x1351441114111143,0
 exists 4,dz a (.ref 200) (some dd) #[] (ah ps) ea j x3 (.ref p) hx (by exact lC ‹_› rfl),0x1611116161116,5
 exists 5,aG (q0::qr) xtq ‹_›,0x434171717771,0
 exists 6,gl (q0::qr) c xtq (t5+1) hc ‹_›,4372,0
 exists 7,cB [c] x6 [59] J.2.2.2.2.2.2 _ h59,20,0
 exists ar,(t1,t4+1,x1,.str (S (q0::qr)) xtq,ef+1+1,.mk (.type "range_iterator") none (.fields ⟨[.int (.ofNat j) 0,.int (.ofNat j) 0,.int (-1) 0]⟩) #[]),0,1122851
theorem w6 (L it v vd la a dd:C1) (K:Vk) (J:Ck) (m e ea:Nat) (f q:List Nat) (ps:List Pt) (ef:Nat) (ki kp:Tok) (i0:Nat) (t0:Tok) (pv:CX) (p:C1) (j:Nat) (xf:List Nat) (xtf:Tok) (q0:Nat) (qr:List Nat) (xtq:Tok) (hx:(ah ps)[j]?=some (.ref p)) (hj:j < 1000000) (c:Nat) (hc:(q0::qr).getLast?=some c) (hq:(q0::qr).length < 16777216) (h59:([c] == [59])=true):
  af Z 6 (.o (hH (fH Z 113 L) (.ref it) (gF Z 113 [1,0,0])))
   ([(L,gH Z J v f q ki kp i0 t0 pv ef),(it,aE "range_iterator" [.int (.ofNat (j+1)) 0,.int (.ofNat (j+1)) 0,.int (-1) 0]),(v,fB vd),(vd,fI Z K m la a e),(a,aw dd (ah ps) ea)]++[(p,an xf xtf (q0::qr) xtq)])
   (X:=Tok×CX×Nat×Obj) (λξ=>True) (λξ=>.ok .next)
   (λx=>[gH Z J v f q ki kp (j+1) x.1 x.2.1 x.2.2.1,x.2.2.2,fB vd,fI Z K m la a e,aw dd (ah ps) ea]++[an xf xtf (q0::qr) xtq]) (λξ=>[]):=by
 have hjj:j+1=j+1:=rfl
 have hq2:(q0::qr).length≤CZ:=by have:=ab;exact lD ‹_› rfl
 exists 0,af.of_codeB
 exists 1,cV it j,787,2
 exists 2,bW [59] J.2.2.2.2.2.2,4899,0
 exists 3,cG (j+1) x1 (t2+1) j hjj,0x1351441114111143,0
 exists 4,dz a (.ref 200) (some dd) #[] (ah ps) ea j x3 (.ref p) hx (by exact lC ‹_› rfl),0x1611116161116,5
 exists 5,aG (q0::qr) xtq ‹_›,0x434171717771,0
 exists 6,gl (q0::qr) c xtq (t5+1) hc ‹_›,4372,0
 exists 7,cB [c] x6 [59] J.2.2.2.2.2.2 _ h59,20,0
 exists ar,(x1,.str (S (q0::qr)) xtq,ef,.mk (.type "range_iterator") none (.fields ⟨[.int (.ofNat j) 0,.int (.ofNat j) 0,.int (-1) 0]⟩) #[]),0,1122851
theorem yc (L it v vd la a dd:C1) (K:Vk) (J:Ck) (m e ea:Nat) (f q:List Nat) (ps:List Pt) (ef:Nat) (ki kp:Tok) (i0:Nat) (t0:Tok) (pv:CX):
  af Z 6 (.o (hH (fH Z 113 L) (.ref it) (gF Z 113 [1,0,0])))
   [(L,gH Z J v f q ki kp i0 t0 pv ef),(it,aE "range_iterator" [.int (.ofNat 0) 0,.int (.ofNat 0) 0,.int (-1) 0]),(v,fB vd),(vd,fI Z K m la a e),(a,aw dd (ah ps) ea)]
   (X:=Nat×Obj) (λξ=>True) (λξ=>.ok .cont)
   (λx=>[gH Z J v f q ki kp i0 t0 pv x.1,x.2,fB vd,fI Z K m la a e,aw dd (ah ps) ea]) (λξ=>[]):=by
 exists 0,af.of_codeB
 exists 1,ek it 0 (-1),787,2
 exists ar,(ef,.mk (.type "range_iterator") none (.fields ⟨[.int 0 0,.int 0 0,.int (-1) 0]⟩) #[]),20,209684
noncomputable abbrev X6:=Tok×Tok×Nat×Tok×CX×Nat×Obj
noncomputable abbrev iw (F:Fx) (L it:C1):CV:=.o (hH (fH F 113 L) (.ref it) (gF F 113 [1,0,0]))
noncomputable abbrev jr (F:Fx) (L it v vd la a dd:C1) (K:Vk) (m e ea:Nat) (ps:List Pt) (fr:Obj) (j:Nat):ao:=
 [(L,fr),(it,aE "range_iterator" [.int (.ofNat j) 0,.int (.ofNat j) 0,.int (-1) 0]),(v,fB vd),(vd,fI F K m la a e),(a,aw dd (ah ps) ea)]
noncomputable abbrev jq (F:Fx) (v vd la a dd:C1) (K:Vk) (J:Ck) (m e ea:Nat) (f q:List Nat) (ps:List Pt) (x:X6):List Obj:=
 [gH F J v f q x.1 x.2.1 x.2.2.1 x.2.2.2.1 x.2.2.2.2.1 x.2.2.2.2.2.1,x.2.2.2.2.2.2,fB vd,fI F K m la a e,aw dd (ah ps) ea]
theorem sU (L it v vd la a dd:C1) (K:Vk) (J:Ck) (m e ea:Nat) (f q:List Nat) (ps:List Pt) (ef:Nat) (p:C1) (j:Nat) (xf:List Nat) (xtf:Tok) (q0:Nat) (qr:List Nat) (xtq:Tok) (hx:(ah ps)[j]?=some (.ref p)) (hj:j < 1000000) (c:Nat) (hc:(q0::qr).getLast?=some c) (hq:(q0::qr).length < 16777216) (h59:([c] == [59])=false) (M:ao) (P:X6→Prop) (r:X6→Dq)
  (ih:∀ki kp i0 t0 pv ef,ae Z 6 (iw Z L it) (jr Z L it v vd la a dd K m e ea ps (gH Z J v f q ki kp i0 t0 pv ef) j++[(p,an xf xtf (q0::qr) xtq)]) M P r (λx=>jq Z v vd la a dd K J m e ea f q ps x++[an xf xtf (q0::qr) xtq]) (λξ=>[])):
  ae Z 6 (iw Z L it) (jr Z L it v vd la a dd K m e ea ps (nL Z J v f q ef) (j+1)++[(p,an xf xtf (q0::qr) xtq)]) M P r (λx=>jq Z v vd la a dd K J m e ea f q ps x++[an xf xtf (q0::qr) xtq]) (λξ=>[]):=by
 have hjj:j+1=j+1:=rfl
 have hq2:(q0::qr).length≤CZ:=by have:=ab;exact lD ‹_› rfl
 exists 0,ae.of_codeB
 exists 1,cV it j,787,2
 exists 2,bW [59] J.2.2.2.2.2.2,4899,0
 exists 3,cG (j+1) x1 (t2+1) j hjj,0x1351441114111143,0
 exists 4,dz a (.ref 200) (some dd) #[] (ah ps) ea j x3 (.ref p) hx (by exact lC ‹_› rfl),0x1611116161116,5
 exists 5,aG (q0::qr) xtq ‹_›,0x434171717771,0
 exists 6,gl (q0::qr) c xtq (t5+1) hc ‹_›,4372,0
 exists 7,cB [c] x6 [59] J.2.2.2.2.2.2 _ h59,20,0
 exists 8,aW,ih t1 (t4+1) (j+1) x1 (.str (S (q0::qr)) xtq) (ef+1+1),0,1122851
 exists ar,(x8.1,x8.2.1,x8.2.2.1,x8.2.2.2.1,x8.2.2.2.2.1,x8.2.2.2.2.2.1,x8.2.2.2.2.2.2),0,1118481
theorem uZ (L it v vd la a dd:C1) (K:Vk) (J:Ck) (m e ea:Nat) (f q:List Nat) (ps:List Pt) (ef:Nat) (ki kp:Tok) (i0:Nat) (t0:Tok) (pv:CX) (p:C1) (j:Nat) (xf:List Nat) (xtf:Tok) (q0:Nat) (qr:List Nat) (xtq:Tok) (hx:(ah ps)[j]?=some (.ref p)) (hj:j < 1000000) (c:Nat) (hc:(q0::qr).getLast?=some c) (hq:(q0::qr).length < 16777216) (h59:([c] == [59])=false) (M:ao) (P:X6→Prop) (r:X6→Dq)
  (ih:∀ki kp i0 t0 pv ef,ae Z 6 (iw Z L it) (jr Z L it v vd la a dd K m e ea ps (gH Z J v f q ki kp i0 t0 pv ef) j++[(p,an xf xtf (q0::qr) xtq)]) M P r (λx=>jq Z v vd la a dd K J m e ea f q ps x++[an xf xtf (q0::qr) xtq]) (λξ=>[])):
  ae Z 6 (iw Z L it) (jr Z L it v vd la a dd K m e ea ps (gH Z J v f q ki kp i0 t0 pv ef) (j+1)++[(p,an xf xtf (q0::qr) xtq)]) M P r (λx=>jq Z v vd la a dd K J m e ea f q ps x++[an xf xtf (q0::qr) xtq]) (λξ=>[]):=by
 have hjj:j+1=j+1:=rfl
 have hq2:(q0::qr).length≤CZ:=by have:=ab;exact lD ‹_› rfl
 exists 0,ae.of_codeB
 exists 1,cV it j,787,2
 exists 2,bW [59] J.2.2.2.2.2.2,4899,0
 exists 3,cG (j+1) x1 (t2+1) j hjj,0x1351441114111143,0
 exists 4,dz a (.ref 200) (some dd) #[] (ah ps) ea j x3 (.ref p) hx (by exact lC ‹_› rfl),0x1611116161116,5
 exists 5,aG (q0::qr) xtq ‹_›,0x434171717771,0
 exists 6,gl (q0::qr) c xtq (t5+1) hc ‹_›,4372,0
 exists 7,cB [c] x6 [59] J.2.2.2.2.2.2 _ h59,20,0
 exists 8,aW,ih ki kp (j+1) x1 (.str (S (q0::qr)) xtq) ef,0,1122851
 exists ar,(x8.1,x8.2.1,x8.2.2.1,x8.2.2.2.1,x8.2.2.2.2.1,x8.2.2.2.2.2.1,x8.2.2.2.2.2.2),0,1118481
section
noncomputable def gZ (x:Pt):Bool:=x.q.getLast? == some 59
noncomputable def bw (ps:List Pt):Nat→Nat
 | 0=>0
 | j+1=>match ps[j]? with
  | some x=>if gZ x then j+1 else bw ps j
  | none=>0
noncomputable def m0 (x:Pt):Prop:=x.q≠[]∧x.q.length < 16777216
theorem ae.to {F:Fx} {X Y:Type} {P:X→Prop} {P':Y→Prop} {r:X→Dq} {r':Y→Dq} {ob:X→List Obj} {ob':Y→List Obj} {new:X→ao} {new':Y→ao} {k:Nat} {L M:ao} {vw:CV} {D1 D2:Dr→Dr}
  (S:ae F k vw L M P r ob new D1 D2) (φ:X→Y) (h:∀x,P x→P' (φ x)∧r' (φ x)=r x∧ob' (φ x)=ob x∧new' (φ x)=new x):ae F k vw L M P' r' ob' new' D1 D2:=
 ⟨λc hc rest A R d os hr hR h' g t hg D=>S.go c hc rest A R d os hr (λx h2 g2 t2 hp hg2 D2=>by
  obtain ⟨h1,h2',h3,h4⟩:=h x hp
  have:=hR (φ x) h2 g2 t2 h1 hg2 (by simp only [h3,h4];exact D2)
  simp only [h2'] at this
  exact this) h' g t hg D⟩
section
variable (L it v vd la a dd:C1) (K:Vk) (J:Ck) (m e ea:Nat) (f q:List Nat) (ps:List Pt)
theorem nT (hps:ps.length < 1000000) (hg:∀x∈ps,m0 x) (j:Nat) (hj:j < ps.length) (fr:Obj) (P:X6→Prop) (r:X6→Dq)
  (hit:∀x:Pt,ps[j]?=some x→gZ x=true→ae Z 6 (iw Z L it) (jr Z L it v vd la a dd K m e ea ps fr (j+1)++[x.e]) [] P r (λy=>jq Z v vd la a dd K J m e ea f q ps y++[x.e].map (·.2)) (λξ=>[]))
  (miss:∀x:Pt,ps[j]?=some x→gZ x=false→∀M,(∀ki kp i0 t0 pv ef,ae Z 6 (iw Z L it) (jr Z L it v vd la a dd K m e ea ps (gH Z J v f q ki kp i0 t0 pv ef) j++[x.e]) M P r (λy=>jq Z v vd la a dd K J m e ea f q ps y++[x.e].map (·.2)) (λξ=>[]) (λd=>d) (λd=>d))→
   ae Z 6 (iw Z L it) (jr Z L it v vd la a dd K m e ea ps fr (j+1)++[x.e]) M P r (λy=>jq Z v vd la a dd K J m e ea f q ps y++[x.e].map (·.2)) (λξ=>[]))
  (ih:(∀x:Pt,ps[j]?=some x→gZ x=false)→∀ki kp i0 t0 pv ef,ae Z 6 (iw Z L it) (jr Z L it v vd la a dd K m e ea ps (gH Z J v f q ki kp i0 t0 pv ef) j) (aj ps) P r (λy=>jq Z v vd la a dd K J m e ea f q ps y) (λξ=>[])):
  ae Z 6 (iw Z L it) (jr Z L it v vd la a dd K m e ea ps fr (j+1)) (aj ps) P r (λy=>jq Z v vd la a dd K J m e ea f q ps y) (λξ=>[]):=by
 obtain ⟨x,hx⟩:∃x,ps[j]?=some x:=⟨_,DB hj⟩
 have hp:=hE hx
 cases hs:gZ x with
 | true=>exact ae.wider (ae.lay (E:=[x.e]) (hit x hx hs) (λξ=>rfl)) (M2:=(aj ps).eraseIdx j) hp
 | false=>
  refine ae.wider (ae.lay (E:=[x.e]) (miss x hx hs ((aj ps).eraseIdx j) λki kp i0 t0 pv ef=>?_) (λξ=>rfl)) (M2:=[]) (hp.trans (.of_eq (Dm _).symm))
  have S:=ih (λy hy=>by have hy:=hx▸hy;cases hy;exact hs) ki kp i0 t0 pv ef
  exact ae.unlay (ae.wider S (M':=(aj ps).eraseIdx j++[x.e]) (M2:=[]) (by
   simp only [Dm]
   exact DH.trans hp.symm)) (λξ=>rfl)
theorem lm {x:Pt} {q0:Nat} {qr:List Nat} (hq:x.q=q0::qr):∃c,(q0::qr).getLast?=some c∧([c] == [59])=gZ x:=by
 obtain ⟨c,hc⟩:∃c,(q0::qr).getLast?=some c:=⟨_,DS (FK _ _)⟩
 refine ⟨c,hc,?_⟩
 unfold gZ
 simp only [hq,hc]
 by_cases h:c=59
 ·subst h;rfl
 ·have h1:([c] == [59])=false:=by simp [h]
  have h2:(some c == some 59)=false:=by simp [h]
  simp only [h1,h2]
theorem xe (hps:ps.length < 1000000) (hg:∀x∈ps,m0 x):∀(j:Nat),j≤ps.length→∀(ki kp:Tok) (i0:Nat) (t0:Tok) (pv:CX) (ef:Nat),
  ae Z 6 (iw Z L it) (jr Z L it v vd la a dd K m e ea ps (gH Z J v f q ki kp i0 t0 pv ef) j) (aj ps) (λy:X6=>bw ps j≠0→y.2.2.1=bw ps j) (λξ=>.ok (if bw ps j=0 then .cont else .next)) (λy=>jq Z v vd la a dd K J m e ea f q ps y) (λξ=>[]):=by
 intro j
 induction j with
 | zero=>
  intro hj ki kp i0 t0 pv ef
  refine ae.to ((yc L it v vd la a dd K J m e ea f q ps ef ki kp i0 t0 pv).toR (aj ps)) (λx=>(ki,kp,i0,t0,pv,x.1,x.2)) λx ξ=>⟨λh=>absurd rfl h,?_,rfl,rfl⟩
  show Except.ok (if (0:Nat)=0 then Flow.cont else Flow.next)=_
  rw [if_pos rfl]
 | succ j ih=>
  intro hj ki kp i0 t0 pv ef
  have hjl:j < ps.length:=hj
  refine gg λG hG=>?_;obtain ⟨x,hx⟩:∃x,ps[j]?=some x:=⟨_,DB hjl⟩;refine hG ?_
  have hf:bw ps (j+1)=if gZ x then j+1 else bw ps j:=by
   show (match ps[j]? with | some x=>if gZ x then j+1 else bw ps j | none=>0)=_
   rw [hx]
  have hgx:=hg x (Dw hx)
  refine gg λG hG=>?_;obtain ⟨p,xf,xtf,xq,xtq⟩:=x
  obtain ⟨q0,qr,rfl⟩:∃q0 qr,xq=q0::qr:=Di hgx.1
  obtain ⟨c,hc,hcs⟩:=lm (x:=⟨p,xf,xtf,q0::qr,xtq⟩) rfl;refine hG ?_
  refine nT L it v vd la a dd K J m e ea f q ps hps hg j hjl _ _ _ (λy hy hs=>?_) (λy hy hs M hih=>?_) (λhno=>?_)
  ·rw [hx] at hy
   cases hy
   simp only [hs] at hcs
   refine hf▸hs▸(if_pos rfl)▸(if_neg (EX j))▸?_
   exact ae.to ((w6 L it v vd la a dd K J m e ea f q ps ef ki kp i0 t0 pv p j xf xtf q0 qr xtq (eD hx) (by exact FS ‹_› ‹_›) c hc hgx.2 hcs).toR []) (λx=>(ki,kp,j+1,x.1,x.2.1,x.2.2.1,x.2.2.2)) λx ξ=>⟨λξ=>rfl,rfl,rfl,rfl⟩
  ·rw [hx] at hy
   cases hy
   have hcs:=hs▸hcs
   exact uZ L it v vd la a dd K J m e ea f q ps ef ki kp i0 t0 pv p j xf xtf q0 qr xtq (eD hx) (by exact FS ‹_› ‹_›) c hc hgx.2 hcs M _ _ hih
  ·refine hf▸(hno _ hx)▸(if_neg Dy)▸?_
   exact ih (Ef hjl)
theorem uA (hps:ps.length < 1000000) (hg:∀x∈ps,m0 x) (j:Nat) (hj:j < ps.length) (ef:Nat):
  ae Z 6 (iw Z L it) (jr Z L it v vd la a dd K m e ea ps (nL Z J v f q ef) (j+1)) (aj ps) (λy:X6=>bw ps (j+1)≠0→y.2.2.1=bw ps (j+1)) (λξ=>.ok (if bw ps (j+1)=0 then .cont else .next)) (λy=>jq Z v vd la a dd K J m e ea f q ps y) (λξ=>[]):=by
 refine gg λG hG=>?_;obtain ⟨x,hx⟩:∃x,ps[j]?=some x:=⟨_,DB hj⟩;refine hG ?_
 have hf:bw ps (j+1)=if gZ x then j+1 else bw ps j:=by
  show (match ps[j]? with | some x=>if gZ x then j+1 else bw ps j | none=>0)=_
  rw [hx]
 have hgx:=hg x (Dw hx)
 refine gg λG hG=>?_;obtain ⟨p,xf,xtf,xq,xtq⟩:=x
 obtain ⟨q0,qr,rfl⟩:∃q0 qr,xq=q0::qr:=Di hgx.1
 obtain ⟨c,hc,hcs⟩:=lm (x:=⟨p,xf,xtf,q0::qr,xtq⟩) rfl;refine hG ?_
 refine nT L it v vd la a dd K J m e ea f q ps hps hg j hj _ _ _ (λy hy hs=>?_) (λy hy hs M hih=>?_) (λhno=>?_)
 ·rw [hx] at hy
  cases hy
  simp only [hs] at hcs
  refine hf▸hs▸(if_pos rfl)▸(if_neg (EX j))▸?_
  exact ae.to ((tK L it v vd la a dd K J m e ea f q ps ef p j xf xtf q0 qr xtq (eD hx) (by exact FS ‹_› ‹_›) c hc hgx.2 hcs).toR []) (λx=>(x.1,x.2.1,j+1,x.2.2.1,x.2.2.2.1,x.2.2.2.2.1,x.2.2.2.2.2)) λx ξ=>⟨λξ=>rfl,rfl,rfl,rfl⟩
 ·rw [hx] at hy
  cases hy
  have hcs:=hs▸hcs
  exact sU L it v vd la a dd K J m e ea f q ps ef p j xf xtf q0 qr xtq (eD hx) (by exact FS ‹_› ‹_›) c hc hgx.2 hcs M _ _ hih
 ·refine hf▸(hno _ hx)▸(if_neg Dy)▸?_
  exact xe L it v vd la a dd K J m e ea f q ps hps hg j (Ef hj)
end
end
section
theorem lq (ps:List Pt) (x:Pt):∀j,j≤ps.length→bw (ps++[x]) j=bw ps j
 | 0,_=>rfl
 | j+1,h=>by
  have e:(ps++[x])[j]?=ps[j]?:=EZ h
  have ih:=lq ps x j (Ef h)
  show (match (ps++[x])[j]? with | some y=>if gZ y then j+1 else bw (ps++[x]) j | none=>0)=(match ps[j]? with | some y=>if gZ y then j+1 else bw ps j | none=>0)
  exact e▸ih▸rfl
section
variable (L it v vd la a dd:C1) (K:Vk) (J:Ck) (m e ea:Nat) (f q:List Nat) (ps:List Pt)
theorem A1 (p:C1) (f':List Nat) (tf':Tok) (q':List Nat) (tq':Tok) (jj:Nat) (hjj:ps.length=jj+1) (hps:ps.length+1 < 1000000) (hg:∀x∈ps,m0 x) (hq:q'≠[]∧q'.length < 16777216) (ef:Nat):
  ae Z 6 (iw Z L it) [(L,nL Z J v f q ef),(it,aE "range_iterator" [.int (.ofNat (jj+1)) 0,.int (.ofNat (jj+1)) 0,.int (-1) 0]),(v,fB vd),(vd,fI Z K m la a e),(a,aw dd (ah ps++[.ref p]) ea),(p,an f' tf' q' tq')] (aj ps)
   (λy:X6=>bw ps (jj+1)≠0→y.2.2.1=bw ps (jj+1)) (λξ=>.ok (if bw ps (jj+1)=0 then .cont else .next))
   (λx=>[gH Z J v f q x.1 x.2.1 x.2.2.1 x.2.2.2.1 x.2.2.2.2.1 x.2.2.2.2.2.1,x.2.2.2.2.2.2,fB vd,fI Z K m la a e,aw dd (ah ps++[.ref p]) ea,an f' tf' q' tq']) (λξ=>[]):=by
 have S:=uA L it v vd la a dd K J m e ea f q (ps++[⟨p,f',tf',q',tq'⟩]) (by rw [CY];exact hps) (λx hx=>by
  rcases DA.mp hx with hx | hx
  ·exact hg x hx
  ·rw [Dl.mp hx];exact hq) jj (by rw [CY,hjj];simp;lia) ef
 rw [lq _ _ _ (by lia),c8] at S
 unfold jr jq at S
 rw [dc] at S
 exact ae.unlay S λξ=>rfl
theorem w1 (p:C1) (f':List Nat) (tf':Tok) (q':List Nat) (tq':Tok) (jj:Nat) (hjj:ps.length=jj+1) (hno:bw ps (jj+1)=0) (hps:ps.length+1 < 1000000) (hg:∀x∈ps,m0 x) (hq:q'≠[]∧q'.length < 16777216) (ef:Nat):
  ae Z 6 (iw Z L it) [(L,nL Z J v f q ef),(it,aE "range_iterator" [.int (.ofNat (jj+1)) 0,.int (.ofNat (jj+1)) 0,.int (-1) 0]),(v,fB vd),(vd,fI Z K m la a e),(a,aw dd (ah ps++[.ref p]) ea),(p,an f' tf' q' tq')] (aj ps)
   (X:=X6) (λξ=>True) (λξ=>.ok .cont)
   (λx=>[gH Z J v f q x.1 x.2.1 x.2.2.1 x.2.2.2.1 x.2.2.2.2.1 x.2.2.2.2.2.1,x.2.2.2.2.2.2,fB vd,fI Z K m la a e,aw dd (ah ps++[.ref p]) ea,an f' tf' q' tq']) (λξ=>[]):=
 ae.to (A1 L it v vd la a dd K J m e ea f q ps p f' tf' q' tq' jj hjj hps hg hq ef) id λx ξ=>⟨trivial,by rw [if_pos hno],rfl,rfl⟩
theorem uH (p:C1) (f':List Nat) (tf':Tok) (q':List Nat) (tq':Tok) (jj ii:Nat) (hjj:ps.length=jj+1) (hyes:bw ps (jj+1)=ii+1) (hps:ps.length+1 < 1000000) (hg:∀x∈ps,m0 x) (hq:q'≠[]∧q'.length < 16777216) (ef:Nat):
  ae Z 6 (iw Z L it) [(L,nL Z J v f q ef),(it,aE "range_iterator" [.int (.ofNat (jj+1)) 0,.int (.ofNat (jj+1)) 0,.int (-1) 0]),(v,fB vd),(vd,fI Z K m la a e),(a,aw dd (ah ps++[.ref p]) ea),(p,an f' tf' q' tq')] (aj ps)
   (X:=X6) (λξ=>True) (λξ=>.ok .next)
   (λx=>[gH Z J v f q x.1 x.2.1 (ii+1) x.2.2.2.1 x.2.2.2.2.1 x.2.2.2.2.2.1,x.2.2.2.2.2.2,fB vd,fI Z K m la a e,aw dd (ah ps++[.ref p]) ea,an f' tf' q' tq']) (λξ=>[]):=
 ae.to (A1 L it v vd la a dd K J m e ea f q ps p f' tf' q' tq' jj hjj hps hg hq ef) id λx hx=>⟨trivial,by rw [if_neg (by rw [hyes];exact EX _)],by
  have:=hx (by rw [hyes];exact EX _)
  rw [hyes] at this
  show _=[gH _ J v f q x.1 x.2.1 x.2.2.1 _ _ _,_,_,_,_,_]
  simp only [this];rfl,rfl⟩
end
theorem oG (L it v vd la a dd:C1) (K:Vk) (J:Ck) (m e ea:Nat) (f q:List Nat) (xs:List CX) (ef:Nat):
  af Z 6 (.o (hH (fH Z 113 L) (.ref it) (gF Z 113 [1,0,0])))
   [(L,nL Z J v f q ef),(it,aE "range_iterator" [.int (.ofNat 0) 0,.int (.ofNat 0) 0,.int (-1) 0]),(v,fB vd),(vd,fI Z K m la a e),(a,aw dd xs ea)]
   (X:=Nat×Obj) (λξ=>True) (λξ=>.ok .cont)
   (λx=>[nL Z J v f q x.1,x.2,fB vd,fI Z K m la a e,aw dd xs ea]) (λξ=>[]):=by
 exists 0,af.of_codeB
 exists 1,ek it 0 (-1),787,2
 exists ar,(ef,.mk (.type "range_iterator") none (.fields ⟨[.int 0 0,.int 0 0,.int (-1) 0]⟩) #[]),20,209684
theorem qq (v vd la a dd:C1) (K:Vk) (m e el ea:Nat) (k:Tok) (i:Nat) (ti:Tok) (de:Nat) (lines:List (List Nat×Tok)) (ps:List Pt) (f:List Nat) (tf:Tok) (q:List Nat) (tq:Tok) (n0:Nat) (hn:i+(aT ps+(f.length+q.length))=n0) (hz:n0 < CZ) (hps:ps.length+1 < CZ) (hm:decide (n0 > m)=false):
  ad Z 12 (.o (.call (.ref 113) ⟨[.ref v,.str (S f) tf,.str (S q) tq],[]⟩)) [(v,fB vd),(vd,fI Z K m la a e),(la,aa (al lines) el),(a,aw dd (ah ps) ea),(dd,dO Z k i ti de)] (aj ps)
   (X:=C1×Nat) (λξ=>True) (λξ=>.ok (.ret .none))
   (λx=>[(v,fB vd),(vd,fI Z K m la a e),(la,aa (al lines) el),(a,aw dd (ah ps++[.ref x.1]) x.2),(dd,dO Z k i ti de),(x.1,an f tf q tq)]) (λξ=>aj ps):=by
 have hr:(ah ps).length≤CZ:=by unfold ah;rw [C2];lia
 exists 1,ad.of_defB
 exists 1,(bU a dd (ah ps) ea k i ti de f q tf tq ‹_›).up rfl,0x17765111151115111531221112111127116767671,68
 exists 2,cT,(eL a dd ps x1 f tf q tq (ea+1) k i ti de n0 hn ‹_›).up rfl,0x16155111511115811,273
 exists 3,bJ n0 x2 m K.2.1 _ hm,0x161551115111158,0
 exists az,(x1,ea+1),(by rfl),0,1119300
theorem rn (a dd:C1) (v:C1) (e:Nat) (k:Tok) (i:Nat) (ti:Tok) (de:Nat):
  af Z 4 (.o (.call (.ref 160) ⟨[.ref a],[]⟩)) [(a,aw dd [.ref v] e),(dd,dO Z k i ti de)] (X:=Nat) (λξ=>True) (λx=>.ok (.ret (.ref v)))
   (λx=>[aw dd [] x,dO Z k i ti de]) (λx=>[]):=gk a dd [] v e k i ti de (by rw [ab];decide)
theorem m8 (v vd la a dd:C1) (K:Vk) (m e el ea:Nat) (k:Tok) (i:Nat) (ti:Tok) (de:Nat) (lines:List (List Nat×Tok)) (hl:lines.length < CZ) (tf:Tok) (q0:Nat) (qr:List Nat) (tq:Tok) (n0:Nat) (hn:i+1+(([]:List Nat).length+(q0::qr).length)=n0) (hz:n0 < CZ) (hm:decide (n0 > m)=true) (hi:i+1 < CZ):
  ad Z 14 (.o (.call (.ref 113) ⟨[.ref v,.str (S []) tf,.str (S (q0::qr)) tq],[]⟩)) [(v,fB vd),(vd,fI Z K m la a e),(la,aa (al lines) el),(a,aw dd [] ea),(dd,dO Z k (i+1) ti de)] []
   (X:=Tok×Nat×C1×Tok×Nat×Tok×Tok×Nat) (λξ=>True) (λξ=>.ok (.ret .none))
   (λx=>[(v,fB vd),(vd,fI Z K m la a e),(la,aa (al lines++[.str (S []) x.1]) x.2.1),(a,aw dd [.ref x.2.2.1] x.2.2.2.2.1),(dd,dO Z x.2.2.2.2.2.1 0 x.2.2.2.2.2.2.1 x.2.2.2.2.2.2.2),(x.2.2.1,an [32] x.2.2.2.1 (q0::qr) tq)]) (λξ=>[]):=by
 have h01:0+1=0+1:=rfl
 have hi0:∀i:Nat,decide (i+1 > 0)=true:=λi=>by simp
 have hi1:=hi0 i
 have h00:decide (0 > 0)=false:=rfl
 exists 1,ad.of_defB
 exists 1,(bU a dd [] ea k (i+1) ti de [] (q0::qr) tf tq (by decide)).up rfl,0x17765111151115111531221112111127116767671,68
 exists 2,(kC a dd x1 [] tf (q0::qr) tq (ea+1) k (i+1) ti de n0 hn ‹_›).up rfl,0x16155111511115811,273
 exists 3,bJ n0 x2 m K.2.1 _ hm,0x161551115111158,0
 exists 4,(db a dd [.ref x1] (0+1) (ea+1) h01).up rfl,0x132111121112111261551115111158117889991919191161551115111158,1
 exists 5,cG 1 x4 t4 0 h01,1,0
 exists 6,cW n5 0 x5 t5 (t5+1+1) (DD _),0xa1aaa1a1aa111111,9
 exists 7,(oG n x6 v vd la a dd K ((t,t+1,tf,t+1+1,tq,t3+1+1,t3+1)) m e (ea+1) [] (q0::qr) [.ref x1] (0+1+1+1+1)).up rfl,3,152873
 exists 8,(rn a dd x1 (ea+1) k (i+1) ti de).up rfl,0x1861111611161116514411141111421dabbb1b1b1,101
 exists 9,bJ (i+1) ti 0 (t8+1+1+1+1) _ hi1,0x1131221112112111111127166111611116434340ffde9ee1e1ede9ee1e1ede9ee1e1ee191999,0
 exists 10,dx,(pM v vd la a dd K m e el x8 k i ti de lines ‹_› ‹_›).up rfl,0x17611116111611164,71509
 exists 11,aG [] tf (by decide),7,0
 exists 12,(bU a dd [] x10.2.1 x10.2.2.1 0 x10.2.2.2.1 x10.2.2.2.2 [32] (q0::qr) t11 tq (by decide)).up rfl,0x1776511115111511153122111211112767,68
 exists az,(x10.1,el+1,x12,t11,x10.2.1+1,x10.2.2.1,x10.2.2.2.1,x10.2.2.2.2),(by rfl),0,1119300
theorem td (v vd la a dd:C1) (K:Vk) (m e el ea:Nat) (k:Tok) (ti:Tok) (de:Nat) (lines:List (List Nat×Tok)) (f:List Nat) (tf:Tok) (q0:Nat) (qr:List Nat) (tq:Tok) (n0:Nat) (hn:0+(f.length+(q0::qr).length)=n0) (hz:n0 < CZ) (hm:decide (n0 > m)=true):
  ad Z 14 (.o (.call (.ref 113) ⟨[.ref v,.str (S f) tf,.str (S (q0::qr)) tq],[]⟩)) [(v,fB vd),(vd,fI Z K m la a e),(la,aa (al lines) el),(a,aw dd [] ea),(dd,dO Z k 0 ti de)] []
   (X:=C1×Nat) (λξ=>True) (λξ=>.ok (.ret .none))
   (λx=>[(v,fB vd),(vd,fI Z K m la a e),(la,aa (al lines) el),(a,aw dd [.ref x.1] x.2),(dd,dO Z k 0 ti de),(x.1,an f tf (q0::qr) tq)]) (λξ=>[]):=by
 have h01:0+1=0+1:=rfl
 have hi0:∀i:Nat,decide (i+1 > 0)=true:=λi=>by simp
 have hi1:=hi0 0
 have h00:decide (0 > 0)=false:=rfl
 exists 1,ad.of_defB
 exists 1,(bU a dd [] ea k 0 ti de f (q0::qr) tf tq (by decide)).up rfl,0x17765111151115111531221112111127116767671,68
 exists 2,(kC a dd x1 f tf (q0::qr) tq (ea+1) k 0 ti de n0 hn ‹_›).up rfl,0x16155111511115811,273
 exists 3,bJ n0 x2 m K.2.1 _ hm,0x161551115111158,0
 exists 4,(db a dd [.ref x1] (0+1) (ea+1) h01).up rfl,0x132111121112111261551115111158117889991919191161551115111158,1
 exists 5,cG 1 x4 t4 0 h01,1,0
 exists 6,cW n5 0 x5 t5 (t5+1+1) (DD _),0xa1aaa1a1aa111111,9
 exists 7,(oG n x6 v vd la a dd K ((t,t+1,tf,t+1+1,tq,t3+1+1,t3+1)) m e (ea+1) f (q0::qr) [.ref x1] (0+1+1+1+1)).up rfl,3,152873
 exists 8,(rn a dd x1 (ea+1) k 0 ti de).up rfl,0x1861111611161116514411141111421dabbb1b1b1,101
 exists 9,bJ 0 ti 0 (t8+1+1+1+1) _ h00,0x1131221112112111111127166111611116434340ffde9ee1e1ede9ee1e1ede9ee1e1ee191999,0
 exists 10,(bU a dd [] x8 k 0 ti de f (q0::qr) tf tq (by decide)).up rfl,0x14432111121112111271661116111164,17
 exists az,(x10,x8+1),(by rfl),0,1120358
theorem qj (v vd la a dd:C1) (K:Vk) (m e el ea:Nat) (k:Tok) (ti:Tok) (de:Nat) (lines:List (List Nat×Tok)) (ps:List Pt) (jj:Nat) (hjj:ps.length=jj+1) (hno:bw ps (jj+1)=0) (hps:ps.length+1 < 1000000) (hg:∀x∈ps,m0 x) (f:List Nat) (tf:Tok) (q0:Nat) (qr:List Nat) (tq:Tok) (hq:(q0::qr)≠[]∧(q0::qr).length < 16777216) (n0:Nat) (hn:0+(aT ps+(f.length+(q0::qr).length))=n0) (hz:n0 < CZ) (hm:decide (n0 > m)=true):
  ad Z 14 (.o (.call (.ref 113) ⟨[.ref v,.str (S f) tf,.str (S (q0::qr)) tq],[]⟩)) [(v,fB vd),(vd,fI Z K m la a e),(la,aa (al lines) el),(a,aw dd (ah ps) ea),(dd,dO Z k 0 ti de)] (aj ps)
   (X:=C1×Nat) (λξ=>True) (λξ=>.ok (.ret .none))
   (λx=>[(v,fB vd),(vd,fI Z K m la a e),(la,aa (al lines) el),(a,aw dd (ah ps++[.ref x.1]) x.2),(dd,dO Z k 0 ti de),(x.1,an f tf (q0::qr) tq)]) (λξ=>aj ps):=by
 have hs:=ab
 have hlr:(ah ps).length=ps.length:=by unfold ah;simp only [C2]
 have hr:(ah ps).length≤CZ:=by lia
 have hr2:(ah ps).length < CZ:=by lia
 have hcnt:∀x:C1,(ah ps++[CX.ref x]).length=(jj+1)+1:=λx=>by simp only [CY,hlr,hjj];rfl
 have hj2:jj+1+1=(jj+1)+1:=rfl
 have h00:decide (0 > 0)=false:=rfl
 exists 1,ad.of_defB
 exists 1,(bU a dd (ah ps) ea k 0 ti de f (q0::qr) tf tq ‹_›).up rfl,0x17765111151115111531221112111127116767671,68
 exists 2,cT,(eL a dd ps x1 f tf (q0::qr) tq (ea+1) k 0 ti de n0 hn ‹_›).up rfl,0x16155111511115811,273
 exists 3,bJ n0 x2 m K.2.1 _ hm,0x161551115111158,0
 exists 4,(db a dd (ah ps++[.ref x1]) _ (ea+1) (hcnt _)).up rfl,0x132111121112111261551115111158117889991919191161551115111158,1
 exists 5,cG (jj+1+1) x4 t4 (jj+1) hj2,1,0
 exists 6,cW n5 (jj+1) x5 t5 (t5+1+1) (by lia),0xa1aaa1a1aa111111,9
 exists 7,cT,(w1 n x6 v vd la a dd K ((t,t+1,tf,t+1+1,tq,t3+1+1,t3+1)) m e (ea+1) f (q0::qr) ps x1 f tf (q0::qr) tq jj ‹_› ‹_› ‹_› ‹_› ‹_› (0+1+1+1+1)).up rfl,3,3298601
 exists 8,(gk a dd (ah ps) x1 (ea+1) k 0 ti de ‹_›).up rfl,0x1961111611161116514411141111421dabbb1b1b1,117
 exists 9,bJ 0 ti 0 (t8+1+1+1+1) _ h00,0x1131221112112111111127166111611116434340ffde8ee1e1ede8ee1e1ede8ee1e1ee181888,0
 exists 10,(bU a dd (ah ps) x8 k 0 ti de f (q0::qr) tf tq ‹_›).up rfl,0x14432111121112111271661116111164,17
 exists az,(x10,x8+1),(by rfl),0,1120358
end
theorem nC (ps:List Pt):∀j,bw ps j≤j
 | 0=>Dh _
 | j+1=>by
  show (match ps[j]? with | some y=>if gZ y then j+1 else bw ps j | none=>0)≤j+1
  split
  ·split
   ·exact Dh _
   ·exact D0 (nC ps j)
  ·exact Du _
theorem jL (ps:List Pt) (j:Nat):(aj ps).Perm (aj (ps.take j)++aj (ps.drop j)):=by
 unfold aj
 rw [←Da,Eo]
theorem sC (a dd p:C1) (ps:List Pt) (j:Nat) (tj:Tok) (e:Nat) (k:Tok) (i:Nat) (ti:Tok) (de:Nat) (hj:j≤ps.length) (hsz:ps.length+1≤CZ):
  af Z 4 (.o (.call (.ref 152) ⟨[.ref a,.int (.ofNat j) tj],[]⟩)) [(a,aw dd (ah ps++[.ref p]) e),(dd,dO Z k i ti de)] (X:=C1×Nat) (λξ=>True) (λx=>.ok (.ret (.ref x.1)))
   (λx=>[aw dd (ah (ps.take j)) x.2,dO Z k i ti de]) (λx=>[(x.1,aa (ah (ps.drop j)++[.ref p]) 0)]):=by
 have hlr:(ah ps).length=ps.length:=by unfold ah;rw [C2]
 have S:=mL a dd (ah ps++[.ref p]) j tj e k i ti de (by rw [CY,hlr];exact D0 hj) (by rw [CY,hlr];exact hsz)
 have e1:(ah ps++[CX.ref p]).take j++[]=ah (ps.take j):=by
  rw [Dm,List.take_append_of_le_length (by rw [hlr];exact hj)]
  unfold ah;rw [F6]
 have e2:(ah ps++[CX.ref p]).drop j=ah (ps.drop j)++[.ref p]:=by
  rw [List.drop_append_of_le_length (by rw [hlr];exact hj)]
  unfold ah;rw [GG]
 rw [e1,e2] at S
 exact S
theorem nY (a dd:C1) (ps:List Pt) (j:Nat) (e:Nat) (hz:aT (ps.take j) < CZ) (hps:ps.length≤CZ):
  ae Z 9 (.b 116512446855873012371256692 ⟨[.type "str",.ref a],[]⟩) [(a,aw dd (ah (ps.take j)) e)] (aj ps) (X:=Tok) (λξ=>True) (λt=>.ok (.ret (.str (S (bh (ps.take j))) t)))
   (λt=>[aw dd (ah (ps.take j)) e]) (λt=>[]):=
 ae.wider (gU a dd (ps.take j) e hz (by rw [DY];lia)) (jL ps j)
theorem oY (v vd la a dd:C1) (K:Vk) (m e el ea:Nat) (k:Tok) (i:Nat) (ti:Tok) (de:Nat) (lines:List (List Nat×Tok)) (hl:lines.length < CZ) (ps:List Pt) (jj ii:Nat) (hjj:ps.length=jj+1) (hyes:bw ps (jj+1)=ii+1) (hps:ps.length+1 < 1000000) (hg:∀x∈ps,m0 x) (f:List Nat) (tf:Tok) (q0:Nat) (qr:List Nat) (tq:Tok) (hq:(q0::qr)≠[]∧(q0::qr).length < 16777216) (n0:Nat) (hn:i+(aT ps+(f.length+(q0::qr).length))=n0) (hz:n0 < CZ) (hm:decide (n0 > m)=true) (htk:aT (ps.take (ii+1)) < CZ):
  ad Z 14 (.o (.call (.ref 113) ⟨[.ref v,.str (S f) tf,.str (S (q0::qr)) tq],[]⟩)) [(v,fB vd),(vd,fI Z K m la a e),(la,aa (al lines) el),(a,aw dd (ah ps) ea),(dd,dO Z k i ti de)] (aj ps)
   (X:=Tok×Nat×C1×Nat×Tok×Tok×Nat) (λξ=>True) (λξ=>.ok (.ret .none))
   (λx=>[(v,fB vd),(vd,fI Z K m la a e),(la,aa (al lines++[.str (S (bh (ps.take (ii+1)))) x.1]) x.2.1),(a,aw dd (ah (ps.drop (ii+1))++[.ref x.2.2.1]) x.2.2.2.1),(dd,dO Z x.2.2.2.2.1 0 x.2.2.2.2.2.1 x.2.2.2.2.2.2),(x.2.2.1,an f tf (q0::qr) tq)]) (λξ=>aj ps):=by
 have hs:=ab
 have hlr:(ah ps).length=ps.length:=by unfold ah;rw [C2]
 have hr:(ah ps).length≤CZ:=by omega
 have hr2:(ah ps).length < CZ:=by omega
 have hcnt:∀x:C1,(ah ps++[CX.ref x]).length=(jj+1)+1:=λx=>by simp only [CY,hlr,hjj];rfl
 have hj2:jj+1+1=(jj+1)+1:=rfl
 have hle:ii+1≤ps.length:=by simp only [hjj,←hyes];exact nC ps _
 have hl':(al lines).length≤CZ:=by unfold al;simp only [C2];exact Ef ‹_›
 have hrs:(ah (ps.take (ii+1))).length+(ah (ps.drop (ii+1))++[CX.ref 0]).length≤CZ:=by
  unfold ah;simp only [CY,C2,DY,DO,C5,De];omega
 have hrs':∀x:C1,(ah (ps.take (ii+1))).length+(ah (ps.drop (ii+1))++[CX.ref x]).length≤CZ:=λx=>by
  unfold ah;simp only [CY,C2,DY,DO,C5,De];omega
 exists 1,ad.of_defB
 exists 1,(bU a dd (ah ps) ea k i ti de f (q0::qr) tf tq ‹_›).up rfl,0x17765111151115111531221112111127116767671,68
 exists 2,cT,(eL a dd ps x1 f tf (q0::qr) tq (ea+1) k i ti de n0 hn ‹_›).up rfl,0x16155111511115811,273
 exists 3,bJ n0 x2 m K.2.1 _ hm,0x161551115111158,0
 exists 4,(db a dd (ah ps++[.ref x1]) _ (ea+1) (hcnt _)).up rfl,0x132111121112111261551115111158117889991919191161551115111158,1
 exists 5,cG (jj+1+1) x4 t4 (jj+1) hj2,1,0
 exists 6,cW n5 (jj+1) x5 t5 (t5+1+1) (by lia),0xa1aaa1a1aa111111,9
 exists 7,cT,(uH n x6 v vd la a dd K ((t,t+1,tf,t+1+1,tq,t3+1+1,t3+1)) m e (ea+1) f (q0::qr) ps x1 f tf (q0::qr) tq jj ii ‹_› hyes ‹_› ‹_› ‹_› (0+1+1+1+1)).up rfl,3,3298601
 exists 8,(sC a dd x1 ps (ii+1) x7.2.2.2.1 (ea+1) k i ti de ‹_› (by exact lD ‹_› rfl)).up rfl,0x1296111161116111651441114111142,117
 exists 9,cT,(nY a dd ps (ii+1) x8.2 ‹_› (by lia)).up rfl,0x1118177111711117511bbbb8177111711117545,1
 exists 10,dj la (al lines) el (.str (S (bh (GI (ii+1) ps))) x9) ‹_›,45329,10
 exists 11,(oh a dd x8.1 (ah (GI (ii+1) ps)) (ah (DX (ii+1) ps)++[.ref x1]) x8.2 0 k i ti de (by apply_assumption <;> assumption)).up rfl,0x1643111131113111391881118111186,546
 exists az,(x9,el+1,x1,x11.1,x11.2.1,x11.2.2.1,x11.2.2.2),(by rfl),0,4265079
theorem ad.to {F:Fx} {X Y:Type} {P:X→Prop} {P':Y→Prop} {r:X→Dq} {r':Y→Dq} {post pm:X→ao} {post' pm':Y→ao} {k:Nat} {L M L' M':ao} {vw:CV} {D1 D2:Dr→Dr}
  (S:ad F k vw L M P r post pm D1 D2) (hL:(L'++M').Perm (L++M)) (φ:X→Y) (J:X→ao) (h:∀x,P x→P' (φ x)∧r' (φ x)=r x∧(post x++pm x).Perm (J x++(post' (φ x)++pm' (φ x)))):ad F k vw L' M' P' r' post' pm' D1 D2:=
 ⟨λc hc rest A R d os hr hR h' g t hg D=>S.go c hc rest A R d os hr (λx h2 g2 t2 hp hg2 D2=>by
  obtain ⟨h1,h2',h3⟩:=h x hp
  have D3:d5 F h2 (J x++(post' (φ x)++(pm' (φ x)++rest))):=D2.perm (by
   have:=h3.append_right rest
   simp only [C6] at this
   exact this)
  have:=hR (φ x) h2 g2 t2 h1 hg2 D3.drop
  rw [h2'] at this
  exact this) h' g t hg (D.perm (by
   have:=hL.append_right rest
   simp only [C6] at this
   exact this))⟩
noncomputable abbrev VS:=List (List Nat×Tok)×Nat×List Pt×Nat×Tok×Nat×Tok×Nat
noncomputable abbrev fK (F:Fx) (v vd la a dd:C1) (K:Vk) (m e:Nat) (s:VS):ao:=
 [(v,fB vd),(vd,fI F K m la a e),(la,aa (al s.1) s.2.1),(a,aw dd (ah s.2.2.1) s.2.2.2.1),(dd,dO F s.2.2.2.2.1 s.2.2.2.2.2.1 s.2.2.2.2.2.2.1 s.2.2.2.2.2.2.2)]
noncomputable abbrev PS:=Nat×List (List Nat×List Nat)×List (List Nat)
noncomputable def dT (ps:List Pt):List (List Nat×List Nat):=ps.map λx=>(x.f,x.q)
noncomputable def bi (s:VS):PS:=(s.2.2.2.2.2.1,dT s.2.2.1,s.1.map (·.1))
noncomputable def bS (ps:List (List Nat×List Nat)):Nat:=(ps.map λx=>x.1.length+x.2.length).sum
noncomputable def aD (ps:List (List Nat×List Nat)):List Nat:=ps.flatMap λx=>x.1++x.2
noncomputable def ck (ps:List (List Nat×List Nat)):Nat→Nat
 | 0=>0
 | j+1=>match ps[j]? with
  | some x=>if x.2.getLast? == some 59 then j+1 else ck ps j
  | none=>0
theorem kz (ps:List Pt):bS (dT ps)=aT ps:=by delta bS dT aT;rw [DV];rfl
theorem iV (ps:List Pt):aD (dT ps)=bh ps:=by unfold aD dT bh;rw [List.flatMap_map];rfl
theorem iH (ps:List Pt):∀j,ck (dT ps) j=bw ps j
 | 0=>rfl
 | j+1=>by
  show (match (dT ps)[j]? with | some x=>if x.2.getLast? == some 59 then j+1 else ck (dT ps) j | none=>0)=(match ps[j]? with | some x=>if gZ x then j+1 else bw ps j | none=>0)
  rw [iH ps j]
  unfold dT
  rw [Dv]
  cases ps[j]? <;> rfl
noncomputable def b5 (m:Nat) (s:PS) (c:List Nat×List Nat):PS:=
 if s.1+(bS s.2.1+(c.1.length+c.2.length)) > m then
  if ck s.2.1 s.2.1.length=0 then
   if s.1=0 then (0,s.2.1++[c],s.2.2) else (0,[([32],c.2)],s.2.2++[[]])
  else (0,s.2.1.drop (ck s.2.1 s.2.1.length)++[c],s.2.2++[aD (s.2.1.take (ck s.2.1 s.2.1.length))])
 else (s.1,s.2.1++[c],s.2.2)
noncomputable def oO (m:Nat) (s:PS) (c:List Nat×List Nat):Prop:=
 s.1+(bS s.2.1+(c.1.length+c.2.length)) > m→ck s.2.1 s.2.1.length=0→s.1≠0→s.2.1=[]∧c.1=[]
noncomputable def qf (s:PS) (c:List Nat×List Nat):Prop:=
 s.1+(bS s.2.1+(c.1.length+c.2.length)) < 16000000∧s.2.1.length < 900000∧s.2.2.length < 900000∧(∀x∈s.2.1,x.2≠[])∧c.2≠[]
theorem gh (ps:List Pt) (x:Pt):dT (ps++[x])=dT ps++[(x.f,x.q)]:=by unfold dT;rw [Da];rfl
theorem kE (v vd la a dd:C1) (K:Vk) (m e:Nat) (s:VS) (f:List Nat) (tf:Tok) (q:List Nat) (tq:Tok) (hc:oO m (bi s) (f,q)) (hf:qf (bi s) (f,q)):
  ad Z 14 (.o (.call (.ref 113) ⟨[.ref v,.str (S f) tf,.str (S q) tq],[]⟩)) (fK Z v vd la a dd K m e s) (aj s.2.2.1)
   (X:=VS) (λx=>bi x=b5 m (bi s) (f,q)) (λξ=>.ok (.ret .none)) (λx=>fK Z v vd la a dd K m e x) (λx=>aj x.2.2.1):=by
 obtain ⟨ls,el,ps,ea,k,i,ti,de⟩:=s
 have hs:=ab
 obtain ⟨f1,f2,f3,f4,f5⟩:=hf
 unfold oO bi at hc
 unfold bi at f1 f2 f3 f4
 dsimp only at hc f1 f2 f3 f4 f5
 rw [kz] at hc f1
 have hpl:(dT ps).length=ps.length:=by unfold dT;rw [C2]
 rw [hpl] at hc f2
 rw [C2] at f3
 rw [iH] at hc
 obtain ⟨q0,qr,rfl⟩:∃q0 qr,q=q0::qr:=Di f5
 have hgood:∀x∈ps,m0 x:=λx hx=>⟨f4 (x.f,x.q) (DM (f:=λx:Pt=>(x.f,x.q)) hx),by
  have:=iY hx
  unfold Pt.len at this
  lia⟩
 have hstep:b5 m (bi (ls,el,ps,ea,k,i,ti,de)) (f,q0::qr)=
   if i+(aT ps+(f.length+(q0::qr).length)) > m then
    if bw ps ps.length=0 then
     if i=0 then (0,dT ps++[(f,q0::qr)],ls.map (·.1)) else (0,[([32],q0::qr)],ls.map (·.1)++[[]])
    else (0,(dT ps).drop (bw ps ps.length)++[(f,q0::qr)],ls.map (·.1)++[aD ((dT ps).take (bw ps ps.length))])
   else (i,dT ps++[(f,q0::qr)],ls.map (·.1)):=by
  unfold b5 bi
  rw [kz,hpl,iH]
 generalize b5 m (bi (ls,el,ps,ea,k,i,ti,de)) (f,q0::qr)=y at hstep ⊢
 by_cases hm:i+(aT ps+(f.length+(q0::qr).length)) > m
 ·rw [if_pos hm] at hstep
  by_cases h0':bw ps ps.length=0
  ·rw [if_pos h0'] at hstep
   by_cases hi:i=0
   ·subst hi
    rw [if_pos rfl] at hstep
    by_cases hl:ps=[]
    ·subst hl
     refine ad.to (td v vd la a dd K m e el ea k ti de ls f tf q0 qr tq _ rfl (by simp [aT] at f1;simp;exact lC ‹_› rfl) (decide_eq_true (by simpa [aT] using hm))) (.refl _) (λx=>(ls,el,[⟨x.1,f,tf,q0::qr,tq⟩],x.2,k,0,ti,de)) (λξ=>[]) λx ξ=>⟨hstep.symm,rfl,?_⟩
     exact C8 _
    ·obtain ⟨jj,hjj⟩:∃jj,ps.length=jj+1:=Et λz=>hl (EG.mp z)
     rw [hjj] at h0'
     refine ad.to (qj v vd la a dd K m e el ea k ti de ls ps jj hjj h0' (by lia) hgood f tf q0 qr tq ⟨FK _ _,by simp only [C5] at f1 ⊢;lia⟩ _ rfl (by exact lC ‹_› rfl) (decide_eq_true hm)) (.refl _) (λx=>(ls,el,ps++[⟨x.1,f,tf,q0::qr,tq⟩],x.2,k,0,ti,de)) (λξ=>[]) λx ξ=>⟨?_,rfl,?_⟩
     ·simp only [hstep];unfold bi;dsimp only;rw [gh]
     ·unfold fK
      simp only [dc,c8]
      unfold Pt.e
      exact (pT [[_],[_],[_],[_],[_],[_],_] [2,3,4,5,6,7,0,0,0,0,0,8,0] [1,2,3,4,5,6,0,0,0,0,8,7,0,0,0] rfl)
   ·obtain ⟨hps0,hf0⟩:=hc hm h0' hi
    have hps0:ps=[]:=by cases ps with | nil=>rfl | cons y r=>cases hps0
    subst hps0
    obtain ⟨i',rfl⟩:∃i',i=i'+1:=Et (by lia)
    have hf0:f=[]:=hf0
    subst hf0
    rw [if_neg hi] at hstep
    refine ad.to (m8 v vd la a dd K m e el ea k i' ti de ls (by lia) tf q0 qr tq _ rfl (by simp [aT] at f1;simp;exact lC ‹_› rfl) (decide_eq_true (by simpa [aT] using hm)) (by simp [aT] at f1;lia)) (.refl _) (λx=>(ls++[([],x.1)],x.2.1,[⟨x.2.2.1,[32],x.2.2.2.1,q0::qr,tq⟩],x.2.2.2.2.1,x.2.2.2.2.2.1,0,x.2.2.2.2.2.2.1,x.2.2.2.2.2.2.2)) (λξ=>[]) λx ξ=>⟨?_,rfl,?_⟩
    ·rw [hstep];unfold bi;dsimp only;rw [Da];rfl
    ·dsimp only
     simp only [gt]
     exact C8 _
  ·rw [if_neg h0'] at hstep
   have hpos:0 < ps.length:=by
    rcases Nat.eq_zero_or_pos ps.length with h | h
    ·rw [h] at h0';exact absurd rfl h0'
    ·exact h
   obtain ⟨jj,hjj⟩:∃jj,ps.length=jj+1:=Et (by exact Gd ‹_›)
   obtain ⟨ii,hii⟩:∃ii,bw ps ps.length=ii+1:=Et (by lia)
   rw [hii] at hstep
   rw [hjj] at hii
   have htk:aT (ps.take (ii+1))≤aT ps:=by
    have:=congrArg aT (Eo (ii+1) ps)
    unfold aT at this ⊢
    rw [Da,EQ] at this
    lia
   refine ad.to (oY v vd la a dd K m e el ea k i ti de ls (by lia) ps jj ii hjj hii (by lia) hgood f tf q0 qr tq ⟨FK _ _,by simp only [C5] at f1 ⊢;lia⟩ _ rfl (by exact lC ‹_› rfl) (decide_eq_true hm) (by lia)) (.refl _) (λx=>(ls++[(bh (ps.take (ii+1)),x.1)],x.2.1,ps.drop (ii+1)++[⟨x.2.2.1,f,tf,q0::qr,tq⟩],x.2.2.2.1,x.2.2.2.2.1,0,x.2.2.2.2.2.1,x.2.2.2.2.2.2)) (λξ=>aj (ps.take (ii+1))) λx ξ=>⟨?_,rfl,?_⟩
   ·rw [hstep]
    unfold bi
    simp only [gh,Da]
    have e1:dT (ps.drop (ii+1))=(dT ps).drop (ii+1):=by unfold dT;rw [GG]
    have e2:aD ((dT ps).take (ii+1))=bh (ps.take (ii+1)):=by rw [←iV];unfold dT;rw [F6]
    rw [e1,e2]
    rfl
   ·unfold fK
    dsimp only
    simp only [dc,c8,gt]
    refine (C7 _ (jL ps (ii+1))).trans ?_
    exact (pT [[_],[_],[_],[_],[_],[_],_,_] [2,3,4,5,6,7,0,0,0,0,0,8,9,0,0] [8,2,3,4,5,6,0,0,0,0,9,7,0,0,0] rfl)
 ·rw [if_neg hm] at hstep
  refine ad.to ((qq v vd la a dd K m e el ea k i ti de ls ps f tf (q0::qr) tq _ rfl (by exact lC ‹_› rfl) (by lia) (decide_eq_false hm)).up rfl) (.refl _) (λx=>(ls,el,ps++[⟨x.1,f,tf,q0::qr,tq⟩],x.2,k,i,ti,de)) (λξ=>[]) λx ξ=>⟨?_,rfl,?_⟩
  ·rw [hstep];unfold bi;dsimp only;rw [gh]
  ·unfold fK
   simp only [dc,c8]
   unfold Pt.e
   dsimp only
   exact (pT [[_],[_],[_],[_],[_],[_],_] [2,3,4,5,6,7,0,0,0,0,0,8,0] [1,2,3,4,5,6,0,0,0,0,8,7,0,0,0] rfl)
end
section
open PySem PySem.Sre
noncomputable def oQ:Array Nat:=#[14,4,0,1,4294967295,17,0,24,11,1,4294967295,13,6,16,32,16,9,0,1,17,1,1]
noncomputable def xW (t:Array Nat) (lim s:Nat) (first:Bool) (mk:Array (Option Nat)) (seen:Seen):M:=
 {code:=oQ,text:=t,lim:=lim,start:=s,lastStart:=lim,pc:=5,pos:=s,handed:=s,outermost:=first,marks:=mk,
  frames:=[{wait:=.nextStart,pc:=5,pos:=s,outermost:=first}],weight:=1,seen:=seen}
noncomputable def we (t:Array Nat) (lim s:Nat) (first:Bool) (mk:Array (Option Nat)) (seen:Seen):M:=
 {xW t lim s first (mk.setIfInBounds 0 (some s)) seen with pc:=7,lastmark:=0}
theorem Bv (t:Array Nat) (lim s:Nat) (first:Bool) (mk:Array (Option Nat)) (seen:Seen):
  (xW t lim s first mk seen).step=we t lim s first mk (seen.add 17):=rfl
theorem uM (c:Nat) (seen:Seen):accepts oQ 11 c seen=
  if c == 32 then .ok (true,seen.add 16) else if c == 9 then .ok (true,(seen.add 16).add 16) else .ok (false,((seen.add 16).add 16).add 0):=rfl
noncomputable def aA (c:Nat):Bool:=c == 32 || c == 9
theorem wD {c:Nat} (h:aA c=true) (seen:Seen):∃s',accepts oQ 11 c seen=.ok (true,s'):=by
 simp only [uM];unfold aA at h
 by_cases h1:(c == 32)=true
 ·exact ⟨_,if_pos h1⟩
 ·rw [if_neg h1];simp only [Bool.not_eq_true] at h1;rw [h1,Bool.false_or] at h;exact ⟨_,if_pos h⟩
theorem zf {c:Nat} (h:aA c=false) (seen:Seen):∃s',accepts oQ 11 c seen=.ok (false,s'):=by
 simp only [uM];unfold aA at h
 rw [Fj] at h
 rw [h.1,h.2];exact ⟨_,rfl⟩
theorem pB (t:Array Nat):∀(n p found:Nat) (bl:List Nat) (seen:Seen),(∀c∈bl,aA c=true)→(∀i (h:i < bl.length),t.getD (p+i) 0=bl[i])→bl.length≤n→(bl.length=n∨aA (t.getD (p+bl.length) 0)=false)→
  ∃s',Sre.run oQ t 11 n p found seen=.ok (found+bl.length,s')
 | 0,p,found,bl,seen,_,_,hn,_=>by
  have:bl=[]:=EG.mp (GO.mp hn)
  subst this;exact ⟨_,rfl⟩
 | n+1,p,found,[],seen,_,_,_,he=>by
  have he':aA (t.getD p 0)=false:=he.resolve_left (by simp)
  obtain ⟨s',h'⟩:=zf he' seen
  refine ⟨s',?_⟩
  unfold Sre.run
  rw [h'];rfl
 | n+1,p,found,c::bl,seen,hb,hi,hn,he=>by
  have h0:t.getD p 0=c:=hi 0 (by simp)
  obtain ⟨s',h'⟩:=wD (c:=t.getD p 0) (by rw [h0];exact hb c (.head _)) seen
  obtain ⟨s2,h2⟩:=pB t n (p+1) (found+1) bl s' (λx hx=>hb x (.tail _ hx)) (λi h=>by
   have:=hi (i+1) (by simpa using h)
   rw [show p+1+i=p+(i+1) by lia,this];rfl) (by simpa using hn) (by
   rcases he with he | he
   ·exact .inl (by simpa using he)
   ·right;rw [show p+1+bl.length=p+(c::bl).length by simp;lia];exact he)
  refine ⟨s2,?_⟩
  unfold Sre.run
  rw [h']
  show Sre.run oQ t 11 n (p+1) (found+1) s'=_
  rw [h2];simp;lia
noncomputable def z8 (t:Array Nat) (lim s n:Nat) (first:Bool) (mk:Array (Option Nat)) (seen:Seen):M:=
 {we t lim s first mk seen with
  pc:=19,pos:=s+n,handed:=s+n,
  frames:=[{wait:=.giveBack,pc:=7,pos:=s+n,outermost:=first,count:=n,kept:={lastmark:=0}},{wait:=.nextStart,pc:=5,pos:=s,outermost:=first}],weight:=2}
noncomputable def AK (t:Array Nat) (lim s:Nat) (first:Bool) (mk:Array (Option Nat)) (seen:Seen):M:=
 (we t lim s first mk seen).say false
theorem Bz (t:Array Nat) (lim s:Nat) (first:Bool) (mk:Array (Option Nat)) (seen:Seen):
  (we t lim s first mk seen).step=
   if ((1:Nat):Int) > (lim:Int) - (s:Int) then AK t lim s first mk (seen.add 24) else
   match Sre.run oQ t 11 (min 4294967295 ((lim:Int) - (s:Int)).toNat) s 0 ((seen.add 24).add 13) with
   | .error why=>({we t lim s first mk (seen.add 24) with}:M).stick why
   | .ok (n,seen)=>if n < 1 then AK t lim s first mk seen else z8 t lim s n first mk seen:=rfl
theorem xL (t:Array Nat) (lim:Nat) (first:Bool) (mk:Array (Option Nat)) (seen:Seen):
  ∃s',(we t lim lim first mk seen).step=AK t lim lim first mk s':=by
 refine ⟨_,(Bz ..).trans (if_pos ?_)⟩
 lia
theorem uX (t:Array Nat) (lim s:Nat) (first:Bool) (mk:Array (Option Nat)) (seen:Seen) (hs:s < lim) (hb:aA (t.getD s 0)=false):
  ∃s',(we t lim s first mk seen).step=AK t lim s first mk s':=by
 obtain ⟨s',h'⟩:=pB t (min 4294967295 ((lim:Int) - (s:Int)).toNat) s 0 [] ((seen.add 24).add 13) (λξ h=>nomatch h) (λi h=>absurd h (by simp)) (by simp) (.inr hb)
 refine ⟨s',(Bz ..).trans ?_⟩
 rw [if_neg (by lia),h']
 rfl
theorem w7 (t:Array Nat) (lim s:Nat) (first:Bool) (mk:Array (Option Nat)) (seen:Seen) (bl:List Nat) (h0:bl≠[]) (hl:s+bl.length≤lim) (hm:lim < 4294967295) (hb:∀c∈bl,aA c=true) (hi:∀i (h:i < bl.length),t.getD (s+i) 0=bl[i]) (he:s+bl.length=lim∨aA (t.getD (s+bl.length) 0)=false):
  ∃s',(we t lim s first mk seen).step=z8 t lim s bl.length first mk s':=by
 have hpos:0 < bl.length:=Em.mpr h0
 have e:min 4294967295 ((lim:Int) - (s:Int)).toNat=lim - s:=by lia
 obtain ⟨s',h'⟩:=pB t (lim - s) s 0 bl ((seen.add 24).add 13) hb hi (by lia) (he.imp (λh=>by lia) id)
 refine ⟨s',(Bz ..).trans ?_⟩
 rw [if_neg (by lia),e,h']
 show (if 0+bl.length < 1 then _ else z8 t lim s (0+bl.length) first mk s')=_
 rw [if_neg (by lia),EN]
theorem BP (t:Array Nat) (lim s:Nat) (first:Bool) (mk:Array (Option Nat)) (seen:Seen):
  (AK t lim s first mk seen).step=
   if s < lim then xW t lim (s+1) false (mk.setIfInBounds 0 (some s)) seen
   else ({we t lim s first mk seen with frames:=[],weight:=0,pc:=5}:M).say false:=rfl
noncomputable def AE (t:Array Nat) (lim s n:Nat) (first:Bool) (mk:Array (Option Nat)) (seen:Seen):M:=
 {z8 t lim s n first mk seen with
  pc:=21,marks:=(mk.setIfInBounds 0 (some s)).setIfInBounds 1 (some (s+n)),lastmark:=1,lastindex:=((1 / 2+1:Nat):Int)}
theorem BY (t:Array Nat) (lim s n:Nat) (first:Bool) (mk:Array (Option Nat)) (seen:Seen):(z8 t lim s n first mk seen).step=AE t lim s n first mk (seen.add 17):=rfl
theorem BJ (t:Array Nat) (lim s n:Nat) (first:Bool) (mk:Array (Option Nat)) (seen:Seen):(AE t lim s n first mk seen).step=(AE t lim s n first mk (seen.add 1)).say true:=by cases first <;> rfl
noncomputable def BB (t:Array Nat) (lim s n:Nat) (first:Bool) (mk:Array (Option Nat)) (seen:Seen):M:=
 {AE t lim s n first mk seen with pc:=7,pos:=s+n,frames:=[{wait:=.nextStart,pc:=5,pos:=s,outermost:=first}],weight:=1,answer:=some true}
theorem BC (t:Array Nat) (lim s n:Nat) (first:Bool) (mk:Array (Option Nat)) (seen:Seen):((AE t lim s n first mk seen).say true).step=BB t lim s n first mk seen:=rfl
noncomputable def Bt (t:Array Nat) (lim s n:Nat) (first:Bool) (mk:Array (Option Nat)) (seen:Seen):M:=
 {BB t lim s n first mk seen with pc:=5,pos:=s,frames:=[],weight:=0}
theorem BN (t:Array Nat) (lim s n:Nat) (first:Bool) (mk:Array (Option Nat)) (seen:Seen):(BB t lim s n first mk seen).step=Bt t lim s n first mk seen:=rfl
theorem BE (t:Array Nat) (lim s n:Nat) (first:Bool) (mk:Array (Option Nat)) (seen:Seen):(Bt t lim s n first mk seen).step={Bt t lim s n first mk seen with outcome:=some .matched}:=rfl
theorem CE (t:Array Nat) (lim s:Nat) (first:Bool) (mk:Array (Option Nat)) (seen:Seen):
  (({we t lim s first mk seen with frames:=[],weight:=0,pc:=5}:M).say false).step.outcome=some .failed:=rfl
theorem dL (n:Nat) (m:M):m.runFor (n+1)=if m.outcome.isSome then m else m.step.runFor n:=rfl
theorem j9 (a b:Nat) (m:M):m.runFor (a+b)=(m.runFor a).runFor b:=by
 induction a generalizing m with
 | zero=>rw [EN];rfl
 | succ a ih=>
  simp only [show a+1+b=(a+b)+1 by lia,dL,dL]
  by_cases h:m.outcome.isSome=true
  ·rw [if_pos h,if_pos h]
   cases b with
   | zero=>rfl
   | succ b=>rw [dL,if_pos h]
  ·rw [if_neg h,if_neg h];exact ih m.step
theorem aM (m:M) (h:m.outcome=none) (n:Nat):m.runFor (n+1)=m.step.runFor n:=by
 rw [dL,h];rfl
theorem eA {m:M} {a b:Nat} (h:(m.runFor a).outcome.isSome=true):m.runFor (a+b)=m.runFor a:=by
 rw [j9]
 cases b with
 | zero=>rfl
 | succ b=>rw [dL,if_pos h]
theorem CI (t:Array Nat) (lim s n:Nat) (first:Bool) (mk:Array (Option Nat)) (seen:Seen):
  ∃m,(z8 t lim s n first mk seen).runFor 5=m∧m.outcome=some .matched∧m.start=s∧m.handed=s+n∧m.lastmark=1∧m.marks=(mk.setIfInBounds 0 (some s)).setIfInBounds 1 (some (s+n)):=by
 refine ⟨{Bt t lim s n first mk ((seen.add 17).add 1) with outcome:=some .matched},?_,rfl,rfl,rfl,rfl,rfl⟩
 rw [aM _ rfl,BY,aM _ rfl,BJ,aM _ rfl,BC,aM _ rfl,BN,aM _ rfl,BE]
 rfl
noncomputable def Cn (m:M) (b e:Nat):Prop:=m.outcome=some .matched∧m.start=b∧m.handed=e∧m.lastmark=1∧m.marks=#[some b,some e]
theorem jF (t:List Nat) (s i:Nat) (c:Nat) (w:List Nat) (h:t.drop s=w) (hi:w[i]?=some c):(⟨t⟩:Array Nat).getD (s+i) 0=c:=by
 have:t[s+i]?=some c:=by simp only [←hi,←h,List.getElem?_drop]
 simp only [Array.getD_eq_getD_getElem?]
 simp [this]
theorem zj (mk:Array (Option Nat)) (h:mk.size=2) (a b:Nat):(mk.setIfInBounds 0 (some a)).setIfInBounds 1 (some b)=#[some a,some b]:=by
 obtain ⟨l⟩:=mk
 match l,h with
 | [x,y],_=>rfl
theorem oB (mk:Array (Option Nat)) (h:mk.size=2) (a:Nat):(mk.setIfInBounds 0 (some a)).size=2:=by rw [E1];exact h
theorem nP (t:List Nat) (hz:t.length < 4294967295):∀(w:List Nat) (s:Nat) (first:Bool) (mk:Array (Option Nat)) (seen:Seen),mk.size=2→s≤t.length→t.drop s=w→(∀c∈w,aA c=false)→
  ∃m,(xW ⟨t⟩ t.length s first mk seen).runFor (3 * w.length+4)=m∧m.outcome=some .failed
 | [],s,first,mk,seen,hm,hs,hw,_=>by
  have hl:s=t.length:=by
   have:=congrArg C9 hw;rw [DO] at this;simp at this;lia
  subst hl
  obtain ⟨s',h'⟩:=xL ⟨t⟩ t.length first mk (seen.add 17)
  refine ⟨_,rfl,?_⟩
  show (M.runFor 4 _).outcome=_
  rw [aM _ rfl,Bv,aM _ rfl,h',aM _ rfl,BP,if_neg (by exact EJ.mpr ‹_›),aM _ rfl]
  exact CE ..
 | c::w,s,first,mk,seen,hm,hs,hw,hb=>by
  have hl:s < t.length:=by
   have:=congrArg C9 hw;rw [DO] at this;simp at this;lia
  obtain ⟨s',h'⟩:=uX ⟨t⟩ t.length s first mk (seen.add 17) hl (by rw [show (⟨t⟩:Array Nat).getD s 0=c from jF t s 0 c _ hw rfl];exact hb c (.head _))
  obtain ⟨m,h1,h2⟩:=nP t hz w (s+1) false (mk.setIfInBounds 0 (some s)) s' (oB mk hm s) hl (by
   rw [←DE,hw];rfl) (λx hx=>hb x (.tail _ hx))
  refine ⟨m,?_,h2⟩
  rw [show 3 * (c::w).length+4=(3 * w.length+4)+1+1+1 by simp;lia]
  rw [aM _ rfl,Bv,aM _ rfl,h',aM _ rfl,BP,if_pos hl]
  exact h1
theorem rI (t:List Nat) (hz:t.length < 4294967295) (bl rest:List Nat) (h0:bl≠[]) (hbl:∀c∈bl,aA c=true) (hr:∀c∈rest.head?,aA c=false):∀(w:List Nat) (s:Nat) (first:Bool) (mk:Array (Option Nat)) (seen:Seen),mk.size=2→t.drop s=w++bl++rest→(∀c∈w,aA c=false)→
  ∃m,(xW ⟨t⟩ t.length s first mk seen).runFor (3 * w.length+7)=m∧Cn m (s+w.length) (s+w.length+bl.length)
 | [],s,first,mk,seen,hm,hw,_=>by
  have hpos:0 < bl.length:=Em.mpr h0
  have hlen:=congrArg C9 hw
  simp only [DO] at hlen
  simp only [DF,CY] at hlen hw
  refine gg λG hG=>?_;obtain ⟨s',h'⟩:=w7 ⟨t⟩ t.length s first mk (seen.add 17) bl h0 (by lia) hz hbl (λi h=>jF t s i _ _ hw (by rw [EZ h];exact DB h)) (by
   cases rest with
   | nil=>left;simp at hlen;lia
   | cons c rest=>right;rw [jF t s bl.length c _ hw (by simp)];exact hr c rfl)
  obtain ⟨m,h1,h2,h3,h4,h5,h6⟩:=CI ⟨t⟩ t.length s bl.length first mk s';refine hG ?_
  refine ⟨m,?_,h2,h3,h4,h5,by rw [h6];exact zj mk hm _ _⟩
  show M.runFor 7 _=_
  rw [aM _ rfl,Bv,aM _ rfl,h']
  exact h1
 | c::w,s,first,mk,seen,hm,hw,hb=>by
  have hl:s < t.length:=by
   have:=congrArg C9 hw;simp only [DO] at this;simp at this;lia
  refine gg λG hG=>?_;obtain ⟨s',h'⟩:=uX ⟨t⟩ t.length s first mk (seen.add 17) hl (by rw [show (⟨t⟩:Array Nat).getD s 0=c from jF t s 0 c _ hw rfl];exact hb c (.head _))
  obtain ⟨m,h1,h2⟩:=rI t hz bl rest h0 hbl hr w (s+1) false (mk.setIfInBounds 0 (some s)) s' (oB mk hm s) (by
   rw [←DE,hw];rfl) (λx hx=>hb x (.tail _ hx));refine hG ?_
  refine ⟨m,?_,by rw [show s+(c::w).length=s+1+w.length by simp;lia];exact h2⟩
  rw [show 3 * (c::w).length+7=(3 * w.length+7)+1+1+1 by simp;lia]
  rw [aM _ rfl,Bv,aM _ rfl,h',aM _ rfl,BP,if_pos hl]
  exact h1
end
section
open PySem PySem.Builtin.Re PySem.Sre
theorem jd {m:M} {a b:Nat} (ha:(m.runFor a).outcome.isSome=true) (hb:(m.runFor b).outcome.isSome=true):m.runFor a=m.runFor b:=by
 rw [←eA (b:=b) ha,Ge,eA hb]
theorem nw {W:Model} {A:Dk} {E:CX→Df→Prop} {s:Df}:∀(T n:Nat) (m:M) {Q:M→Df→Prop},n≤4 * T→(m.runFor n).outcome.isSome=true→Q (m.runFor n) s→wpAny W A (reDrive (T+1) m) Q E s
 | 0,n,m,Q,hn,ho,hq=>by
  have e:n=0:=by lia
  subst e
  have hm:(m.runFor 4).outcome.isSome=true:=by
   rw [show (4:Nat)=0+4 from rfl,eA ho];exact ho
  have e4:m.runFor 4=m.runFor 0:=jd hm ho
  show wpAny W A (if (m.runFor 4).outcome.isSome then pure (m.runFor 4) else _) Q E s
  rw [if_pos hm,e4]
  exact Dc hq
 | T+1,n,m,Q,hn,ho,hq=>by
  show wpAny W A (if (m.runFor 4).outcome.isSome then pure (m.runFor 4) else (rule "sre.turn" >>= λξ=>reDrive (T+1) (m.runFor 4))) Q E s
  by_cases hm:(m.runFor 4).outcome.isSome=true
  ·rw [if_pos hm,jd hm ho];exact Dc hq
  ·rw [if_neg hm]
   have h4:4≤n:=by
    rcases FP n 4 with h | h
    ·exfalso;apply hm
     rw [show 4=n+(4 - n) by lia,eA ho];exact ho
    ·exact h
   have e:m.runFor n=(m.runFor 4).runFor (n - 4):=by
    rw [←j9,show 4+(n - 4)=n by lia]
   rw [e] at ho hq
   exact C0 (Fy (nw T (n - 4) (m.runFor 4) (by lia) ho hq))
theorem mO {W:Model} {A:Dk} {E:CX→Df→Prop} {s:Df} (p:Nat→Bool) (nm:Nat→String):∀(xs:List Nat) {Q:PUnit→Df→Prop},Q ⟨⟩ s→
  wpAny W A (forIn xs PUnit.unit λi ξ=>if p i=true then (rule (nm i) >>= λξ=>pure (ForInStep.yield PUnit.unit)) else pure (ForInStep.yield PUnit.unit)) Q E s
 | [],Q,hq=>by simp only [EF];exact Dc hq
 | x::xs,Q,hq=>by
  rw [Ev]
  by_cases h:p x=true
  ·rw [if_pos h]
   exact C0 (C0 (Fy (Dc (mO p nm xs hq))))
  ·rw [if_neg h]
   exact C0 (Dc (mO p nm xs hq))
theorem A5:2 ^ 64=18446744073709551615+1:=by decide
theorem eC {W:Model} {A:Dk} {E:CX→Df→Prop} {s:Df} (n:Nat) (m m':M) {Q:Option M→Df→Prop} (hn:n≤18446744073709551615) (he:m.runFor n=m') (r:Option M)
  (ho:(m'.outcome=some .matched∧r=some m')∨(m'.outcome=some .failed∧r=none)) (hq:Q r s):wpAny W A (reRunToEnd m) Q E s:=by
 unfold reRunToEnd
 rw [A5]
 refine C0 (nw _ n m (by exact lB ‹_› rfl) (by rw [he];rcases ho with ⟨h,_⟩ | ⟨h,_⟩ <;> rw [h] <;> rfl) ?_)
 refine he▸?_
 refine C0 ?_
 refine mO (λi=>m'.seen.has i) (λi=>Sre.names.getD i "") _ ?_
 rcases ho with ⟨h,hr⟩ | ⟨h,hr⟩ <;> (subst hr;rw [h];exact Dc hq)
theorem lk (t:List Nat) (s:Nat) (h:s < t.length):Sre.forSearch oQ ⟨t⟩ 1 s t.length false=xW ⟨t⟩ t.length s true #[none,none] (({}:Seen).add 14):=by
 have e:Sre.forSearch oQ ⟨t⟩ 1 s t.length false=if decide (s > t.length) || decide (t.length - s < 1) then _ else xW ⟨t⟩ t.length s true #[none,none] (({}:Seen).add 14):=rfl
 rw [e,if_neg]
 simp;lia
theorem pH (t:List Nat) (s:Nat) (h:t.length≤s):∃m,Sre.forSearch oQ ⟨t⟩ 1 s t.length false=m∧(m.runFor 1).outcome=some .failed:=by
 have e:Sre.forSearch oQ ⟨t⟩ 1 s t.length false=if decide (s > t.length) || decide (t.length - s < 1) then ({xW ⟨t⟩ t.length s true #[none,none] (({}:Seen).add 14) with lastStart:=0,frames:=[],weight:=0,outermost:=true,answer:=some false}:M) else xW ⟨t⟩ t.length s true #[none,none] (({}:Seen).add 14):=rfl
 refine ⟨_,rfl,?_⟩
 rw [e,if_pos (by simp;lia)]
 rfl
noncomputable def bz:Nat→List Nat→List (List Nat)
 | 0,l=>[l]
 | n+1,l=>if l.all (λc=>!aA c) then [l] else
  l.takeWhile (λc=>!aA c)::(l.dropWhile (λc=>!aA c)).takeWhile aA::bz n ((l.dropWhile (λc=>!aA c)).dropWhile aA)
noncomputable def gB (p v:CX) (l:List Nat):ReTarget:={pattern:=p,string:=v,code:=oQ,text:=⟨l⟩,kind:=0,groups:=1,pos:=0,lim:=l.length}
noncomputable def BS (l:List Nat) (total:List (List Nat)) (s:Df) (xs:List Nat) (b:Array CX×Nat×Nat×Bool×Int×Bool) (s':Df):Prop:=
 ∃(done:List (List Nat×Tok)) (k:Nat),s'={s with toks:=k}∧b.1=⟨al done⟩∧b.2.2.1≤l.length∧
  ((b.2.2.2.2.2=true∧done.map (·.1)++[l.drop b.2.2.1]=total)∨
   (b.2.2.2.2.2=false∧b.2.2.2.1=false∧b.2.1=b.2.2.1∧(l.drop b.2.2.1).length < xs.length∧∃n,(l.drop b.2.2.1).length≤n∧done.map (·.1)++bz n (l.drop b.2.2.1)=total))
theorem ut {W:Model} {A:Dk} {E:CX→Df→Prop} {s:Df} (l:List Nat) (hz:l.length < 4294967295) (st:Nat) (hs:st≤l.length) (hb:∀c∈l.drop st,aA c=false) {Q:Option M→Df→Prop} (hq:Q none s) (p v:CX):
  wpAny W A (reNextFound (gB p v l) st false) Q E s:=by
 show wpAny W A (reRunToEnd (Sre.forSearch oQ ⟨l⟩ 1 st l.length false)) Q E s
 rcases FP st l.length with h | h
 ·rw [lk l st h]
  obtain ⟨m,h1,h2⟩:=nP l hz _ st true #[none,none] (({}:Seen).add 14) rfl hs rfl hb
  have:(l.drop st).length≤l.length:=by rw [DO];lia
  exact eC _ _ m (by lia) h1 none (.inr ⟨h2,rfl⟩) hq
 ·obtain ⟨m,h1,h2⟩:=pH l st h
  rw [h1]
  exact eC 1 _ _ (by exact FT _ _) rfl none (.inr ⟨h2,rfl⟩) hq
theorem us {W:Model} {A:Dk} {E:CX→Df→Prop} {s:Df} (l:List Nat) (hz:l.length < 4294967295) (st:Nat) (w bl rest:List Nat) (h0:bl≠[]) (hbl:∀c∈bl,aA c=true) (hr:∀c∈rest.head?,aA c=false) (hw:l.drop st=w++bl++rest) (hb:∀c∈w,aA c=false)
  {Q:Option M→Df→Prop} (hq:∀m,Cn m (st+w.length) (st+w.length+bl.length)→Q (some m) s) (p v:CX):
  wpAny W A (reNextFound (gB p v l) st false) Q E s:=by
 show wpAny W A (reRunToEnd (Sre.forSearch oQ ⟨l⟩ 1 st l.length false)) Q E s
 have hlen:=congrArg C9 hw
 have hlen:=DO▸hlen
 simp only [CY] at hlen
 have hpos:0 < bl.length:=Em.mpr h0
 refine (lk l st (by lia))▸?_
 obtain ⟨m,h1,h2⟩:=rI l hz bl rest h0 hbl hr w st true #[none,none] (({}:Seen).add 14) rfl hw hb
 exact eC _ _ m (by lia) h1 (some m) (.inl ⟨h2.1,rfl⟩) (hq m h2)
theorem u7 (l:List Nat) (b e:Nat):(⟨l⟩:Array Nat).extract b e=⟨(l.drop b).take (e - b)⟩:=by
 simp
theorem gY (l:List (List Nat×Tok)) (x:List Nat) (t:Tok):(⟨al l⟩:Array CX).push (.str (S x) t)=⟨al (l++[(x,t)])⟩:=by
 unfold al;simp
theorem kx {W:Model} {A:Dk} {E:CX→Df→Prop} {s:Df} (l:List Nat) (b e:Nat) (x:List Nat) (hx:(l.drop b).take (e - b)=x) (hz:l.length≤CZ) {Q:CX→Df→Prop} (hq:Q (.str (S x) s.toks) {s with toks:=s.toks+1}):
  wpAny W A (reSlice (⟨l⟩:Array Nat) 0 b e) Q E s:=by
 show wpAny W A (mkStr ⟨(⟨l⟩:Array Nat).extract b e⟩) Q E s
 rw [u7,hx]
 refine wpAny_mkStr hq ?_
 show x.length≤CZ
 have:x.length≤l.length:=by simp only [←hx,DY,DO];lia
 exact Ex ‹_› ‹_›
theorem lE (l:List Nat) (h:¬(l.all (λc=>!aA c)=true)):∃w bl rest,l.takeWhile (λc=>!aA c)=w∧(l.dropWhile (λc=>!aA c)).takeWhile aA=bl∧(l.dropWhile (λc=>!aA c)).dropWhile aA=rest∧
  l=w++bl++rest∧bl≠[]∧(∀c∈bl,aA c=true)∧(∀c∈rest.head?,aA c=false)∧(∀c∈w,aA c=false):=by
 refine ⟨_,_,_,rfl,rfl,rfl,?_,?_,?_,?_,?_⟩
 ·simp only [C6,EE,EE]
 ·intro e
  have hd:=FH (λc=>!aA c) l
  cases hr:l.dropWhile (λc=>!aA c) with
  | nil=>
   apply h
   have:=EE (p:=λc=>!aA c) (l:=l)
   rw [hr,Dm] at this
   refine this▸?_;exact Fz
  | cons c r=>
   rw [hr] at hd e
   simp only [List.head?_cons,F9] at hd
   rw [List.takeWhile_cons,if_pos hd] at e
   exact nomatch e
 ·exact λc hc=>EW.mp Fz c hc
 ·intro c hc
  have hd:=FH aA (l.dropWhile (λc=>!aA c))
  rw [Option.mem_def] at hc
  rw [hc] at hd;exact hd
 ·intro c hc
  have:=EW.mp Fz c hc
  simpa using this
theorem mM {W:Model} {A:Dk} {E:CX→Df→Prop} {s:Df} (l:List Nat) (hz:l.length < 4294967295) (hs:l.length≤CZ) (p v:CX) {Q:Fin→Df→Prop}
  (hq:∀(res:List (List Nat×Tok)) (k:Nat),res.map (·.1)=bz l.length l→wpAny W A (newList (al res) >>= ret) Q E {s with toks:=k})
  (hn:reNamed "re.Pattern.split" "split" ["string","maxsplit"] 1 [v] []=pure [some v,none]) (hw:∀{Q:ReTarget→Df→Prop},Q (gB p v l) s→wpAny W A (reWholeTarget p v) Q E s):wpAny W A (PySem.Builtin.«re.Pattern.split» ⟨[p,v],[]⟩) Q E s:=by
 unfold PySem.Builtin.«re.Pattern.split»
 dsimp only
 rw [hn]
 refine C0 (Dc ?_)
 refine C0 (Dc ?_)
 refine C0 (hw ?_)
 refine C0 ?_
 refine wpAny_forIn_list _ (BS l (bz l.length l) s) _ ?turn ?fin _ _ ?start
 case start=>
  refine ⟨[],s.toks,rfl,rfl,Du _,.inr ⟨rfl,rfl,rfl,?_,l.length,by simp,by simp⟩⟩
  rw [List.length_range];show (l.drop 0).length < 2 * l.length+3
  simp;lia
 case fin=>
  rintro ⟨out,start,last,must,n,over⟩ s' ⟨done,k,rfl,ho,hl,h⟩
  rcases h with ⟨hv,ht⟩ | ⟨hv,_,_,hx,_⟩
  ·dsimp only at ho hl hv ht ⊢
   subst hv ho
   refine C0 (kx l last l.length (l.drop last) (by rw [EM];rw [DO];exact Dh _) hs ?_)
   rw [gY]
   exact hq _ (k+1) (by rw [Da];exact ht)
  ·exact absurd hx (by simp)
 case turn=>
  rintro x rest ⟨out,start,last,must,n,over⟩ s' ⟨done,k,rfl,ho,hl,h⟩
  dsimp only at ho hl h ⊢
  subst ho
  rcases h with ⟨rfl,ht⟩ | ⟨rfl,rfl,rfl,hx,N,hN,ht⟩
  ·rw [if_neg (by simp)]
   exact Dc ⟨done,k,rfl,rfl,hl,.inl ⟨rfl,ht⟩⟩
  ·rw [if_pos (show (!false)=true from rfl),if_neg (by simp)]
   by_cases hall:(l.drop start).all (λc=>!aA c)=true
   ·refine C0 (ut l hz start hl (λc hc=>by simpa using EW.mp hall c hc) ?_ p v)
    refine Dc ⟨done,k,rfl,rfl,hl,.inl ⟨rfl,?_⟩⟩
    simp only [←ht]
    cases N with
    | zero=>rfl
    | succ N=>unfold bz;rw [if_pos hall]
   ·refine gg λG hG=>?_;obtain ⟨w,bl,rs,ew,eb,er,hw',h0,hbl,hrs,hwb⟩:=lE _ hall;refine hG ?_
    have hrange:FR (gB p v l).groups=[0]:=rfl
    have hlen:=congrArg C9 hw'
    have hlen:=DO▸hlen
    refine C0 (us l hz start w bl rs h0 hbl hrs hw' hwb ?_ p v)
    rintro m ⟨ho,h1,h2,h3,h4⟩
    have hpos:0 < bl.length:=Em.mpr h0
    simp only [CY] at hlen
    dsimp only
    rw [h1,h2]
    refine C0 (kx l start _ w (by rw [hw',E5,C6,Gt];rfl) hs ?_)
    rw [gY]
    refine C0 ?_
    rw [hrange,Ev]
    refine C0 (C0 ?_)
    have hgrp:reMachineGroup (gB p v l) m (0+1) (pure .none)=reSlice (⟨l⟩:Array Nat) 0 (start+w.length) (start+w.length+bl.length):=by
     unfold reMachineGroup
     rw [h3,h4,if_neg (by decide)]
     show (if start+w.length+bl.length < start+w.length then _ else _)=_
     rw [if_neg (by lia)];rfl
    rw [hgrp]
    refine kx l (start+w.length) _ bl (by rw [←DE,hw',E5,C6,Gu,Gt] <;> rfl) hs ?_
    rw [gY]
    refine Dc ?_
    dsimp only
    rw [EF]
    refine Dc ?_
    refine Dc ?_
    refine ⟨done++[(w,k)]++[(bl,k+1)],k+1+1,rfl,rfl,by dsimp only;lia,.inr ⟨rfl,?_,rfl,?_,?_⟩⟩
    ·dsimp only;rw [beq_eq_false_iff_ne];lia
    ·dsimp only
     rw [DO] at hx ⊢
     simp only [C5] at hx
     lia
    ·have hdrop:l.drop (start+w.length+bl.length)=rs:=by
      rw [ER,←DE,hw']
      exact Gu (by simp)
     refine hdrop▸?_
     rw [DO] at hN
     cases N with
     | zero=>lia
     | succ N=>
      refine ⟨N,by lia,?_⟩
      rw [←ht]
      conv=>rhs;unfold bz
      rw [if_neg hall,ew,eb,er]
      simp
end
section
open PyProof.Rows PySem PySem.Builtin.Re PySem.Calls PySem.Spec PySem.Sre PySem.W PySem.W.X
theorem u9 (v:CX):reNamed "re.Pattern.split" "split" ["string","maxsplit"] 1 [v] []=pure [some v,none]:=rfl
theorem tY {W:Model} {A:Dk} {E:CX→Df→Prop} {s:Df} {a ca:C1} {po co:Obj} {vs items:Array CX} {n:Nat} (x:List Nat) (t:Tok)
  (ho:s.heap.get? a=some po) (hd:po.data=.fields vs) (hc:vs.getD 5 .none=.ref ca) (hco:s.heap.get? ca=some co) (hcd:co.data=.seq items n)
  (hcode:(items.map reRawOf).map (·.toNat)=oQ) (h2:reRawNat (vs.getD 2 .none)=1) (h6:reRawNat (vs.getD 6 .none)=0) {Q:ReTarget→Df→Prop} (hq:Q (gB (.ref a) (.str (S x) t) x) s):
  wpAny W A (reWholeTarget (.ref a) (.str (S x) t)) Q E s:=by
 unfold reWholeTarget
 refine C0 (GB ho hd ?_)
 have e:reTextOf (.str (S x) t)=pure ((⟨x⟩:Array Nat),0):=rfl
 rw [e]
 refine C0 (Dc ?_)
 dsimp only
 rw [h6,if_neg (by decide)]
 try refine C0 (Dc ?_)
 rw [hc]
 refine C0 (C0 (Ez hco hcd ?_))
 refine Dc ?_
 refine Dc ?_
 rw [h2]
 show Q {pattern:=.ref a,string:=.str (S x) t,code:=(items.map reRawOf).map (·.toNat),text:=⟨x⟩,kind:=0,groups:=1,pos:=0,lim:=x.length} s
 refine hcode▸?_
 exact hq
theorem gX:∀(n:Nat) (l:List Nat),(bz n l).length≤2 * n+1
 | 0,_=>Dh _
 | n+1,l=>by
  unfold bz
  by_cases h:l.all (λc=>!aA c)=true
  ·rw [if_pos h];simp
  ·rw [if_neg h]
   have:=gX n ((l.dropWhile (λc=>!aA c)).dropWhile aA)
   simp only [C5];lia
theorem qh {F:Fx} {k:Nat} {a ca:C1} {po co:Obj} {vs items:Array CX} {n:Nat} (x:List Nat) (t:Tok)
  (ho:F.kt.get a=some po) (hta:F.tab a=false) (hd:po.data=.fields vs) (hc:vs.getD 5 .none=.ref ca) (hco:F.kt.get ca=some co) (htc:F.tab ca=false) (hcd:co.data=.seq items n)
  (hcode:(items.map reRawOf).map (·.toNat)=oQ) (h2:reRawNat (vs.getD 2 .none)=1) (h6:reRawNat (vs.getD 6 .none)=0) (hz:x.length < 4294967295) (hs:2 * x.length+1≤CZ):
  af F k (.b 156072278745226617966552035764330260083 ⟨[.ref a,.str (S x) t],[]⟩) [] (X:=C1×List (List Nat×Tok)) (λy=>y.2.map (·.1)=bz x.length x) (λy=>.ok (.ret (.ref y.1))) (λξ=>[]) (λy=>[(y.1,aa (al y.2) 0)]):=by
 refine af.of_b (id:="re.Pattern.split") (by kernel_rfl) (Db (b:=PySem.Builtin.«re.Pattern.split») (by kernel_rfl)) (by decide+kernel) λrest A R d os hr hR h g t0 hg D=>?_
 refine mM x hz (by lia) (.ref a) (.str (S x) t) (λres kk hres=>?_) (u9 _) (λhq=>tY x t (D.look ho hta) hd hc (D.look hco htc) hcd hcode h2 h6 hq)
 have D1:=D.alloc (o:=aa (al res) 0) rfl
 have hlen:(al res).length≤CZ:=by
  have h1:=congrArg C9 hres
  have h2:=gX x.length x
  simp only [C2] at h1
  unfold al;simp only [C2];lia
 refine C0 (DU ?_ (by unfold sizeOk;simpa using hlen))
 refine Dc ?_
 exact hR (h.objs.size,res) _ g _ hres hg D1
end
section
open PyProof.Rows PySem PySem.Calls PySem.Spec PySem.W PySem.W.X
theorem rZ (z its own it l:C1) (i:Nat) (xs:List CX) (e e1 e2:Nat) (x y:List Nat) (tx ty:Tok) (hx:xs[i]?=some (.str (S x) tx)) (hy:xs[i+1]?=some (.str (S y) ty)):
  bG Z 4 (.b 29827172577847883946209143419 ⟨[.ref z],[]⟩) [(z,aE "zip" [.none,.bool false,.bool false,.ref its,.ref own]),(its,⟨.type "tuple",none,.seq ⟨[.ref it,.ref it]⟩ e1,#[]⟩),(it,aS l i),(l,aa xs e),(own,⟨.type "tuple",none,.seq ⟨[.none,.none]⟩ e2,#[]⟩)]
   (X:=C1×Nat) (λξ=>True) (λr=>.ok (.ret (.ref r.1))) (λr=>[aE "zip" [.int (.ofNat r.1) 0,.bool false,.bool false,.ref its,.ref own],⟨.type "tuple",none,.seq ⟨[.ref it,.ref it]⟩ e1,#[]⟩,aS l (i+1+1),aa xs e,⟨.type "tuple",none,.seq ⟨[.str (S x) tx,.str (S y) ty]⟩ r.2,#[]⟩]) (λr=>[(r.1,gV [.str (S x) tx,.str (S y) ty])]):=by
 refine bG.of_cbB (id:="zip.__next__") (by kernel_rfl) λrest A R d os hroom hR n t=>?_
 exists 1,bb it l i xs e (.str (S x) tx) hx,0x4141222322,51
 exists 2,bb it l (i+1) xs e (.str (S y) ty) hy,34760038,17
 exists ar,(n2,e2),0x343466566,1118515
section
open Sem (wp)
noncomputable def fu (b a:C1):CX:=if b=a then .none else .int (.ofNat b) 0
theorem aZ (a:C1):fu a a=.none:=if_pos rfl
noncomputable def zz (it v:CX):Sem Unit:=match (it,v) with
 | (.ref r,.ref a)=>do
  let o ←PySem.load r
  match o.cls,o.data with
  | .type n,.fields vs=>
   condFn (Sem Unit) (@ZFast.zw3471404346716756564 String (@instBEqOfDecidableEq String PySem.W.S.strDecS) [PySem.W.SZ.s14340494229221121180x9,PySem.W.SZ.s14339709457334898076x3,PySem.W.SZ.s2783514499706994809x17,PySem.W.SZ.s2223374115958298951x24,PySem.W.SZ.s4428606184754087035x14,PySem.W.SZ.s14092991718984965784x21,PySem.W.SZ.s5947345187589116515x18] n)
    (match (vs[0]?:Option CX) with
     | some (CX.int (.ofNat b) 0)=>PySem.update r (Obj.mapFields (·.setIfInBounds 0 (fu b a)))
     | _=>unsupported "owned") (pure ())
  | _,_=>pure ()
 | _=>pure ()
noncomputable def yO:{T // @zz=T}:=by
 refine ⟨?T,?h⟩
 rotate_left
 ·delta zz
  rw [ZFast.ze12456147031677567982]
noncomputable abbrev wk:CX→CX→Sem Unit:=yO.1
theorem m7 {h:Heap} {r:C1} {o:Obj} {f:Obj→Obj} (ho:h.get? r=some o) (hf:f o=o):h.update r f=h:=by
 obtain ⟨objs,life⟩:=h
 show (⟨objs.modify r f,life⟩:Heap)=⟨objs,life⟩
 congr 1
 have e:objs[r]?=some o:=by
  unfold Heap.get? at ho
  dsimp only at ho
  cases e:objs[r]? with
  | none=>have ho:=e▸ho;cases ho
  | some o'=>
   rw [e] at ho
   split at ho
   ·cases ho
   ·exact ho
 apply Er
 intro i
 rw [Ec]
 split
 ·subst_vars
  simp only [e,Fo,hf]
 ·rfl
theorem tG {vs:Array CX} {b:C1} (o:Obj) (e2:o.data=.fields vs) (e3:vs[0]?=some (.int (.ofNat b) 0)):Obj.mapFields (·.setIfInBounds 0 (.int (.ofNat b) 0)) o=o:=by
 obtain ⟨c,d,da,sl⟩:=o
 have e2:da=.fields vs:=e2
 subst e2
 show (⟨c,d,.fields (vs.setIfInBounds 0 (.int (.ofNat b) 0)),sl⟩:Obj)=_
 congr 2
 apply Er
 intro i
 rw [DQ]
 split
 ·rename_i h
  subst h
  split
  ·exact e3.symm
  ·rename_i h
   rw [E9 (by omega)] at e3
   cases e3
 ·rfl
theorem B2 (cl:CX) (da:Data):(∃n vs,cl=.type n∧da=.fields vs)∨∀{α:Type} (f:String→Array CX→α) (d:α),(match cl,da with | .type n,.fields vs=>f n vs | _,_=>d)=d:=by
 cases cl with
 | type n=>
  cases da with
  | fields vs=>exact .inl ⟨n,vs,rfl,rfl⟩
  | _=>exact .inr λ_ _=>rfl
 | _=>exact .inr λ_ _=>rfl
theorem Cg (w:Option CX):(∃b,w=some (.int (.ofNat b) 0))∨∀{α:Type} (f:Nat→α) (d:α),(match w with | some (.int (.ofNat b) 0)=>f b | _=>d)=d:=by
 cases w with
 | none=>exact .inr λ_ _=>rfl
 | some w=>
  cases w with
  | int j t=>
   cases j with
   | negSucc j=>exact .inr λ_ _=>rfl
   | ofNat b=>
    cases t with
    | succ t=>exact .inr λ_ _=>rfl
    | zero=>exact .inl ⟨b,rfl⟩
  | _=>exact .inr λ_ _=>rfl
theorem zK {M:Model} {A:Dk} {c:Code} {elts:List Expr} {kk:Nat} {p0:Pos} {it v:CX}:Le M A c (wk it v) (ZFast.zw1578499551869305889 (.Tuple elts kk p0) it v):=by
 show Le M A c (yO.1 it v) _
 refine yO.2▸?_
 cases it with
 | ref r=>
  cases v with
  | ref a=>
   delta zz ZFast.zw1578499551869305889
   rw [←ZFast.ze12456147031677567982]
   intro Γ Q E p s hc hΓ x
   have un:∀{Q s},wp M Γ (unsupported "owned":Sem Unit) Q E p s→False:=λx=>by unfold unsupported at x;rw [Sem.wp_unsupported] at x;exact x
   have x:wp M Γ (PySem.load r >>= _) Q E p s:=x
   show wp M Γ (PySem.load r >>= _) Q E p s
   rw [Sem.wp_bind'] at x ⊢
   obtain ⟨⟨cl,dd,da,sl⟩,ho,x⟩:=x
   refine ⟨⟨cl,dd,da,sl⟩,ho,?_⟩
   rw [Sem.wp_pure] at x ⊢
   rcases B2 cl da with ⟨n,vs,rfl,rfl⟩ | h
   ·dsimp only at x ⊢
    generalize @ZFast.zw3471404346716756564 String (@instBEqOfDecidableEq String PySem.W.S.strDecS) _ n=q at x ⊢
    cases q
    ·exact x
    ·rw [Bool.true_and,←ZFast.ze7966671052430208091]
     have x:wp M Γ (match (vs[0]?:Option CX) with
      | some (CX.int (.ofNat b) 0)=>PySem.update r (Obj.mapFields (·.setIfInBounds 0 (fu b a)))
      | _=>(unsupported "owned":Sem Unit)) Q E p s:=x
     rcases Cg (vs[0]?) with ⟨b,e3⟩ | h
     ·rw [e3] at x ⊢
      obtain ⟨hs,x⟩:=x
      by_cases hb:b=a
      ·subst hb
       rw [show (some (CX.int (.ofNat b) 0) == some (rawInt b))=true from decide_eq_true rfl]
       show wp M Γ (rule "for.unpacks-the-owned-tuple" >>= λξ=>ZFast.zw12367529300394763782 r 0 CX.none) Q E p s
       rw [Sem.wp_bind']
       show wp M Γ (ZFast.zw12367529300394763782 r 0 CX.none) Q E p s
       refine ZFast.ze12367529300394763782▸?_
       delta PySem.updateField
       rw [Sem.wp_bind']
       refine ⟨_,ho,?_⟩
       rw [Sem.wp_pure]
       have hz:0 < vs.size:=(Array.getElem?_eq_some_iff.mp e3).1
       show wp M Γ (if 0 < vs.size then _ else _) Q E p s
       rw [if_pos hz]
       exact ⟨hs,by rw [aZ] at x;exact x⟩
      ·rw [show (some (CX.int (.ofNat b) 0) == some (rawInt a))=false from decide_eq_false λh=>by
        injection h with h
        injection h with h
        exact hb h]
       show Q () p s
       unfold fu at x
       rw [if_neg hb] at x
       have x:Q () p {s with heap:=s.heap.update r (Obj.mapFields (·.setIfInBounds 0 (.int (.ofNat b) 0)))}:=x
       rw [m7 ho (tG _ rfl e3)] at x
       exact x
     ·exact (un ((congrArg (λt=>wp M Γ t Q E p s) (h _ _)).mp x)).elim
   ·exact (congrArg (λt=>wp M Γ t Q E p s) ((h _ _).trans (h _ _).symm)).mp x
  | _=>exact λΓ Q E p s hc hΓ x=>x
 | _=>exact λΓ Q E p s hc hΓ x=>x
noncomputable def lc (target:Expr) (it:CX) (body orelse:List Stmt) (env:Env):{T:(Expr→CX→CX→Sem Unit)→Sem Fin // jx (.forLoop target it body orelse env)=T ZFast.zw1578499551869305889}:=by
 refine ⟨?T,?h⟩
 rotate_left
 ·show PySem.W.R.onRaiseR (ZFast.zw15207555903498437823 target it body orelse env) _=_
  unfold ZFast.zw15207555903498437823
  generalize ZFast.zw1578499551869305889=ca
  rfl
theorem xh {M:Model} {A:Dk} {c:Code} {elts:List Expr} {kk:Nat} {p0:Pos} {it:CX} {body orelse:List Stmt} {env:Env}:
  Le M A c ((lc (.Tuple elts kk p0) it body orelse env).1 λξ=>wk) (denote table (.forLoop (.Tuple elts kk p0) it body orelse env)):=by
 simp only [dr]
 suffices k:Le M A c ((lc (.Tuple elts kk p0) it body orelse env).1 λξ=>wk) ((lc (.Tuple elts kk p0) it body orelse env).1 ZFast.zw1578499551869305889) from λΓ Q E p s hc hΓ x=>by
  rw [(lc (.Tuple elts kk p0) it body orelse env).2]
  exact k Γ Q E p s hc hΓ x
 unfold lc
 dsimp only
 refine PySem.W.R.onRaiseR_eq▸ZFast.ze12456147031677567982▸?_
 refine Le.onRaise (Le.bindR λξ=>Le.bindR λv=>?_)
 cases v with
 | none=>exact Le.refl _
 | some v=>exact Le.bindL zK
noncomputable def AN (c:Code):{t:Sem Fin // ∀{M:Model} {A:Dk},Le M A c t (denote table c)}:=match c with
 | .forLoop (.Tuple elts kk p0) it body orelse env=>⟨(lc (.Tuple elts kk p0) it body orelse env).1 λξ=>wk,xh⟩
 | c=>⟨jx c,by rw [dr];exact Le.refl _⟩
noncomputable def zJ (c:Code):Sem Fin:=(AN c).1
theorem xm {M:Model} {A:Dk} {c:Code}:Le M A c (zJ c) (denote table c):=(AN c).2
section
variable {F:Fx} {X:Type} {P:X→Prop} {r:X→Dq} {ob:X→List Obj} {new:X→ao} {post pm:X→ao} {D1 D2:Dr→Dr}
theorem ad.of_codeT {k:Nat} {c:Code} {L M:ao} (x:∀rest A R d os,aP k A→eY F rest (D2 d) os R P r post pm→∀n t,Go F A (.plain R) (M++rest) (D1 d) os (.go c .base (zJ c) L n t)):ad F k (.o c) L M P r post pm D1 D2:=
 ⟨λc' hc' rest A R d os hr hR h g t hg D=>by
  cases hc'
  exact y_code _ _ _ _ _ _ (eE xm ((x rest A R d os hr hR _ t).go h g hg D rfl))⟩
end
theorem ad.of_codeTB {F:Fx} {X:Type} {P:X→Prop} {r:X→Dq} {post pm:X→ao} {D1 D2:Dr→Dr} {k:Nat} {c:Code} {L M:ao} (x:∀rest A R d os,aP k A→eY F rest (D2 d) os R P r post pm→∀n t,c9 F A (.plain R) (M++rest) (D1 d) os λξ ξ=>.go c .base (zJ c) L n t):ad F k (.o c) L M P r post pm D1 D2:=
 ad.of_codeT λrest A R d os hr hR n t=>(x rest A R d os hr hR n t).one
end
theorem vZ (y0:CX) (hy0:y0=.none) (z its own it l:C1) (i:Nat) (xs:List CX) (e e1 e2:Nat) (u1 u2:List Nat) (v1 v2:Tok) (x y:List Nat) (tx ty:Tok) (hx:xs[i]?=some (.str (S x) tx)) (hy:xs[i+1]?=some (.str (S y) ty)):
  bG Z 4 (.b 29827172577847883946209143419 ⟨[.ref z],[]⟩) [(z,aE "zip" [y0,.bool false,.bool false,.ref its,.ref own]),(its,⟨.type "tuple",none,.seq ⟨[.ref it,.ref it]⟩ e1,#[]⟩),(it,aS l i),(l,aa xs e),(own,⟨.type "tuple",none,.seq ⟨[.str (S u1) v1,.str (S u2) v2]⟩ e2,#[]⟩)]
   (X:=C1×Nat) (λξ=>True) (λr=>.ok (.ret (.ref r.1))) (λr=>[aE "zip" [.int (.ofNat r.1) 0,.bool false,.bool false,.ref its,.ref own],⟨.type "tuple",none,.seq ⟨[.ref it,.ref it]⟩ e1,#[]⟩,aS l (i+1+1),aa xs e,⟨.type "tuple",none,.seq ⟨[.str (S x) tx,.str (S y) ty]⟩ r.2,#[]⟩]) (λr=>[(r.1,gV [.str (S x) tx,.str (S y) ty])]):=by
 subst hy0
 refine bG.of_cbB (id:="zip.__next__") (by kernel_rfl) λrest A R d os hroom hR n t=>?_
 exists 1,bb it l i xs e (.str (S x) tx) hx,0x4141222322,51
 exists 2,bb it l (i+1) xs e (.str (S y) ty) hy,34760038,17
 exists ar,(n2,e2),0x343466566,1118515
theorem uO (y0:CX) (hy0:y0=.none) (z its own it l:C1) (i:Nat) (xs:List CX) (e e1 e2:Nat) (oo:List CX) (hv:xs.length≤i):
  bG Z 4 (.b 29827172577847883946209143419 ⟨[.ref z],[]⟩) [(z,aE "zip" [y0,.bool false,.bool false,.ref its,.ref own]),(its,⟨.type "tuple",none,.seq ⟨[.ref it,.ref it]⟩ e1,#[]⟩),(it,aS l i),(l,aa xs e),(own,⟨.type "tuple",none,.seq ⟨oo⟩ e2,#[]⟩)]
   (X:=C1×C1) (λξ=>True) (λr=>.error (.ref r.2)) (λξ=>[aE "zip" [.none,.bool false,.bool false,.ref its,.ref own],⟨.type "tuple",none,.seq ⟨[.ref it,.ref it]⟩ e1,#[]⟩,eS i,aa xs e,⟨.type "tuple",none,.seq ⟨oo⟩ e2,#[]⟩]) (λr=>[(r.1,⟨.type "tuple",none,.seq ⟨[]⟩ 0,#[]⟩),(r.2,bx r.1)]):=by
 subst hy0
 refine bG.of_cbB (id:="zip.__next__") (by kernel_rfl) λrest A R d os hroom hR n t=>?_
 exists 1,iX it l i xs e ‹_›,0x4141222322,51
 exists ar,(x1.1,x1.2),86,18026837
section
noncomputable abbrev kg:List Nat:=[112,97,114,116,115]
noncomputable abbrev rp:List Nat:=[115,112,108,105,116,99,104,97,114,115]
noncomputable abbrev Ak:=Tok×Tok×Tok×Tok×Tok×Tok×Tok
noncomputable abbrev zd (F:Fx) (J:Ak) (v:C1) (f:List Nat) (tf:Tok) (q:List Nat) (l:C1) (e:Nat):Obj:=
 bY [en F kP J.1 (.ref v),en F cF J.2.1 (.str (S f) tf),en F jC J.2.2.1 (.str (S q) J.2.2.2.1),en F rp J.2.2.2.2.1 (.str (S [59]) J.2.2.2.2.2.1),en F kg J.2.2.2.2.2.2 (.ref l)] e
noncomputable abbrev vT (F:Fx) (J:Ak) (v:C1) (f:List Nat) (tf:Tok) (q:List Nat) (l:C1) (kp:Tok) (x:List Nat) (tx:Tok) (e:Nat):Obj:=
 bY [en F kP J.1 (.ref v),en F cF J.2.1 (.str (S f) tf),en F jC J.2.2.1 (.str (S q) J.2.2.2.1),en F rp J.2.2.2.2.1 (.str (S [59]) J.2.2.2.2.2.1),en F kg J.2.2.2.2.2.2 (.ref l),en F bA kp (.str (S x) tx)] e
noncomputable abbrev ny (F:Fx) (L z:C1):CV:=.o (hH (fH F 106 L) (.ref z) (gF F 106 [2]))
noncomputable abbrev yE (z its own it l:C1) (y0:CX) (i:Nat) (xs:List CX) (e0:Nat) (oo:List CX) (e2:Nat):ao:=
 [(z,aE "zip" [y0,.bool false,.bool false,.ref its,.ref own]),(its,⟨.type "tuple",none,.seq ⟨[.ref it,.ref it]⟩ 0,#[]⟩),(it,aS l i),(l,aa xs e0),(own,⟨.type "tuple",none,.seq ⟨oo⟩ e2,#[]⟩)]
section
variable (L z its own it l:C1) (e0:Nat) (v vd la a dd:C1) (K:Vk) (m e:Nat) (J:Ak) (f:List Nat) (tf:Tok) (q:List Nat) (ef:Nat)
theorem wo (kp:Tok) (x0:List Nat) (tx0:Tok) (y0:CX) (hy0:y0=.none) (xs:List CX) (i:Nat) (hv:xs.length≤i) (oo:List CX) (e2:Nat) (s:VS):
  ad Z 16 (ny Z L z) ([(L,vT Z J v f tf q l kp x0 tx0 ef)]++yE z its own it l y0 i xs e0 oo e2++fK Z v vd la a dd K m e s) (aj s.2.2.1)
   (X:=VS×Obj) (λx=>x.1=s) (λξ=>.ok .next) (λx=>(L,x.2)::fK Z v vd la a dd K m e x.1) (λx=>aj x.1.2.2.1):=by
 refine ad.of_codeTB λrest A R d os hroom hR n t=>?_
 refine ui hroom ((uO y0 ‹_› z its own it l i xs e0 0 e2 oo ‹_›).up rfl) [2,0,2] (dec 139810) ?_ (by kernel_rfl)
 intro cf1 x1 n1 t1 p1
 exists az,((s.1,s.2.1,s.2.2.1,s.2.2.2.1,s.2.2.2.2.1,s.2.2.2.2.2.1,s.2.2.2.2.2.2.1,s.2.2.2.2.2.2.2),.mk (.type "frame") none (.dict ⟨[.mk (pd Z [115,101,108,102]) (.str (S [115,101,108,102]) J.1) (.ref v),.mk (pd Z [102,119,115]) (.str (S [102,119,115]) J.2.1) (.str (S f) tf),.mk (pd Z [115,116,114,105,110,103]) (.str (S [115,116,114,105,110,103]) J.2.2.1) (.str (S q) J.2.2.2.1),.mk (pd Z [115,112,108,105,116,99,104,97,114,115]) (.str (S [115,112,108,105,116,99,104,97,114,115]) J.2.2.2.2.1) (.str (S [59]) J.2.2.2.2.2.1),.mk (pd Z [112,97,114,116,115]) (.str (S [112,97,114,116,115]) J.2.2.2.2.2.2) (.ref l),.mk (pd Z [112,97,114,116]) (.str (S [112,97,114,116]) kp) (.str (S x0) tx0)]⟩ ef) #[]),(by rfl),24,8947848
theorem vR (kp:Tok) (x0:List Nat) (tx0:Tok) (y0:CX) (hy0:y0=.none) (xs:List CX) (i:Nat) (u1 u2:List Nat) (v1 v2:Tok) (e2:Nat) (s:VS) (x y:List Nat) (tx ty:Tok) (hx:xs[i]?=some (.str (S x) tx)) (hy:xs[i+1]?=some (.str (S y) ty)) (hc:oO m (bi s) (x,y)) (hf:qf (bi s) (x,y))
  (P:VS×Obj→Prop)
  (ih:∀(kp:Tok) (tf:Tok) (y0:CX) (e2:Nat) (ef:Nat) (s':VS),y0=.none→bi s'=b5 m (bi s) (x,y)→
   ad Z 16 (ny Z L z) ([(L,vT Z J v x tf q l kp y ty ef)]++yE z its own it l y0 (i+1+1) xs e0 [.str (S x) tx,.str (S y) ty] e2++fK Z v vd la a dd K m e s') (aj s'.2.2.1) P (λξ=>.ok .next) (λx=>(L,x.2)::fK Z v vd la a dd K m e x.1) (λx=>aj x.1.2.2.1)):
  ad Z 16 (ny Z L z) ([(L,vT Z J v f tf q l kp x0 tx0 ef)]++yE z its own it l y0 i xs e0 [.str (S u1) v1,.str (S u2) v2] e2++fK Z v vd la a dd K m e s) (aj s.2.2.1) P (λξ=>.ok .next) (λx=>(L,x.2)::fK Z v vd la a dd K m e x.1) (λx=>aj x.1.2.2.1):=by
 refine ad.of_codeTB λrest A R d os hroom hR n t=>?_
 refine ui hroom ((vZ y0 ‹_› z its own it l i xs e0 0 e2 u1 u2 v1 v2 x y tx ty hx hy).up rfl) [2,0,2] (dec 139810) ?_ (by kernel_rfl)
 intro cf1 x1 n1 t1 p1
 exists 2,dx,(kE v vd la a dd K m e s x tx y ty ‹_› ‹_›).up rfl,0x188a91111911191119878780ffde7ee1e1ede7ee1e1ede7ee1e1ee17177712,559240
 exists 3,aX,ih kp tx (Decidable.rec (λh=>(λx=>.int (.ofNat x1.1) 0) h) (λh=>(λx=>.none) h) (instDecidableEqNat x1.1 x1.1)) x1.2 ef x2 (by exact aZ _) ‹_›,0,0x1111166666c
 exists az,((x3.1.1,x3.1.2.1,x3.1.2.2.1,x3.1.2.2.2.1,x3.1.2.2.2.2.1,x3.1.2.2.2.2.2.1,x3.1.2.2.2.2.2.2.1,x3.1.2.2.2.2.2.2.2),x3.2),(by rfl),0,1118481
theorem sR (xs:List CX) (i:Nat) (e2:Nat) (s:VS) (x y:List Nat) (tx ty:Tok) (hx:xs[i]?=some (.str (S x) tx)) (hy:xs[i+1]?=some (.str (S y) ty)) (hc:oO m (bi s) (x,y)) (hf:qf (bi s) (x,y))
  (P:VS×Obj→Prop)
  (ih:∀(kp:Tok) (tf:Tok) (y0:CX) (e2:Nat) (ef:Nat) (s':VS),y0=.none→bi s'=b5 m (bi s) (x,y)→
   ad Z 16 (ny Z L z) ([(L,vT Z J v x tf q l kp y ty ef)]++yE z its own it l y0 (i+1+1) xs e0 [.str (S x) tx,.str (S y) ty] e2++fK Z v vd la a dd K m e s') (aj s'.2.2.1) P (λξ=>.ok .next) (λx=>(L,x.2)::fK Z v vd la a dd K m e x.1) (λx=>aj x.1.2.2.1)):
  ad Z 16 (ny Z L z) ([(L,zd Z J v f tf q l ef)]++yE z its own it l .none i xs e0 [.none,.none] e2++fK Z v vd la a dd K m e s) (aj s.2.2.1) P (λξ=>.ok .next) (λx=>(L,x.2)::fK Z v vd la a dd K m e x.1) (λx=>aj x.1.2.2.1):=by
 refine ad.of_codeTB λrest A R d os hroom hR n t=>?_
 refine ui hroom ((rZ z its own it l i xs e0 0 e2 x y tx ty hx hy).up rfl) [2,0,2] (dec 139810) ?_ (by kernel_rfl)
 intro cf1 x1 n1 t1 p1
 exists 2,dx,(kE v vd la a dd K m e s x tx y ty ‹_› ‹_›).up rfl,0x188a91111911191119878780ffde7ee1e1ede7ee1e1ede7ee1e1ee17177712,559240
 exists 3,aX,ih (t1+1) tx (Decidable.rec (λh=>(λx=>.int (.ofNat x1.1) 0) h) (λh=>(λx=>.none) h) (instDecidableEqNat x1.1 x1.1)) x1.2 (ef+1) x2 (by exact aZ _) ‹_›,0,0x1111166666c
 exists az,((x3.1.1,x3.1.2.1,x3.1.2.2.1,x3.1.2.2.2.1,x3.1.2.2.2.2.1,x3.1.2.2.2.2.2.1,x3.1.2.2.2.2.2.2.1,x3.1.2.2.2.2.2.2.2),x3.2),(by rfl),0,1118481
end
end
end
section
open PyProof.Rows PySem PySem.Builtin.Re PySem.Calls PySem.Spec PySem.Sre PySem.W PySem.W.X
noncomputable def uz:Array Nat:=#[14,10,4,1,1,22,0,31,16,127,0,13,7,22,0,31,16,127,0,1]
noncomputable def o7:Array Nat:=#[14,14,4,1,1,9,4294966783,0,0,2147483648,0,0,0,0,0,13,11,9,4294966783,0,0,2147483648,0,0,0,0,0,1]
noncomputable def bH (c:Nat):Bool:=decide (32≤c) && decide (c < 127)
noncomputable def aO (c:Nat):Bool:=bH c || c == 9
theorem Cy (c:Nat) (h:bH c=true) (seen:Sre.Seen):∃s',inSet uz c 20 5 true seen=.ok (false,s'):=by
 unfold bH at h
 simp only [Dt,decide_eq_true_eq] at h
 have e:inSet uz c 20 5 true seen=if decide (0≤c) && decide (c≤31) then .ok (true,seen.add 22) else if c == 127 then .ok (true,(seen.add 22).add 16) else .ok (false,((seen.add 22).add 16).add 0):=rfl
 rw [e,if_neg (by simp;lia),if_neg (by simp;lia)]
 exact ⟨_,rfl⟩
theorem AH:∀c,c < 128→aO c=true→(decide (c < 256) && (o7.getD (5+(1+c / 32)) 0).testBit (c % 32))=false:=by decide
theorem Cz (c:Nat) (h:aO c=true) (seen:Sre.Seen):∃s',inSet o7 c 28 5 true seen=.ok (false,s'):=by
 have hc:c < 128:=by
  unfold aO bH at h
  simp at h;lia
 have e:inSet o7 c 28 5 true seen=if decide (c < 256) && (o7.getD (5+(1+c / 32)) 0).testBit (c % 32) then .ok (true,seen.add 9) else .ok (false,(seen.add 9).add 0):=rfl
 rw [e,AH c hc h]
 exact ⟨_,rfl⟩
theorem nS (m:M) (p:Nat→Bool) (hs:∀c,p c=true→∀seen:Sre.Seen,∃s',inSet m.code c m.code.size 5 true seen=.ok (false,s')) (x:List Nat) (hx:∀c∈x,p c=true) (ht:m.text=⟨x⟩) (hl:m.lim=x.length):
  ∀fuel s seen,∃s',M.admitted m fuel s seen=.ok (none,s')
 | 0,s,seen=>⟨seen,rfl⟩
 | fuel+1,s,seen=>by
  unfold M.admitted
  by_cases h:s ≥ m.lim
  ·rw [if_pos h];exact ⟨_,rfl⟩
  ·rw [if_neg h]
   have hi:s < x.length:=by lia
   have e:m.text.getD s 0=x[s]:=by rw [ht];simp [Array.getD,hi]
   refine e▸?_
   obtain ⟨s1,h1⟩:=hs x[s] (hx _ (Fg hi)) seen
   refine h1▸?_
   exact nS m p hs x hx ht hl fuel (s+1) s1
theorem nD {code:Array Nat} (hcode:code=uz∨code=o7) (p:Nat→Bool) (hs:∀c,p c=true→∀seen:Sre.Seen,∃s',inSet code c code.size 5 true seen=.ok (false,s')) (x:List Nat) (hx:∀c∈x,p c=true):
  ((Sre.forSearch code ⟨x⟩ 0 0 x.length false).runFor 1).outcome=some .failed:=by
 have key:∃m:M,m.code=code∧m.text=⟨x⟩∧m.lim=x.length∧m.frames=[]∧m.outcome=none∧Sre.forSearch code ⟨x⟩ 0 0 x.length false=if decide (0 > x.length) || decide (x.length - 0 < 1) then m.say false else ({m with lastStart:=x.length}:M).attemptFrom 0 true:=by
  rcases hcode with rfl | rfl
  ·exact ⟨_,rfl,rfl,rfl,rfl,rfl,rfl⟩
  ·exact ⟨_,rfl,rfl,rfl,rfl,rfl,rfl⟩
 obtain ⟨m,h1,h2,h3,h4,h5,h6⟩:=key
 have fin:∀m:M,m.frames=[]→m.outcome=none→((m.say false).runFor 1).outcome=some .failed:=by
  intro m h4 h5
  show (if (m.say false).outcome.isSome then m.say false else (m.say false).step).outcome=_
  have e1:(m.say false).outcome=none:=h5
  have e2:(m.say false).frames=[]:=h4
  have e3:(m.say false).answer=some false:=rfl
  refine e1▸?_
  show (m.say false).step.outcome=_
  unfold M.step
  refine e1▸e2▸e3▸?_
  rfl
 rw [h6]
 split
 ·exact fin m h4 h5
 ·unfold M.attemptFrom
  have hf:({m with lastStart:=x.length}:M).hasFirstSet=true:=by
   refine h1▸?_
   rcases hcode with rfl | rfl <;> rfl
  rw [hf]
  obtain ⟨s',e⟩:=nS ({m with lastStart:=x.length}:M) p (by refine h1▸?_;exact hs) x hx h2 h3 (({m with lastStart:=x.length}:M).lim+1 - 0) 0 ({m with lastStart:=x.length}:M).seen
  rw [if_neg (by decide),e]
  exact fin _ h4 h5
theorem i3 {F:Fx} {k:Nat} {a ca:C1} {po co:Obj} {vs items:Array CX} {n:Nat} (code:Array Nat) (hcode':code=uz∨code=o7) (p:Nat→Bool) (hs:∀c,p c=true→∀seen:Sre.Seen,∃s',inSet code c code.size 5 true seen=.ok (false,s')) (x:List Nat) (hx:∀c∈x,p c=true) (t:Tok)
  (ho:F.kt.get a=some po) (hta:F.tab a=false) (hd:po.data=.fields vs) (hc:vs.getD 5 .none=.ref ca) (hco:F.kt.get ca=some co) (htc:F.tab ca=false) (hcd:co.data=.seq items n)
  (hcode:(items.map reRawOf).map (·.toNat)=code) (h2:reRawNat (vs.getD 2 .none)=0) (h6:reRawNat (vs.getD 6 .none)=0) (hz:x.length < 4294967295):
  af F k (.b 35863170436209133097404895493593441986163 ⟨[.ref a,.str (S x) t],[]⟩) [] (X:=Unit) (λξ=>True) (λξ=>.ok (.ret .none)) (λξ=>[]) (λξ=>[]):=by
 refine af.of_b (id:="re.Pattern.search") (by kernel_rfl) (Db (b:=PySem.Builtin.«re.Pattern.search») (by kernel_rfl)) (by decide+kernel) λrest A R d os hr hR h g t0 hg D=>?_
 have hn:reNamed "re.Pattern.search" "search" ["string","pos","endpos"] 1 [.str (S x) t] []=pure [some (.str (S x) t),none,none]:=rfl
 have ht:∀(A:Dk) (E:CX→Df→Prop) {Q:ReTarget→Df→Prop},Q {pattern:=.ref a,string:=.str (S x) t,code:=code,text:=⟨x⟩,kind:=0,groups:=0,pos:=0,lim:=x.length} ⟨h,g,d.d,t0,os⟩→
   wpAny (model F.prog F.w) A (reTarget "re.Pattern.search" "search" ⟨[.ref a,.str (S x) t],[]⟩) Q E ⟨h,g,d.d,t0,os⟩:=by
  intro A E Q hq
  unfold reTarget
  dsimp only
  rw [hn]
  refine C0 (Dc ?_)
  refine C0 (Dc ?_)
  refine C0 (Dc ?_)
  refine C0 (GB (D.look ho hta) hd ?_)
  have e:reTextOf (.str (S x) t)=pure ((⟨x⟩:Array Nat),0):=rfl
  simp only [e]
  refine C0 (Dc ?_)
  dsimp only
  rw [h6,if_neg (by decide)]
  try refine C0 (Dc ?_)
  rw [hc]
  refine C0 (C0 (Ez (D.look hco htc) hcd ?_))
  refine Dc ?_
  refine Dc ?_
  rw [h2]
  have e0:(min (0:Int).toNat (⟨x⟩:Array Nat).size)=0:=GJ _
  have e1:(min ((2:Int) ^ 63 - 1).toNat (⟨x⟩:Array Nat).size)=x.length:=Nat.min_eq_right (by
   show x.length≤9223372036854775807
   exact lD ‹_› rfl)
  show Q {pattern:=.ref a,string:=.str (S x) t,code:=(items.map reRawOf).map (·.toNat),text:=⟨x⟩,kind:=0,groups:=0,pos:=min (0:Int).toNat (⟨x⟩:Array Nat).size,lim:=min ((2:Int) ^ 63 - 1).toNat (⟨x⟩:Array Nat).size} _
  simp only [hcode,e0,e1]
  exact hq
 refine C0 (ht _ _ ?_)
 refine C0 (eC 1 _ _ (by decide) rfl none (.inr ⟨nD hcode' p hs x hx,rfl⟩) ?_)
 refine Dc ?_
 exact hR () _ g _ trivial hg D
theorem af.to {F:Fx} {X Y:Type} {P:X→Prop} {P':Y→Prop} {r:X→Dq} {r':Y→Dq} {ob:X→List Obj} {ob':Y→List Obj} {new:X→ao} {new':Y→ao} {k:Nat} {L:ao} {vw:CV}
  (S:af F k vw L P r ob new) (φ:X→Y) (h:∀x,P x→P' (φ x)∧r' (φ x)=r x∧ob' (φ x)=ob x∧new' (φ x)=new x):af F k vw L P' r' ob' new':=
 ⟨λc hc rest A R d os hr hR h' g t hg D=>S.go c hc rest A R d os hr (λx h2 g2 t2 hp hg2 D2=>by
  obtain ⟨h1,h2',h3,h4⟩:=h x hp
  have:=hR (φ x) h2 g2 t2 h1 hg2 (by simp only [h3,h4];exact D2)
  simp only [h2'] at this
  exact this) h' g t hg D⟩
noncomputable def cu (F:Fx) (a:C1):Obj:=match F.kt.get a with
 | some o=>o
 | none=>⟨.none,none,.plain,#[]⟩
noncomputable def fY (o:Obj):Array CX:=match o.data with
 | .fields vs=>vs
 | _=>#[]
noncomputable def mZ (o:Obj):Array CX:=match o.data with
 | .seq vs _=>vs
 | _=>#[]
noncomputable def mJ (o:Obj):Nat:=match o.data with
 | .seq _ n=>n
 | _=>0
theorem nt (n q0:Nat) (qr:List Nat) (hb:aA q0=false):∃c l,bz n (q0::qr)=(q0::c)::l:=by
 cases n with
 | zero=>exact ⟨qr,[],rfl⟩
 | succ n=>
  unfold bz
  by_cases h:(q0::qr).all (λc=>!aA c)=true
  ·rw [if_pos h];exact ⟨qr,[],rfl⟩
  ·rw [if_neg h,List.takeWhile_cons_of_pos (by rw [hb];rfl)]
   exact ⟨_,_,rfl⟩
theorem oz (n:Nat) (l x:List Nat) (r:List (List Nat)) (e:bz n l=x::r):x.length≤l.length:=by
 cases n with
 | zero=>cases e;exact Dh _
 | succ n=>
  unfold bz at e
  by_cases h:l.all (λc=>!aA c)=true
  ·rw [if_pos h] at e;cases e;exact Dh _
  ·rw [if_neg h] at e;cases e
   exact (List.takeWhile_prefix _).length_le
theorem su (k:Nat) (q0:Nat) (qr:List Nat) (t:Tok) (hb:aA q0=false) (hz:2 * (q0::qr).length+2≤CZ):
  af Z k (.b 156072278745226617966552035764330260083 ⟨[.ref 43,.str (S (q0::qr)) t],[]⟩) [] (X:=C1×List Nat×Tok×List (List Nat×Tok)) (λy=>bz (q0::qr).length (q0::qr)=(q0::y.2.1)::y.2.2.2.map (·.1)∧(q0::y.2.1).length≤CZ∧(CX.str (S (q0::y.2.1)) y.2.2.1::al y.2.2.2).length+1≤CZ) (λy=>.ok (.ret (.ref y.1))) (λξ=>[]) (λy=>[(y.1,aa (.str (S (q0::y.2.1)) y.2.2.1::al y.2.2.2) 0)]):=by
 have hs:=ab
 refine af.to (qh (ca:=42) (po:=cu Z 43) (co:=cu Z 42) (vs:=fY (cu Z 43)) (items:=mZ (cu Z 42)) (n:=mJ (cu Z 42)) (q0::qr) t (by kernel_rfl) (by kernel_rfl) (by kernel_rfl) (by kernel_rfl) (by kernel_rfl) (by kernel_rfl) (by kernel_rfl) (by kernel_rfl) (by kernel_rfl) (by kernel_rfl) (by lia) (by exact FE ‹_›))
  (λy=>(y.1,(y.2.headD ([],0)).1.drop 1,(y.2.headD ([],0)).2,y.2.drop 1)) λy hy=>?_
 obtain ⟨c,l,e⟩:=nt (q0::qr).length q0 qr hb
 have l1:=oz _ _ _ _ e
 have l2:=gX (q0::qr).length (q0::qr)
 rw [e] at hy l2
 obtain ⟨a,res⟩:=y
 cases res with
 | nil=>cases hy
 | cons x res=>
  obtain ⟨x1,x2⟩:=x
  have hy:x1::res.map (·.1)=(q0::c)::l:=hy
  injection hy with h1 h2
  subst h1
  have h3:=congrArg C9 h2
  rw [C2] at h3
  rw [C5] at l2
  refine ⟨⟨by simp only [e,←h2];rfl,?_,?_⟩,rfl,rfl,rfl⟩
  ·show (q0::c).length≤_
   lia
  ·show (CX.str _ _::al res).length+1≤_
   unfold al
   rw [C5,C2]
   lia
theorem w3 (k:Nat) (x:List Nat) (t:Tok) (hx:∀c∈x,bH c=true) (hz:x.length < 16777216):
  af Z k (.b 35863170436209133097404895493593441986163 ⟨[.ref 214,.str (S x) t],[]⟩) [] (X:=Unit) (λξ=>True) (λξ=>.ok (.ret .none)) (λξ=>[]) (λξ=>[]):=
 i3 (ca:=213) (po:=cu Z 214) (co:=cu Z 213) (vs:=fY (cu Z 214)) (items:=mZ (cu Z 213)) (n:=mJ (cu Z 213)) uz (.inl rfl) bH (λc h=>Cy c h) x hx t (by kernel_rfl) (by kernel_rfl) (by kernel_rfl) (by kernel_rfl) (by kernel_rfl) (by kernel_rfl) (by kernel_rfl) (by kernel_rfl) (by kernel_rfl) (by kernel_rfl) (by exact lC ‹_› rfl)
theorem wO (k:Nat) (x:List Nat) (t:Tok) (hx:∀c∈x,aO c=true) (hz:x.length < 16777216):
  af Z k (.b 35863170436209133097404895493593441986163 ⟨[.ref 219,.str (S x) t],[]⟩) [] (X:=Unit) (λξ=>True) (λξ=>.ok (.ret .none)) (λξ=>[]) (λξ=>[]):=
 i3 (ca:=218) (po:=cu Z 219) (co:=cu Z 218) (vs:=fY (cu Z 219)) (items:=mZ (cu Z 218)) (n:=mJ (cu Z 218)) o7 (.inr rfl) aO (λc h=>Cz c h) x hx t (by kernel_rfl) (by kernel_rfl) (by kernel_rfl) (by kernel_rfl) (by kernel_rfl) (by kernel_rfl) (by kernel_rfl) (by kernel_rfl) (by kernel_rfl) (by kernel_rfl) (by exact lC ‹_› rfl)
theorem wM {F:Fx} {k:Nat} (t:Tok) (y:List Nat) (u:Tok) (hz:y.length≤CZ):af F k (.b 116512096292018843154609524 ⟨[.str (S []) t,.str (S y) u],[]⟩) [] (X:=Tok) (λξ=>True) (λt=>.ok (.ret (.str (S y) t))) (λξ=>[]) (λξ=>[]):=
 ak [] t y u (by simpa using hz)
end
section
open PyProof.Rows PySem PySem.Calls PySem.Spec PySem.W PySem.W.X
theorem i4 (o:C1) (ob:Obj) (x:List Nat) (tx:Tok) (hx:∀c∈x,bH c=true) (hz:x.length < 16777216):
  af Z 6 (.o (.call (.ref 249) ⟨[.ref o,.str (S x) tx],[(S [110,97,109,101],.bool true)]⟩)) [(o,ob)] (X:=Unit) (λξ=>True) (λξ=>.ok (.ret (.str (S x) tx))) (λξ=>[ob]) (λξ=>[]):=by
 exists 1,af.of_defB
 exists 1,w3 _ x tx ‹_› ‹_›,0x1131111323131111311112323231,0
 exists ar,(),3,1
theorem nF (o:C1) (ob:Obj) (x:List Nat) (tx:Tok) (hx:∀c∈x,aO c=true) (hz:x.length < 16777216):
  af Z 6 (.o (.call (.ref 249) ⟨[.ref o,.str (S x) tx],[(S [110,97,109,101],.bool false)]⟩)) [(o,ob)] (X:=Unit) (λξ=>True) (λξ=>.ok (.ret (.str (S x) tx))) (λξ=>[ob]) (λξ=>[]):=by
 exists 1,af.of_defB
 exists 1,wO _ x tx ‹_› ‹_›,0x1131111323131111311112323231,0
 exists ar,(),3,1
noncomputable def gG (d:C1):Obj:=⟨.ref 350,some d,.plain,#[]⟩
noncomputable abbrev vB:List Nat:=[95,104,101,97,100,101,114,115]
noncomputable abbrev ig (F:Fx) (k:Tok) (hl:C1) (e:Nat):Obj:=ai [en F vB k (.ref hl)] e
theorem qo (o od:C1) (e:Nat):
  af Z 6 (.o (.call (.ref 242) ⟨[.ref o],[]⟩)) [(o,gG od),(od,ai [] e)] (X:=Tok×C1×Nat) (λξ=>True) (λξ=>.ok (.ret .none))
   (λx=>[gG od,ig Z x.1 x.2.1 x.2.2]) (λx=>[(x.2.1,aa [] 0)]):=by
 exists 1,af.of_defB
 exists 1,iX (n+1+1) (n+1) 0 [] 0 (Dh _),0x616161515543231211121211211112441151141134411343411,69
 exists ar,(t+1+1+1+1,n+1,e+1),21,597
theorem qd (o od hl:C1) (k:Tok) (e el:Nat) (xs:List CX) (hz:xs.length≤CZ):
  af Z 6 (.o (.call (.ref 314) ⟨[.ref o],[]⟩)) [(o,gG od),(od,ig Z k hl e),(hl,aa xs el)] (X:=C1) (λξ=>True) (λx=>.ok (.ret (.ref x)))
   (λx=>[gG od,ig Z k hl e,aa xs el]) (λx=>[(x,aa xs 0)]):=by
 exists 1,af.of_defB
 exists 1,iT hl (n+1) (.type "list") none #[] xs el ‹_›,0x414443122111211112511451,67
 exists ar,x1,1,8516
noncomputable def a8:List (List Nat):=[[86,105,97],[86,73,65],[86,105],[118,105],[88,45,76,111,110,103,45,78,97,109,101],[120,45,108,111,110,103,45,110,97,109,101]]
noncomputable def B3 (c:Nat):Nat:=if 65≤c∧c≤90 then c+32 else c
noncomputable def bN (x:List Nat):List Nat:=x.map B3
theorem sh:∀x∈a8,(PySem.placed (S x) λi ξ=>Unicode.lowerAt (S x).cps i)=⟨bN x⟩:=by decide+kernel
theorem cC {F:Fx} {k:Nat} (x:List Nat) (t:Tok) (hx:x∈a8):af F k (.b 2128759343679922206068 ⟨[.str (S x) t],[]⟩) [] (X:=Tok) (λξ=>True) (λt=>.ok (.ret (.str (S (bN x)) t))) (λξ=>[]) (λξ=>[]):=by
 have e:=sh x hx
 have hl:(bN x).length≤16777216:=by
  have:∀x∈a8,(bN x).length≤16777216:=by decide
  exact this x hx
 have g:=gives_str_lower (S x) t (by
  rw [e]
  unfold Builtin.Str.tooLong
  rw [ab]
  exact decide_eq_false (EJ.mpr hl))
 rw [e] at g
 exact .of_str (id:="str.lower") (by kernel_rfl) (Db (b:=Builtin.«str.lower») (by kernel_rfl)) (by decide+kernel) (by rw [ab];exact hl) g
theorem jN:∀x∈a8,(∀c∈x,bH c=true)∧x.length < 16777216∧(∀c∈bN x,bH c=true)∧(bN x).length < 16777216:=by decide
noncomputable def aI (c:Nat) (z l:List Nat):List Nat:=l.flatMap λd=>if d == c then z else [d]
theorem fQ (c:Nat) (z a b:List Nat):aI c z (a++b)=aI c z a++aI c z b:=by unfold aI;rw [Eb]
theorem iN (c:Nat) (z:List Nat):∀l:List Nat,c ∉ l→aI c z l=l
 | [],_=>rfl
 | k::r,h=>by
  have h1:(k == c)=false:=by
   rw [beq_eq_false_iff_ne]
   exact λe=>h (e ▸ DL ..)
  have h2:c ∉ r:=λm=>h (FZ _ m)
  unfold aI
  rw [D8,h1]
  have:=iN c z r h2
  unfold aI at this
  rw [this];rfl
theorem uD (c:Nat) (z:List Nat):aI c z [c]=z:=by simp [aI]
theorem lz (c:Nat) (z:List Nat):∀parts:List Str,(∀p∈parts,c ∉ p.cps.toList)→aI c z (Str.join ⟨#[c]⟩ parts).cps.toList=(Str.join (S z) parts).cps.toList
 | [],_=>rfl
 | [p],h=>iN c z _ (h p (Dl.mpr rfl))
 | p::q::r,h=>by
  have ih:=lz c z (q::r) λa ha=>h a (FZ _ ha)
  show aI c z (p++⟨#[c]⟩++Str.join ⟨#[c]⟩ (q::r)).cps.toList=(p++S z++Str.join (S z) (q::r)).cps.toList
  simp only [Str.cps_append,F4]
  simp only [fQ,fQ,ih,iN c z _ (h p (DL ..))]
  show p.cps.toList++aI c z [c]++_=_
  simp only [uD]
theorem m1 (x:Str) (c:Nat) (z:List Nat):(Txt.replace x ⟨#[c]⟩ (S z))=S (aI c z x.cps.toList):=by
 have:(Txt.replace x ⟨#[c]⟩ (S z)).cps.toList=aI c z x.cps.toList:=by
  simp only [StrLaws.replace_one,←lz c z _ (StrLaws.split_free x c),StrLaws.join_split]
 simp only [←this]
section
noncomputable def yh (F:Fx) (rest:ao) (d:Dr) (os:Ea) (R:Dq→Df→Prop) (L:ao) {X:Type} (P:X→Prop) (r:X→Dq) (ob:X→List Obj) (new:X→ao) (t0:Nat):Prop:=
 ∀x h g t,t0≤t→P x→d.G g→d5 F h ((bp L (ob x)++new x)++rest)→R (r x) ⟨h,g,d.d,t,os⟩
structure fA (F:Fx) (k:Nat) (v:CV) (L:ao) {X:Type} (P:X→Prop) (r:X→Dq) (ob:X→List Obj) (new:X→ao):Prop where
 go:∀c,g6 v c→∀(rest:ao) (A:Dk) (R:Dq→Df→Prop) (d:Dr) (os:Ea),aP k A→∀h g t,yh F rest d os R L P r ob new t→d.G g→d5 F h (L++rest)→codeAny (model F.prog F.w) A c R ⟨h,g,d.d,t,os⟩
noncomputable def mY (o:d2):Option Nat:=match o.core with
 | .cut _ _ _ _ t=>some t
 | _=>none
section
variable {F:Fx} {A:Dk} {m:dP} {rest:ao} {d:Dr} {os:Ea} {X:Type} {P:X→Prop} {r:X→Dq} {ob:X→List Obj} {new:X→ao}
set_option tactic.hygienic true in
theorem sn {k:Nat} {v:CV} {L₁:ao} (hroom:aP (k+1) A) (S:fA F k v L₁ P r ob new) (T:Nat) (fuel:Nat) (orc is:List Nat) {cfg:dR}
  (hv:bT is (aQ F m.isSeg fuel orc cfg)=some (v,L₁,true)) (ht:mY (aQ F m.isSeg fuel orc cfg)=some T) (he:(aQ F m.isSeg fuel orc cfg).eqs=i7 (aQ F m.isSeg fuel orc cfg).eqs)
  (hx:∀x n t,T≤t→P x→Go F A m rest d os (dY is (aQ F m.isSeg fuel orc cfg) (r x) (bp L₁ (ob x)++new x) n t)):Go F A m rest d os cfg:=by
 refine cL hroom.handled fuel orc he λg hg=>?_
 unfold bT at hv
 unfold mY at ht
 unfold dY at hx
 split at hv
 ·rename_i c κ L n t e
  rw [e] at ht ⊢
  simp only [Option.some.injEq] at ht
  subst ht
  split at hv
  ·rename_i a b e2
   simp only [Option.some.injEq,Prod.mk.injEq] at hv
   obtain ⟨hcv,rfl,hok⟩:=hv
   have hcm:=hcv ▸ dN c
   intro h D hn
   have p:=cH e2
   have D':d5 F h (_++(b++rest)):=D.perm ((p.append_right rest).trans (by rw [C6]))
   refine S.go c hcm (b++rest) (bo A κ) _ d os (hroom.go hok) h g _ ?_ hg D'
   intro x h' g' t' hle hp hg' D''
   have y:=(hx x h'.objs.size t' hle hp).go
   have y:=e▸y
   simp only [e2] at y
   have D3:=(show d5 F h' (((bp _ (ob x)++new x)++b)++rest) from D''.perm (.of_eq (C6 _ _ _).symm))
   cases κ with
   | base=>exact y h' g' hg' D3 rfl
   | ret c k κ=>exact y h' g' hg' D3 rfl
  ·cases hv
 ·cases hv
theorem fA.of_b {k:Nat} {N:Nat} {id:String} {args:Args} {b:Builtin} {L:ao} (hN:PySem.code id=N) (hb:entryFor table id=some b) (hp:plainId id=true)
  (x:∀rest A R d os,aP k A→∀h g t,yh F rest d os R L P r ob new t→d.G g→d5 F h (L++rest)→
   wpAny (model F.prog F.w) A.in1 (b args) (yX F A R) (λe s'=>R (.error e) s') ⟨h,g,d.d,t,os⟩):fA F k (.b N args) L P r ob new:=
 ⟨λc ⟨id',hc,hk⟩ rest A R d os hr h g t hR hg D=>by
  have e:id'=id:=PySem.code_inj _ _ (hk.trans hN.symm)
  subst e
  rw [hc]
  exact DP hb (by rw [Dk.under_plainId hp];exact x rest A R d os hr h g t hR hg D)⟩
end
section
variable {F:Fx} {k:Nat}
theorem AQ (x:List Nat) (tx:Tok) (hz:x.length≤CZ):fA F k (.b 7300717 ⟨[.str (S x) tx],[]⟩) [] (X:=Tok) (λξ=>True) (λt=>.ok (.ret (.int (.ofNat x.length) t))) (λξ=>[]) (λξ=>[]):=by
 refine fA.of_b (id:="len") (by kernel_rfl) (Db (b:=Builtin.«len») (by kernel_rfl)) (by decide+kernel) λrest A R d os hr h g t hR hg D=>?_
 have hz:x.length≤16777216:=hz
 exact Fu (GA (Q:=λr s'=>R (.ok (.ret r)) s') (typeIs_str _ (S x) tx) PySem.F.slot_str_len PySem.F.entry_str_len (PySem.F.args_str_len_1 _) (gives_str_len (S x) tx) (by lia) (by show ¬(x.length:Int) ≥ 2 ^ 63;lia) (hR _ h g _ (Ex (E6 t) (E6 _)) trivial hg D))
  (λfin s' ⟨r,e,q⟩=>by subst e;exact q) (λξ ξ q=>q)
theorem Ct (a:Nat) (t:Tok) (b:Nat) (u:Tok) (c:Bool) (hc:decide (a > b)=c):fA F k (.b 455126529904428302298986 ⟨[.int (.ofNat a) t,.int (.ofNat b) u],[]⟩) [] (X:=Unit) (λξ=>True) (λξ=>.ok (.ret (.bool c))) (λξ=>[]) (λξ=>[]):=by
 refine fA.of_b (id:="int.__gt__") (by kernel_rfl) (Db (b:=Builtin.«int.__gt__») (by kernel_rfl)) (by decide+kernel) λrest A R d os hr h g t0 hR hg D=>?_
 refine gives_int_gt (C4 a) (C4 b) t u F.prog F.w A R ⟨h,g,_,t0,_⟩ ?_
 have e:decide (C4 a > C4 b)=c:=by rw [←hc];exact decide_eq_decide.mpr Gb
 show R (.ok (.ret (.bool (decide (C4 a > C4 b))))) _
 rw [e]
 exact hR () h g t0 (Dh _) trivial hg D
theorem gQ (x:List Nat) (t:Tok) (c:Nat) (u:Tok) (z:List Nat) (v:Tok) (hu:(u == 0 || v == 0)=false) (huv:(u == v)=false) (hyz:(S [c] == S z)=false) (hz:x.length+(x.length+1) * z.length≤16777216):
  fA F k (.b 123784485916095431283275124 ⟨[.str (S x) t,.str (S [c]) u,.str (S z) v],[]⟩) [] (X:=Tok) (λξ=>True) (λt=>.ok (.ret (.str (S (aI c z x)) t))) (λξ=>[]) (λξ=>[]):=by
 have hf:=fits_replaced (x:=S x) (z:=S z) (S [c]) hz
 have hr:Txt.replace (S x) (S [c]) (S z)=S (aI c z x):=m1 (S x) c z
 unfold Txt.replace at hr
 refine fA.of_b (id:="str.replace") (by kernel_rfl) (Db (b:=Builtin.«str.replace») (by kernel_rfl)) (by decide+kernel) λrest A R d os ξ h g t0 hR hg D=>?_
 refine gives_str_replace (S x) (S [c]) (S z) t u v (λξ=>⟨hu,huv,hyz,?_⟩) F.prog F.w A R ⟨h,g,_,t0,_⟩ ?_
 ·have h1:=StrLaws.occ_length_le (S x) (S [c]) 0 (S x).length ((S x).length+1)
  have h2:(Builtin.Str.occurrences (S x) (S [c]) 0 (S x).length ((S x).length+1)).length * (S z).length≤((S x).length+1) * (S z).length:=Nat.mul_le_mul_right _ h1
  unfold Builtin.Str.tooLong
  refine ab▸?_
  have e1:(S x).length=x.length:=jn x
  have e2:(S z).length=z.length:=jn z
  rw [e1,e2] at h2 ⊢
  exact decide_eq_false (by lia)
 ·split
  ·rename_i h'
   rw [if_pos h'] at hr
   have:=hR t h g t0 (Dh _) trivial hg D
   rw [←hr] at this
   exact this
  ·rename_i h'
   rw [if_neg h'] at hr
   have:=hR t0 h g (t0+1) (E6 t0) trivial hg D
   rw [←hr] at this
   exact ⟨hf,this⟩
end
section
variable {F:Fx} {A:Dk} {m:dP} {rest:ao} {d:Dr} {os:Ea} {X:Type} {P:X→Prop} {r:X→Dq} {ob:X→List Obj} {new:X→ao}
theorem bk {k:Nat} {v:CV} {L₁:ao} (hroom:aP (k+1) A) (S:fA F k v L₁ P r ob new) (T:Nat) (orc is:List Nat) {cfg:Bool→Bool→dR}
  (hx:let f:=hC is (bC F m.isSeg orc cfg) L₁ r ob new;∀x n t,T≤t→P x→c9 F A m rest d os (f x n t))
  (hv:tB (λo=>(bT is o,mY o)) (bC F m.isSeg orc cfg)=tC (some (v,L₁,true),some T) (bC F m.isSeg orc cfg)):c9 F A m rest d os cfg:=
 ⟨λb1 b2 hb=>sn hroom S T 999 orc is (congrArg Prod.fst (a9 hv b1 b2 hb).1) (congrArg Prod.snd (a9 hv b1 b2 hb).1) (a9 hv b1 b2 hb).2 λx n t ht p=>c9.at (hx x n t ht p) b1 b2 hb⟩
end
end
noncomputable def zg (b:Bool) (w:Ek):Ek:=
 {w with params:={w.params with followText:=λr=>match E7 (PySem.code r) 2831041637402183652179144184793551905427079684854878925927 with
  | true=>b
  | false=>w.params.followText r}}
theorem sY (w:Ek):zg (w.params.followText "fstring-hands-on-the-str") w=w:=by
 obtain ⟨draws,params⟩:=w
 have h:(λr=>match E7 (PySem.code r) 2831041637402183652179144184793551905427079684854878925927 with
  | true=>params.followText "fstring-hands-on-the-str"
  | false=>params.followText r)=params.followText:=by
  funext r
  split
  ·rename_i h
   have h2:PySem.code r=PySem.code "fstring-hands-on-the-str":=(DR h).trans (by kernel_rfl)
   rw [PySem.code_inj _ _ h2]
  ·rfl
 unfold zg
 rw [h]
noncomputable def Fx.bits3 (F:Fx) (b:Bool):Fx:={F with w:=zg b F.w}
theorem Fx.bits3_ex (F:Fx):∃b,F.bits3 b=F:=⟨F.w.params.followText "fstring-hands-on-the-str",by unfold Fx.bits3;rw [sY]⟩
theorem Bx (t:Nat) (h:0 < t):(t == 0 || t+1 == 0)=false:=by
 rw [Fj,beq_eq_false_iff_ne,beq_eq_false_iff_ne]
 exact ⟨by lia,by exact EX _⟩
theorem eH (t:Nat):(t == t+1)=false:=by
 rw [beq_eq_false_iff_ne];lia
section
open Sem (wp)
noncomputable def mm (n:Nat):Code:=.builtin "int.__gt__" ⟨[.int (.ofNat n) 0,.int (.ofNat 16777216) 0],[]⟩
noncomputable def kj (n:Nat):Sem Unit:=Sem.call (mm n) none false [] λr=>match r with
 | .ok (.ret (.bool false))=>pure ()
 | _=>.unsupported "size"
section
variable {prog:Program} {w:Ek} {A:Dk} {c:Code}
theorem wB (a b:Int) (t u:Tok):Builtin.«int.__gt__» ⟨[.int a t,.int b u],[]⟩=ret (.bool (decide (a > b))):=rfl
theorem np {id:String} {args:Args} {b:Builtin} (hb:entryFor table id=some b):(model prog w).den (.builtin id args)=b args:=by
 show (match entryFor table id with | some b=>b args | none=>unsupported ((withoutEnding? id "#data").getD id))=_
 rw [hb]
theorem wr (a b:Int) (t u:Tok):(model prog w).den (.builtin "int.__gt__" ⟨[.int a t,.int b u],[]⟩)=ret (.bool (decide (a > b))):=
 (np (Db (id:="int.__gt__") (b:=Builtin.«int.__gt__») (by kernel_rfl))).trans (wB a b t u)
theorem yH (n:Nat):(model prog w).den (mm n)=pure (.done (.ret (.bool (decide (n > 16777216))))):=by
 have e:decide (C4 n > C4 16777216)=decide (n > 16777216):=decide_eq_decide.mpr Gb
 have:=wr (prog:=prog) (w:=w) (C4 n) (C4 16777216) 0 0
 rw [e] at this
 exact this
theorem kH {Γ:PySem.Ctx} {Q:Unit→Pos→Df→Prop} {E:CX→Pos→Df→Prop} {p:Pos} {s:Df} (x:wp (model prog w) Γ (kj n) Q E p s):n≤16777216∧Q () p s:=by
 unfold kj at x
 rw [Sem.wp_call,wpCode_iff_wp] at x
 have e:(Γ.enter (mm n) none p).code=mm n:=rfl
 rw [e,yH,Sem.wp_pure'] at x
 by_cases h:n > 16777216
 ·rw [decide_eq_true h] at x
  exact (x:False).elim
 ·rw [decide_eq_false h] at x
  exact ⟨by omega,x⟩
noncomputable def cg (a:Str):Nat:=a.cps.toList.length
noncomputable def dv (a b:Str):Str:=⟨⟨a.cps.toList++b.cps.toList⟩⟩
theorem wT (a b:Str):dv a b=a++b:=by
 have:(dv a b).cps=(a++b).cps:=by
  simp only [Str.cps_append]
  apply GC
  simp only [F4]
  rfl
 exact congrArg Str.mk this
noncomputable def ja (out:Str):List (Sem CX)→Sem CX
 | []=>do
  kj (cg out)
  return .str out (←fresh)
 | x::rest=>do
  match ←asStr? (←x) with
  | some s=>do
   kj (cg out+cg s)
   ja (dv out s) rest
  | none=>unsupported "internal:joinedstr"
inductive A9 (M:Model) (A:Dk) (c:Code):List (Sem CX)→List (Sem CX)→Prop
 | nil:A9 M A c [] []
 | cons {t' t:Sem CX} {l' l:List (Sem CX)}:Le M A c t' t→A9 M A c l' l→A9 M A c (t'::l') (t::l)
theorem qR:∀(parts' parts:List (Sem CX)) (out:Str),A9 (model prog w) A c parts' parts→Le (model prog w) A c (ja out parts') (joinParts out parts)
 | _,_,out,.nil=>λΓ Q E p s hc hΓ x=>by
  unfold ja at x
  rw [Sem.wp_bind'] at x
  obtain ⟨h,x⟩:=kH x
  simp only [joinParts]
  unfold mkStr
  rw [if_neg (by rw [ab];exact EJ.mpr h)]
  exact x
 | _,_,out,.cons (l':=rest') (l:=rest) h1 h2=>by
  rw [joinParts]
  refine Le.bind h1 λv=>Le.bindR λo=>?_
  cases o with
  | none=>exact Le.refl _
  | some str=>
   intro Γ Q E p s hc hΓ x
   rw [Sem.wp_bind'] at x
   obtain ⟨h,x⟩:=kH x
   show wp _ Γ (if out.length+str.length > CZ then _ else _) Q E p s
   rw [if_neg (by rw [ab];exact EJ.mpr h)]
   rw [wT] at x
   exact qR rest' rest (out++str) h2 Γ Q E p s hc hΓ x
end
noncomputable def CW (parts:List (Sem CX)):Sem CX:=ja Str.empty parts
noncomputable def yp:{T // @ja=T}:=by
 refine ⟨?T,?h⟩
 rotate_left
 ·have:@ja=λout l=>GR (motive:=λξ=>Str→Sem CX) (λout=>do
    kj (cg out)
    return .str out (←fresh)) (λx ξ ih out=>do
    match ←asStr? (←x) with
    | some s=>do
     kj (cg out+cg s)
     ih (dv out s)
    | none=>unsupported "internal:joinedstr") l out:=by
   funext out l
   induction l generalizing out with
   | nil=>rfl
   | cons x r ih=>
    unfold ja
    show (x >>= λv=>asStr? v >>= λo=>_)=(x >>= λv=>asStr? v >>= λo=>_)
    congr 1;funext v;congr 1;funext o
    cases o with
    | none=>rfl
    | some s=>
     show (kj (cg out+cg s) >>= λξ=>ja (dv out s) r)=(kj (cg out+cg s) >>= λξ=>_)
     congr 1;funext _
     exact ih (dv out s)
  rw [this,ZFast.ze8364510232829398291,ZFast.ze12456147031677567982]
noncomputable def BH (parts:List (Sem CX)):Sem CX:=yp.1 Str.empty parts
section
variable {prog:Program} {w:Ek} {A:Dk} {c:Code}
noncomputable def Bs (s:Str):Sem CX:=do
 kj (cg s)
 return .str s (←fresh)
theorem AC (s:Str):Le (model prog w) A c (Bs s) (mkStr s):=λΓ Q E p s hc hΓ x=>by
 unfold Bs at x
 rw [Sem.wp_bind'] at x
 obtain ⟨h,x⟩:=kH x
 unfold mkStr
 rw [if_neg (by rw [ab];exact EJ.mpr h)]
 exact x
noncomputable def xo (s:Str) (t:Tok):Sem CX:=do
 let st ←ask
 if st.params.followText "fstring-hands-on-the-str" then Bs s else pure (.str s t)
theorem vC (s:Str) (t:Tok):Le (model prog w) A c (xo s t) (habitSame "fstring-hands-on-the-str" (.str s t)):=by
 refine Le.bindR λst=>?_
 dsimp only
 cases h:st.params.followText "fstring-hands-on-the-str"
 ·exact Le.refl _
 ·exact AC s
noncomputable def Cc (value:Sem CX) (pos:Pos):Sem CX:=do
 let v ←value
 standAt pos
 match v with
 | .str s t=>do
  let v1 ←PySem.holding [v] (xo s t)
  match v1 with
  | .str s1 t1=>do
   rule "fstring.same-str"
   xo s1 t1
  | _=>.unsupported "str"
 | v=>do PySem.formatted pos (←PySem.holding [v] (converted 115 v)) none
theorem AB {value:Expr} {pos:Pos} {env:Env}:Le (model prog w) A c (Cc (eval value env) pos) (eval (.FormattedValue value 115 none pos) env):=by
 simp only [arm_eval_FormattedValue]
 refine Le.bindR λv=>Le.bindR λξ=>?_
 cases v with
 | str s t=>
  refine Le.bind (Le.holding (vC s t)) λv1=>?_
  cases v1 with
  | str s1 t1=>exact Le.bindR λξ=>vC s1 t1
  | _=>exact λΓ Q E p s hc hΓ x=>(by rw [Sem.wp_unsupported] at x;exact x:False).elim
 | _=>exact Le.refl _
noncomputable def Cp:{T // @Cc=T}:=by
 refine ⟨?T,?h⟩
 rotate_left
 ·delta Cc xo Bs
  rw [ZFast.ze12456147031677567982,ZFast.ze17359229931016689406]
noncomputable def yA (env:Env) (v:Expr):{t:Sem CX // ∀{prog:Program} {w:Ek} {A:Dk} {c:Code},Le (model prog w) A c t (eval v env)}:=match v with
 | .FormattedValue value 115 none pos=>⟨Cp.1 (ZFast.zw14044960220447912780 value env) pos,by rw [←Cp.2,←ZFast.ze14044960220447912780];exact AB⟩
 | v=>⟨ZFast.zw14044960220447912780 v env,by rw [←ZFast.ze14044960220447912780];exact Le.refl _⟩
noncomputable def ms (env:Env):List Expr→List (Sem CX)
 | []=>[]
 | v::vs=>(yA env v).1::ms env vs
theorem r6 (env:Env) (vs:List Expr):A9 (model prog w) A c (ms env vs) (evalEach vs env):=by
 induction vs with
 | nil=>exact .nil
 | cons v vs ih=>exact .cons (yA env v).2 ih
theorem Ad {v1 v2:Expr} {vs:List Expr} {jp:Pos} {env:Env}:Le (model prog w) A c (BH (ms env (v1::v2::vs))) (eval (.JoinedStr (v1::v2::vs) jp) env):=by
 unfold BH
 simp only [←yp.2,arm_eval_JoinedStr]
 exact qR _ _ _ (r6 env (v1::v2::vs))
noncomputable def BD (tst:Sem Bool) (pos:Pos) (t e:Sem Flow):Sem Flow:=do
  standAt pos
  if ←tst then t else e
noncomputable def Be (env:Env) (b:List Stmt):{t:(Env→List Stmt→Sem Flow)→Sem Flow // ∀{prog:Program} {w:Ek} {A:Dk} {c:Code} {rec:Env→List Stmt→Sem Flow},(∀env b,Le (model prog w) A c (rec env b) (execs b env))→Le (model prog w) A c (t rec) (execs b env)}:=match b with
 | []=>⟨λξ=>pure .next,λξ=>by rw [arm_execs_nil];exact Le.refl _⟩
 | .Return (some (.JoinedStr (v1::v2::vs) _)) rpos::rest=>⟨λrec=>ej (sT (BH (ms env (v1::v2::vs))) rpos) (rec env rest),λih=>dJ (jO Ad) (ih _ _)⟩
 | .If test body orelse pos::rest=>⟨λrec=>ej (BD (ZFast.zw15418851999007992765 test env (ZFast.zw14044960220447912780 test env)) pos (rec env body) (rec env orelse)) (rec env rest),λih=>by
   refine dJ ?_ (ih _ _)
   rw [arm_exec_If,←ZFast.ze15418851999007992765,←ZFast.ze14044960220447912780]
   exact Le.bindR λξ=>Le.bindR λb=>Le.ite (ih _ _) (ih _ _)⟩
 | s::rest=>⟨λrec=>ej (ZFast.zw12563942051412417395 [s] env) (rec env rest),λih=>by rw [←ZFast.ze12563942051412417395];exact j8 (ih _ _)⟩
noncomputable def qx (rec:Env→List Stmt→Sem Flow) (env:Env) (b:List Stmt):Sem Flow:=(Be env b).1 rec
noncomputable def mK:Nat→Env→List Stmt→Sem Flow
 | 0=>λenv b=>ZFast.zw12563942051412417395 b env
 | n+1=>qx (mK n)
theorem pC {rec:Env→List Stmt→Sem Flow} (ih:∀env b,Le (model prog w) A c (rec env b) (execs b env)) (env:Env) (b:List Stmt):Le (model prog w) A c (qx rec env b) (execs b env):=(Be env b).2 ih
theorem ld:∀(n:Nat) (env:Env) (b:List Stmt),Le (model prog w) A c (mK n env b) (execs b env)
 | 0,env,b=>by
  show Le _ _ _ (ZFast.zw12563942051412417395 b env) _
  rw [←ZFast.ze12563942051412417395]
  exact Le.refl _
 | n+1,env,b=>pC (ld n) env b
noncomputable def zW (c:Code):Sem Fin:=match c with
 | .func body env=>kS.1 (mK 4 env body) env
 | c=>jx c
theorem xd:Le (model prog w) A c (zW c) (denote table c):=by
 cases c with
 | func body env=>
  show Le _ _ _ (kS.1 (mK 4 env body) env) _
  rw [←kS.2];exact rK (ld 4 _ _)
 | _=>exact pR
end
section
variable {F:Fx} {X:Type} {P:X→Prop} {r:X→Dq} {ob:X→List Obj} {new:X→ao}
theorem af.of_codeJ {k:Nat} {c:Code} {L:ao} (x:∀rest A R d os,aP k A→bZ F rest d os R L P r ob new→∀n t,Go F A (.plain R) rest d os (.go c .base (zW c) L n t)):af F k (.o c) L P r ob new:=
 ⟨λc' hc' rest A R d os hr hR h g t hg D=>by
  cases hc'
  exact y_code _ _ _ _ _ _ (eE xd ((x rest A R d os hr hR _ t).go h g hg D rfl))⟩
end
theorem dq (l:List Nat):cg (S l)=l.length:=rfl
theorem bd:cg Str.empty=0:=rfl
theorem bK (a b:Str):cg (dv a b)=cg a+cg b:=by
 unfold cg dv
 exact CY
theorem d6 {F:Fx} {k:Nat} (a:Nat) (h:a≤16777216):fA F k (.b 455126529904428302298986 ⟨[.int (.ofNat a) 0,.int (.ofNat 16777216) 0],[]⟩) [] (X:=Unit) (λξ=>True) (λξ=>.ok (.ret (.bool false))) (λξ=>[]) (λξ=>[]):=
 Ct a 0 16777216 0 false (decide_eq_false (by omega))
theorem yv {F:Fx} {k:Nat} (a:Nat) (t u:Tok) (h:0 < a):fA F k (.b 455126529904428302298986 ⟨[.int (.ofNat a) t,.int (.ofNat 0) u],[]⟩) [] (X:=Unit) (λξ=>True) (λξ=>.ok (.ret (.bool true))) (λξ=>[]) (λξ=>[]):=
 Ct a t 0 u true (decide_eq_true h)
noncomputable def Ay (F:Fx) (f L:C1):CV:=.o (.func (match (eu F f).body with | .stmts b=>b | _=>[]) (fH F f L))
theorem af.of_codeJB {F:Fx} {X:Type} {P:X→Prop} {r:X→Dq} {ob:X→List Obj} {new:X→ao} {k:Nat} {c:Code} {L:ao} (x:∀rest A R d os,aP k A→bZ F rest d os R L P r ob new→∀n t,c9 F A (.plain R) rest d os λξ ξ=>.go c .base (zW c) L n t):af F k (.o c) L P r ob new:=
 af.of_codeJ λrest A R d os hr hR n t=>(x rest A R d os hr hR n t).one
end
noncomputable def hU:Nat→Expr→List Expr
 | 0,_=>[]
 | n+1,e=>match e with
  | .ListComp ..=>[e]
  | .DictComp ..=>[e]
  | .Call f as ks _=>hU n f++as.flatMap (hU n)++ks.flatMap λk=>match k with | ⟨_,v,_⟩=>hU n v
  | .BinOp a _ b _=>hU n a++hU n b
  | .Compare a _ bs _=>hU n a++bs.flatMap (hU n)
  | .Attribute a _ _=>hU n a
  | _=>[]
noncomputable def yb:Stmt→List Expr
 | .Assign _ v _=>[v]
 | .Return (some v) _=>[v]
 | .Expr v _=>[v]
 | .For _ it _ _ _=>[it]
 | .If t _ _ _=>[t]
 | _=>[]
noncomputable def gb (F:Fx) (f:C1) (path:List Nat) (i:Nat):Expr:=(((yb (gF F f path)).flatMap (hU 9)).getD i (.Name "" default))
noncomputable def tU:Expr→Scope
 | .ListComp _ _ s _=>s
 | .DictComp _ _ _ s _=>s
 | _=>default
noncomputable def BT (F:Fx) (f L C:C1) (e:Expr) (cells:List (Str×C1)):Env:=
 {scope:={tU e with names:=(tU e).names.map λ(n,k)=>if k == .free && (fH F f L).scope.kind == .function && (fH F f L).kindOf n == some .cell then (n,.cell) else (n,k)},locals:=C,globals:=(eu F f).globals,cells:=cells,qual:=(fH F f L).qual,func:=none,code:=(eu F f).code,frame:=some L,builtins:=(eu F f).builtins}
noncomputable abbrev fV (F:Fx) (f L C:C1) (e:Expr) (cells:List (Str×C1)) (it acc:C1):CV:=.o (.compLoop e 0 (.ref it) (.ref acc) (BT F f L C e cells))
section
noncomputable abbrev jy:List Nat:=[107,118]
noncomputable abbrev ji:List Nat:=[110,97,109,101]
noncomputable def aY (v:CX):Obj:=⟨.type "cell",none,.cell (some v),#[]⟩
noncomputable abbrev BU (F:Fx):Expr:=gb F 268 [1] 0
noncomputable abbrev j6 (F:Fx) (L C ca it acc:C1):CV:=fV F 268 L C (BU F) [(S ji,ca)] it acc
section
variable (L C ca it hl acc:C1) (xs:List CX) (el:Nat) (nm:List Nat) (tn:Tok)
theorem xb (k0:Tok) (v0:CX) (i:Nat) (hv:xs.length≤i) (ys:List CX) (ea ec:Nat):
  af Z 6 (j6 Z L C ca it acc) [(C,ai [en Z jy k0 v0] ec),(it,aS hl i),(hl,aa xs el),(acc,aa ys ea),(ca,aY (.str (S nm) tn))]
   (X:=Obj) (λξ=>True) (λξ=>.ok .next) (λx=>[ai [en Z jy k0 v0] ec,x,aa xs el,aa ys ea,aY (.str (S nm) tn)]) (λξ=>[]):=by
 exists 0,af.of_codeB
 exists 1,iX it hl i xs el ‹_›,787,34
 exists ar,eS i,5,209173
noncomputable abbrev Xd:=Tok×C1×Nat×Obj×List CX×Nat
theorem uG (k0:Tok) (v0:CX) (ec:Nat) (i:Nat) (p:C1) (f:List Nat) (tf:Tok) (q:List Nat) (tq:Tok) (hi:xs[i]?=some (.ref p)) (hf:f∈a8) (hne:(bN f != nm)=true) (hys:xs.length≤CZ) (ys:List CX) (hyl:ys.length≤CZ) (ea:Nat) (M:ao) (P:Xd→Prop)
  (ih:∀(k0:Tok) (ec ea:Nat),ae Z 6 (j6 Z L C ca it acc) ([(C,ai [en Z jy k0 (.ref p)] ec),(it,aS hl (i+1)),(hl,aa xs el),(acc,aa (ys++[.ref p]) ea),(ca,aY (.str (S nm) tn))]++[(p,an f tf q tq)]) M P (λξ=>.ok .next) (λx=>[ai [en Z jy x.1 (.ref x.2.1)] x.2.2.1,x.2.2.2.1,aa xs el,aa x.2.2.2.2.1 x.2.2.2.2.2,aY (.str (S nm) tn)]++[an f tf q tq]) (λξ=>[])):
  ae Z 6 (j6 Z L C ca it acc) ([(C,ai [en Z jy k0 v0] ec),(it,aS hl i),(hl,aa xs el),(acc,aa ys ea),(ca,aY (.str (S nm) tn))]++[(p,an f tf q tq)]) M P (λξ=>.ok .next) (λx=>[ai [en Z jy x.1 (.ref x.2.1)] x.2.2.1,x.2.2.2.1,aa xs el,aa x.2.2.2.2.1 x.2.2.2.2.2,aY (.str (S nm) tn)]++[an f tf q tq]) (λξ=>[]):=by
 exists 0,ae.of_codeB
 exists 1,bb it hl i xs el (.ref p) hi,787,34
 exists 2,cC f tf ‹_›,0x17171777434,0
 exists 3,bv (bN f) x2 nm tn _ hne,22,0
 exists 4,dj acc ys ea (.ref p) ‹_›,1300,4
 exists 5,aW,ih k0 ec (ea+1),0,1118756
 exists ar,(x5.1,x5.2.1,x5.2.2.1,x5.2.2.2.1,x5.2.2.2.2.1,x5.2.2.2.2.2),0,1118481
theorem ub (k0:Tok) (v0:CX) (ec:Nat) (i:Nat) (p:C1) (f:List Nat) (tf:Tok) (q:List Nat) (tq:Tok) (hi:xs[i]?=some (.ref p)) (hf:f∈a8) (hne:(bN f != nm)=false) (hys:xs.length≤CZ) (ys:List CX) (hyl:ys.length≤CZ) (ea:Nat) (M:ao) (P:Xd→Prop)
  (ih:∀(k0:Tok) (ec ea:Nat),ae Z 6 (j6 Z L C ca it acc) ([(C,ai [en Z jy k0 (.ref p)] ec),(it,aS hl (i+1)),(hl,aa xs el),(acc,aa ys ea),(ca,aY (.str (S nm) tn))]++[(p,an f tf q tq)]) M P (λξ=>.ok .next) (λx=>[ai [en Z jy x.1 (.ref x.2.1)] x.2.2.1,x.2.2.2.1,aa xs el,aa x.2.2.2.2.1 x.2.2.2.2.2,aY (.str (S nm) tn)]++[an f tf q tq]) (λξ=>[])):
  ae Z 6 (j6 Z L C ca it acc) ([(C,ai [en Z jy k0 v0] ec),(it,aS hl i),(hl,aa xs el),(acc,aa ys ea),(ca,aY (.str (S nm) tn))]++[(p,an f tf q tq)]) M P (λξ=>.ok .next) (λx=>[ai [en Z jy x.1 (.ref x.2.1)] x.2.2.1,x.2.2.2.1,aa xs el,aa x.2.2.2.2.1 x.2.2.2.2.2,aY (.str (S nm) tn)]++[an f tf q tq]) (λξ=>[]):=by
 exists 0,ae.of_codeB
 exists 1,bb it hl i xs el (.ref p) hi,787,34
 exists 2,cC f tf ‹_›,0x17171777434,0
 exists 3,bv (bN f) x2 nm tn _ hne,22,0
 exists 4,aW,ih k0 ec ea,0,1118483
 exists ar,(x4.1,x4.2.1,x4.2.2.1,x4.2.2.2.1,x4.2.2.2.2.1,x4.2.2.2.2.2),0,1118481
theorem sM (ec0:Nat) (i:Nat) (p:C1) (f:List Nat) (tf:Tok) (q:List Nat) (tq:Tok) (hi:xs[i]?=some (.ref p)) (hf:f∈a8) (hne:(bN f != nm)=true) (hys:xs.length≤CZ) (ys:List CX) (hyl:ys.length≤CZ) (ea:Nat) (M:ao) (P:Xd→Prop)
  (ih:∀(k0:Tok) (ec ea:Nat),ae Z 6 (j6 Z L C ca it acc) ([(C,ai [en Z jy k0 (.ref p)] ec),(it,aS hl (i+1)),(hl,aa xs el),(acc,aa (ys++[.ref p]) ea),(ca,aY (.str (S nm) tn))]++[(p,an f tf q tq)]) M P (λξ=>.ok .next) (λx=>[ai [en Z jy x.1 (.ref x.2.1)] x.2.2.1,x.2.2.2.1,aa xs el,aa x.2.2.2.2.1 x.2.2.2.2.2,aY (.str (S nm) tn)]++[an f tf q tq]) (λξ=>[])):
  ae Z 6 (j6 Z L C ca it acc) ([(C,ai [] ec0),(it,aS hl i),(hl,aa xs el),(acc,aa ys ea),(ca,aY (.str (S nm) tn))]++[(p,an f tf q tq)]) M P (λξ=>.ok .next) (λx=>[ai [en Z jy x.1 (.ref x.2.1)] x.2.2.1,x.2.2.2.1,aa xs el,aa x.2.2.2.2.1 x.2.2.2.2.2,aY (.str (S nm) tn)]++[an f tf q tq]) (λξ=>[]):=by
 exists 0,ae.of_codeB
 exists 1,bb it hl i xs el (.ref p) hi,787,34
 exists 2,cC f tf ‹_›,0x17171777434,0
 exists 3,bv (bN f) x2 nm tn _ hne,22,0
 exists 4,dj acc ys ea (.ref p) ‹_›,1300,4
 exists 5,aW,ih t1 (ec0+1) (ea+1),0,1118756
 exists ar,(x5.1,x5.2.1,x5.2.2.1,x5.2.2.2.1,x5.2.2.2.2.1,x5.2.2.2.2.2),0,1118481
theorem rS (ec0:Nat) (i:Nat) (p:C1) (f:List Nat) (tf:Tok) (q:List Nat) (tq:Tok) (hi:xs[i]?=some (.ref p)) (hf:f∈a8) (hne:(bN f != nm)=false) (hys:xs.length≤CZ) (ys:List CX) (hyl:ys.length≤CZ) (ea:Nat) (M:ao) (P:Xd→Prop)
  (ih:∀(k0:Tok) (ec ea:Nat),ae Z 6 (j6 Z L C ca it acc) ([(C,ai [en Z jy k0 (.ref p)] ec),(it,aS hl (i+1)),(hl,aa xs el),(acc,aa ys ea),(ca,aY (.str (S nm) tn))]++[(p,an f tf q tq)]) M P (λξ=>.ok .next) (λx=>[ai [en Z jy x.1 (.ref x.2.1)] x.2.2.1,x.2.2.2.1,aa xs el,aa x.2.2.2.2.1 x.2.2.2.2.2,aY (.str (S nm) tn)]++[an f tf q tq]) (λξ=>[])):
  ae Z 6 (j6 Z L C ca it acc) ([(C,ai [] ec0),(it,aS hl i),(hl,aa xs el),(acc,aa ys ea),(ca,aY (.str (S nm) tn))]++[(p,an f tf q tq)]) M P (λξ=>.ok .next) (λx=>[ai [en Z jy x.1 (.ref x.2.1)] x.2.2.1,x.2.2.2.1,aa xs el,aa x.2.2.2.2.1 x.2.2.2.2.2,aY (.str (S nm) tn)]++[an f tf q tq]) (λξ=>[]):=by
 exists 0,ae.of_codeB
 exists 1,bb it hl i xs el (.ref p) hi,787,34
 exists 2,cC f tf ‹_›,0x17171777434,0
 exists 3,bv (bN f) x2 nm tn _ hne,22,0
 exists 4,aW,ih t1 (ec0+1) ea,0,1118483
 exists ar,(x4.1,x4.2.1,x4.2.2.1,x4.2.2.2.1,x4.2.2.2.2.1,x4.2.2.2.2.2),0,1118481
end
end
section
section
variable {F:Fx} {X:Type} {P:X→Prop} {r:X→Dq} {ob:X→List Obj} {new:X→ao} {k:Nat} {L M all:ao} {vw:CV} {D1 D2:Dr→Dr}
theorem ae.take (e:C1×Obj) (S:ae F k vw L all P r ob new D1 D2) (hp:all.Perm (M++[e])) (hl:∀x,(ob x).length=L.length):ae F k vw (L++[e]) M P r (λx=>ob x++[e.2]) new D1 D2:=
 ae.unlay (E:=[e]) (S.wider (M':=M++[e]) (M2:=[]) (by simp only [Dm];exact hp.symm)) hl
theorem ae.back (e:C1×Obj) (S:ae F k vw (L++[e]) M P r (λx=>ob x++[e.2]) new D1 D2) (hp:all.Perm (M++[e])) (hl:∀x,(ob x).length=L.length):ae F k vw L all P r ob new D1 D2:=
 (ae.lay (E:=[e]) S hl).wider (M2:=[]) (by simp only [Dm];exact hp.trans DH)
end
theorem fW {α:Type} (l:List α) (i:Nat) (x:α) (h:l[i]?=some x):∃m,l.Perm (m++[x]):=by
 induction l generalizing i with
 | nil=>cases h
 | cons y r ih=>
  cases i with
  | zero=>cases h;exact ⟨r,(FA _ _).symm⟩
  | succ i=>
   obtain ⟨m,hm⟩:=ih i h
   exact ⟨y::m,(hm.cons y).trans (.refl _)⟩
theorem d9 {ps:List Pt} {i:Nat} {x:Pt} (h:ps[i]?=some x):∃M,(aj ps).Perm (M++[x.e]):=
 fW (aj ps) i x.e (by unfold aj;rw [Dv,h];rfl)
theorem cm {ps:List Pt} {i:Nat} {x:Pt} (h:ps[i]?=some x):(ah ps)[i]?=some (.ref x.p):=by unfold ah;rw [Dv,h];rfl
noncomputable def bn (nm:List Nat) (x:Pt):Bool:=bN x.f != nm
section
variable (L C ca it hl acc:C1) (el:Nat) (nm:List Nat) (tn:Tok) (ps:List Pt)
noncomputable abbrev AZ (C it hl acc ca:C1) (ps:List Pt) (el:Nat) (nm:List Nat) (tn:Tok) (o:Obj) (i:Nat) (ys:List CX) (ea:Nat):ao:=
 [(C,o),(it,aS hl i),(hl,aa (ah ps) el),(acc,aa ys ea),(ca,aY (.str (S nm) tn))]
noncomputable abbrev Au (F:Fx) (ps:List Pt) (el:Nat) (nm:List Nat) (tn:Tok) (x:Xd):List Obj:=
 [ai [en F jy x.1 (.ref x.2.1)] x.2.2.1,x.2.2.2.1,aa (ah ps) el,aa x.2.2.2.2.1 x.2.2.2.2.2,aY (.str (S nm) tn)]
theorem ir (hz:ps.length≤CZ) (hn:∀x∈ps,x.f∈a8):∀(rem:List Pt) (i:Nat) (ys:List CX) (k0:Tok) (p0:C1) (ec ea:Nat),ps.drop i=rem→ys.length≤i→
  ae Z 6 (j6 Z L C ca it acc) (AZ C it hl acc ca ps el nm tn (ai [en Z jy k0 (.ref p0)] ec) i ys ea) (aj ps)
   (λx:Xd=>x.2.2.2.2.1=ys++ah (rem.filter (bn nm))) (λξ=>.ok .next) (Au Z ps el nm tn) (λξ=>[])
 | [],i,ys,k0,p0,ec,ea,hd,_=>by
  have hl':(ah ps).length≤i:=by unfold ah;rw [C2];exact Dx.mp hd
  refine ae.to ((xb L C ca it hl acc (ah ps) el nm tn k0 (.ref p0) i hl' ys ea ec).toR (aj ps)) (λx=>(k0,p0,ec,x,ys,ea)) λx ξ=>⟨by simp [ah],rfl,rfl,rfl⟩
 | y::rem,i,ys,k0,p0,ec,ea,hd,hys=>by
  have hsz:(ah ps).length≤CZ:=by unfold ah;rw [C2];exact hz
  have hi:ps[i]?=some y:=by
   have:=congrArg (λl=>l[0]?) hd
   simpa using this
  have hd':ps.drop (i+1)=rem:=by
   have:=congrArg (DX 1) hd
   rw [DE] at this
   exact this
  have hlt:i < ps.length:=(Dg.mp hi).1
  have hmem:y∈ps:=Dw hi
  obtain ⟨M,hM⟩:=d9 hi
  obtain ⟨p,f,tf,q,tq⟩:=y
  refine ae.back (⟨p,f,tf,q,tq⟩:Pt).e ?_ hM (λξ=>rfl)
  cases hk:bN f != nm with
  | true=>
   refine uG L C ca it hl acc (ah ps) el nm tn k0 (.ref p0) ec i p f tf q tq (cm hi) (hn _ hmem) hk hsz ys (by lia) ea M _ λk1 ec' ea'=>?_
   have ih:=ir hz hn rem (i+1) (ys++[.ref p]) k1 p ec' ea' hd' (by rw [CY];simp;lia)
   have e:ys++[CX.ref p]++ah (rem.filter (bn nm))=ys++ah ((⟨p,f,tf,q,tq⟩::rem).filter (bn nm)):=by
    rw [EH (by exact hk)]
    simp [ah]
   rw [e] at ih
   exact ae.take (⟨p,f,tf,q,tq⟩:Pt).e ih hM (λξ=>rfl)
  | false=>
   refine ub L C ca it hl acc (ah ps) el nm tn k0 (.ref p0) ec i p f tf q tq (cm hi) (hn _ hmem) hk hsz ys (by lia) ea M _ λk1 ec' ea'=>?_
   have ih:=ir hz hn rem (i+1) ys k1 p ec' ea' hd' (by exact D0 ‹_›)
   have e:ys++ah (rem.filter (bn nm))=ys++ah ((⟨p,f,tf,q,tq⟩::rem).filter (bn nm)):=by
    rw [EI (by intro h;rw [show bn nm ⟨p,f,tf,q,tq⟩=(bN f != nm) from rfl,hk] at h;cases h)]
   rw [e] at ih
   exact ae.take (⟨p,f,tf,q,tq⟩:Pt).e ih hM (λξ=>rfl)
theorem w5 (hz:ps.length≤CZ) (hn:∀x∈ps,x.f∈a8) (x0:Pt) (rem:List Pt) (hps:ps=x0::rem) (ec ea:Nat):
  ae Z 6 (j6 Z L C ca it acc) (AZ C it hl acc ca ps el nm tn (ai [] ec) 0 [] ea) (aj ps)
   (λx:Xd=>x.2.2.2.2.1=ah (ps.filter (bn nm))) (λξ=>.ok .next) (Au Z ps el nm tn) (λξ=>[]):=by
 have hi:ps[0]?=some x0:=by rw [hps];rfl
 have hd':ps.drop (0+1)=rem:=by rw [hps];rfl
 have hmem:x0∈ps:=Dw hi
 obtain ⟨M,hM⟩:=d9 hi
 have hsz:(ah ps).length≤CZ:=by unfold ah;rw [C2];exact hz
 obtain ⟨p,f,tf,q,tq⟩:=x0
 refine ae.back (⟨p,f,tf,q,tq⟩:Pt).e ?_ hM (λξ=>rfl)
 cases hk:bN f != nm with
 | true=>
  refine sM L C ca it hl acc (ah ps) el nm tn ec 0 p f tf q tq (cm hi) (hn _ hmem) hk hsz [] (Du _) ea M _ λk1 ec' ea'=>?_
  have ih:=ir L C ca it hl acc el nm tn ps hz hn rem (0+1) ([]++[.ref p]) k1 p ec' ea' hd' (by simp)
  have e:([]:List CX)++[CX.ref p]++ah (rem.filter (bn nm))=ah (ps.filter (bn nm)):=by
   rw [hps,EH (by exact hk)]
   simp [ah]
  rw [e] at ih
  exact ae.take (⟨p,f,tf,q,tq⟩:Pt).e ih hM (λξ=>rfl)
 | false=>
  refine rS L C ca it hl acc (ah ps) el nm tn ec 0 p f tf q tq (cm hi) (hn _ hmem) hk hsz [] (Du _) ea M _ λk1 ec' ea'=>?_
  have ih:=ir L C ca it hl acc el nm tn ps hz hn rem (0+1) [] k1 p ec' ea' hd' (Du _)
  have e:([]:List CX)++ah (rem.filter (bn nm))=ah (ps.filter (bn nm)):=by
   rw [hps,EI (by intro h;rw [show bn nm ⟨p,f,tf,q,tq⟩=(bN f != nm) from rfl,hk] at h;cases h)]
   rfl
  rw [e] at ih
  exact ae.take (⟨p,f,tf,q,tq⟩:Pt).e ih hM (λξ=>rfl)
end
end
end
section
open PyProof.Rows PySem PySem.Calls PySem.W PySem.W.X
theorem kZ {F:Fx} {k:Nat} (a b:C1) (xs ys:List CX) (e e2:Nat) (hsz:xs.length+ys.length≤CZ):
  af F k (.b 29827096650756823847613524589 ⟨[.ref a,.ref b],[]⟩) [(a,⟨.type "list",none,.seq ⟨xs⟩ e,#[]⟩),(b,⟨.type "list",none,.seq ⟨ys⟩ e2,#[]⟩)] (X:=C1) (λξ=>True) (λx=>.ok (.ret (.ref x)))
   (λx=>[⟨.type "list",none,.seq ⟨xs⟩ e,#[]⟩,⟨.type "list",none,.seq ⟨ys⟩ e2,#[]⟩]) (λx=>[(x,aa (xs++ys) 0)]):=by
 refine af.of_b (id:="list.__add__") (by kernel_rfl) (Db (b:=Builtin.«list.__add__») (by kernel_rfl)) (by decide+kernel) λrest A R d os hr hR h g t hg D=>?_
 have e3:(⟨xs⟩:Array CX)++⟨ys⟩=⟨xs++ys⟩:=by apply GC;simp
 have ha:h.get? a=some ⟨.type "list",none,.seq ⟨xs⟩ e,#[]⟩:=D.own (a,_) (C3 _ (.head _))
 have hb:h.get? b=some ⟨.type "list",none,.seq ⟨ys⟩ e2,#[]⟩:=D.own (b,_) (C3 _ (.tail _ (.head _)))
 have D1:=D.alloc (o:=aa (xs++ys) 0) rfl
 refine PySem.AutoSeq1.list___add___list_list_0 a ⟨xs⟩ e b ⟨ys⟩ e2 (by simpa using hsz) F.prog F.w A R ⟨h,g,d.d,t,os⟩ ⟨ha,hb,?_⟩
 refine e3▸?_
 exact hR h.objs.size _ g _ trivial hg (D1.perm (by
  simp only [C6]
  exact (Dn (l₁:=[(a,_),(b,_)])).symm))
theorem tF {F:Fx} {k:Nat} (sep:List Nat) (ts:Tok) (a:C1) (l:List (List Nat×Tok)) (t1 t2:Tok) (e:Nat) (hz:((l.map (·.1)).map (·.length)).sum+(l.length+2) * sep.length≤CZ):
  af F k (.b 8028352891401237876 ⟨[.str (S sep) ts,.ref a],[]⟩) [(a,⟨.type "list",none,.seq ⟨al l++[.str (S []) t1,.str (S []) t2]⟩ e,#[]⟩)] (X:=Tok) (λξ=>True) (λt=>.ok (.ret (.str (S (ap sep (l.map (·.1)++[[],[]]))) t))) (λξ=>[⟨.type "list",none,.seq ⟨al l++[.str (S []) t1,.str (S []) t2]⟩ e,#[]⟩]) (λξ=>[]):=by
 have S1:=dt (F:=F) (k:=k) sep ts a (l++[([],t1),([],t2)]) e (by simpa using hz)
 have e1:al (l++[([],t1),([],t2)])=al l++[CX.str (S []) t1,.str (S []) t2]:=by unfold al;simp
 have e2:(l++[(([]:List Nat),t1),([],t2)]).map (·.1)=l.map (·.1)++[[],[]]:=by simp
 rw [e1,e2] at S1
 exact S1
end
section
open PyProof.Rows PySem PySem.AutoSeq1 PySem.Calls PySem.W PySem.W.X
theorem r8 {F:Fx} {k:Nat} (a:C1) (cls:CX) (dd:Option C1) (sl:Array (Option CX)) (ys:List CX) (v:CX) (e:Nat) (t:Tok) (hz:ys.length < 16777216):
  af F k (.b 128106587276438692081757506308484131437 ⟨[.ref a,.int (-1) t],[]⟩) [(a,⟨cls,dd,.seq ⟨ys++[v]⟩ e,sl⟩)] (X:=Unit) (λξ=>True) (λξ=>.ok (.ret v)) (λξ=>[⟨cls,dd,.seq ⟨ys++[v]⟩ e,sl⟩]) (λξ=>[]):=by
 refine af.of_b (id:="list.__getitem__") (by kernel_rfl) (Db (b:=Builtin.«list.__getitem__») (by kernel_rfl)) (by decide+kernel) λrest A R d os hr hR h g t' hg D=>?_
 have hl:=D.own (a,⟨cls,dd,.seq ⟨ys++[v]⟩ e,sl⟩) (C3 _ (.head _))
 have f1:=idx_int
 wp_walk using Fn hl
 rw [qm]
 refine Dc ?_
 exact hR () h g t' trivial hg D
theorem bM {F:Fx} {k:Nat} (a:C1) (cls:CX) (dd:Option C1) (sl:Array (Option CX)) (ys:List CX) (v u:CX) (e:Nat) (t:Tok) (hz:ys.length < 16777216):
  af F k (.b 128106587276438692082622197436939266669 ⟨[.ref a,.int (-1) t,u],[]⟩) [(a,⟨cls,dd,.seq ⟨ys++[v]⟩ e,sl⟩)] (X:=Nat) (λξ=>True) (λξ=>.ok (.ret .none)) (λx=>[⟨cls,dd,.seq ⟨ys++[u]⟩ x,sl⟩]) (λξ=>[]):=by
 refine af.of_b (id:="list.__setitem__") (by kernel_rfl) (Db (b:=Builtin.«list.__setitem__») (by kernel_rfl)) (by decide+kernel) λrest A R d os hr hR h g t' hg D=>?_
 have hl:=D.own (a,⟨cls,dd,.seq ⟨ys++[v]⟩ e,sl⟩) (C3 _ (.head _))
 have f1:=idx_int
 wp_walk using Fn hl
 rw [qm]
 have D':=D.update (L:=[(a,⟨cls,dd,.seq ⟨ys++[v]⟩ e,sl⟩)]) (i:=0) (f:=Obj.mapSeq (·.setIfInBounds ys.length u)) rfl rfl
 obtain ⟨e',e2⟩:∃e',(Obj.mapSeq (·.setIfInBounds ys.length u) ⟨cls,dd,.seq ⟨ys++[v]⟩ e,sl⟩)=⟨cls,dd,.seq ⟨ys++[u]⟩ e',sl⟩:=⟨_,by
  simp only [Obj.mapSeq]
  congr 2
  apply GC
  simp⟩
 rw [show bm [(a,(⟨cls,dd,.seq ⟨ys++[v]⟩ e,sl⟩:Obj))] 0 (Obj.mapSeq (·.setIfInBounds ys.length u) ⟨cls,dd,.seq ⟨ys++[v]⟩ e,sl⟩)=[(a,(⟨cls,dd,.seq ⟨ys++[u]⟩ e',sl⟩:Obj))] from by simp only [e2];rfl] at D'
 have y:=hR e' _ g t' trivial hg D'
 refine C0 ?_
 refine PySem.wpAny_setSeqItemAt hl rfl ?_
 exact Dc y
theorem r5 {F:Fx} {k:Nat} (a:C1) (cls:CX) (dd:Option C1) (sl:Array (Option CX)) (v u:CX) (ys:List CX) (e:Nat) (t:Tok):
  af F k (.b 128106587276438692082622197436939266669 ⟨[.ref a,.int (.ofNat 0) t,u],[]⟩) [(a,⟨cls,dd,.seq ⟨v::ys⟩ e,sl⟩)] (X:=Nat) (λξ=>True) (λξ=>.ok (.ret .none)) (λx=>[⟨cls,dd,.seq ⟨u::ys⟩ x,sl⟩]) (λξ=>[]):=by
 refine af.of_b (id:="list.__setitem__") (by kernel_rfl) (Db (b:=Builtin.«list.__setitem__») (by kernel_rfl)) (by decide+kernel) λrest A R d os hr hR h g t' hg D=>?_
 have D':=D.update (L:=[(a,⟨cls,dd,.seq ⟨v::ys⟩ e,sl⟩)]) (i:=0) (f:=Obj.mapSeq (·.setIfInBounds 0 u)) rfl rfl
 have hl:=D.own (a,⟨cls,dd,.seq ⟨v::ys⟩ e,sl⟩) (C3 _ (.head _))
 have f1:=idx_int
 wp_walk using Fn hl
 obtain ⟨e',e2⟩:∃e',(Obj.mapSeq (·.setIfInBounds 0 u) ⟨cls,dd,.seq ⟨v::ys⟩ e,sl⟩)=⟨cls,dd,.seq ⟨u::ys⟩ e',sl⟩:=⟨_,by
  simp only [Obj.mapSeq]
  congr 2⟩
 rw [show bm [(a,(⟨cls,dd,.seq ⟨v::ys⟩ e,sl⟩:Obj))] 0 (Obj.mapSeq (·.setIfInBounds 0 u) ⟨cls,dd,.seq ⟨v::ys⟩ e,sl⟩)=[(a,(⟨cls,dd,.seq ⟨u::ys⟩ e',sl⟩:Obj))] from by simp only [e2];rfl] at D'
 have y:=hR e' _ g t' trivial hg D'
 exact y
theorem cK {F:Fx} {k:Nat} (x:List Nat) (t:Tok) (i:Nat) (u:Tok) (c:Nat) (h:x[i]?=some c) (hz:i < 16777216):af F k (.b 500416356548588640944365259017385332 ⟨[.str (S x) t,.int (.ofNat i) u],[]⟩) [] (X:=Tok) (λξ=>True) (λt=>.ok (.ret (.str (S [c]) t))) (λξ=>[]) (λξ=>[]):=by
 have hlt:i < x.length:=(Dg.mp h).1
 refine gO x t (C4 i) u c ?_ ?_
 ·rw [Fj,decide_eq_false_iff_not,decide_eq_false_iff_not,Dz]
  have e1:(2:Int) ^ 63=9223372036854775808:=by decide
  rw [e1]
  lia
 ·have e:seqIndex? (C4 i) (S x).length=some i:=by
   unfold seqIndex?
   have h1:¬((i:Int) < 0):=by lia
   have h3:(i:Int) < (x.length:Int):=by lia
   simp only [jn,Dz]
   simp only [h1,if_false]
   have h2:(0:Int)≤(i:Int):=by lia
   simp only [h2,h3,decide_true,FG,if_true,Gc]
  rw [e]
  show (S x).cps[i]?=some c
  simpa using h
theorem eQ {F:Fx} {k:Nat} (x:List Nat) (t:Tok) (c:Nat) (u:Tok) (b:Bool) (h:decide (c∈x)=b):af F k (.b 128106709680535770272165659069392319860 ⟨[.str (S x) t,.str (S [c]) u],[]⟩) [] (X:=Unit) (λξ=>True) (λξ=>.ok (.ret (.bool b))) (λξ=>[]) (λξ=>[]):=by
 have:=ie (F:=F) (k:=k) x t [c] u
 rw [show (!(Builtin.Str.occurrences (S x) (S [c]) 0 (S x).length 1).isEmpty)=b from by rw [←h];exact StrLaws.found_one (S x) c] at this
 exact this
theorem iu {F:Fx} {k:Nat} (a:C1) (ys:List CX) (v:CX) (e:Nat) (t:Tok) (hz:ys.length < 16777216):
  af F k (.b 128106587276438692081757506308484131437 ⟨[.ref a,.int (-1) t],[]⟩) [(a,⟨.type "list",none,.seq ⟨ys++[v]⟩ e,#[]⟩)] (X:=Unit) (λξ=>True) (λξ=>.ok (.ret v)) (λξ=>[⟨.type "list",none,.seq ⟨ys++[v]⟩ e,#[]⟩]) (λξ=>[]):=
 r8 a (.type "list") none #[] ys v e t hz
end
section
open PySem PySem.W PySem.W.X
noncomputable abbrev lN:List Nat:=[115,105,122,101]
noncomputable abbrev cn:List Nat:=[116,101,120,116]
noncomputable def lG:List Nat:=[97,120,32,59,34,92,9,61]
noncomputable def cz (m:Nat):List Nat:=if h:m=0 then [] else lG.getD (m % 8) 0::cz (m / 8)
termination_by m
decreasing_by exact Nat.div_lt_self (Nat.pos_of_ne_zero h) (by decide)
theorem pG (l:C1):∀(b m:Nat) (tx:List Nat) (k1 k2 ts tt:Tok) (e:Nat),m≤b→tx.length+b≤CZ→
  af Z 2 (.o (zq (fH Z 361 l) (gF Z 361 [1]))) [(l,bY [en Z lN k1 (.int (.ofNat m) ts),en Z cn k2 (.str (S tx) tt)] e)]
   (X:=Tok×Tok) (λξ=>True) (λξ=>.ok .next) (λt=>[bY [en Z lN k1 (.int (.ofNat 0) t.1),en Z cn k2 (.str (S (tx++cz m)) t.2)] e]) (λξ=>[]):=by
 intro b
 induction b with
 | zero=>
  intro m tx k1 k2 ts tt e hm hz
  have e0:cz 0=[]:=by delta cz;rfl
  obtain rfl:m=0:=by lia
  exists 0,af.of_codeB
  exists 1,b8 0 ts 0 t,18,0
  rw [e0,Dm] at hR
  exists ar,(ts,tt),0,1
 | succ b ih=>
  intro m tx k1 k2 ts tt e hm hz
  cases m with
  | zero=>
   exists 0,af.of_codeB
   have e0:cz 0=[]:=by delta cz;rfl
   exists 1,b8 0 ts 0 t,18,0
   rw [e0,Dm] at hR
   exists ar,(ts,tt),0,1
  | succ m=>
  exists 0,af.of_codeB
  have hc:(m+1) % 8 < ([97,120,32,59,34,92,9,61]:List Nat).length:=DN _ (by decide)
  have hd:(m+1) / 8≤b:=by lia
  have e1:cz (m+1)=D9 [97,120,32,59,34,92,9,61] ((m+1) % 8) 0::cz ((m+1) / 8):=by
   rw [cz];rfl
  exists 1,b8 (m+1) ts 0 t,18,0
  exists 2,aq (m+1) ts 8 (t1+1) rfl,290,0
  exists 3,jK [97,120,32,59,34,92,9,61] t1 ((m+1) % 8) x2 ‹_› (by decide),1,0
  exists 4,ak tx tt [D9 [97,120,32,59,34,92,9,61] ((m+1) % 8) 0] x3 (by simp only [CY,C5,De];lia),1,0
  exists 5,am (m+1) ts 8 (t4+1) rfl (by decide),4626,0
  exists 6,cy,ih ((m+1) / 8) (tx++[D9 [97,120,32,59,34,92,9,61] ((m+1) % 8) 0]) k1 k2 x5 x4 e hd (by simp only [CY,C5,De];lia),18,1
  rw [e1,List.append_cons] at hR
  exists ar,x6,0,1
theorem g8 (m:Nat) (ts:Tok) (hm:m < 262144):
  af Z 3 (.o (.call (.ref 361) ⟨[.int (.ofNat m) ts],[]⟩)) [] (X:=Tok) (λξ=>True) (λt=>.ok (.ret (.str (S (cz m)) t))) (λξ=>[]) (λξ=>[]):=by
 exists 1,af.of_defB
 exists 1,pG n m m [] t (t+1+1) ts (t+1) (0+1+1) (Dh _) (by rw [ab];simp;exact lD ‹_› rfl),18944289,1
 exists ar,x1.2,2,0
end
section
open PyProof.Rows PySem PySem.Calls PySem.Spec PySem.W PySem.W.X
noncomputable def aU (m:Nat) (z:Int):Nat:=(z % (C4 m)).toNat
theorem nc (m:Nat) (hm:0 < m) (z:Int):Gy z (C4 m)=C4 (aU m z):=by
 unfold aU
 have h1:0 < (C4 m):=by simpa using hm
 rw [Fv z (Int.le_of_lt h1)]
 exact (Int.toNat_of_nonneg (Gv z (GL h1))).symm
theorem xA (m:Nat) (hm:0 < m) (z:Int):aU m z < m:=by
 unfold aU
 have h1:0 < (C4 m):=by simpa using hm
 have h2:=Int.emod_lt_of_pos z h1
 have h3:=Gv z (GL h1)
 simp only [Dz] at h2 h3 ⊢
 lia
theorem nb {F:Fx} {k:Nat} (z:Int) (t u:Tok):af F k (.b 116512097088030077292474218 ⟨[.int z t,.int (.ofNat 1000000000) u],[]⟩) [] (X:=Tok) (λξ=>True) (λt=>.ok (.ret (.int (.ofNat (aU 1000000000 z)) t))) (λξ=>[]) (λξ=>[]):=by
 rw [←nc 1000000000 (by decide) z]
 exact hP z t (C4 1000000000) u (by decide)
theorem lS {F:Fx} {k:Nat} (z:Int) (t u:Tok):af F k (.b 116512097088030077292474218 ⟨[.int z t,.int (.ofNat 30) u],[]⟩) [] (X:=Tok) (λξ=>True) (λt=>.ok (.ret (.int (.ofNat (aU 30 z)) t))) (λξ=>[]) (λξ=>[]):=by
 rw [←nc 30 (by decide) z]
 exact hP z t (C4 30) u (by decide)
theorem j0 {F:Fx} {k:Nat} (t u:Tok):af F k (.b 116512447577011902704086890 ⟨[.int (.ofNat 10) t,.int (.ofNat 9) u],[]⟩) [] (X:=Tok) (λξ=>True) (λt=>.ok (.ret (.int (.ofNat 1000000000) t))) (λξ=>[]) (λξ=>[]):=
 .of_int (id:="int.__pow__") (by kernel_rfl) (Db (b:=Builtin.«int.__pow__») (by kernel_rfl)) (by decide+kernel) (PySem.AutoIntG2.int___pow___int_int_4 (C4 10) t (C4 9) u (by decide) (by decide) (by decide) (by decide) (by decide+kernel))
theorem iU {F:Fx} {k:Nat} (t u:Tok):af F k (.b 116512447577011902704086890 ⟨[.int (.ofNat 8) t,.int (.ofNat 6) u],[]⟩) [] (X:=Tok) (λξ=>True) (λt=>.ok (.ret (.int (.ofNat 262144) t))) (λξ=>[]) (λξ=>[]):=
 .of_int (id:="int.__pow__") (by kernel_rfl) (Db (b:=Builtin.«int.__pow__») (by kernel_rfl)) (by decide+kernel) (PySem.AutoIntG2.int___pow___int_int_4 (C4 8) t (C4 6) u (by decide) (by decide) (by decide) (by decide) (by decide+kernel))
theorem aC {F:Fx} {k:Nat} (a:Nat) (t:Tok) (b:Nat) (u:Tok) (c:Nat) (h:a % b=c) (hb:((C4 b) == 0)=false):af F k (.b 116512097088030077292474218 ⟨[.int (.ofNat a) t,.int (.ofNat b) u],[]⟩) [] (X:=Tok) (λξ=>True) (λt=>.ok (.ret (.int (.ofNat c) t))) (λξ=>[]) (λξ=>[]):=by
 rw [←h];exact aq a t b u hb
theorem jV {F:Fx} {k:Nat} (a:Nat) (t:Tok) (b:Nat) (u:Tok) (c:Nat) (h:a=c+b):af F k (.b 116512060628576343961202538 ⟨[.int (.ofNat a) t,.int (.ofNat b) u],[]⟩) [] (X:=Tok) (λξ=>True) (λt=>.ok (.ret (.int (.ofNat c) t))) (λξ=>[]) (λξ=>[]):=by
 have:=d1 (F:=F) (k:=k) (C4 a) t (C4 b) u
 have e:C4 a - C4 b=C4 c:=by rw [h];simp only [Dz];lia
 rw [e] at this
 exact this
theorem dC {F:Fx} {k:Nat} (a:Nat) (t:Tok) (b:Nat) (u:Tok) (c:Bool) (h:(a == b)=c):af F k (.b 455126313168696235093866 ⟨[.int (.ofNat a) t,.int (.ofNat b) u],[]⟩) [] (X:=Unit) (λξ=>True) (λξ=>.ok (.ret (.bool c))) (λξ=>[]) (λξ=>[]):=sz a t b u c h
theorem pg:∀n:Fin 10,(Str.ofString (toString (C4 n.1)):Str)=S [48+n.1]:=by decide+kernel
theorem gA {F:Fx} {k:Nat} (n:Nat) (t:Tok) (hn:n < 10):af F k (.b 116512446855873012371256692 ⟨[.type "str",.int (.ofNat n) t],[]⟩) [] (X:=Tok) (λξ=>True) (λt=>.ok (.ret (.str (S [48+n]) t))) (λξ=>[]) (λξ=>[]):=by
 refine af.of_b (id:="str.__new__") (by kernel_rfl) PySem.F.entry_str_new (by decide+kernel) λrest A R d os hr hR h g t' hg D=>?_
 have ha:(C4 n).natAbs.log2 < 1920:=by
  have:∀n:Fin 10,(C4 n.1).natAbs.log2 < 1920:=by decide
  exact this ⟨n,hn⟩
 have e:=pg ⟨n,hn⟩
 refine meets_str_new (v:=.int (.ofNat n) t) (S:=λξ R s=>R (.ok (.ret (.str (toString (C4 n)) s.toks))) {s with toks:=s.toks+1}) (λξ ξ ξ ξ s hq=>
   wpAny_strOf_gives rfl (typeIs_int s (C4 n) t) PySem.F.slot_int_str PySem.F.slot_int_repr PySem.F.entry_int_repr (PySem.F.args_int_repr_1 _) (gives_int_repr (C4 n) t ha) hq (hsz:=int_text_fits ha)) F.prog F.w A R ⟨h,g,d.d,t',os⟩ ?_
 have:=hR t' h g (t'+1) trivial hg D
 rw [←e] at this
 exact this
theorem iM {F:Fx} {k:Nat} (t:Tok) (c:Nat) (u:Tok) (hc:c < 3):af F k (.b 116512245094328231196325236 ⟨[.str (S [95]) t,.int (.ofNat c) u],[]⟩) [] (X:=Tok) (λξ=>True) (λt=>.ok (.ret (.str (S (DI c 95)) t))) (λξ=>[]) (λξ=>[]):=by
 obtain rfl | rfl | rfl:c=0∨c=1∨c=2:=by lia
 ·have g:=gives_str_mul (S [95]) (C4 0) t u (by decide) (λh=>absurd (by decide) h) (λh=>absurd (by decide) h)
  rw [if_pos (by decide)] at g
  exact .of_strs (id:="str.__mul__") (by kernel_rfl) (Db (b:=Builtin.«str.__mul__») (by kernel_rfl)) (by decide+kernel) g (λQ s0 q=>⟨by rw [ab];decide,q _ _⟩)
 ·have g:=gives_str_mul (S [95]) (C4 1) t u (by decide) (λξ h=>absurd h (by decide)) (λξ h=>absurd h (by decide))
  rw [if_neg (by decide),if_pos (by decide)] at g
  exact .of_strs (id:="str.__mul__") (by kernel_rfl) (Db (b:=Builtin.«str.__mul__») (by kernel_rfl)) (by decide+kernel) g (λQ s0 q=>q _ _)
 ·have g:=gives_str_mul (S [95]) (C4 2) t u (by decide) (λξ ξ=>by decide) (λξ ξ=>by decide+kernel)
  rw [if_neg (by decide),if_neg (by decide)] at g
  exact .of_strs (id:="str.__mul__") (by kernel_rfl) (Db (b:=Builtin.«str.__mul__») (by kernel_rfl)) (by decide+kernel) g (λQ s0 q=>⟨by rw [ab];decide,q _ _⟩)
theorem ci {F:Fx} {k:Nat} (a:C1) (x y z:List Nat) (tx ty tz:Tok) (e i:Nat) (t:Tok) (hi:i < 3):
  af F k (.b 128106587276438692081757506308484131437 ⟨[.ref a,.int (.ofNat i) t],[]⟩) [(a,aa [.str (S x) tx,.str (S y) ty,.str (S z) tz] e)] (X:=Unit) (λξ=>True) (λξ=>.ok (.ret (.str (S ([x,y,z].getD i [])) ([tx,ty,tz].getD i 0)))) (λξ=>[aa [.str (S x) tx,.str (S y) ty,.str (S z) tz] e]) (λξ=>[]):=by
 refine dz a (.type "list") none #[] [.str (S x) tx,.str (S y) ty,.str (S z) tz] e i t _ ?_ (by exact lC ‹_› rfl)
 obtain rfl | rfl | rfl:i=0∨i=1∨i=2:=by lia
 all_goals rfl
theorem ce {F:Fx} {k:Nat} (a:C1) (x y:List Nat) (tx ty:Tok) (e i:Nat) (t:Tok) (hi:i < 2):
  af F k (.b 128106587276438692081757506308484131437 ⟨[.ref a,.int (.ofNat i) t],[]⟩) [(a,aa [.str (S x) tx,.str (S y) ty] e)] (X:=Unit) (λξ=>True) (λξ=>.ok (.ret (.str (S ([x,y].getD i [])) ([tx,ty].getD i 0)))) (λξ=>[aa [.str (S x) tx,.str (S y) ty] e]) (λξ=>[]):=by
 refine dz a (.type "list") none #[] [.str (S x) tx,.str (S y) ty] e i t _ ?_ (by exact lC ‹_› rfl)
 obtain rfl | rfl:i=0∨i=1:=by lia
 all_goals rfl
section
noncomputable abbrev cw:List Nat:=[110,117,109,98,101,114]
noncomputable abbrev Xn:=Tok×Int×Tok×Nat×Obj×Nat×List (Nat×Tok)
noncomputable def aJ (ys:List (Nat×Tok)):List CX:=ys.map λp=>.int (.ofNat p.1) p.2
noncomputable def zV (zs:List (Int×Tok)):List CX:=zs.map λp=>.int p.1 p.2
theorem li (ys:List (Nat×Tok)) (a:Nat) (t:Tok):aJ ys++[.int (.ofNat a) t]=aJ (ys++[(a,t)]):=by unfold aJ;simp only [Da];rfl
section
variable (L C it sl acc:C1) (xs:List CX) (e:Nat)
noncomputable abbrev CK (F:Fx):Expr:=gb F 366 [1] 0
noncomputable abbrev xY (F:Fx) (L C it acc:C1):CV:=fV F 366 L C (CK F) [] it acc
noncomputable abbrev wV (C it sl acc:C1) (xs:List CX) (e:Nat) (o:Obj) (i:Nat) (ys:List CX) (ea:Nat):ao:=
 [(C,o),(it,aS sl i),(sl,aa xs e),(acc,aa ys ea)]
noncomputable abbrev z5 (F:Fx) (xs:List CX) (e:Nat) (y:Xn):List Obj:=
 [ai [en F cw y.1 (.int y.2.1 y.2.2.1)] y.2.2.2.1,y.2.2.2.2.1,aa xs e,aa (aJ y.2.2.2.2.2.2) y.2.2.2.2.2.1]
theorem y3 (k0:Tok) (z0:Int) (tz:Tok) (i:Nat) (hv:xs.length≤i) (ys:List CX) (ea ec:Nat):
  af Z 6 (xY Z L C it acc) (wV C it sl acc xs e (ai [en Z cw k0 (.int z0 tz)] ec) i ys ea)
   (X:=Obj) (λξ=>True) (λξ=>.ok .next) (λy=>[(ai [en Z cw k0 (.int z0 tz)] ec),y,aa xs e,aa ys ea]) (λξ=>[]):=by
 exists 0,af.of_codeB
 exists 1,iX it sl i xs e ‹_›,787,34
 exists ar,eS i,5,12565
theorem wH (i:Nat) (hv:xs.length≤i) (ys:List CX) (ea ec:Nat):
  af Z 6 (xY Z L C it acc) (wV C it sl acc xs e (ai [] ec) i ys ea)
   (X:=Obj) (λξ=>True) (λξ=>.ok .next) (λy=>[(ai [] ec),y,aa xs e,aa ys ea]) (λξ=>[]):=by
 exists 0,af.of_codeB
 exists 1,iX it sl i xs e ‹_›,787,34
 exists ar,eS i,5,12565
theorem B9 (k0:Tok) (z0:Int) (tz:Tok) (ec i:Nat) (z:Int) (t0:Tok) (hc:xs[i]?=some (.int z t0)) (ys:List CX) (hyl:ys.length≤CZ) (ea:Nat) (P:Xn→Prop)
  (ih:∀(k0 t':Tok) (ec ea:Nat),af Z 6 (xY Z L C it acc) (wV C it sl acc xs e (ai [en Z cw k0 (.int z t0)] ec) (i+1) (ys++[.int (.ofNat (aU 1000000000 z)) t']) ea) P (λξ=>.ok .next) (z5 Z xs e) (λξ=>[])):
  af Z 6 (xY Z L C it acc) (wV C it sl acc xs e (ai [en Z cw k0 (.int z0 tz)] ec) i ys ea) P (λξ=>.ok .next) (z5 Z xs e) (λξ=>[]):=by
 exists 0,af.of_codeB
 exists 1,bb it sl i xs e (.int z t0) hc,787,34
 exists 2,j0 (t1+1) (t1+1+1),5172,0
 exists 3,nb z t0 x2,1,0
 exists 4,dj acc ys ea (.int (.ofNat (aU 1000000000 z)) x3) ‹_›,81,4
 exists 5,cy,ih k0 x3 ec (ea+1),0,4644
 exists ar,(x5.1,x5.2.1,x5.2.2.1,x5.2.2.2.1,x5.2.2.2.2.1,x5.2.2.2.2.2.1,x5.2.2.2.2.2.2),0,4369
theorem Cb (ec i:Nat) (z:Int) (t0:Tok) (hc:xs[i]?=some (.int z t0)) (ys:List CX) (hyl:ys.length≤CZ) (ea:Nat) (P:Xn→Prop)
  (ih:∀(k0 t':Tok) (ec ea:Nat),af Z 6 (xY Z L C it acc) (wV C it sl acc xs e (ai [en Z cw k0 (.int z t0)] ec) (i+1) (ys++[.int (.ofNat (aU 1000000000 z)) t']) ea) P (λξ=>.ok .next) (z5 Z xs e) (λξ=>[])):
  af Z 6 (xY Z L C it acc) (wV C it sl acc xs e (ai [] ec) i ys ea) P (λξ=>.ok .next) (z5 Z xs e) (λξ=>[]):=by
 exists 0,af.of_codeB
 exists 1,bb it sl i xs e (.int z t0) hc,787,34
 exists 2,j0 (t1+1) (t1+1+1),5172,0
 exists 3,nb z t0 x2,1,0
 exists 4,dj acc ys ea (.int (.ofNat (aU 1000000000 z)) x3) ‹_›,81,4
 exists 5,cy,ih t1 x3 (ec+1) (ea+1),0,4644
 exists ar,(x5.1,x5.2.1,x5.2.2.1,x5.2.2.2.1,x5.2.2.2.2.1,x5.2.2.2.2.2.1,x5.2.2.2.2.2.2),0,4369
noncomputable abbrev CJ (F:Fx):Expr:=gb F 393 [1] 0
noncomputable abbrev xP (F:Fx) (L C it acc:C1):CV:=fV F 393 L C (CJ F) [] it acc
noncomputable abbrev xy (C it sl acc:C1) (xs:List CX) (e:Nat) (o:Obj) (i:Nat) (ys:List CX) (ea:Nat):ao:=
 [(C,o),(it,aS sl i),(sl,aa xs e),(acc,aa ys ea)]
noncomputable abbrev z1 (F:Fx) (xs:List CX) (e:Nat) (y:Xn):List Obj:=
 [ai [en F cw y.1 (.int y.2.1 y.2.2.1)] y.2.2.2.1,y.2.2.2.2.1,aa xs e,aa (aJ y.2.2.2.2.2.2) y.2.2.2.2.2.1]
theorem zH (k0:Tok) (z0:Int) (tz:Tok) (i:Nat) (hv:xs.length≤i) (ys:List CX) (ea ec:Nat):
  af Z 6 (xP Z L C it acc) (xy C it sl acc xs e (ai [en Z cw k0 (.int z0 tz)] ec) i ys ea)
   (X:=Obj) (λξ=>True) (λξ=>.ok .next) (λy=>[(ai [en Z cw k0 (.int z0 tz)] ec),y,aa xs e,aa ys ea]) (λξ=>[]):=by
 exists 0,af.of_codeB
 exists 1,iX it sl i xs e ‹_›,787,34
 exists ar,eS i,5,12565
theorem wN (i:Nat) (hv:xs.length≤i) (ys:List CX) (ea ec:Nat):
  af Z 6 (xP Z L C it acc) (xy C it sl acc xs e (ai [] ec) i ys ea)
   (X:=Obj) (λξ=>True) (λξ=>.ok .next) (λy=>[(ai [] ec),y,aa xs e,aa ys ea]) (λξ=>[]):=by
 exists 0,af.of_codeB
 exists 1,iX it sl i xs e ‹_›,787,34
 exists ar,eS i,5,12565
theorem BO (k0:Tok) (z0:Int) (tz:Tok) (ec i:Nat) (z:Int) (t0:Tok) (hc:xs[i]?=some (.int z t0)) (ys:List CX) (hyl:ys.length≤CZ) (ea:Nat) (P:Xn→Prop)
  (ih:∀(k0 t':Tok) (ec ea:Nat),af Z 6 (xP Z L C it acc) (xy C it sl acc xs e (ai [en Z cw k0 (.int z t0)] ec) (i+1) (ys++[.int (.ofNat (aU 30 z)) t']) ea) P (λξ=>.ok .next) (z1 Z xs e) (λξ=>[])):
  af Z 6 (xP Z L C it acc) (xy C it sl acc xs e (ai [en Z cw k0 (.int z0 tz)] ec) i ys ea) P (λξ=>.ok .next) (z1 Z xs e) (λξ=>[]):=by
 exists 0,af.of_codeB
 exists 1,bb it sl i xs e (.int z t0) hc,787,34
 exists 2,lS z t0 (t1+1),5172,0
 exists 3,dj acc ys ea (.int (.ofNat (aU 30 z)) x2) ‹_›,81,4
 exists 4,cy,ih k0 x2 ec (ea+1),0,4644
 exists ar,(x4.1,x4.2.1,x4.2.2.1,x4.2.2.2.1,x4.2.2.2.2.1,x4.2.2.2.2.2.1,x4.2.2.2.2.2.2),0,4369
theorem B8 (ec i:Nat) (z:Int) (t0:Tok) (hc:xs[i]?=some (.int z t0)) (ys:List CX) (hyl:ys.length≤CZ) (ea:Nat) (P:Xn→Prop)
  (ih:∀(k0 t':Tok) (ec ea:Nat),af Z 6 (xP Z L C it acc) (xy C it sl acc xs e (ai [en Z cw k0 (.int z t0)] ec) (i+1) (ys++[.int (.ofNat (aU 30 z)) t']) ea) P (λξ=>.ok .next) (z1 Z xs e) (λξ=>[])):
  af Z 6 (xP Z L C it acc) (xy C it sl acc xs e (ai [] ec) i ys ea) P (λξ=>.ok .next) (z1 Z xs e) (λξ=>[]):=by
 exists 0,af.of_codeB
 exists 1,bb it sl i xs e (.int z t0) hc,787,34
 exists 2,lS z t0 (t1+1),5172,0
 exists 3,dj acc ys ea (.int (.ofNat (aU 30 z)) x2) ‹_›,81,4
 exists 4,cy,ih t1 x2 (ec+1) (ea+1),0,4644
 exists ar,(x4.1,x4.2.1,x4.2.2.1,x4.2.2.2.1,x4.2.2.2.2.1,x4.2.2.2.2.2.1,x4.2.2.2.2.2.2),0,4369
end
end
section
open Builtin
theorem eF:PySem.Str.ofString "=\""=S [61,34]:=by decide+kernel
theorem qY:PySem.Str.ofString "\""=S [34]:=by decide+kernel
theorem A7:PySem.Str.ofString ": "=S [58,32]:=by decide+kernel
set_option tactic.hygienic true in
theorem rR (x y:List Nat) (tx ty t:Tok) (b:C1) (hx:(S x).length≤1000000) (hy:(S y).length≤1000000):
  Meets («str.__mod__» ⟨[.str (S [37,115,58,32,37,115]) t,.ref b],[]⟩) (λξ R s=>IsTup s.heap b #[.str (S x) tx,.str (S y) ty]∧∀t' k,R (.ok (.ret (.str (S (x++([58,32]++y))) t'))) {s with toks:=k}):=by
 apply KPt.meets_tup
 intro _ _ _ _ _ _ kptH hq
 obtain ⟨kptO,kptG,kptC,kptN,kptD⟩:=kptH
 rw [KPt.entry_is_r]
 unfold Builtin.Str.percentFormat
 refine C0 (Eh (T:="tuple") ⟨kptO,kptG,kptC⟩ KPt.sub_tt ?_)
 refine C0 (KPt.asStr_ref kptG kptD ?_)
 refine C0 (KPt.fills_ref ⟨kptO,kptG,kptC⟩ ?_)
 intro _
 kpc_if
 refine C0 (Ez kptG kptD ?_)
 refine C0 (Dc ?_)
 refine C0 ?_
 rw [KPc.range_list]
 refine KPc.start ?_
 intro _ _
 refine KPc.turn ?_;kpc_check;(repeat kpc_if)
 refine C0 ?_;refine Ej ?_;(repeat kpc_if);kpt_conv;refine Dc ?_;refine Dc ?_
 kpt_piece
 refine KPc.turn ?_;kpc_check;(repeat kpc_if)
 refine Dc ?_;kpt_piece
 refine KPc.turn ?_;kpc_check;(repeat kpc_if)
 refine C0 ?_;refine Ej ?_;(repeat kpc_if);kpt_conv;refine Dc ?_;refine Dc ?_
 kpt_piece
 refine KPc.turn ?_;kpc_check;(repeat kpc_if)
 refine Dc ?_
 dsimp only
 kpc_if
 rename_i g
 exact KPc.finish_ok g (by decide+kernel) (by simp only [A7,nQ,nQ,C6]) hq
theorem ru {F:Fx} {k:Nat} (x y:List Nat) (tx ty t:Tok) (b:C1) (hx:x.length≤1000000) (hy:y.length≤1000000):
  af F k (.b 116512097088030077292344692 ⟨[.str (S [37,115,58,32,37,115]) t,.ref b],[]⟩) [(b,gV [.str (S x) tx,.str (S y) ty])] (X:=Tok) (λξ=>True) (λt=>.ok (.ret (.str (S (x++([58,32]++y))) t))) (λξ=>[gV [.str (S x) tx,.str (S y) ty]]) (λξ=>[]):=by
 refine af.of_b (id:="str.__mod__") (by kernel_rfl) (Db (b:=Builtin.«str.__mod__») (by kernel_rfl)) (by decide+kernel) λrest A R d os hr hR h g t0 hg D=>?_
 have ha:h.get? b=some (gV [.str (S x) tx,.str (S y) ty]):=D.own (b,_) (C3 _ (.head _))
 exact rR x y tx ty t b hx hy F.prog F.w A R ⟨h,g,d.d,t0,os⟩ ⟨⟨_,ha,rfl,0,rfl⟩,λt' k=>hR t' h g k trivial hg D⟩
end
section
noncomputable abbrev BL (F:Fx):Expr:=gb F 326 [0] 0
noncomputable abbrev pD (F:Fx) (L C it acc:C1):CV:=fV F 326 L C (BL F) [] it acc
noncomputable abbrev Xs:=Tok×C1×Nat×Obj×Nat×List (List Nat×Tok)
noncomputable abbrev xD (C it hl acc:C1) (xs:List CX) (el:Nat) (o:Obj) (i:Nat) (ys:List (List Nat×Tok)) (ea:Nat):ao:=
 [(C,o),(it,aS hl i),(hl,aa xs el),(acc,aa (al ys) ea)]
noncomputable abbrev so (F:Fx) (xs:List CX) (el:Nat) (x:Xs):List Obj:=
 [ai [en F jy x.1 (.ref x.2.1)] x.2.2.1,x.2.2.2.1,aa xs el,aa (al x.2.2.2.2.2) x.2.2.2.2.1]
section
variable (L C it hl acc:C1) (xs:List CX) (el:Nat)
theorem ya (k0:Tok) (p0:C1) (i:Nat) (hv:xs.length≤i) (ys:List (List Nat×Tok)) (ea ec:Nat):
  af Z 6 (pD Z L C it acc) (xD C it hl acc xs el (ai [en Z jy k0 (.ref p0)] ec) i ys ea)
   (X:=Obj) (λξ=>True) (λξ=>.ok .next) (λx=>[ai [en Z jy k0 (.ref p0)] ec,x,aa xs el,aa (al ys) ea]) (λξ=>[]):=by
 exists 0,af.of_codeB
 exists 1,iX it hl i xs el ‹_›,787,34
 exists ar,eS i,5,12565
theorem vf (k0:Tok) (p0:C1) (ec:Nat) (i:Nat) (p:C1) (f:List Nat) (tf:Tok) (q:List Nat) (tq:Tok) (hi:xs[i]?=some (.ref p)) (hf:f.length≤1000000) (hq:q.length≤1000000) (ys:List (List Nat×Tok)) (hyl:(al ys).length≤CZ) (ea:Nat) (M:ao) (P:Xs→Prop)
  (ih:∀(k0 t':Tok) (ec ea:Nat),ae Z 6 (pD Z L C it acc) ([(C,ai [en Z jy k0 (.ref p)] ec),(it,aS hl (i+1)),(hl,aa xs el),(acc,aa (al ys++[.str (S (f++([58,32]++q))) t']) ea)]++[(p,an f tf q tq)]) M P (λξ=>.ok .next) (λx=>so Z xs el x++[an f tf q tq]) (λξ=>[])):
  ae Z 6 (pD Z L C it acc) (xD C it hl acc xs el (ai [en Z jy k0 (.ref p0)] ec) i ys ea++[(p,an f tf q tq)]) M P (λξ=>.ok .next) (λx=>so Z xs el x++[an f tf q tq]) (λξ=>[]):=by
 exists 0,ae.of_codeB
 exists 1,bb it hl i xs el (.ref p) hi,787,34
 exists 2,ru f q tf tq (t1+1) p ‹_› ‹_›,91188,5
 exists 3,dj acc (al ys) ea (.str (S (f++([58,32]++q))) x2) ‹_›,97,5
 exists 4,aW,ih k0 x2 ec (ea+1),0,70453
 exists ar,(x4.1,x4.2.1,x4.2.2.1,x4.2.2.2.1,x4.2.2.2.2.1,x4.2.2.2.2.2),0,69905
theorem r7 (ec:Nat) (i:Nat) (p:C1) (f:List Nat) (tf:Tok) (q:List Nat) (tq:Tok) (hi:xs[i]?=some (.ref p)) (hf:f.length≤1000000) (hq:q.length≤1000000) (ys:List (List Nat×Tok)) (hyl:(al ys).length≤CZ) (ea:Nat) (M:ao) (P:Xs→Prop)
  (ih:∀(k0 t':Tok) (ec ea:Nat),ae Z 6 (pD Z L C it acc) ([(C,ai [en Z jy k0 (.ref p)] ec),(it,aS hl (i+1)),(hl,aa xs el),(acc,aa (al ys++[.str (S (f++([58,32]++q))) t']) ea)]++[(p,an f tf q tq)]) M P (λξ=>.ok .next) (λx=>so Z xs el x++[an f tf q tq]) (λξ=>[])):
  ae Z 6 (pD Z L C it acc) (xD C it hl acc xs el (ai [] ec) i ys ea++[(p,an f tf q tq)]) M P (λξ=>.ok .next) (λx=>so Z xs el x++[an f tf q tq]) (λξ=>[]):=by
 exists 0,ae.of_codeB
 exists 1,bb it hl i xs el (.ref p) hi,787,34
 exists 2,ru f q tf tq (t1+1) p ‹_› ‹_›,91188,5
 exists 3,dj acc (al ys) ea (.str (S (f++([58,32]++q))) x2) ‹_›,97,5
 exists 4,aW,ih t1 x2 (ec+1) (ea+1),0,70453
 exists ar,(x4.1,x4.2.1,x4.2.2.1,x4.2.2.2.1,x4.2.2.2.2.1,x4.2.2.2.2.2),0,69905
end
end
section
theorem bu (l:List (List Nat×Tok)) (x:List Nat) (t:Tok):al l++[.str (S x) t]=al (l++[(x,t)]):=by unfold al;simp only [Da];rfl
noncomputable def eV (x:Pt):List Nat:=x.f++([58,32]++x.q)
section
variable (L C it hl acc:C1) (el:Nat) (ps:List Pt)
theorem oE (hz:ps.length≤CZ) (hn:∀x∈ps,x.f.length≤1000000∧x.q.length≤1000000):∀(rem:List Pt) (i:Nat) (ys:List (List Nat×Tok)) (k0:Tok) (p0:C1) (ec ea:Nat),ps.drop i=rem→ys.length≤i→
  ae Z 6 (pD Z L C it acc) (xD C it hl acc (ah ps) el (ai [en Z jy k0 (.ref p0)] ec) i ys ea) (aj ps)
   (λx:Xs=>x.2.2.2.2.2.map (·.1)=ys.map (·.1)++rem.map eV) (λξ=>.ok .next) (so Z (ah ps) el) (λξ=>[])
 | [],i,ys,k0,p0,ec,ea,hd,_=>by
  have hl':(ah ps).length≤i:=by unfold ah;rw [C2];exact Dx.mp hd
  refine ae.to ((ya L C it hl acc (ah ps) el k0 p0 i hl' ys ea ec).toR (aj ps)) (λx=>(k0,p0,ec,x,ea,ys)) λx ξ=>⟨by simp,rfl,rfl,rfl⟩
 | y::rem,i,ys,k0,p0,ec,ea,hd,hys=>by
  have hi:ps[i]?=some y:=by
   have:=congrArg (λl=>l[0]?) hd
   simpa using this
  have hd':ps.drop (i+1)=rem:=by
   have:=congrArg (DX 1) hd
   rw [DE] at this
   exact this
  have hlt:i < ps.length:=(Dg.mp hi).1
  have hmem:y∈ps:=Dw hi
  obtain ⟨M,hM⟩:=d9 hi
  obtain ⟨p,f,tf,q,tq⟩:=y
  refine ae.back (⟨p,f,tf,q,tq⟩:Pt).e ?_ hM (λξ=>rfl)
  refine vf L C it hl acc (ah ps) el k0 p0 ec i p f tf q tq (cm hi) (hn _ hmem).1 (hn _ hmem).2 ys (by unfold al;rw [C2];lia) ea M _ λk1 t' ec' ea'=>?_
  have ih:=oE hz hn rem (i+1) (ys++[(f++([58,32]++q),t')]) k1 p ec' ea' hd' (by rw [CY];simp;lia)
  have e:(ys++[((f++([58,32]++q),t'):List Nat×Tok)]).map (·.1)++rem.map eV=ys.map (·.1)++(⟨p,f,tf,q,tq⟩::rem).map eV:=by
   rw [Da,C6];rfl
  rw [e] at ih
  rw [bu]
  exact ae.take (⟨p,f,tf,q,tq⟩:Pt).e ih hM (λξ=>rfl)
theorem xM (hz:ps.length≤CZ) (hn:∀x∈ps,x.f.length≤1000000∧x.q.length≤1000000) (x0:Pt) (rem:List Pt) (hps:ps=x0::rem) (ec ea:Nat):
  ae Z 6 (pD Z L C it acc) [(C,ai [] ec),(it,aS hl 0),(hl,aa (ah ps) el),(acc,aa [] ea)] (aj ps)
   (λx:Xs=>x.2.2.2.2.2.map (·.1)=ps.map eV) (λξ=>.ok .next) (so Z (ah ps) el) (λξ=>[]):=by
 have hi:ps[0]?=some x0:=by rw [hps];rfl
 have hd':ps.drop (0+1)=rem:=by rw [hps];rfl
 have hmem:x0∈ps:=Dw hi
 obtain ⟨M,hM⟩:=d9 hi
 obtain ⟨p,f,tf,q,tq⟩:=x0
 refine ae.back (⟨p,f,tf,q,tq⟩:Pt).e ?_ hM (λξ=>rfl)
 refine r7 L C it hl acc (ah ps) el ec 0 p f tf q tq (cm hi) (hn _ hmem).1 (hn _ hmem).2 [] (Du _) ea M _ λk1 t' ec' ea'=>?_
 have ih:=oE L C it hl acc el ps hz hn rem (0+1) ([]++[(f++([58,32]++q),t')]) k1 p ec' ea' hd' (by simp)
 have e:(([]:List (List Nat×Tok))++[((f++([58,32]++q),t'):List Nat×Tok)]).map (·.1)++rem.map eV=ps.map eV:=by rw [hps];rfl
 rw [e] at ih
 rw [bu]
 exact ae.take (⟨p,f,tf,q,tq⟩:Pt).e ih hM (λξ=>rfl)
end
end
section
theorem rl {zs:List (Int×Tok)} {i:Nat} {p:Int×Tok} (h:zs[i]?=some p):(zV zs)[i]?=some (.int p.1 p.2):=by unfold zV;rw [Dv,h];rfl
theorem qH {xs:List (Nat×Tok)} {i:Nat} {p:Nat×Tok} (h:xs[i]?=some p):(aJ xs)[i]?=some (.int (.ofNat p.1) p.2):=by unfold aJ;rw [Dv,h];rfl
section
variable (L C it sl acc:C1) (zs:List (Int×Tok)) (e:Nat)
theorem rP (hz:zs.length≤100):∀(rem:List (Int×Tok)) (i:Nat) (k0:Tok) (z0:Int) (tz:Tok) (ec ea:Nat) (ys:List (Nat×Tok)),zs.drop i=rem→ys.length≤i→
  af Z 6 (xY Z L C it acc) (wV C it sl acc (zV zs) e (ai [en Z cw k0 (.int z0 tz)] ec) i (aJ ys) ea)
   (λy:Xn=>y.2.2.2.2.2.2.map (·.1)=ys.map (·.1)++rem.map λp=>aU 1000000000 p.1) (λξ=>.ok .next) (z5 Z (zV zs) e) (λξ=>[])
 | [],i,k0,z0,tz,ec,ea,ys,hd,_=>
  af.to (y3 L C it sl acc (zV zs) e k0 z0 tz i (by unfold zV;rw [C2];exact Dx.mp hd) (aJ ys) ea ec) (λy=>(k0,z0,tz,ec,y,ea,ys)) λy ξ=>⟨by simp,rfl,rfl,rfl⟩
 | (z,t0)::rem,i,k0,z0,tz,ec,ea,ys,hd,hys=>by
  have hs:=ab
  have hc:zs[i]?=some (z,t0):=by
   have:=congrArg (λl=>l[0]?) hd
   simpa using this
  have hlt:i < zs.length:=(Dg.mp hc).1
  have hd2:zs.drop (i+1)=rem:=by
   have:=congrArg (DX 1) hd
   rw [DE] at this
   exact this
  have hsl:(aJ ys).length≤CZ:=by unfold aJ;rw [C2];lia
  refine B9 L C it sl acc (zV zs) e k0 z0 tz ec i z t0 (rl hc) (aJ ys) hsl ea _ λk1 t' ec' ea'=>?_
  have ih:=rP hz rem (i+1) k1 z t0 ec' ea' (ys++[(aU 1000000000 z,t')]) hd2 (by rw [CY];simp;lia)
  have e:(ys++[(aU 1000000000 z,t')]).map (·.1)++rem.map (λp=>aU 1000000000 p.1)=ys.map (·.1)++((z,t0)::rem).map λp=>aU 1000000000 p.1:=by simp
  rw [e] at ih
  rw [li]
  exact ih
theorem zL (z:Int) (t0:Tok) (rem:List (Int×Tok)) (hzs:zs=(z,t0)::rem) (hz:zs.length≤100) (ec ea:Nat):
  af Z 6 (xY Z L C it acc) (wV C it sl acc (zV zs) e (ai [] ec) 0 [] ea)
   (λy:Xn=>y.2.2.2.2.2.2.map (·.1)=zs.map λp=>aU 1000000000 p.1) (λξ=>.ok .next) (z5 Z (zV zs) e) (λξ=>[]):=by
 have hc:zs[0]?=some (z,t0):=by rw [hzs];rfl
 have hd2:zs.drop 1=rem:=by rw [hzs];rfl
 refine Cb L C it sl acc (zV zs) e ec 0 z t0 (rl hc) [] (Du _) ea _ λk1 t' ec' ea'=>?_
 have ih:=rP L C it sl acc zs e hz rem 1 k1 z t0 ec' ea' [(aU 1000000000 z,t')] hd2 (Dh _)
 have e:[(aU 1000000000 z,t')].map (·.1)++rem.map (λp=>aU 1000000000 p.1)=zs.map λp=>aU 1000000000 p.1:=by rw [hzs];rfl
 rw [e] at ih
 exact ih
theorem zM (ec ea:Nat):
  af Z 6 (xY Z L C it acc) (wV C it sl acc [] e (ai [] ec) 0 [] ea)
   (X:=Obj) (λξ=>True) (λξ=>.ok .next) (λy=>[ai [] ec,y,aa [] e,aa [] ea]) (λξ=>[]):=
 wH L C it sl acc [] e 0 (Dh _) [] ea ec
theorem qV (hz:zs.length≤100):∀(rem:List (Int×Tok)) (i:Nat) (k0:Tok) (z0:Int) (tz:Tok) (ec ea:Nat) (ys:List (Nat×Tok)),zs.drop i=rem→ys.length≤i→
  af Z 6 (xP Z L C it acc) (xy C it sl acc (zV zs) e (ai [en Z cw k0 (.int z0 tz)] ec) i (aJ ys) ea)
   (λy:Xn=>y.2.2.2.2.2.2.map (·.1)=ys.map (·.1)++rem.map λp=>aU 30 p.1) (λξ=>.ok .next) (z1 Z (zV zs) e) (λξ=>[])
 | [],i,k0,z0,tz,ec,ea,ys,hd,_=>
  af.to (zH L C it sl acc (zV zs) e k0 z0 tz i (by unfold zV;rw [C2];exact Dx.mp hd) (aJ ys) ea ec) (λy=>(k0,z0,tz,ec,y,ea,ys)) λy ξ=>⟨by simp,rfl,rfl,rfl⟩
 | (z,t0)::rem,i,k0,z0,tz,ec,ea,ys,hd,hys=>by
  have hs:=ab
  have hc:zs[i]?=some (z,t0):=by
   have:=congrArg (λl=>l[0]?) hd
   simpa using this
  have hlt:i < zs.length:=(Dg.mp hc).1
  have hd2:zs.drop (i+1)=rem:=by
   have:=congrArg (DX 1) hd
   rw [DE] at this
   exact this
  have hsl:(aJ ys).length≤CZ:=by unfold aJ;rw [C2];lia
  refine BO L C it sl acc (zV zs) e k0 z0 tz ec i z t0 (rl hc) (aJ ys) hsl ea _ λk1 t' ec' ea'=>?_
  have ih:=qV hz rem (i+1) k1 z t0 ec' ea' (ys++[(aU 30 z,t')]) hd2 (by rw [CY];simp;lia)
  have e:(ys++[(aU 30 z,t')]).map (·.1)++rem.map (λp=>aU 30 p.1)=ys.map (·.1)++((z,t0)::rem).map λp=>aU 30 p.1:=by simp
  rw [e] at ih
  rw [li]
  exact ih
theorem zy (z:Int) (t0:Tok) (rem:List (Int×Tok)) (hzs:zs=(z,t0)::rem) (hz:zs.length≤100) (ec ea:Nat):
  af Z 6 (xP Z L C it acc) (xy C it sl acc (zV zs) e (ai [] ec) 0 [] ea)
   (λy:Xn=>y.2.2.2.2.2.2.map (·.1)=zs.map λp=>aU 30 p.1) (λξ=>.ok .next) (z1 Z (zV zs) e) (λξ=>[]):=by
 have hc:zs[0]?=some (z,t0):=by rw [hzs];rfl
 have hd2:zs.drop 1=rem:=by rw [hzs];rfl
 refine B8 L C it sl acc (zV zs) e ec 0 z t0 (rl hc) [] (Du _) ea _ λk1 t' ec' ea'=>?_
 have ih:=qV L C it sl acc zs e hz rem 1 k1 z t0 ec' ea' [(aU 30 z,t')] hd2 (Dh _)
 have e:[(aU 30 z,t')].map (·.1)++rem.map (λp=>aU 30 p.1)=zs.map λp=>aU 30 p.1:=by rw [hzs];rfl
 rw [e] at ih
 exact ih
theorem zm (ec ea:Nat):
  af Z 6 (xP Z L C it acc) (xy C it sl acc [] e (ai [] ec) 0 [] ea)
   (X:=Obj) (λξ=>True) (λξ=>.ok .next) (λy=>[ai [] ec,y,aa [] e,aa [] ea]) (λξ=>[]):=
 wN L C it sl acc [] e 0 (Dh _) [] ea ec
end
end
end
section
open PyProof.Rows PySem PySem.Calls PySem.W PySem.W.X
theorem cj {F:Fx} {k:Nat} (x:List Nat) (t:Tok) (hx:∀c∈x,c < 128):
  af F k (.b 29827162783706237342122734964 ⟨[.str (S x) t],[]⟩) [] (X:=C1) (λξ=>True) (λr=>.ok (.ret (.ref r))) (λξ=>[]) (λr=>[(r,aE "str_ascii_iterator" [.str (S x) t,.int (.ofNat 0) 0])]):=by
 refine af.of_b (id:="str.__iter__") (by kernel_rfl) (Db (b:=Builtin.«str.__iter__») (by kernel_rfl)) (by decide+kernel) λrest A R d os hr hR h g t0 hg D=>?_
 have D1:=D.alloc (o:=aE "str_ascii_iterator" [.str (S x) t,.int (.ofNat 0) 0]) rfl
 have ha:((S x).cps.all λc=>decide (c < 128))=true:=by
  rw [Array.all_eq_true']
  intro c hc
  have:c∈x:=by simpa using hc
  exact decide_eq_true (hx c this)
 wp_walk
 have e1:(Builtin.Str.isExactStr (CX.str (S x) t) && (S x).cps.all λx=>decide (x < 128))=true:=by rw [ha];rfl
 rw [e1]
 exact hR h.objs.size _ g t0 trivial hg D1
theorem o8 {α:Type} (a:α) (p q:α) (rest:List α):(q::p::([a]++rest)).Perm (([a]++[p,q])++rest):=by
 show (q::p::a::rest).Perm (a::p::q::rest)
 refine ((Ey p q (a::rest))).trans ?_
 refine (Ee p (Ey a q rest)).trans ?_
 exact (Ey a p (q::rest))
theorem bB {F:Fx} {k:Nat} (it:C1) (i:Nat) (x:List Nat) (t:Tok) (c:Nat) (hv:x[i]?=some c):
  af F k (.b 39647112825583545393006412691359451730623858335503063133055055220 ⟨[.ref it],[]⟩) [(it,aE "str_ascii_iterator" [.str (S x) t,.int (.ofNat i) 0])] (X:=Tok) (λξ=>True) (λt=>.ok (.ret (.str (S [c]) t)))
   (λξ=>[aE "str_ascii_iterator" [.str (S x) t,.int (.ofNat (i+1)) 0]]) (λξ=>[]):=by
 refine af.of_b (id:="str_ascii_iterator.__next__") (by kernel_rfl) (Db (b:=Builtin.«str_ascii_iterator.__next__») (by kernel_rfl)) (by decide+kernel) λrest A R d os hr hR h g t0 hg D=>?_
 have ha:h.get? it=some (aE "str_ascii_iterator" [.str (S x) t,.int (.ofNat i) 0]):=D.own (it,_) (C3 _ (.head _))
 have D':=D.update (L:=[(it,aE "str_ascii_iterator" [.str (S x) t,.int (.ofNat i) 0])]) (i:=0) (f:=Obj.mapFields (·.setIfInBounds 1 (rawInt (C4 i+1)))) rfl rfl
 have hx:(S x).cps[(C4 i).toNat]?=some c:=by simpa using hv
 wp_walk
 rw [hx]
 dsimp only
 wp_walk
 exact hR t0 _ g (t0+1) trivial hg D'
theorem ia {F:Fx} {k:Nat} (it:C1) (i:Nat) (x:List Nat) (t:Tok) (hv:x.length≤i):
  af F k (.b 39647112825583545393006412691359451730623858335503063133055055220 ⟨[.ref it],[]⟩) [(it,aE "str_ascii_iterator" [.str (S x) t,.int (.ofNat i) 0])] (X:=C1×C1) (λξ=>True) (λx=>.error (.ref x.2))
   (λξ=>[aE "str_ascii_iterator" [.none,.int (.ofNat i) 0]]) (λx=>[(x.1,⟨.type "tuple",none,.seq ⟨[]⟩ 0,#[]⟩),(x.2,bx x.1)]):=by
 have hx:(S x).cps[(C4 i).toNat]?=none:=by simpa using hv
 refine af.of_b (id:="str_ascii_iterator.__next__") (by kernel_rfl) (Db (b:=Builtin.«str_ascii_iterator.__next__») (by kernel_rfl)) (by decide+kernel) λrest A R d os hr hR h g t0 hg D=>?_
 have ha:h.get? it=some (aE "str_ascii_iterator" [.str (S x) t,.int (.ofNat i) 0]):=D.own (it,_) (C3 _ (.head _))
 have D':=D.update (L:=[(it,aE "str_ascii_iterator" [.str (S x) t,.int (.ofNat i) 0])]) (i:=0) (f:=Obj.mapFields (·.setIfInBounds 0 CX.none)) rfl rfl
 wp_walk
 rw [hx]
 dsimp only
 have hh':A.in1.handled=none:=hr.handled.none
 wp_walk
 have D1:=D'.alloc (o:={cls:=.type "tuple",data:=.seq #[]}) rfl
 have D2:=D1.alloc (o:=bx (h.update it (Obj.mapFields λx=>x.setIfInBounds 0 CX.none)).objs.size) rfl
 have key:∀o,o=bx (h.update it (Obj.mapFields λx=>x.setIfInBounds 0 CX.none)).objs.size→R (.error (.ref ((h.update it (Obj.mapFields λx=>x.setIfInBounds 0 CX.none)).push {cls:=.type "tuple",data:=.seq #[]}).objs.size))
   ⟨((h.update it (Obj.mapFields λx=>x.setIfInBounds 0 CX.none)).push {cls:=.type "tuple",data:=.seq #[]}).push o,g,d.d,t0,os⟩:=by
  intro o ho
  subst ho
  exact hR ((h.update it (Obj.mapFields λx=>x.setIfInBounds 0 CX.none)).objs.size,((h.update it (Obj.mapFields λx=>x.setIfInBounds 0 CX.none)).push {cls:=.type "tuple",data:=.seq #[]}).objs.size) _ g t0 trivial hg (D2.perm (by
   exact o8 _ _ _ _))
 refine C0 (Fh ?_)
 refine hh'▸?_
 exact FC (key _ (by kernel_rfl))
end
section
open PyProof.Rows PySem PySem.Calls PySem.Spec PySem.W PySem.W.X
section
noncomputable abbrev df:List Nat:=[115,105,103,110]
noncomputable abbrev Xv:=Tok×Nat×Tok×Nat×Obj×Nat×List (List Nat×Tok)
section
variable (L C it acc:C1) (x:List Nat) (t0:Tok)
noncomputable abbrev CR (F:Fx):Expr:=gb F 381 [1,0] 0
noncomputable abbrev uy (F:Fx) (L C it acc:C1):CV:=fV F 381 L C (CR F) [] it acc
noncomputable abbrev v8 (C it acc:C1) (x:List Nat) (t0:Tok) (o:Obj) (i:Nat) (ys:List CX) (ea:Nat):ao:=
 [(C,o),(it,aE "str_ascii_iterator" [.str (S x) t0,.int (.ofNat i) 0]),(acc,aa ys ea)]
noncomputable abbrev wa (F:Fx) (y:Xv):List Obj:=
 [ai [en F df y.1 (.str (S [y.2.1]) y.2.2.1)] y.2.2.2.1,y.2.2.2.2.1,aa (al y.2.2.2.2.2.2) y.2.2.2.2.2.1]
theorem zT (k0:Tok) (c0:Nat) (tc:Tok) (i:Nat) (hv:x.length≤i) (ys:List CX) (ea ec:Nat):
  af Z 6 (uy Z L C it acc) (v8 C it acc x t0 (ai [en Z df k0 (.str (S [c0]) tc)] ec) i ys ea)
   (X:=Obj) (λξ=>True) (λξ=>.ok .next) (λy=>[ai [en Z df k0 (.str (S [c0]) tc)] ec,y,aa ys ea]) (λξ=>[]):=by
 exists 0,af.of_codeB
 exists 1,ia it i x t0 ‹_›,787,2
 exists ar,.mk (.type "str_ascii_iterator") none (.fields ⟨[.none,.int (.ofNat i) 0]⟩) #[],4,788
theorem A2 (k0:Tok) (c0:Nat) (tc:Tok) (ec0:Nat) (i:Nat) (c:Nat) (hc:x[i]?=some c) (h95:([c] == [95])=true) (ys:List CX) (hyl:ys.length≤CZ) (ea:Nat) (P:Xv→Prop)
  (ih:∀(k0 tc t':Tok) (ec ea:Nat),af Z 6 (uy Z L C it acc) (v8 C it acc x t0 (ai [en Z df k0 (.str (S [c]) tc)] ec) (i+1) (ys++[.str (S [45]) t']) ea) P (λξ=>.ok .next) (wa Z) (λξ=>[])):
  af Z 6 (uy Z L C it acc) (v8 C it acc x t0 (ai [en Z df k0 (.str (S [c0]) tc)] ec0) i ys ea) P (λξ=>.ok .next) (wa Z) (λξ=>[]):=by
 have hcc:[92].length+[c].length≤CZ:=by have:=ab;show 1+1≤CZ;lia
 exists 0,af.of_codeB
 exists 1,bB it i x t0 c hc,787,2
 exists 2,cB [c] x1 [95] (t1+1) _ h95,4899,0
 exists 3,dj acc ys ea (.str (S [45]) t2) ‹_›,65,3
 exists 4,cy,ih k0 x1 t2 ec0 (ea+1),0,291
 exists ar,(x4.1,x4.2.1,x4.2.2.1,x4.2.2.2.1,x4.2.2.2.2.1,x4.2.2.2.2.2.1,x4.2.2.2.2.2.2),0,273
theorem As (k0:Tok) (c0:Nat) (tc:Tok) (ec0:Nat) (i:Nat) (c:Nat) (hc:x[i]?=some c) (h95:([c] == [95])=false) (ys:List CX) (hyl:ys.length≤CZ) (ea:Nat) (P:Xv→Prop)
  (ih:∀(k0 tc t':Tok) (ec ea:Nat),af Z 6 (uy Z L C it acc) (v8 C it acc x t0 (ai [en Z df k0 (.str (S [c]) tc)] ec) (i+1) (ys++[.str (S [c]) t']) ea) P (λξ=>.ok .next) (wa Z) (λξ=>[])):
  af Z 6 (uy Z L C it acc) (v8 C it acc x t0 (ai [en Z df k0 (.str (S [c0]) tc)] ec0) i ys ea) P (λξ=>.ok .next) (wa Z) (λξ=>[]):=by
 have hcc:[92].length+[c].length≤CZ:=by have:=ab;show 1+1≤CZ;lia
 exists 0,af.of_codeB
 exists 1,bB it i x t0 c hc,787,2
 exists 2,cB [c] x1 [95] (t1+1) _ h95,4899,0
 exists 3,dj acc ys ea (.str (S [c]) x1) ‹_›,1043,3
 exists 4,cy,ih k0 x1 x1 ec0 (ea+1),0,291
 exists ar,(x4.1,x4.2.1,x4.2.2.1,x4.2.2.2.1,x4.2.2.2.2.1,x4.2.2.2.2.2.1,x4.2.2.2.2.2.2),0,273
theorem AR (ec0:Nat) (i:Nat) (c:Nat) (hc:x[i]?=some c) (h95:([c] == [95])=true) (ys:List CX) (hyl:ys.length≤CZ) (ea:Nat) (P:Xv→Prop)
  (ih:∀(k0 tc t':Tok) (ec ea:Nat),af Z 6 (uy Z L C it acc) (v8 C it acc x t0 (ai [en Z df k0 (.str (S [c]) tc)] ec) (i+1) (ys++[.str (S [45]) t']) ea) P (λξ=>.ok .next) (wa Z) (λξ=>[])):
  af Z 6 (uy Z L C it acc) (v8 C it acc x t0 (ai [] ec0) i ys ea) P (λξ=>.ok .next) (wa Z) (λξ=>[]):=by
 have hcc:[92].length+[c].length≤CZ:=by have:=ab;show 1+1≤CZ;lia
 exists 0,af.of_codeB
 exists 1,bB it i x t0 c hc,787,2
 exists 2,cB [c] x1 [95] (t1+1) _ h95,4899,0
 exists 3,dj acc ys ea (.str (S [45]) t2) ‹_›,65,3
 exists 4,cy,ih t1 x1 t2 (ec0+1) (ea+1),0,291
 exists ar,(x4.1,x4.2.1,x4.2.2.1,x4.2.2.2.1,x4.2.2.2.2.1,x4.2.2.2.2.2.1,x4.2.2.2.2.2.2),0,273
theorem AS (ec0:Nat) (i:Nat) (c:Nat) (hc:x[i]?=some c) (h95:([c] == [95])=false) (ys:List CX) (hyl:ys.length≤CZ) (ea:Nat) (P:Xv→Prop)
  (ih:∀(k0 tc t':Tok) (ec ea:Nat),af Z 6 (uy Z L C it acc) (v8 C it acc x t0 (ai [en Z df k0 (.str (S [c]) tc)] ec) (i+1) (ys++[.str (S [c]) t']) ea) P (λξ=>.ok .next) (wa Z) (λξ=>[])):
  af Z 6 (uy Z L C it acc) (v8 C it acc x t0 (ai [] ec0) i ys ea) P (λξ=>.ok .next) (wa Z) (λξ=>[]):=by
 have hcc:[92].length+[c].length≤CZ:=by have:=ab;show 1+1≤CZ;lia
 exists 0,af.of_codeB
 exists 1,bB it i x t0 c hc,787,2
 exists 2,cB [c] x1 [95] (t1+1) _ h95,4899,0
 exists 3,dj acc ys ea (.str (S [c]) x1) ‹_›,1043,3
 exists 4,cy,ih t1 x1 x1 (ec0+1) (ea+1),0,291
 exists ar,(x4.1,x4.2.1,x4.2.2.1,x4.2.2.2.1,x4.2.2.2.2.1,x4.2.2.2.2.2.1,x4.2.2.2.2.2.2),0,273
noncomputable abbrev CB (F:Fx):Expr:=gb F 381 [1,1,0] 0
noncomputable abbrev vG (F:Fx) (L C it acc:C1):CV:=fV F 381 L C (CB F) [] it acc
noncomputable abbrev v9 (C it acc:C1) (x:List Nat) (t0:Tok) (o:Obj) (i:Nat) (ys:List CX) (ea:Nat):ao:=
 [(C,o),(it,aE "str_ascii_iterator" [.str (S x) t0,.int (.ofNat i) 0]),(acc,aa ys ea)]
noncomputable abbrev wf (F:Fx) (y:Xv):List Obj:=
 [ai [en F df y.1 (.str (S [y.2.1]) y.2.2.1)] y.2.2.2.1,y.2.2.2.2.1,aa (al y.2.2.2.2.2.2) y.2.2.2.2.2.1]
theorem zc (k0:Tok) (c0:Nat) (tc:Tok) (i:Nat) (hv:x.length≤i) (ys:List CX) (ea ec:Nat):
  af Z 6 (vG Z L C it acc) (v9 C it acc x t0 (ai [en Z df k0 (.str (S [c0]) tc)] ec) i ys ea)
   (X:=Obj) (λξ=>True) (λξ=>.ok .next) (λy=>[ai [en Z df k0 (.str (S [c0]) tc)] ec,y,aa ys ea]) (λξ=>[]):=by
 exists 0,af.of_codeB
 exists 1,ia it i x t0 ‹_›,787,2
 exists ar,.mk (.type "str_ascii_iterator") none (.fields ⟨[.none,.int (.ofNat i) 0]⟩) #[],4,788
theorem Ax (k0:Tok) (c0:Nat) (tc:Tok) (ec0:Nat) (i:Nat) (c:Nat) (hc:x[i]?=some c) (hin:decide (c∈[34,92])=true) (ys:List CX) (hyl:ys.length≤CZ) (ea:Nat) (P:Xv→Prop)
  (ih:∀(k0 tc t':Tok) (ec ea:Nat),af Z 6 (vG Z L C it acc) (v9 C it acc x t0 (ai [en Z df k0 (.str (S [c]) tc)] ec) (i+1) (ys++[.str (S ([92]++[c])) t']) ea) P (λξ=>.ok .next) (wf Z) (λξ=>[])):
  af Z 6 (vG Z L C it acc) (v9 C it acc x t0 (ai [en Z df k0 (.str (S [c0]) tc)] ec0) i ys ea) P (λξ=>.ok .next) (wf Z) (λξ=>[]):=by
 have hcc:[92].length+[c].length≤CZ:=by have:=ab;show 1+1≤CZ;lia
 exists 0,af.of_codeB
 exists 1,bB it i x t0 c hc,787,2
 exists 2,eQ [34,92] (t1+1) c x1 _ hin,4899,0
 exists 3,ak [92] t2 [c] x1 ‹_›,19,0
 exists 4,dj acc ys ea (.str (S ([92]++[c])) x3) ‹_›,65,3
 exists 5,cy,ih k0 x1 x3 ec0 (ea+1),0,291
 exists ar,(x5.1,x5.2.1,x5.2.2.1,x5.2.2.2.1,x5.2.2.2.2.1,x5.2.2.2.2.2.1,x5.2.2.2.2.2.2),0,273
theorem Ac (k0:Tok) (c0:Nat) (tc:Tok) (ec0:Nat) (i:Nat) (c:Nat) (hc:x[i]?=some c) (hin:decide (c∈[34,92])=false) (ys:List CX) (hyl:ys.length≤CZ) (ea:Nat) (P:Xv→Prop)
  (ih:∀(k0 tc t':Tok) (ec ea:Nat),af Z 6 (vG Z L C it acc) (v9 C it acc x t0 (ai [en Z df k0 (.str (S [c]) tc)] ec) (i+1) (ys++[.str (S [c]) t']) ea) P (λξ=>.ok .next) (wf Z) (λξ=>[])):
  af Z 6 (vG Z L C it acc) (v9 C it acc x t0 (ai [en Z df k0 (.str (S [c0]) tc)] ec0) i ys ea) P (λξ=>.ok .next) (wf Z) (λξ=>[]):=by
 have hcc:[92].length+[c].length≤CZ:=by have:=ab;show 1+1≤CZ;lia
 exists 0,af.of_codeB
 exists 1,bB it i x t0 c hc,787,2
 exists 2,eQ [34,92] (t1+1) c x1 _ hin,4899,0
 exists 3,dj acc ys ea (.str (S [c]) x1) ‹_›,1043,3
 exists 4,cy,ih k0 x1 x1 ec0 (ea+1),0,291
 exists ar,(x4.1,x4.2.1,x4.2.2.1,x4.2.2.2.1,x4.2.2.2.2.1,x4.2.2.2.2.2.1,x4.2.2.2.2.2.2),0,273
theorem An (ec0:Nat) (i:Nat) (c:Nat) (hc:x[i]?=some c) (hin:decide (c∈[34,92])=true) (ys:List CX) (hyl:ys.length≤CZ) (ea:Nat) (P:Xv→Prop)
  (ih:∀(k0 tc t':Tok) (ec ea:Nat),af Z 6 (vG Z L C it acc) (v9 C it acc x t0 (ai [en Z df k0 (.str (S [c]) tc)] ec) (i+1) (ys++[.str (S ([92]++[c])) t']) ea) P (λξ=>.ok .next) (wf Z) (λξ=>[])):
  af Z 6 (vG Z L C it acc) (v9 C it acc x t0 (ai [] ec0) i ys ea) P (λξ=>.ok .next) (wf Z) (λξ=>[]):=by
 have hcc:[92].length+[c].length≤CZ:=by have:=ab;show 1+1≤CZ;lia
 exists 0,af.of_codeB
 exists 1,bB it i x t0 c hc,787,2
 exists 2,eQ [34,92] (t1+1) c x1 _ hin,4899,0
 exists 3,ak [92] t2 [c] x1 ‹_›,19,0
 exists 4,dj acc ys ea (.str (S ([92]++[c])) x3) ‹_›,65,3
 exists 5,cy,ih t1 x1 x3 (ec0+1) (ea+1),0,291
 exists ar,(x5.1,x5.2.1,x5.2.2.1,x5.2.2.2.1,x5.2.2.2.2.1,x5.2.2.2.2.2.1,x5.2.2.2.2.2.2),0,273
theorem Bg (ec0:Nat) (i:Nat) (c:Nat) (hc:x[i]?=some c) (hin:decide (c∈[34,92])=false) (ys:List CX) (hyl:ys.length≤CZ) (ea:Nat) (P:Xv→Prop)
  (ih:∀(k0 tc t':Tok) (ec ea:Nat),af Z 6 (vG Z L C it acc) (v9 C it acc x t0 (ai [en Z df k0 (.str (S [c]) tc)] ec) (i+1) (ys++[.str (S [c]) t']) ea) P (λξ=>.ok .next) (wf Z) (λξ=>[])):
  af Z 6 (vG Z L C it acc) (v9 C it acc x t0 (ai [] ec0) i ys ea) P (λξ=>.ok .next) (wf Z) (λξ=>[]):=by
 have hcc:[92].length+[c].length≤CZ:=by have:=ab;show 1+1≤CZ;lia
 exists 0,af.of_codeB
 exists 1,bB it i x t0 c hc,787,2
 exists 2,eQ [34,92] (t1+1) c x1 _ hin,4899,0
 exists 3,dj acc ys ea (.str (S [c]) x1) ‹_›,1043,3
 exists 4,cy,ih t1 x1 x1 (ec0+1) (ea+1),0,291
 exists ar,(x4.1,x4.2.1,x4.2.2.1,x4.2.2.2.1,x4.2.2.2.2.1,x4.2.2.2.2.2.1,x4.2.2.2.2.2.2),0,273
end
end
section
theorem aV {F:Fx} {k:Nat} (sep:List Nat) (ts:Tok) (a:C1) (l:List (List Nat×Tok)) (Z:List (List Nat)) (hZ:l.map (·.1)=Z) (e:Nat) (hz:(Z.map C9).sum+Z.length * sep.length≤CZ):
  af F k (.b 8028352891401237876 ⟨[.str (S sep) ts,.ref a],[]⟩) [(a,⟨.type "list",none,.seq ⟨al l⟩ e,#[]⟩)] (X:=Tok) (λξ=>True) (λt=>.ok (.ret (.str (S (ap sep Z)) t))) (λξ=>[⟨.type "list",none,.seq ⟨al l⟩ e,#[]⟩]) (λξ=>[]):=by
 subst hZ
 exact dt sep ts a l e (by
  rw [C2] at hz
  exact hz)
noncomputable def cx (c:Nat):List Nat:=if [c] == [95] then [45] else [c]
noncomputable def ay (x:List Nat):List (List Nat):=x.map cx
noncomputable def cv (c:Nat):List Nat:=if decide (c∈[34,92]) then [92]++[c] else [c]
noncomputable def bg (x:List Nat):List (List Nat):=x.map cv
section
variable (L C it acc:C1) (x:List Nat) (t0:Tok)
theorem jG (hz:x.length≤1000000):∀(rem:List Nat) (i:Nat) (k0:Tok) (c0:Nat) (tc:Tok) (ec ea:Nat) (ys:List (List Nat×Tok)),x.drop i=rem→ys.length≤i→
  af Z 6 (uy Z L C it acc) (v8 C it acc x t0 (ai [en Z df k0 (.str (S [c0]) tc)] ec) i (al ys) ea)
   (λy:Xv=>y.2.2.2.2.2.2.map (·.1)=ys.map (·.1)++rem.map cx) (λξ=>.ok .next) (wa Z) (λξ=>[])
 | [],i,k0,c0,tc,ec,ea,ys,hd,_=>
  af.to (zT L C it acc x t0 k0 c0 tc i (Dx.mp hd) (al ys) ea ec) (λy=>(k0,c0,tc,ec,y,ea,ys)) λy ξ=>⟨by simp,rfl,rfl,rfl⟩
 | c::rem,i,k0,c0,tc,ec,ea,ys,hd,hys=>by
  have hs:=ab
  have hc:x[i]?=some c:=by
   have:=congrArg (λl=>l[0]?) hd
   simpa using this
  have hlt:i < x.length:=(Dg.mp hc).1
  have hd2:x.drop (i+1)=rem:=by
   have:=congrArg (DX 1) hd
   rw [DE] at this
   exact this
  have hsl:(al ys).length≤CZ:=by unfold al;rw [C2];lia
  cases hk:[c] == [95] with
  | true=>
   refine A2 L C it acc x t0 k0 c0 tc ec i c hc hk (al ys) hsl ea _ λk1 tc' t' ec' ea'=>?_
   have ih:=jG hz rem (i+1) k1 c tc' ec' ea' (ys++[([45],t')]) hd2 (by rw [CY];simp;lia)
   have e:(ys++[(([45],t'):List Nat×Tok)]).map (·.1)++rem.map cx=ys.map (·.1)++(c::rem).map cx:=by
    rw [Da,C6,Dd (f:=cx) (a:=c),show cx c=[45] from by unfold cx;rw [hk];rfl];rfl
   rw [e] at ih
   rw [bu]
   exact ih
  | false=>
   refine As L C it acc x t0 k0 c0 tc ec i c hc hk (al ys) hsl ea _ λk1 tc' t' ec' ea'=>?_
   have ih:=jG hz rem (i+1) k1 c tc' ec' ea' (ys++[([c],t')]) hd2 (by rw [CY];simp;lia)
   have e:(ys++[(([c],t'):List Nat×Tok)]).map (·.1)++rem.map cx=ys.map (·.1)++(c::rem).map cx:=by
    rw [Da,C6,Dd (f:=cx) (a:=c),show cx c=[c] from by unfold cx;rw [hk];rfl];rfl
   rw [e] at ih
   rw [bu]
   exact ih
theorem fm (c:Nat) (r:List Nat) (hz:(c::r).length≤1000000) (ec ea:Nat):
  af Z 6 (uy Z L C it acc) [(C,ai [] ec),(it,aE "str_ascii_iterator" [.str (S (c::r)) t0,.int (.ofNat 0) 0]),(acc,aa [] ea)]
   (λy:Xv=>y.2.2.2.2.2.2.map (·.1)=ay (c::r)) (λξ=>.ok .next) (wa Z) (λξ=>[]):=by
 cases hk:[c] == [95] with
 | true=>
  refine AR L C it acc (c::r) t0 ec 0 c rfl hk [] (Du _) ea _ λk1 tc' t' ec' ea'=>?_
  have ih:=jG L C it acc (c::r) t0 hz r (0+1) k1 c tc' ec' ea' [([45],t')] rfl (Dh _)
  have e:[(([45],t'):List Nat×Tok)].map (·.1)++r.map cx=ay (c::r):=by
   unfold ay
   rw [Dd (f:=cx) (a:=c),show cx c=[45] from by unfold cx;rw [hk];rfl];rfl
  rw [e] at ih
  exact ih
 | false=>
  refine AS L C it acc (c::r) t0 ec 0 c rfl hk [] (Du _) ea _ λk1 tc' t' ec' ea'=>?_
  have ih:=jG L C it acc (c::r) t0 hz r (0+1) k1 c tc' ec' ea' [([c],t')] rfl (Dh _)
  have e:[(([c],t'):List Nat×Tok)].map (·.1)++r.map cx=ay (c::r):=by
   unfold ay
   rw [Dd (f:=cx) (a:=c),show cx c=[c] from by unfold cx;rw [hk];rfl];rfl
  rw [e] at ih
  exact ih
theorem jE (hz:x.length≤1000000):∀(rem:List Nat) (i:Nat) (k0:Tok) (c0:Nat) (tc:Tok) (ec ea:Nat) (ys:List (List Nat×Tok)),x.drop i=rem→ys.length≤i→
  af Z 6 (vG Z L C it acc) (v9 C it acc x t0 (ai [en Z df k0 (.str (S [c0]) tc)] ec) i (al ys) ea)
   (λy:Xv=>y.2.2.2.2.2.2.map (·.1)=ys.map (·.1)++rem.map cv) (λξ=>.ok .next) (wf Z) (λξ=>[])
 | [],i,k0,c0,tc,ec,ea,ys,hd,_=>
  af.to (zc L C it acc x t0 k0 c0 tc i (Dx.mp hd) (al ys) ea ec) (λy=>(k0,c0,tc,ec,y,ea,ys)) λy ξ=>⟨by simp,rfl,rfl,rfl⟩
 | c::rem,i,k0,c0,tc,ec,ea,ys,hd,hys=>by
  have hs:=ab
  have hc:x[i]?=some c:=by
   have:=congrArg (λl=>l[0]?) hd
   simpa using this
  have hlt:i < x.length:=(Dg.mp hc).1
  have hd2:x.drop (i+1)=rem:=by
   have:=congrArg (DX 1) hd
   rw [DE] at this
   exact this
  have hsl:(al ys).length≤CZ:=by unfold al;rw [C2];lia
  cases hk:decide (c∈[34,92]) with
  | true=>
   refine Ax L C it acc x t0 k0 c0 tc ec i c hc hk (al ys) hsl ea _ λk1 tc' t' ec' ea'=>?_
   have ih:=jE hz rem (i+1) k1 c tc' ec' ea' (ys++[([92]++[c],t')]) hd2 (by rw [CY];simp;lia)
   have e:(ys++[(([92]++[c],t'):List Nat×Tok)]).map (·.1)++rem.map cv=ys.map (·.1)++(c::rem).map cv:=by
    rw [Da,C6,Dd (f:=cv) (a:=c),show cv c=([92]++[c]) from by unfold cv;rw [hk];rfl];rfl
   rw [e] at ih
   rw [bu]
   exact ih
  | false=>
   refine Ac L C it acc x t0 k0 c0 tc ec i c hc hk (al ys) hsl ea _ λk1 tc' t' ec' ea'=>?_
   have ih:=jE hz rem (i+1) k1 c tc' ec' ea' (ys++[([c],t')]) hd2 (by rw [CY];simp;lia)
   have e:(ys++[(([c],t'):List Nat×Tok)]).map (·.1)++rem.map cv=ys.map (·.1)++(c::rem).map cv:=by
    rw [Da,C6,Dd (f:=cv) (a:=c),show cv c=[c] from by unfold cv;rw [hk];rfl];rfl
   rw [e] at ih
   rw [bu]
   exact ih
theorem pY (c:Nat) (r:List Nat) (hz:(c::r).length≤1000000) (ec ea:Nat):
  af Z 6 (vG Z L C it acc) [(C,ai [] ec),(it,aE "str_ascii_iterator" [.str (S (c::r)) t0,.int (.ofNat 0) 0]),(acc,aa [] ea)]
   (λy:Xv=>y.2.2.2.2.2.2.map (·.1)=bg (c::r)) (λξ=>.ok .next) (wf Z) (λξ=>[]):=by
 cases hk:decide (c∈[34,92]) with
 | true=>
  refine An L C it acc (c::r) t0 ec 0 c rfl hk [] (Du _) ea _ λk1 tc' t' ec' ea'=>?_
  have ih:=jE L C it acc (c::r) t0 hz r (0+1) k1 c tc' ec' ea' [([92]++[c],t')] rfl (Dh _)
  have e:[(([92]++[c],t'):List Nat×Tok)].map (·.1)++r.map cv=bg (c::r):=by
   unfold bg
   rw [Dd (f:=cv) (a:=c),show cv c=([92]++[c]) from by unfold cv;rw [hk];rfl];rfl
  rw [e] at ih
  exact ih
 | false=>
  refine Bg L C it acc (c::r) t0 ec 0 c rfl hk [] (Du _) ea _ λk1 tc' t' ec' ea'=>?_
  have ih:=jE L C it acc (c::r) t0 hz r (0+1) k1 c tc' ec' ea' [([c],t')] rfl (Dh _)
  have e:[(([c],t'):List Nat×Tok)].map (·.1)++r.map cv=bg (c::r):=by
   unfold bg
   rw [Dd (f:=cv) (a:=c),show cv c=[c] from by unfold cv;rw [hk];rfl];rfl
  rw [e] at ih
  exact ih
end
end
section
noncomputable abbrev jk:List Nat:=[116,101,120,116]
noncomputable abbrev rc:List Nat:=[104,101,97,100]
noncomputable abbrev iO:List Nat:=[119,105,100,116,104]
noncomputable abbrev jB:List Nat:=[112,105,101,99,101,115]
noncomputable abbrev qp:List Nat:=[112,108,97,99,101]
noncomputable abbrev ym:List Nat:=[114,111,119,115]
noncomputable abbrev yo:List Nat:=[114,111,111,109]
noncomputable abbrev zQ:List Nat:=[112,105,101,99,101]
noncomputable abbrev Wk:=Tok×Tok×Tok×Tok×Tok×Tok×Tok
noncomputable abbrev AD (F:Fx) (K:Wk) (x:List Nat) (hd wd:Nat) (pc:C1) (e:Nat):Obj:=
 bY [en F jk K.1 (.str (S x) K.2.1),en F rc K.2.2.1 (.int (.ofNat hd) K.2.2.2.1),en F iO K.2.2.2.2.1 (.int (.ofNat wd) K.2.2.2.2.2.1),en F jB K.2.2.2.2.2.2 (.ref pc)] e
noncomputable abbrev jw (F:Fx) (K:Wk) (x:List Nat) (hd wd:Nat) (pc:C1) (kp:Tok) (n:Nat) (tp:Tok) (e:Nat):Obj:=
 bY [en F jk K.1 (.str (S x) K.2.1),en F rc K.2.2.1 (.int (.ofNat hd) K.2.2.2.1),en F iO K.2.2.2.2.1 (.int (.ofNat wd) K.2.2.2.2.2.1),en F jB K.2.2.2.2.2.2 (.ref pc),en F qp kp (.int (.ofNat n) tp)] e
noncomputable abbrev X1:=Tok×Nat×Tok×Nat×Obj×Nat×List (List Nat×Tok)×List Nat×Tok
noncomputable abbrev kl (F:Fx) (L it:C1):CV:=.o (hH (fH F 388 L) (.ref it) (gF F 388 [1]))
noncomputable abbrev mr (F:Fx) (K:Wk) (x:List Nat) (hd wd:Nat) (pc:C1) (y:X1):List Obj:=
 [jw F K x hd wd pc y.1 y.2.1 y.2.2.1 y.2.2.2.1,y.2.2.2.2.1,aa (al y.2.2.2.2.2.2.1++[.str (S y.2.2.2.2.2.2.2.1) y.2.2.2.2.2.2.2.2]) y.2.2.2.2.2.1]
section
variable (L it pc:C1) (K:Wk) (x:List Nat) (hd wd:Nat)
theorem wF (kp:Tok) (n:Nat) (tp:Tok) (ef e:Nat) (i:Nat) (ys:List (List Nat×Tok)) (l:List Nat) (tl:Tok):
  af Z 6 (kl Z L it) [(L,jw Z K x hd wd pc kp n tp ef),(it,aE "range_iterator" [.int (.ofNat i) 0,.int (.ofNat 0) 0,.int 1 0]),(pc,aa (al ys++[.str (S l) tl]) e)]
   (X:=Nat×Obj) (λξ=>True) (λξ=>.ok .next) (λy=>[jw Z K x hd wd pc kp n tp y.1,y.2,aa (al ys++[.str (S l) tl]) e]) (λξ=>[]):=by
 exists 0,af.of_codeB
 exists 1,ek it (C4 i) 1,787,2
 exists ar,(ef,.mk (.type "range_iterator") none (.fields ⟨[.int (.ofNat i) 0,.int 0 0,.int 1 0]⟩) #[]),20,788
theorem uh (ef e:Nat) (j:Nat) (l:List Nat) (tl:Tok) (ys:List (List Nat×Tok)) (hyl:(al ys).length < 16777216) (c:Nat) (hc:x[0]?=some c) (hll:l.length+[c].length≤CZ) (P:X1→Prop)
  (ih:∀(kp tp:Tok) (ef e:Nat) (t':Tok),af Z 6 (kl Z L it) [(L,jw Z K x hd wd pc kp 0 tp ef),(it,aE "range_iterator" [.int (.ofNat (0+1)) 0,.int (.ofNat j) 0,.int 1 0]),(pc,aa (al ys++[.str (S (l++[c])) t']) e)] P (λξ=>.ok .next) (mr Z K x hd wd pc) (λξ=>[])):
  af Z 6 (kl Z L it) [(L,AD Z K x hd wd pc ef),(it,aE "range_iterator" [.int (.ofNat 0) 0,.int (.ofNat (j+1)) 0,.int 1 0]),(pc,aa (al ys++[.str (S l) tl]) e)] P (λξ=>.ok .next) (mr Z K x hd wd pc) (λξ=>[]):=by
 have h00:decide (0 > 0)=false:=rfl
 exists 0,af.of_codeB
 exists 1,dI it 0 j,787,2
 exists 2,bJ 0 x1 0 (t1+1) _ h00,4899,0
 exists 3,iu pc (al ys) (.str (S l) tl) e (t2+1) ‹_›,0x41444113,3
 exists 4,cK x K.2.1 0 x1 c hc (DD _),324,0
 exists 5,ak l tl [c] x4 ‹_›,1,0
 exists 6,bM pc (.type "list") none #[] (al ys) (.str (S l) tl) (.str (S (l++[c])) x5) e (t5+1) ‹_›,34742548,1
 exists 7,cy,ih t1 x1 (ef+1) x6 x5,0,291
 exists ar,(x7.1,x7.2.1,x7.2.2.1,x7.2.2.2.1,x7.2.2.2.2.1,x7.2.2.2.2.2.1,x7.2.2.2.2.2.2.1,x7.2.2.2.2.2.2.2.1,x7.2.2.2.2.2.2.2.2),0,273
theorem Ae (kp:Tok) (n0:Nat) (tp:Tok) (ef e:Nat) (i j:Nat) (hi:i+1 < 16777216) (l:List Nat) (tl:Tok) (ys:List (List Nat×Tok)) (hyl:(al ys).length+1 < 16777216) (c0 c:Nat) (hc0:x[i]?=some c0) (hc:x[i+1]?=some c) (h59:([c0] == [59])=false) (hll:l.length+[c].length≤CZ) (P:X1→Prop)
  (ih:∀(kp tp:Tok) (ef e:Nat) (t':Tok),af Z 6 (kl Z L it) [(L,jw Z K x hd wd pc kp (i+1) tp ef),(it,aE "range_iterator" [.int (.ofNat (i+1+1)) 0,.int (.ofNat j) 0,.int 1 0]),(pc,aa (al ys++[.str (S (l++[c])) t']) e)] P (λξ=>.ok .next) (mr Z K x hd wd pc) (λξ=>[])):
  af Z 6 (kl Z L it) [(L,jw Z K x hd wd pc kp n0 tp ef),(it,aE "range_iterator" [.int (.ofNat (i+1)) 0,.int (.ofNat (j+1)) 0,.int 1 0]),(pc,aa (al ys++[.str (S l) tl]) e)] P (λξ=>.ok .next) (mr Z K x hd wd pc) (λξ=>[]):=by
 have h01:i+1=i+1:=rfl
 have h00:∀i:Nat,decide (i+1 > 0)=true:=λi=>by simp
 have h0i:=h00 i
 have hyl1:(al ys).length < 16777216:=by exact DK ‹_›
 have hyl2:(al ys++[CX.str (S l) tl]).length < 16777216:=by rw [CY];exact hyl
 have hyl3:(al ys++[CX.str (S l) tl]).length≤CZ:=by have:=ab;exact lD ‹_› rfl
 have hcc:([]:List Nat).length+[c].length≤CZ:=by have:=ab;show 0+1≤CZ;lia
 have hi2:i < 16777216:=by exact DK ‹_›
 exists 0,af.of_codeB
 exists 1,dI it (i+1) j,787,2
 exists 2,bJ (i+1) x1 0 (t1+1) _ h0i,4899,0
 exists 3,cG (i+1) x1 t2 i h01,307,0
 exists 4,cK x K.2.1 i x3 c0 hc0 ‹_›,1,0
 exists 5,cB [c0] x4 [59] t4 _ h59,1,0
 exists 6,iu pc (al ys) (.str (S l) tl) e (t5+1) ‹_›,0x41444113,3
 exists 7,cK x K.2.1 (i+1) x1 c hc ‹_›,324,0
 exists 8,ak l tl [c] x7 ‹_›,1,0
 exists 9,bM pc (.type "list") none #[] (al ys) (.str (S l) tl) (.str (S (l++[c])) x8) e (t8+1) ‹_›,34742548,1
 exists 10,cy,ih kp x1 ef x9 x8,0,291
 exists ar,(x10.1,x10.2.1,x10.2.2.1,x10.2.2.2.1,x10.2.2.2.2.1,x10.2.2.2.2.2.1,x10.2.2.2.2.2.2.1,x10.2.2.2.2.2.2.2.1,x10.2.2.2.2.2.2.2.2),0,273
theorem Bc (kp:Tok) (n0:Nat) (tp:Tok) (ef e:Nat) (i j:Nat) (hi:i+1 < 16777216) (l:List Nat) (tl:Tok) (ys:List (List Nat×Tok)) (hyl:(al ys).length+1 < 16777216) (c0 c:Nat) (hc0:x[i]?=some c0) (hc:x[i+1]?=some c) (h59:([c0] == [59])=true) (hin:decide (c∈[32,9])=false) (hll:l.length+[c].length≤CZ) (P:X1→Prop)
  (ih:∀(kp tp:Tok) (ef e:Nat) (t':Tok),af Z 6 (kl Z L it) [(L,jw Z K x hd wd pc kp (i+1) tp ef),(it,aE "range_iterator" [.int (.ofNat (i+1+1)) 0,.int (.ofNat j) 0,.int 1 0]),(pc,aa (al ys++[.str (S (l++[c])) t']) e)] P (λξ=>.ok .next) (mr Z K x hd wd pc) (λξ=>[])):
  af Z 6 (kl Z L it) [(L,jw Z K x hd wd pc kp n0 tp ef),(it,aE "range_iterator" [.int (.ofNat (i+1)) 0,.int (.ofNat (j+1)) 0,.int 1 0]),(pc,aa (al ys++[.str (S l) tl]) e)] P (λξ=>.ok .next) (mr Z K x hd wd pc) (λξ=>[]):=by
 have h01:i+1=i+1:=rfl
 have h00:∀i:Nat,decide (i+1 > 0)=true:=λi=>by simp
 have h0i:=h00 i
 have hyl1:(al ys).length < 16777216:=by exact DK ‹_›
 have hyl2:(al ys++[CX.str (S l) tl]).length < 16777216:=by rw [CY];exact hyl
 have hyl3:(al ys++[CX.str (S l) tl]).length≤CZ:=by have:=ab;exact lD ‹_› rfl
 have hcc:([]:List Nat).length+[c].length≤CZ:=by have:=ab;show 0+1≤CZ;lia
 have hi2:i < 16777216:=by exact DK ‹_›
 exists 0,af.of_codeB
 exists 1,dI it (i+1) j,787,2
 exists 2,bJ (i+1) x1 0 (t1+1) _ h0i,4899,0
 exists 3,cG (i+1) x1 t2 i h01,307,0
 exists 4,cK x K.2.1 i x3 c0 hc0 ‹_›,1,0
 exists 5,cB [c0] x4 [59] t4 _ h59,1,0
 exists 6,cK x K.2.1 (i+1) x1 c hc ‹_›,307,0
 exists 7,eQ [32,9] t6 c x6 _ hin,1,0
 exists 8,iu pc (al ys) (.str (S l) tl) e (t7+1) ‹_›,0x41444113,3
 exists 9,cK x K.2.1 (i+1) x1 c hc ‹_›,324,0
 exists 10,ak l tl [c] x9 ‹_›,1,0
 exists 11,bM pc (.type "list") none #[] (al ys) (.str (S l) tl) (.str (S (l++[c])) x10) e (t10+1) ‹_›,34742548,1
 exists 12,cy,ih kp x1 ef x11 x10,0,291
 exists ar,(x12.1,x12.2.1,x12.2.2.1,x12.2.2.2.1,x12.2.2.2.2.1,x12.2.2.2.2.2.1,x12.2.2.2.2.2.2.1,x12.2.2.2.2.2.2.2.1,x12.2.2.2.2.2.2.2.2),0,273
theorem AG (kp:Tok) (n0:Nat) (tp:Tok) (ef e:Nat) (i j:Nat) (hi:i+1 < 16777216) (l:List Nat) (tl:Tok) (ys:List (List Nat×Tok)) (hyl:(al ys).length+1 < 16777216) (c0 c:Nat) (hc0:x[i]?=some c0) (hc:x[i+1]?=some c) (h59:([c0] == [59])=true) (hin:decide (c∈[32,9])=true) (hll:l.length+[c].length≤CZ) (P:X1→Prop)
  (ih:∀(kp tp:Tok) (ef e:Nat) (t':Tok),af Z 6 (kl Z L it) [(L,jw Z K x hd wd pc kp (i+1) tp ef),(it,aE "range_iterator" [.int (.ofNat (i+1+1)) 0,.int (.ofNat j) 0,.int 1 0]),(pc,aa ((al ys++[.str (S l) tl])++[.str (S ([]++[c])) t']) e)] P (λξ=>.ok .next) (mr Z K x hd wd pc) (λξ=>[])):
  af Z 6 (kl Z L it) [(L,jw Z K x hd wd pc kp n0 tp ef),(it,aE "range_iterator" [.int (.ofNat (i+1)) 0,.int (.ofNat (j+1)) 0,.int 1 0]),(pc,aa (al ys++[.str (S l) tl]) e)] P (λξ=>.ok .next) (mr Z K x hd wd pc) (λξ=>[]):=by
 have h01:i+1=i+1:=rfl
 have h00:∀i:Nat,decide (i+1 > 0)=true:=λi=>by simp
 have h0i:=h00 i
 have hyl1:(al ys).length < 16777216:=by exact DK ‹_›
 have hyl2:(al ys++[CX.str (S l) tl]).length < 16777216:=by rw [CY];exact hyl
 have hyl3:(al ys++[CX.str (S l) tl]).length≤CZ:=by have:=ab;exact lD ‹_› rfl
 have hcc:([]:List Nat).length+[c].length≤CZ:=by have:=ab;show 0+1≤CZ;lia
 have hi2:i < 16777216:=by exact DK ‹_›
 exists 0,af.of_codeB
 exists 1,dI it (i+1) j,787,2
 exists 2,bJ (i+1) x1 0 (t1+1) _ h0i,4899,0
 exists 3,cG (i+1) x1 t2 i h01,307,0
 exists 4,cK x K.2.1 i x3 c0 hc0 ‹_›,1,0
 exists 5,cB [c0] x4 [59] t4 _ h59,1,0
 exists 6,cK x K.2.1 (i+1) x1 c hc ‹_›,307,0
 exists 7,eQ [32,9] t6 c x6 _ hin,1,0
 exists 8,dj pc (al ys++[.str (S l) tl]) e (.str (S []) t7) ‹_›,68437059,3
 exists 9,iu pc (al ys++[.str (S l) tl]) (.str (S []) t7) (e+1) (t8+1) ‹_›,555884820,1
 exists 10,cK x K.2.1 (i+1) x1 c hc ‹_›,324,0
 exists 11,ak [] t7 [c] x10 ‹_›,1,0
 exists 12,bM pc (.type "list") none #[] (al ys++[.str (S l) tl]) (.str (S []) t7) (.str (S ([]++[c])) x11) (e+1) (t11+1) ‹_›,34742548,1
 exists 13,cy,ih kp x1 ef x12 x11,0,291
 exists ar,(x13.1,x13.2.1,x13.2.2.1,x13.2.2.2.1,x13.2.2.2.2.1,x13.2.2.2.2.2.1,x13.2.2.2.2.2.2.1,x13.2.2.2.2.2.2.2.1,x13.2.2.2.2.2.2.2.2),0,273
end
end
theorem ix (c a b:Nat):∀l:List Nat,(aI c [a,b] l).length≤2 * l.length
 | []=>Dh _
 | k::r=>by
  have ih:=ix c a b r
  unfold aI at ih ⊢
  simp only [D8,CY]
  split <;> simp only [C5,De] <;> lia
noncomputable def hO (y:List Nat):List Nat:=aI 34 [92,34] (aI 92 [92,92] y)
theorem nf (x:List Nat) (tx ty:Tok):
  af Z 6 (.o (.call (.ref 227) ⟨[.str (S x) tx,.str (S []) ty],[]⟩)) [] (X:=Unit) (λξ=>True) (λξ=>.ok (.ret (.str (S x) tx))) (λξ=>[]) (λξ=>[]):=by
 exists 1,af.of_defB
 exists 1,aG [] ty (by decide),0x121121112121211,0
 exists 2,jg 0 x1 0 t1,1,0
 exists ar,(),2,0
noncomputable abbrev y6:List Nat:=[112,97,114,97,109]
noncomputable abbrev cN:List Nat:=[118,97,108,117,101]
noncomputable abbrev yT:List Nat:=[113,117,111,116,101]
noncomputable abbrev Fk:=Tok×Tok×Tok×Tok×Tok×Tok
noncomputable abbrev CD (F:Fx) (K:Fk) (x y:List Nat) (e:Nat):Obj:=
 bY [en F y6 K.1 (.str (S x) K.2.1),en F cN K.2.2.1 (.str (S y) K.2.2.2.1),en F yT K.2.2.2.2.1 (.int (.ofNat 1) K.2.2.2.2.2)] e
theorem wz (L:C1) (K:Fk) (x:List Nat) (y0:Nat) (yr:List Nat) (e:Nat) (hx:x.length≤1000) (hy:(y0::yr).length≤1000):
  af Z 4 (Ay Z 227 L) [(L,CD Z K x (y0::yr) e)] (X:=Tok×Obj) (λξ=>True) (λt=>.ok (.ret (.str (S (((x++[61,34])++hO (y0::yr))++[34])) t.1))) (λt=>[t.2]) (λξ=>[]):=by
 obtain ⟨b3,hb3⟩:=Z.bits3_ex
 refine hb3▸?_
 have hs:=ab
 have h1:=ix 92 92 92 (y0::yr)
 have h2:=ix 34 92 34 (aI 92 [92,92] (y0::yr))
 have hy1:(y0::yr).length≤CZ:=by exact lB ‹_› rfl
 have hx1:x.length≤1000000:=by exact lB ‹_› rfl
 have hy2:(y0::yr).length+((y0::yr).length+1) * [92,92].length≤16777216:=by
  show _+_ * 2≤_
  lia
 have hy3:(aI 92 [92,92] (y0::yr)).length+((aI 92 [92,92] (y0::yr)).length+1) * [92,34].length≤16777216:=by
  show _+_ * 2≤_
  lia
 have hy4:(aI 34 [92,34] (aI 92 [92,92] (y0::yr))).length≤1000000:=by lia
 have hi0:decide ((y0::yr).length > 0)=true:=rfl
 clear h1 h2
 refine af.of_codeJB λrest A R d os hroom hR n t=>?_
 cases b3
 ·skip
  refine bk hroom (AQ (y0::yr) K.2.2.2.1 ‹_›) t (dec 74002) [] ?_ (by kernel_rfl)
  intro cf1 x1 n1 t1 q1 p1
  refine bk hroom (yv (C9 (y0::yr)) x1 t1 (DD _)) (t1+1) [0] [] ?_ (by kernel_rfl)
  intro cf2 x2 n2 t2 q2 p2
  refine bk hroom (gQ (y0::yr) K.2.2.2.1 92 t2 [92,92] (t2+1) (by lia) (eH _) rfl ‹_›) (t2+1+1) (dec 74002) [] ?_ (by kernel_rfl)
  intro cf3 x3 n3 t3 q3 p3
  refine bk hroom (gQ (aI 92 [92,92] (y0::yr)) x3 34 t3 [92,34] (t3+1) (by lia) (eH _) rfl ‹_›) (t3+1+1) [0] [] ?_ (by kernel_rfl)
  intro cf4 x4 n4 t4 q4 p4
  refine bk hroom (d6 (cg Str.empty+cg (S x)) (by simp only [eF,qY,bK,dq,bd,C5,De] at *;lia)) (t4+1) [1,0,1] [] ?_ (by kernel_rfl)
  intro cf5 x5 n5 t5 q5 p5
  refine bk hroom (d6 (cg (dv Str.empty (S x))+cg (PySem.Str.ofString "=\"")) (by simp only [eF,qY,bK,dq,bd,C5,De] at *;lia)) (t5+1) [] [] ?_ (by kernel_rfl)
  intro cf6 x6 n6 t6 q6 p6
  refine bk hroom (d6 (cg (dv (dv Str.empty (S x)) (PySem.Str.ofString "=\""))+cg (S (aI 34 [92,34] (aI 92 [92,92] (y0::yr))))) (by simp only [eF,qY,bK,dq,bd,C5,De] at *;lia)) t6 [1] [] ?_ (by kernel_rfl)
  intro cf7 x7 n7 t7 q7 p7
  refine bk hroom (d6 (cg (dv (dv (dv Str.empty (S x)) (PySem.Str.ofString "=\"")) (S (aI 34 [92,34] (aI 92 [92,92] (y0::yr)))))+cg (PySem.Str.ofString "\"")) (by simp only [eF,qY,bK,dq,bd,C5,De] at *;lia)) (t7+1) [] [] ?_ (by kernel_rfl)
  intro cf8 x8 n8 t8 q8 p8
  refine bk hroom (d6 (cg (dv (dv (dv (dv Str.empty (S x)) (PySem.Str.ofString "=\"")) (S (aI 34 [92,34] (aI 92 [92,92] (y0::yr))))) (PySem.Str.ofString "\""))) (by simp only [eF,qY,bK,dq,bd,C5,De] at *;lia)) t8 [] [] ?_ (by kernel_rfl)
  intro cf9 x9 n9 t9 q9 p9
  exists ar,(t9,.mk (.type "frame") none (.dict ⟨[.mk (pd (Z.bits3 DT) [112,97,114,97,109]) (.str (S [112,97,114,97,109]) K.1) (.str (S x) K.2.1),.mk (pd (Z.bits3 DT) [118,97,108,117,101]) (.str (S [118,97,108,117,101]) K.2.2.1) (.str (S (aI 34 [92,34] (aI 92 [92,92] (y0::yr)))) x4),.mk (pd (Z.bits3 DT) [113,117,111,116,101]) (.str (S [113,117,111,116,101]) K.2.2.2.2.1) (.int 1 K.2.2.2.2.2)]⟩ e) #[]),0,1
 ·skip
  refine bk hroom (AQ (y0::yr) K.2.2.2.1 ‹_›) t (dec 74002) [] ?_ (by kernel_rfl)
  intro cf10 x1 n1 t1 q1 p1
  refine bk hroom (yv (C9 (y0::yr)) x1 t1 (DD _)) (t1+1) [0] [] ?_ (by kernel_rfl)
  intro cf11 x2 n2 t2 q2 p2
  refine bk hroom (gQ (y0::yr) K.2.2.2.1 92 t2 [92,92] (t2+1) (by lia) (eH _) rfl ‹_›) (t2+1+1) (dec 74002) [] ?_ (by kernel_rfl)
  intro cf12 x3 n3 t3 q3 p3
  refine bk hroom (gQ (aI 92 [92,92] (y0::yr)) x3 34 t3 [92,34] (t3+1) (by lia) (eH _) rfl ‹_›) (t3+1+1) [0] [] ?_ (by kernel_rfl)
  intro cf13 x4 n4 t4 q4 p4
  refine bk hroom (d6 (cg (S x)) (by simp only [eF,qY,bK,dq,bd,C5,De] at *;exact lB ‹_› rfl)) (t4+1) [1,0,1] [] ?_ (by kernel_rfl)
  intro cf14 x5 n5 t5 q5 p5
  refine bk hroom (d6 (cg (S x)) (by simp only [eF,qY,bK,dq,bd,C5,De] at *;exact lB ‹_› rfl)) (t5+1) [] [] ?_ (by kernel_rfl)
  intro cf15 x6 n6 t6 q6 p6
  refine bk hroom (d6 (cg Str.empty+cg (S x)) (by simp only [eF,qY,bK,dq,bd,C5,De] at *;lia)) (t6+1) [] [] ?_ (by kernel_rfl)
  intro cf16 x7 n7 t7 q7 p7
  refine bk hroom (d6 (cg (dv Str.empty (S x))+cg (PySem.Str.ofString "=\"")) (by simp only [eF,qY,bK,dq,bd,C5,De] at *;lia)) (t7+1) [] [] ?_ (by kernel_rfl)
  intro cf17 x8 n8 t8 q8 p8
  refine bk hroom (d6 (cg (S (aI 34 [92,34] (aI 92 [92,92] (y0::yr))))) (by simp only [eF,qY,bK,dq,bd,C5,De] at *;exact lB ‹_› rfl)) t8 [1] [] ?_ (by kernel_rfl)
  intro cf18 x9 n9 t9 q9 p9
  refine bk hroom (d6 (cg (S (aI 34 [92,34] (aI 92 [92,92] (y0::yr))))) (by simp only [eF,qY,bK,dq,bd,C5,De] at *;exact lB ‹_› rfl)) (t9+1) [] [] ?_ (by kernel_rfl)
  intro cf19 x10 n10 t10 q10 p10
  refine bk hroom (d6 (cg (dv (dv Str.empty (S x)) (PySem.Str.ofString "=\""))+cg (S (aI 34 [92,34] (aI 92 [92,92] (y0::yr))))) (by simp only [eF,qY,bK,dq,bd,C5,De] at *;lia)) (t10+1) [] [] ?_ (by kernel_rfl)
  intro cf20 x11 n11 t11 q11 p11
  refine bk hroom (d6 (cg (dv (dv (dv Str.empty (S x)) (PySem.Str.ofString "=\"")) (S (aI 34 [92,34] (aI 92 [92,92] (y0::yr)))))+cg (PySem.Str.ofString "\"")) (by simp only [eF,qY,bK,dq,bd,C5,De] at *;lia)) (t11+1) [] [] ?_ (by kernel_rfl)
  intro cf21 x12 n12 t12 q12 p12
  refine bk hroom (d6 (cg (dv (dv (dv (dv Str.empty (S x)) (PySem.Str.ofString "=\"")) (S (aI 34 [92,34] (aI 92 [92,92] (y0::yr))))) (PySem.Str.ofString "\""))) (by simp only [eF,qY,bK,dq,bd,C5,De] at *;lia)) t12 [] [] ?_ (by kernel_rfl)
  intro cf22 x13 n13 t13 q13 p13
  exists ar,(t13,.mk (.type "frame") none (.dict ⟨[.mk (pd (Z.bits3 En) [112,97,114,97,109]) (.str (S [112,97,114,97,109]) K.1) (.str (S x) K.2.1),.mk (pd (Z.bits3 En) [118,97,108,117,101]) (.str (S [118,97,108,117,101]) K.2.2.1) (.str (S (aI 34 [92,34] (aI 92 [92,92] (y0::yr)))) x4),.mk (pd (Z.bits3 En) [113,117,111,116,101]) (.str (S [113,117,111,116,101]) K.2.2.2.2.1) (.int 1 K.2.2.2.2.2)]⟩ e) #[]),0,1
theorem qB (x:List Nat) (y0:Nat) (yr:List Nat) (tx ty:Tok) (hx:x.length≤1000) (hy:(y0::yr).length≤1000):
  af Z 6 (.o (.call (.ref 227) ⟨[.str (S x) tx,.str (S (y0::yr)) ty],[]⟩)) [] (X:=Tok) (λξ=>True) (λt=>.ok (.ret (.str (S (((x++[61,34])++hO (y0::yr))++[34])) t))) (λξ=>[]) (λξ=>[]):=by
 exists 1,af.of_defB
 exists 1,cy,(wz n ((t,tx,t+1,ty,t+1+1,625)) x y0 yr (0+1+1+1) ‹_› ‹_›).up rfl,4598141457,1
 exists ar,x1.1,0,0
section
theorem aR:∀Z:List (List Nat),ap [] Z=Z.flatten
 | []=>rfl
 | [a]=>by simp [ap]
 | a::b::r=>by
  have ih:=aR (b::r)
  show a++[]++ap [] (b::r)=_
  rw [ih];simp
theorem bD {F:Fx} {k:Nat} (it l:C1) (cls:CX) (dd:Option C1) (sl:Array (Option CX)) (a b:CX) (e:Nat):
  af F k (.b 36058839055461744822429329989390181918337346850548333 ⟨[.ref it],[]⟩) [(it,aS l 2),(l,⟨cls,dd,.seq ⟨[a,b]⟩ e,sl⟩)] (X:=C1×C1) (λξ=>True) (λx=>.error (.ref x.2))
   (λξ=>[eS 2,⟨cls,dd,.seq ⟨[a,b]⟩ e,sl⟩]) (λx=>[(x.1,⟨.type "tuple",none,.seq ⟨[]⟩ 0,#[]⟩),(x.2,bx x.1)]):=
 bQ it l 2 cls dd sl [a,b] e (Dh 2)
theorem cD:∀x:List Nat,((ay x).map C9).sum=x.length
 | []=>rfl
 | c::r=>by
  have ih:=cD r
  unfold ay at ih ⊢
  simp only [Dd,Dd,DC,ih]
  have:(cx c).length=1:=by unfold cx;split <;> rfl
  simp only [this,C5];lia
theorem fN:∀x:List Nat,((bg x).map C9).sum≤2 * x.length
 | []=>Dh _
 | c::r=>by
  have ih:=fN r
  unfold bg at ih ⊢
  simp only [Dd,Dd,DC]
  have:(cv c).length≤2:=by
   unfold cv;split
   ·exact Dh 2
   ·exact E6 1
  simp only [C5];lia
noncomputable abbrev nO:List Nat:=[111,119,110]
noncomputable abbrev dE:List Nat:=[112,97,114,97,109,115]
noncomputable abbrev rL:List Nat:=[109,97,114,107,101,100]
noncomputable abbrev Lk:=Tok×Tok×Tok×Tok
noncomputable abbrev nR (F:Fx) (K:Lk) (o:List Nat) (pa:C1) (tx:List Nat) (tt:Tok) (e:Nat):Obj:=
 bY [en F nO K.1 (.str (S o) K.2.1),en F dE K.2.2.1 (.ref pa),en F jk K.2.2.2 (.str (S tx) tt)] e
noncomputable abbrev j3 (F:Fx) (K:Lk) (o:List Nat) (pa:C1) (tx:List Nat) (tt:Tok) (kn:Tok) (vn:CX) (kv:Tok) (vv:CX) (e:Nat):Obj:=
 bY [en F nO K.1 (.str (S o) K.2.1),en F dE K.2.2.1 (.ref pa),en F jk K.2.2.2 (.str (S tx) tt),en F ji kn vn,en F cN kv vv] e
noncomputable abbrev jv (F:Fx) (K:Lk) (o:List Nat) (pa:C1) (tx:List Nat) (tt:Tok) (kn:Tok) (vn:CX) (kv:Tok) (vv:CX) (km:Tok) (vm:CX) (e:Nat):Obj:=
 bY [en F nO K.1 (.str (S o) K.2.1),en F dE K.2.2.1 (.ref pa),en F jk K.2.2.2 (.str (S tx) tt),en F ji kn vn,en F cN kv vv,en F rL km vm] e
noncomputable abbrev Xw:=List Dj×Nat×List Nat×Tok×Obj
noncomputable abbrev jf (F:Fx) (L it:C1):CV:=.o (hH (fH F 381 L) (.ref it) (gF F 381 [1]))
noncomputable abbrev kF (F:Fx) (K:Lk) (o:List Nat) (pa:C1) (xs:List CX) (ex:Nat) (y:Xw):List Obj:=
 [bY (en F nO K.1 (.str (S o) K.2.1)::en F dE K.2.2.1 (.ref pa)::en F jk K.2.2.2 (.str (S y.2.2.1) y.2.2.2.1)::y.1) y.2.1,y.2.2.2.2,aa xs ex]
section
variable (L it pa:C1) (K:Lk) (o:List Nat) (xs:List CX) (ex:Nat) (tx:List Nat) (tt:Tok)
theorem xB (i:Nat) (hv:xs.length≤i) (ef:Nat):
  af Z 8 (jf Z L it) [(L,nR Z K o pa tx tt ef),(it,aS pa i),(pa,aa xs ex)]
   (X:=Xw) (λy=>y.2.2.1=tx) (λξ=>.ok .next) (kF Z K o pa xs ex) (λξ=>[]):=by
 have S1:af Z 8 (jf Z L it) [(L,nR Z K o pa tx tt ef),(it,aS pa i),(pa,aa xs ex)]
   (X:=Nat×Obj) (λξ=>True) (λξ=>.ok .next) (λy=>[nR Z K o pa tx tt y.1,y.2,aa xs ex]) (λξ=>[]):=by
  exists 0,af.of_codeB
  exists 1,iX it pa i xs ex ‹_›,787,34
  exists ar,(ef,eS i),21,277
 exact af.to S1 (λy=>([],y.1,tx,tt,y.2)) λy ξ=>⟨rfl,rfl,rfl,rfl⟩
theorem tL (ef:Nat) (i:Nat) (p:C1) (ep:Nat) (n0:Nat) (nr:List Nat) (tn:Tok) (hi:xs[i]?=some (.ref p)) (htx:tx.length≤1000000) (hna:∀c∈n0::nr,c < 128) (hnl:(n0::nr).length≤1000) (M:ao) (P:Xw→Prop)
  (ih:∀(kn kv tt':Tok) (ef:Nat),ae Z 8 (jf Z L it) ([(L,j3 Z K o pa ((tx++[59,32])++ap [] (ay (n0::nr))) tt' kn (.str (S (n0::nr)) tn) kv (.none) ef),(it,aS pa (i+1)),(pa,aa xs ex)]++[(p,aa [.str (S (n0::nr)) tn,.none] ep)]) M P (λξ=>.ok .next) (λy=>kF Z K o pa xs ex y++[aa [.str (S (n0::nr)) tn,.none] ep]) (λξ=>[])):
  ae Z 8 (jf Z L it) ([(L,nR Z K o pa tx tt ef),(it,aS pa i),(pa,aa xs ex)]++[(p,aa [.str (S (n0::nr)) tn,.none] ep)]) M P (λξ=>.ok .next) (λy=>kF Z K o pa xs ex y++[aa [.str (S (n0::nr)) tn,.none] ep]) (λξ=>[]):=by
 have hs:=ab
 have hd:=cD (n0::nr)
 have hjl:(ap [] (ay (n0::nr))).length=(n0::nr).length:=by simp only [aR,DJ,hd]
 have f1:tx.length+[59,32].length≤CZ:=by show tx.length+2≤_;lia
 have f2:(tx++[59,32]).length+(ap [] (ay (n0::nr))).length≤CZ:=by simp only [CY,hjl];show tx.length+2+_≤_;lia
 have f3:((ay (n0::nr)).map C9).sum+(ay (n0::nr)).length * ([]:List Nat).length≤CZ:=by simp only [hd];show _+_ * 0≤_;lia
 have f4:(n0::nr).length≤1000000:=by exact lB ‹_› rfl
 clear hd
 exists 0,ae.of_codeB
 exists 1,bb it pa i xs ex (.ref p) hi,787,34
 exists 2,bb n1 p 0 [.str (S (n0::nr)) tn,.none] ep _ rfl,0x61661515552,69
 exists 3,bb n1 p 1 [.str (S (n0::nr)) tn,.none] ep _ rfl,530,17
 exists 4,bD n1 p (.type "list") none #[] (.str (S (n0::nr)) tn) (.none) ep,530,17
 exists 5,ak tx tt [59,32] (t4+1+1) ‹_›,25659269,0
 exists 6,cj (n0::nr) tn ‹_›,24,0
 exists 7,(fm L (n6+1) x6 n6 tn n0 nr ‹_› 0 0).up rfl,555819538,2074
 exists 8,aV [] t5 n6 x7.2.2.2.2.2.2 (ay (n0::nr)) p7 x7.2.2.2.2.2.1 ‹_›,4386,3
 exists 9,ak (tx++[59,32]) x5 (ap [] (ay (n0::nr))) x8 ‹_›,1,0
 exists 10,aW,ih t4 (t4+1) x9 (ef+1+1),2987,22666
 exists ar,(x10.1,x10.2.1,x10.2.2.1,x10.2.2.2.1,x10.2.2.2.2),0,4369
theorem rQ (ef:Nat) (i:Nat) (p:C1) (ep:Nat) (n0:Nat) (nr:List Nat) (tn:Tok) (tv:Tok) (hi:xs[i]?=some (.ref p)) (htx:tx.length≤1000000) (hna:∀c∈n0::nr,c < 128) (hnl:(n0::nr).length≤1000) (M:ao) (P:Xw→Prop)
  (ih:∀(kn kv tt':Tok) (ef:Nat),ae Z 8 (jf Z L it) ([(L,j3 Z K o pa ((tx++[59,32])++ap [] (ay (n0::nr))) tt' kn (.str (S (n0::nr)) tn) kv (.str (S []) tv) ef),(it,aS pa (i+1)),(pa,aa xs ex)]++[(p,aa [.str (S (n0::nr)) tn,.str (S []) tv] ep)]) M P (λξ=>.ok .next) (λy=>kF Z K o pa xs ex y++[aa [.str (S (n0::nr)) tn,.str (S []) tv] ep]) (λξ=>[])):
  ae Z 8 (jf Z L it) ([(L,nR Z K o pa tx tt ef),(it,aS pa i),(pa,aa xs ex)]++[(p,aa [.str (S (n0::nr)) tn,.str (S []) tv] ep)]) M P (λξ=>.ok .next) (λy=>kF Z K o pa xs ex y++[aa [.str (S (n0::nr)) tn,.str (S []) tv] ep]) (λξ=>[]):=by
 have hs:=ab
 have hd:=cD (n0::nr)
 have hjl:(ap [] (ay (n0::nr))).length=(n0::nr).length:=by simp only [aR,DJ,hd]
 have f1:tx.length+[59,32].length≤CZ:=by show tx.length+2≤_;lia
 have f2:(tx++[59,32]).length+(ap [] (ay (n0::nr))).length≤CZ:=by simp only [CY,hjl];show tx.length+2+_≤_;lia
 have f3:((ay (n0::nr)).map C9).sum+(ay (n0::nr)).length * ([]:List Nat).length≤CZ:=by simp only [hd];show _+_ * 0≤_;lia
 have f4:(n0::nr).length≤1000000:=by exact lB ‹_› rfl
 have hne:(([]:List Nat) != [])=false:=rfl
 clear hd
 exists 0,ae.of_codeB
 exists 1,bb it pa i xs ex (.ref p) hi,787,34
 exists 2,bb n1 p 0 [.str (S (n0::nr)) tn,.str (S []) tv] ep _ rfl,0x61661515552,69
 exists 3,bb n1 p 1 [.str (S (n0::nr)) tn,.str (S []) tv] ep _ rfl,530,17
 exists 4,bD n1 p (.type "list") none #[] (.str (S (n0::nr)) tn) (.str (S []) tv) ep,530,17
 exists 5,ak tx tt [59,32] (t4+1+1) ‹_›,25659269,0
 exists 6,cj (n0::nr) tn ‹_›,24,0
 exists 7,(fm L (n6+1) x6 n6 tn n0 nr ‹_› 0 0).up rfl,555819538,2074
 exists 8,aV [] t5 n6 x7.2.2.2.2.2.2 (ay (n0::nr)) p7 x7.2.2.2.2.2.1 ‹_›,4386,3
 exists 9,ak (tx++[59,32]) x5 (ap [] (ay (n0::nr))) x8 ‹_›,1,0
 exists 10,bv [] tv [] (t9+1) _ hne,113579,0
 exists 11,aW,ih t4 (t4+1) x9 (ef+1+1),0,22666
 exists ar,(x11.1,x11.2.1,x11.2.2.1,x11.2.2.2.1,x11.2.2.2.2),0,4369
theorem ug (ef:Nat) (i:Nat) (p:C1) (ep:Nat) (n0:Nat) (nr:List Nat) (tn:Tok) (tv:Tok) (v0:Nat) (vr:List Nat) (hi:xs[i]?=some (.ref p)) (htx:tx.length≤1000000) (hna:∀c∈n0::nr,c < 128) (hnl:(n0::nr).length≤1000) (hva:∀c∈v0::vr,c < 128) (hvl:(v0::vr).length≤1000) (M:ao) (P:Xw→Prop)
  (ih:∀(kn kv tt' km:Tok) (vm:CX) (ef:Nat),ae Z 8 (jf Z L it) ([(L,jv Z K o pa (((((tx++[59,32])++ap [] (ay (n0::nr)))++[61,34])++ap [] (bg (v0::vr)))++[34]) tt' kn (.str (S (n0::nr)) tn) kv (.str (S (v0::vr)) tv) km vm ef),(it,aS pa (i+1)),(pa,aa xs ex)]++[(p,aa [.str (S (n0::nr)) tn,.str (S (v0::vr)) tv] ep)]) M P (λξ=>.ok .next) (λy=>kF Z K o pa xs ex y++[aa [.str (S (n0::nr)) tn,.str (S (v0::vr)) tv] ep]) (λξ=>[])):
  ae Z 8 (jf Z L it) ([(L,nR Z K o pa tx tt ef),(it,aS pa i),(pa,aa xs ex)]++[(p,aa [.str (S (n0::nr)) tn,.str (S (v0::vr)) tv] ep)]) M P (λξ=>.ok .next) (λy=>kF Z K o pa xs ex y++[aa [.str (S (n0::nr)) tn,.str (S (v0::vr)) tv] ep]) (λξ=>[]):=by
 have hs:=ab
 have hd:=cD (n0::nr)
 have f4:(n0::nr).length≤1000000:=by exact lB ‹_› rfl
 have hjl:(ap [] (ay (n0::nr))).length=(n0::nr).length:=by simp only [aR,DJ,hd]
 have f1:tx.length+[59,32].length≤CZ:=by show tx.length+2≤_;lia
 have g5:(v0::vr).length≤1000000:=by exact lB ‹_› rfl
 have f2:(tx++[59,32]).length+(ap [] (ay (n0::nr))).length≤CZ:=by simp only [CY,hjl];show tx.length+2+_≤_;lia
 have f3:((ay (n0::nr)).map C9).sum+(ay (n0::nr)).length * ([]:List Nat).length≤CZ:=by simp only [hd];show _+_ * 0≤_;lia
 have hm:=fN (v0::vr)
 have hml:(ap [] (bg (v0::vr))).length≤2 * (v0::vr).length:=by simp only [aR,DJ];exact hm
 have g1:((tx++[59,32])++ap [] (ay (n0::nr))).length+[61,34].length≤CZ:=by simp only [CY,CY,hjl];show tx.length+2+_+2≤_;lia
 have g2:(((tx++[59,32])++ap [] (ay (n0::nr)))++[61,34]).length+(ap [] (bg (v0::vr))).length≤CZ:=by simp only [CY,CY,CY,hjl];show tx.length+2+_+2+_≤_;lia
 have g3:((bg (v0::vr)).map C9).sum+(bg (v0::vr)).length * ([]:List Nat).length≤CZ:=by show _+_ * 0≤_;lia
 have g4:((((tx++[59,32])++ap [] (ay (n0::nr)))++[61,34])++ap [] (bg (v0::vr))).length+[34].length≤CZ:=by simp only [CY,CY,CY,CY,hjl];show tx.length+2+_+2+_+1≤_;lia
 have hne:((v0::vr) != [])=true:=rfl
 clear hm
 clear hd
 exists 0,ae.of_codeB
 exists 1,bb it pa i xs ex (.ref p) hi,787,34
 exists 2,bb n1 p 0 [.str (S (n0::nr)) tn,.str (S (v0::vr)) tv] ep _ rfl,0x61661515552,69
 exists 3,bb n1 p 1 [.str (S (n0::nr)) tn,.str (S (v0::vr)) tv] ep _ rfl,530,17
 exists 4,bD n1 p (.type "list") none #[] (.str (S (n0::nr)) tn) (.str (S (v0::vr)) tv) ep,530,17
 exists 5,ak tx tt [59,32] (t4+1+1) ‹_›,25659269,0
 exists 6,cj (n0::nr) tn ‹_›,24,0
 exists 7,(fm L (n6+1) x6 n6 tn n0 nr ‹_› 0 0).up rfl,555819538,2074
 exists 8,aV [] t5 n6 x7.2.2.2.2.2.2 (ay (n0::nr)) p7 x7.2.2.2.2.2.1 ‹_›,4386,3
 exists 9,ak (tx++[59,32]) x5 (ap [] (ay (n0::nr))) x8 ‹_›,1,0
 exists 10,bv (v0::vr) tv [] (t9+1) _ hne,113579,0
 exists 11,cj (v0::vr) tv ‹_›,27,0
 exists 12,(pY L (n11+1) x11 n11 tv v0 vr ‹_› 0 0).up rfl,555819538,2845
 exists 13,ak (tx++[59,32]++ap [] (ay (n0::nr))) x9 [61,34] (t12+1) ‹_›,31531742,0
 exists 14,aV [] t13 n11 x12.2.2.2.2.2.2 (bg (v0::vr)) p12 x12.2.2.2.2.2.1 ‹_›,30,3
 exists 15,ak (tx++[59,32]++ap [] (ay (n0::nr))++[61,34]) x13 (ap [] (bg (v0::vr))) x14 ‹_›,1,0
 exists 16,ak (tx++[59,32]++ap [] (ay (n0::nr))++[61,34]++ap [] (bg (v0::vr))) x15 [34] t15 ‹_›,1,0
 exists 17,aW,ih t4 (t4+1) x16 t12 (.ref n11) (ef+1+1+1),222,35773
 exists ar,(x17.1,x17.2.1,x17.2.2.1,x17.2.2.2.1,x17.2.2.2.2),0,4369
theorem xF (kn:Tok) (vn:CX) (kv:Tok) (vv:CX) (i:Nat) (hv:xs.length≤i) (ef:Nat):
  af Z 8 (jf Z L it) [(L,j3 Z K o pa tx tt kn vn kv vv ef),(it,aS pa i),(pa,aa xs ex)]
   (X:=Xw) (λy=>y.2.2.1=tx) (λξ=>.ok .next) (kF Z K o pa xs ex) (λξ=>[]):=by
 have S1:af Z 8 (jf Z L it) [(L,j3 Z K o pa tx tt kn vn kv vv ef),(it,aS pa i),(pa,aa xs ex)]
   (X:=Nat×Obj) (λξ=>True) (λξ=>.ok .next) (λy=>[j3 Z K o pa tx tt kn vn kv vv y.1,y.2,aa xs ex]) (λξ=>[]):=by
  exists 0,af.of_codeB
  exists 1,iX it pa i xs ex ‹_›,787,34
  exists ar,(ef,eS i),21,277
 exact af.to S1 (λy=>([en Z ji kn vn,en Z cN kv vv],y.1,tx,tt,y.2)) λy ξ=>⟨rfl,rfl,rfl,rfl⟩
theorem u3 (kn:Tok) (vn:CX) (kv:Tok) (vv:CX) (ef:Nat) (i:Nat) (p:C1) (ep:Nat) (n0:Nat) (nr:List Nat) (tn:Tok) (hi:xs[i]?=some (.ref p)) (htx:tx.length≤1000000) (hna:∀c∈n0::nr,c < 128) (hnl:(n0::nr).length≤1000) (M:ao) (P:Xw→Prop)
  (ih:∀(kn kv tt':Tok) (ef:Nat),ae Z 8 (jf Z L it) ([(L,j3 Z K o pa ((tx++[59,32])++ap [] (ay (n0::nr))) tt' kn (.str (S (n0::nr)) tn) kv (.none) ef),(it,aS pa (i+1)),(pa,aa xs ex)]++[(p,aa [.str (S (n0::nr)) tn,.none] ep)]) M P (λξ=>.ok .next) (λy=>kF Z K o pa xs ex y++[aa [.str (S (n0::nr)) tn,.none] ep]) (λξ=>[])):
  ae Z 8 (jf Z L it) ([(L,j3 Z K o pa tx tt kn vn kv vv ef),(it,aS pa i),(pa,aa xs ex)]++[(p,aa [.str (S (n0::nr)) tn,.none] ep)]) M P (λξ=>.ok .next) (λy=>kF Z K o pa xs ex y++[aa [.str (S (n0::nr)) tn,.none] ep]) (λξ=>[]):=by
 have hs:=ab
 have hd:=cD (n0::nr)
 have hjl:(ap [] (ay (n0::nr))).length=(n0::nr).length:=by simp only [aR,DJ,hd]
 have f1:tx.length+[59,32].length≤CZ:=by show tx.length+2≤_;lia
 have f2:(tx++[59,32]).length+(ap [] (ay (n0::nr))).length≤CZ:=by simp only [CY,hjl];show tx.length+2+_≤_;lia
 have f3:((ay (n0::nr)).map C9).sum+(ay (n0::nr)).length * ([]:List Nat).length≤CZ:=by simp only [hd];show _+_ * 0≤_;lia
 have f4:(n0::nr).length≤1000000:=by exact lB ‹_› rfl
 clear hd
 exists 0,ae.of_codeB
 exists 1,bb it pa i xs ex (.ref p) hi,787,34
 exists 2,bb n1 p 0 [.str (S (n0::nr)) tn,.none] ep _ rfl,0x61661515552,69
 exists 3,bb n1 p 1 [.str (S (n0::nr)) tn,.none] ep _ rfl,530,17
 exists 4,bD n1 p (.type "list") none #[] (.str (S (n0::nr)) tn) (.none) ep,530,17
 exists 5,ak tx tt [59,32] (t4+1+1) ‹_›,25659269,0
 exists 6,cj (n0::nr) tn ‹_›,24,0
 exists 7,(fm L (n6+1) x6 n6 tn n0 nr ‹_› 0 0).up rfl,555819538,2074
 exists 8,aV [] t5 n6 x7.2.2.2.2.2.2 (ay (n0::nr)) p7 x7.2.2.2.2.2.1 ‹_›,4386,3
 exists 9,ak (tx++[59,32]) x5 (ap [] (ay (n0::nr))) x8 ‹_›,1,0
 exists 10,aW,ih kn kv x9 ef,2987,22666
 exists ar,(x10.1,x10.2.1,x10.2.2.1,x10.2.2.2.1,x10.2.2.2.2),0,4369
theorem rV (kn:Tok) (vn:CX) (kv:Tok) (vv:CX) (ef:Nat) (i:Nat) (p:C1) (ep:Nat) (n0:Nat) (nr:List Nat) (tn:Tok) (tv:Tok) (hi:xs[i]?=some (.ref p)) (htx:tx.length≤1000000) (hna:∀c∈n0::nr,c < 128) (hnl:(n0::nr).length≤1000) (M:ao) (P:Xw→Prop)
  (ih:∀(kn kv tt':Tok) (ef:Nat),ae Z 8 (jf Z L it) ([(L,j3 Z K o pa ((tx++[59,32])++ap [] (ay (n0::nr))) tt' kn (.str (S (n0::nr)) tn) kv (.str (S []) tv) ef),(it,aS pa (i+1)),(pa,aa xs ex)]++[(p,aa [.str (S (n0::nr)) tn,.str (S []) tv] ep)]) M P (λξ=>.ok .next) (λy=>kF Z K o pa xs ex y++[aa [.str (S (n0::nr)) tn,.str (S []) tv] ep]) (λξ=>[])):
  ae Z 8 (jf Z L it) ([(L,j3 Z K o pa tx tt kn vn kv vv ef),(it,aS pa i),(pa,aa xs ex)]++[(p,aa [.str (S (n0::nr)) tn,.str (S []) tv] ep)]) M P (λξ=>.ok .next) (λy=>kF Z K o pa xs ex y++[aa [.str (S (n0::nr)) tn,.str (S []) tv] ep]) (λξ=>[]):=by
 have hs:=ab
 have hd:=cD (n0::nr)
 have hjl:(ap [] (ay (n0::nr))).length=(n0::nr).length:=by simp only [aR,DJ,hd]
 have f1:tx.length+[59,32].length≤CZ:=by show tx.length+2≤_;lia
 have f2:(tx++[59,32]).length+(ap [] (ay (n0::nr))).length≤CZ:=by simp only [CY,hjl];show tx.length+2+_≤_;lia
 have f3:((ay (n0::nr)).map C9).sum+(ay (n0::nr)).length * ([]:List Nat).length≤CZ:=by simp only [hd];show _+_ * 0≤_;lia
 have f4:(n0::nr).length≤1000000:=by exact lB ‹_› rfl
 have hne:(([]:List Nat) != [])=false:=rfl
 clear hd
 exists 0,ae.of_codeB
 exists 1,bb it pa i xs ex (.ref p) hi,787,34
 exists 2,bb n1 p 0 [.str (S (n0::nr)) tn,.str (S []) tv] ep _ rfl,0x61661515552,69
 exists 3,bb n1 p 1 [.str (S (n0::nr)) tn,.str (S []) tv] ep _ rfl,530,17
 exists 4,bD n1 p (.type "list") none #[] (.str (S (n0::nr)) tn) (.str (S []) tv) ep,530,17
 exists 5,ak tx tt [59,32] (t4+1+1) ‹_›,25659269,0
 exists 6,cj (n0::nr) tn ‹_›,24,0
 exists 7,(fm L (n6+1) x6 n6 tn n0 nr ‹_› 0 0).up rfl,555819538,2074
 exists 8,aV [] t5 n6 x7.2.2.2.2.2.2 (ay (n0::nr)) p7 x7.2.2.2.2.2.1 ‹_›,4386,3
 exists 9,ak (tx++[59,32]) x5 (ap [] (ay (n0::nr))) x8 ‹_›,1,0
 exists 10,bv [] tv [] (t9+1) _ hne,113579,0
 exists 11,aW,ih kn kv x9 ef,0,22666
 exists ar,(x11.1,x11.2.1,x11.2.2.1,x11.2.2.2.1,x11.2.2.2.2),0,4369
theorem tD (kn:Tok) (vn:CX) (kv:Tok) (vv:CX) (ef:Nat) (i:Nat) (p:C1) (ep:Nat) (n0:Nat) (nr:List Nat) (tn:Tok) (tv:Tok) (v0:Nat) (vr:List Nat) (hi:xs[i]?=some (.ref p)) (htx:tx.length≤1000000) (hna:∀c∈n0::nr,c < 128) (hnl:(n0::nr).length≤1000) (hva:∀c∈v0::vr,c < 128) (hvl:(v0::vr).length≤1000) (M:ao) (P:Xw→Prop)
  (ih:∀(kn kv tt' km:Tok) (vm:CX) (ef:Nat),ae Z 8 (jf Z L it) ([(L,jv Z K o pa (((((tx++[59,32])++ap [] (ay (n0::nr)))++[61,34])++ap [] (bg (v0::vr)))++[34]) tt' kn (.str (S (n0::nr)) tn) kv (.str (S (v0::vr)) tv) km vm ef),(it,aS pa (i+1)),(pa,aa xs ex)]++[(p,aa [.str (S (n0::nr)) tn,.str (S (v0::vr)) tv] ep)]) M P (λξ=>.ok .next) (λy=>kF Z K o pa xs ex y++[aa [.str (S (n0::nr)) tn,.str (S (v0::vr)) tv] ep]) (λξ=>[])):
  ae Z 8 (jf Z L it) ([(L,j3 Z K o pa tx tt kn vn kv vv ef),(it,aS pa i),(pa,aa xs ex)]++[(p,aa [.str (S (n0::nr)) tn,.str (S (v0::vr)) tv] ep)]) M P (λξ=>.ok .next) (λy=>kF Z K o pa xs ex y++[aa [.str (S (n0::nr)) tn,.str (S (v0::vr)) tv] ep]) (λξ=>[]):=by
 have hs:=ab
 have hd:=cD (n0::nr)
 have f4:(n0::nr).length≤1000000:=by exact lB ‹_› rfl
 have hjl:(ap [] (ay (n0::nr))).length=(n0::nr).length:=by simp only [aR,DJ,hd]
 have f1:tx.length+[59,32].length≤CZ:=by show tx.length+2≤_;lia
 have g5:(v0::vr).length≤1000000:=by exact lB ‹_› rfl
 have f2:(tx++[59,32]).length+(ap [] (ay (n0::nr))).length≤CZ:=by simp only [CY,hjl];show tx.length+2+_≤_;lia
 have f3:((ay (n0::nr)).map C9).sum+(ay (n0::nr)).length * ([]:List Nat).length≤CZ:=by simp only [hd];show _+_ * 0≤_;lia
 have hm:=fN (v0::vr)
 have hml:(ap [] (bg (v0::vr))).length≤2 * (v0::vr).length:=by simp only [aR,DJ];exact hm
 have g1:((tx++[59,32])++ap [] (ay (n0::nr))).length+[61,34].length≤CZ:=by simp only [CY,CY,hjl];show tx.length+2+_+2≤_;lia
 have g2:(((tx++[59,32])++ap [] (ay (n0::nr)))++[61,34]).length+(ap [] (bg (v0::vr))).length≤CZ:=by simp only [CY,CY,CY,hjl];show tx.length+2+_+2+_≤_;lia
 have g3:((bg (v0::vr)).map C9).sum+(bg (v0::vr)).length * ([]:List Nat).length≤CZ:=by show _+_ * 0≤_;lia
 have g4:((((tx++[59,32])++ap [] (ay (n0::nr)))++[61,34])++ap [] (bg (v0::vr))).length+[34].length≤CZ:=by simp only [CY,CY,CY,CY,hjl];show tx.length+2+_+2+_+1≤_;lia
 have hne:((v0::vr) != [])=true:=rfl
 clear hm
 clear hd
 exists 0,ae.of_codeB
 exists 1,bb it pa i xs ex (.ref p) hi,787,34
 exists 2,bb n1 p 0 [.str (S (n0::nr)) tn,.str (S (v0::vr)) tv] ep _ rfl,0x61661515552,69
 exists 3,bb n1 p 1 [.str (S (n0::nr)) tn,.str (S (v0::vr)) tv] ep _ rfl,530,17
 exists 4,bD n1 p (.type "list") none #[] (.str (S (n0::nr)) tn) (.str (S (v0::vr)) tv) ep,530,17
 exists 5,ak tx tt [59,32] (t4+1+1) ‹_›,25659269,0
 exists 6,cj (n0::nr) tn ‹_›,24,0
 exists 7,(fm L (n6+1) x6 n6 tn n0 nr ‹_› 0 0).up rfl,555819538,2074
 exists 8,aV [] t5 n6 x7.2.2.2.2.2.2 (ay (n0::nr)) p7 x7.2.2.2.2.2.1 ‹_›,4386,3
 exists 9,ak (tx++[59,32]) x5 (ap [] (ay (n0::nr))) x8 ‹_›,1,0
 exists 10,bv (v0::vr) tv [] (t9+1) _ hne,113579,0
 exists 11,cj (v0::vr) tv ‹_›,27,0
 exists 12,(pY L (n11+1) x11 n11 tv v0 vr ‹_› 0 0).up rfl,555819538,2845
 exists 13,ak (tx++[59,32]++ap [] (ay (n0::nr))) x9 [61,34] (t12+1) ‹_›,31531742,0
 exists 14,aV [] t13 n11 x12.2.2.2.2.2.2 (bg (v0::vr)) p12 x12.2.2.2.2.2.1 ‹_›,30,3
 exists 15,ak (tx++[59,32]++ap [] (ay (n0::nr))++[61,34]) x13 (ap [] (bg (v0::vr))) x14 ‹_›,1,0
 exists 16,ak (tx++[59,32]++ap [] (ay (n0::nr))++[61,34]++ap [] (bg (v0::vr))) x15 [34] t15 ‹_›,1,0
 exists 17,aW,ih kn kv x16 t12 (.ref n11) (ef+1),222,35773
 exists ar,(x17.1,x17.2.1,x17.2.2.1,x17.2.2.2.1,x17.2.2.2.2),0,4369
theorem yg (kn:Tok) (vn:CX) (kv:Tok) (vv:CX) (km:Tok) (vm:CX) (i:Nat) (hv:xs.length≤i) (ef:Nat):
  af Z 8 (jf Z L it) [(L,jv Z K o pa tx tt kn vn kv vv km vm ef),(it,aS pa i),(pa,aa xs ex)]
   (X:=Xw) (λy=>y.2.2.1=tx) (λξ=>.ok .next) (kF Z K o pa xs ex) (λξ=>[]):=by
 have S1:af Z 8 (jf Z L it) [(L,jv Z K o pa tx tt kn vn kv vv km vm ef),(it,aS pa i),(pa,aa xs ex)]
   (X:=Nat×Obj) (λξ=>True) (λξ=>.ok .next) (λy=>[jv Z K o pa tx tt kn vn kv vv km vm y.1,y.2,aa xs ex]) (λξ=>[]):=by
  exists 0,af.of_codeB
  exists 1,iX it pa i xs ex ‹_›,787,34
  exists ar,(ef,eS i),21,277
 exact af.to S1 (λy=>([en Z ji kn vn,en Z cN kv vv,en Z rL km vm],y.1,tx,tt,y.2)) λy ξ=>⟨rfl,rfl,rfl,rfl⟩
theorem tZ (kn:Tok) (vn:CX) (kv:Tok) (vv:CX) (km:Tok) (vm:CX) (ef:Nat) (i:Nat) (p:C1) (ep:Nat) (n0:Nat) (nr:List Nat) (tn:Tok) (hi:xs[i]?=some (.ref p)) (htx:tx.length≤1000000) (hna:∀c∈n0::nr,c < 128) (hnl:(n0::nr).length≤1000) (M:ao) (P:Xw→Prop)
  (ih:∀(kn kv tt' km:Tok) (vm:CX) (ef:Nat),ae Z 8 (jf Z L it) ([(L,jv Z K o pa ((tx++[59,32])++ap [] (ay (n0::nr))) tt' kn (.str (S (n0::nr)) tn) kv (.none) km vm ef),(it,aS pa (i+1)),(pa,aa xs ex)]++[(p,aa [.str (S (n0::nr)) tn,.none] ep)]) M P (λξ=>.ok .next) (λy=>kF Z K o pa xs ex y++[aa [.str (S (n0::nr)) tn,.none] ep]) (λξ=>[])):
  ae Z 8 (jf Z L it) ([(L,jv Z K o pa tx tt kn vn kv vv km vm ef),(it,aS pa i),(pa,aa xs ex)]++[(p,aa [.str (S (n0::nr)) tn,.none] ep)]) M P (λξ=>.ok .next) (λy=>kF Z K o pa xs ex y++[aa [.str (S (n0::nr)) tn,.none] ep]) (λξ=>[]):=by
 have hs:=ab
 have hd:=cD (n0::nr)
 have hjl:(ap [] (ay (n0::nr))).length=(n0::nr).length:=by simp only [aR,DJ,hd]
 have f1:tx.length+[59,32].length≤CZ:=by show tx.length+2≤_;lia
 have f2:(tx++[59,32]).length+(ap [] (ay (n0::nr))).length≤CZ:=by simp only [CY,hjl];show tx.length+2+_≤_;lia
 have f3:((ay (n0::nr)).map C9).sum+(ay (n0::nr)).length * ([]:List Nat).length≤CZ:=by simp only [hd];show _+_ * 0≤_;lia
 have f4:(n0::nr).length≤1000000:=by exact lB ‹_› rfl
 clear hd
 exists 0,ae.of_codeB
 exists 1,bb it pa i xs ex (.ref p) hi,787,34
 exists 2,bb n1 p 0 [.str (S (n0::nr)) tn,.none] ep _ rfl,0x61661515552,69
 exists 3,bb n1 p 1 [.str (S (n0::nr)) tn,.none] ep _ rfl,530,17
 exists 4,bD n1 p (.type "list") none #[] (.str (S (n0::nr)) tn) (.none) ep,530,17
 exists 5,ak tx tt [59,32] (t4+1+1) ‹_›,25659269,0
 exists 6,cj (n0::nr) tn ‹_›,24,0
 exists 7,(fm L (n6+1) x6 n6 tn n0 nr ‹_› 0 0).up rfl,555819538,2074
 exists 8,aV [] t5 n6 x7.2.2.2.2.2.2 (ay (n0::nr)) p7 x7.2.2.2.2.2.1 ‹_›,4386,3
 exists 9,ak (tx++[59,32]) x5 (ap [] (ay (n0::nr))) x8 ‹_›,1,0
 exists 10,aW,ih kn kv x9 km vm ef,2987,22666
 exists ar,(x10.1,x10.2.1,x10.2.2.1,x10.2.2.2.1,x10.2.2.2.2),0,4369
theorem tA (kn:Tok) (vn:CX) (kv:Tok) (vv:CX) (km:Tok) (vm:CX) (ef:Nat) (i:Nat) (p:C1) (ep:Nat) (n0:Nat) (nr:List Nat) (tn:Tok) (tv:Tok) (hi:xs[i]?=some (.ref p)) (htx:tx.length≤1000000) (hna:∀c∈n0::nr,c < 128) (hnl:(n0::nr).length≤1000) (M:ao) (P:Xw→Prop)
  (ih:∀(kn kv tt' km:Tok) (vm:CX) (ef:Nat),ae Z 8 (jf Z L it) ([(L,jv Z K o pa ((tx++[59,32])++ap [] (ay (n0::nr))) tt' kn (.str (S (n0::nr)) tn) kv (.str (S []) tv) km vm ef),(it,aS pa (i+1)),(pa,aa xs ex)]++[(p,aa [.str (S (n0::nr)) tn,.str (S []) tv] ep)]) M P (λξ=>.ok .next) (λy=>kF Z K o pa xs ex y++[aa [.str (S (n0::nr)) tn,.str (S []) tv] ep]) (λξ=>[])):
  ae Z 8 (jf Z L it) ([(L,jv Z K o pa tx tt kn vn kv vv km vm ef),(it,aS pa i),(pa,aa xs ex)]++[(p,aa [.str (S (n0::nr)) tn,.str (S []) tv] ep)]) M P (λξ=>.ok .next) (λy=>kF Z K o pa xs ex y++[aa [.str (S (n0::nr)) tn,.str (S []) tv] ep]) (λξ=>[]):=by
 have hs:=ab
 have hd:=cD (n0::nr)
 have hjl:(ap [] (ay (n0::nr))).length=(n0::nr).length:=by simp only [aR,DJ,hd]
 have f1:tx.length+[59,32].length≤CZ:=by show tx.length+2≤_;lia
 have f2:(tx++[59,32]).length+(ap [] (ay (n0::nr))).length≤CZ:=by simp only [CY,hjl];show tx.length+2+_≤_;lia
 have f3:((ay (n0::nr)).map C9).sum+(ay (n0::nr)).length * ([]:List Nat).length≤CZ:=by simp only [hd];show _+_ * 0≤_;lia
 have f4:(n0::nr).length≤1000000:=by exact lB ‹_› rfl
 have hne:(([]:List Nat) != [])=false:=rfl
 clear hd
 exists 0,ae.of_codeB
 exists 1,bb it pa i xs ex (.ref p) hi,787,34
 exists 2,bb n1 p 0 [.str (S (n0::nr)) tn,.str (S []) tv] ep _ rfl,0x61661515552,69
 exists 3,bb n1 p 1 [.str (S (n0::nr)) tn,.str (S []) tv] ep _ rfl,530,17
 exists 4,bD n1 p (.type "list") none #[] (.str (S (n0::nr)) tn) (.str (S []) tv) ep,530,17
 exists 5,ak tx tt [59,32] (t4+1+1) ‹_›,25659269,0
 exists 6,cj (n0::nr) tn ‹_›,24,0
 exists 7,(fm L (n6+1) x6 n6 tn n0 nr ‹_› 0 0).up rfl,555819538,2074
 exists 8,aV [] t5 n6 x7.2.2.2.2.2.2 (ay (n0::nr)) p7 x7.2.2.2.2.2.1 ‹_›,4386,3
 exists 9,ak (tx++[59,32]) x5 (ap [] (ay (n0::nr))) x8 ‹_›,1,0
 exists 10,bv [] tv [] (t9+1) _ hne,113579,0
 exists 11,aW,ih kn kv x9 km vm ef,0,22666
 exists ar,(x11.1,x11.2.1,x11.2.2.1,x11.2.2.2.1,x11.2.2.2.2),0,4369
theorem tP (kn:Tok) (vn:CX) (kv:Tok) (vv:CX) (km:Tok) (vm:CX) (ef:Nat) (i:Nat) (p:C1) (ep:Nat) (n0:Nat) (nr:List Nat) (tn:Tok) (tv:Tok) (v0:Nat) (vr:List Nat) (hi:xs[i]?=some (.ref p)) (htx:tx.length≤1000000) (hna:∀c∈n0::nr,c < 128) (hnl:(n0::nr).length≤1000) (hva:∀c∈v0::vr,c < 128) (hvl:(v0::vr).length≤1000) (M:ao) (P:Xw→Prop)
  (ih:∀(kn kv tt' km:Tok) (vm:CX) (ef:Nat),ae Z 8 (jf Z L it) ([(L,jv Z K o pa (((((tx++[59,32])++ap [] (ay (n0::nr)))++[61,34])++ap [] (bg (v0::vr)))++[34]) tt' kn (.str (S (n0::nr)) tn) kv (.str (S (v0::vr)) tv) km vm ef),(it,aS pa (i+1)),(pa,aa xs ex)]++[(p,aa [.str (S (n0::nr)) tn,.str (S (v0::vr)) tv] ep)]) M P (λξ=>.ok .next) (λy=>kF Z K o pa xs ex y++[aa [.str (S (n0::nr)) tn,.str (S (v0::vr)) tv] ep]) (λξ=>[])):
  ae Z 8 (jf Z L it) ([(L,jv Z K o pa tx tt kn vn kv vv km vm ef),(it,aS pa i),(pa,aa xs ex)]++[(p,aa [.str (S (n0::nr)) tn,.str (S (v0::vr)) tv] ep)]) M P (λξ=>.ok .next) (λy=>kF Z K o pa xs ex y++[aa [.str (S (n0::nr)) tn,.str (S (v0::vr)) tv] ep]) (λξ=>[]):=by
 have hs:=ab
 have hd:=cD (n0::nr)
 have f4:(n0::nr).length≤1000000:=by exact lB ‹_› rfl
 have hjl:(ap [] (ay (n0::nr))).length=(n0::nr).length:=by simp only [aR,DJ,hd]
 have f1:tx.length+[59,32].length≤CZ:=by show tx.length+2≤_;lia
 have g5:(v0::vr).length≤1000000:=by exact lB ‹_› rfl
 have f2:(tx++[59,32]).length+(ap [] (ay (n0::nr))).length≤CZ:=by simp only [CY,hjl];show tx.length+2+_≤_;lia
 have f3:((ay (n0::nr)).map C9).sum+(ay (n0::nr)).length * ([]:List Nat).length≤CZ:=by simp only [hd];show _+_ * 0≤_;lia
 have hm:=fN (v0::vr)
 have hml:(ap [] (bg (v0::vr))).length≤2 * (v0::vr).length:=by simp only [aR,DJ];exact hm
 have g1:((tx++[59,32])++ap [] (ay (n0::nr))).length+[61,34].length≤CZ:=by simp only [CY,CY,hjl];show tx.length+2+_+2≤_;lia
 have g2:(((tx++[59,32])++ap [] (ay (n0::nr)))++[61,34]).length+(ap [] (bg (v0::vr))).length≤CZ:=by simp only [CY,CY,CY,hjl];show tx.length+2+_+2+_≤_;lia
 have g3:((bg (v0::vr)).map C9).sum+(bg (v0::vr)).length * ([]:List Nat).length≤CZ:=by show _+_ * 0≤_;lia
 have g4:((((tx++[59,32])++ap [] (ay (n0::nr)))++[61,34])++ap [] (bg (v0::vr))).length+[34].length≤CZ:=by simp only [CY,CY,CY,CY,hjl];show tx.length+2+_+2+_+1≤_;lia
 have hne:((v0::vr) != [])=true:=rfl
 clear hm
 clear hd
 exists 0,ae.of_codeB
 exists 1,bb it pa i xs ex (.ref p) hi,787,34
 exists 2,bb n1 p 0 [.str (S (n0::nr)) tn,.str (S (v0::vr)) tv] ep _ rfl,0x61661515552,69
 exists 3,bb n1 p 1 [.str (S (n0::nr)) tn,.str (S (v0::vr)) tv] ep _ rfl,530,17
 exists 4,bD n1 p (.type "list") none #[] (.str (S (n0::nr)) tn) (.str (S (v0::vr)) tv) ep,530,17
 exists 5,ak tx tt [59,32] (t4+1+1) ‹_›,25659269,0
 exists 6,cj (n0::nr) tn ‹_›,24,0
 exists 7,(fm L (n6+1) x6 n6 tn n0 nr ‹_› 0 0).up rfl,555819538,2074
 exists 8,aV [] t5 n6 x7.2.2.2.2.2.2 (ay (n0::nr)) p7 x7.2.2.2.2.2.1 ‹_›,4386,3
 exists 9,ak (tx++[59,32]) x5 (ap [] (ay (n0::nr))) x8 ‹_›,1,0
 exists 10,bv (v0::vr) tv [] (t9+1) _ hne,113579,0
 exists 11,cj (v0::vr) tv ‹_›,27,0
 exists 12,(pY L (n11+1) x11 n11 tv v0 vr ‹_› 0 0).up rfl,555819538,2845
 exists 13,ak (tx++[59,32]++ap [] (ay (n0::nr))) x9 [61,34] (t12+1) ‹_›,31531742,0
 exists 14,aV [] t13 n11 x12.2.2.2.2.2.2 (bg (v0::vr)) p12 x12.2.2.2.2.2.1 ‹_›,30,3
 exists 15,ak (tx++[59,32]++ap [] (ay (n0::nr))++[61,34]) x13 (ap [] (bg (v0::vr))) x14 ‹_›,1,0
 exists 16,ak (tx++[59,32]++ap [] (ay (n0::nr))++[61,34]++ap [] (bg (v0::vr))) x15 [34] t15 ‹_›,1,0
 exists 17,aW,ih kn kv x16 km (.ref n11) ef,222,35773
 exists ar,(x17.1,x17.2.1,x17.2.2.1,x17.2.2.2.1,x17.2.2.2.2),0,4369
end
end
section
structure Pm where
 a:C1
 k:List Nat
 tk:Tok
 v:Option (List Nat)
 tv:Tok
 e:Nat
noncomputable def Pm.val (p:Pm):CX:=match p.v with
 | none=>.none
 | some x=>.str (S x) p.tv
noncomputable def Pm.ob (p:Pm):C1×Obj:=(p.a,aa [.str (S p.k) p.tk,p.val] p.e)
noncomputable def cI (ps:List Pm):ao:=ps.map Pm.ob
noncomputable def aB (ps:List Pm):List CX:=ps.map λp=>.ref p.a
noncomputable def io (tx:List Nat) (p:List Nat×Option (List Nat)):List Nat:=match p.2 with
 | some (v0::vr)=>(((((tx++[59,32])++ap [] (ay p.1))++[61,34])++ap [] (bg (v0::vr)))++[34])
 | _=>(tx++[59,32])++ap [] (ay p.1)
noncomputable def Pm.pl (p:Pm):List Nat×Option (List Nat):=(p.k,p.v)
noncomputable def sy (p:List Nat×Option (List Nat)):Prop:=p.1≠[]∧(∀c∈p.1,c < 128)∧p.1.length≤1000∧∀x,p.2=some x→(∀c∈x,c < 128)∧x.length≤1000
set_option tactic.hygienic true in
theorem kB (tx:List Nat) (p:List Nat×Option (List Nat)) (h:sy p):(io tx p).length≤tx.length+4000:=by
 obtain ⟨_,_,h1,h2⟩:=h
 have hd:(ap [] (ay p.1)).length=p.1.length:=by simp only [aR,DJ,cD]
 unfold io
 split
 ·rename_i v0 vr e
  have hv:=(h2 _ e).2
  have hm:(ap [] (bg (v0::vr))).length≤2 * (v0::vr).length:=by simp only [aR,DJ];exact fN _
  simp only [CY,C5,De] at hv hm hd ⊢
  lia
 ·simp only [CY,C5,De,hd]
  lia
inductive Bu where
 | s3
 | s5 (kn:Tok) (vn:CX) (kv:Tok) (vv:CX)
 | s6 (kn:Tok) (vn:CX) (kv:Tok) (vv:CX) (km:Tok) (vm:CX)
noncomputable def CQ (F:Fx) (K:Lk) (o:List Nat) (pa:C1) (tx:List Nat) (tt:Tok) (e:Nat):Bu→Obj
 | .s3=>nR F K o pa tx tt e
 | .s5 kn vn kv vv=>j3 F K o pa tx tt kn vn kv vv e
 | .s6 kn vn kv vv km vm=>jv F K o pa tx tt kn vn kv vv km vm e
section
variable (L it pa:C1) (K:Lk) (o:List Nat) (ps:List Pm) (ex:Nat)
theorem rN (hok:∀p∈ps,sy p.pl):∀(rem:List Pm) (i:Nat) (st:Bu) (tx:List Nat) (tt:Tok) (ef:Nat),ps.drop i=rem→tx.length+4000 * rem.length≤1000000→
  ae Z 8 (jf Z L it) [(L,CQ Z K o pa tx tt ef st),(it,aS pa i),(pa,aa (aB ps) ex)] (cI ps)
   (λy:Xw=>y.2.2.1=(rem.map Pm.pl).foldl io tx) (λξ=>.ok .next) (kF Z K o pa (aB ps) ex) (λξ=>[])
 | [],i,st,tx,tt,ef,hd,_=>by
  have hl:(aB ps).length≤i:=by unfold aB;simp only [C2];exact Dx.mp hd
  cases st with
  | s3=>exact (xB L it pa K o (aB ps) ex tx tt i hl ef).toR (cI ps)
  | s5 kn vn kv vv=>exact (xF L it pa K o (aB ps) ex tx tt kn vn kv vv i hl ef).toR (cI ps)
  | s6 kn vn kv vv km vm=>exact (yg L it pa K o (aB ps) ex tx tt kn vn kv vv km vm i hl ef).toR (cI ps)
 | p::rem,i,st,tx,tt,ef,hd,hsz=>by
  have hi:ps[i]?=some p:=by
   have:=congrArg (λl=>l[0]?) hd
   simpa using this
  have hd':ps.drop (i+1)=rem:=by
   have:=congrArg (DX 1) hd
   simp only [DE] at this
   exact this
  have hmem:p∈ps:=Dw hi
  have hp:=hok p hmem
  have hlen:=kB tx p.pl hp
  simp only [C5] at hsz
  have ih0:=λ(st:Bu) (tt:Tok) (ef:Nat)=>rN hok rem (i+1) st (io tx p.pl) tt ef hd' (by lia)
  obtain ⟨M,hM⟩:∃M,(cI ps).Perm (M++[p.ob]):=fW (cI ps) i p.ob (by unfold cI;simp only [Dv,hi];rfl)
  have hri:(aB ps)[i]?=some (.ref p.a):=by unfold aB;simp only [Dv,hi];rfl
  have ih:=λ(st:Bu) (tt:Tok) (ef:Nat)=>ae.take p.ob (ih0 st tt ef) hM (λξ=>rfl)
  refine ae.back p.ob ?_ hM (λξ=>rfl)
  clear ih0
  obtain ⟨a,k,tk,v,tv,e⟩:=p
  obtain ⟨h1,h2,h3,h4⟩:=hp
  obtain ⟨n0,nr,rfl⟩:∃n0 nr,k=n0::nr:=Di h1
  have htx:tx.length≤1000000:=by lia
  cases v with
  | none=>
   cases st with
   | s3=>exact tL L it pa K o (aB ps) ex tx tt ef i a e n0 nr tk hri htx h2 h3 M _ λkn kv tt' ef'=>ih (.s5 kn _ kv _) tt' ef'
   | s5 a1 a2 a3 a4=>exact u3 L it pa K o (aB ps) ex tx tt a1 a2 a3 a4 ef i a e n0 nr tk hri htx h2 h3 M _ λkn kv tt' ef'=>ih (.s5 kn _ kv _) tt' ef'
   | s6 a1 a2 a3 a4 a5 a6=>exact tZ L it pa K o (aB ps) ex tx tt a1 a2 a3 a4 a5 a6 ef i a e n0 nr tk hri htx h2 h3 M _ λkn kv tt' km vm ef'=>ih (.s6 kn _ kv _ km vm) tt' ef'
  | some x=>
   obtain ⟨g1,g2⟩:=h4 x rfl
   cases x with
   | nil=>
    cases st with
    | s3=>exact rQ L it pa K o (aB ps) ex tx tt ef i a e n0 nr tk tv hri htx h2 h3 M _ λkn kv tt' ef'=>ih (.s5 kn _ kv _) tt' ef'
    | s5 a1 a2 a3 a4=>exact rV L it pa K o (aB ps) ex tx tt a1 a2 a3 a4 ef i a e n0 nr tk tv hri htx h2 h3 M _ λkn kv tt' ef'=>ih (.s5 kn _ kv _) tt' ef'
    | s6 a1 a2 a3 a4 a5 a6=>exact tA L it pa K o (aB ps) ex tx tt a1 a2 a3 a4 a5 a6 ef i a e n0 nr tk tv hri htx h2 h3 M _ λkn kv tt' km vm ef'=>ih (.s6 kn _ kv _ km vm) tt' ef'
   | cons v0 vr=>
    cases st with
    | s3=>exact ug L it pa K o (aB ps) ex tx tt ef i a e n0 nr tk tv v0 vr hri htx h2 h3 g1 g2 M _ λkn kv tt' km vm ef'=>ih (.s6 kn _ kv _ km vm) tt' ef'
    | s5 a1 a2 a3 a4=>exact tD L it pa K o (aB ps) ex tx tt a1 a2 a3 a4 ef i a e n0 nr tk tv v0 vr hri htx h2 h3 g1 g2 M _ λkn kv tt' km vm ef'=>ih (.s6 kn _ kv _ km vm) tt' ef'
    | s6 a1 a2 a3 a4 a5 a6=>exact tP L it pa K o (aB ps) ex tx tt a1 a2 a3 a4 a5 a6 ef i a e n0 nr tk tv v0 vr hri htx h2 h3 g1 g2 M _ λkn kv tt' km vm ef'=>ih (.s6 kn _ kv _ km vm) tt' ef'
noncomputable def bt (o:List Nat) (ps:List Pm):List Nat:=(ps.map Pm.pl).foldl io o
theorem y4 (hok:∀p∈ps,sy p.pl) (hsz:o.length+4000 * ps.length≤1000000) (tt:Tok) (ef:Nat):
  ae Z 8 (jf Z L it) [(L,nR Z K o pa o tt ef),(it,aS pa 0),(pa,aa (aB ps) ex)] (cI ps)
   (λy:Xw=>y.2.2.1=bt o ps) (λξ=>.ok .next) (kF Z K o pa (aB ps) ex) (λξ=>[]):=
 rN L it pa K o ps ex hok ps 0 .s3 o tt ef rfl hsz
end
end
section
open Sem (wp)
noncomputable def ic (b:Bool):Nat:=if b then 0 else 16777217
theorem j7 {b:Bool} (h:b=true):ic b≤16777216:=by rw [h];exact Du _
theorem tM {b:Bool} (h:ic b≤16777216):b=true:=by
 cases b with
 | true=>rfl
 | false=>exact absurd h (by decide)
noncomputable def bO (l:List Dj) (s:Str):Bool:=((⟨l⟩:Array Dj).all λe=>isExactStrKey e.key) && ((⟨l⟩:Array Dj).findIdx? λe=>e.key.isStr s).isNone && decide (l.length≤1000)
noncomputable def dw (e:Dj) (o:Obj):Obj:=match o with
 | ⟨c,d,.dict ⟨l⟩ n,sl⟩=>⟨c,d,.dict ⟨l++[e]⟩ (n+1),sl⟩
 | o=>o
noncomputable def dm (d:C1) (key v:CX):Sem Unit:=match key with
 | .str s t=>do
  let o ←PySem.load d
  match o.data with
  | .dict es _=>do
   kj (ic (bO es.toList s))
   let h ←strHash s
   let _ ←fresh
   PySem.update d (dw ⟨h,.str s t,v⟩)
  | _=>.unsupported "dict"
 | _=>.unsupported "key"
noncomputable def eU (M:Model) (A:Dk) (c:Code) (t' t:Sem PySem.Fin):Prop:=
 ∀(Γ:PySem.Ctx) (Q:PySem.Fin→Df→Prop) (E:CX→Pos→Df→Prop) (p:Pos) (s:Df),Γ.code=c→Γ.In (A.under c)→wp M Γ t' (λa ξ s'=>Q a s') E p s→wp M Γ t (λa ξ s'=>Q a s') E p s
section
variable {M:Model} {A:Dk} {c:Code} {α β:Type}
theorem eU.refl (t:Sem PySem.Fin):eU M A c t t:=λξ ξ ξ ξ ξ ξ ξ x=>x
theorem eU.bindR {t:Sem α} {f f':α→Sem PySem.Fin} (h2:∀x,eU M A c (f' x) (f x)):eU M A c (t >>= f') (t >>= f):=λΓ Q E p s hc hΓ x=>by
 simp only [Sem.wp_bind'] at x ⊢
 exact Sem.wp_mono M Γ t (λv p' s' y=>h2 v Γ Q E p' s' hc hΓ y) (λξ ξ ξ y=>y) p s x
theorem eU.assoc {t:Sem α} {f f':α→Sem β} {g:β→Sem PySem.Fin} (h:∀x,eU M A c (f' x >>= g) (f x >>= g)):eU M A c ((t >>= f') >>= g) ((t >>= f) >>= g):=λΓ Q E p s hc hΓ x=>by
 simp only [Sem.wp_bind',Sem.wp_bind'] at x ⊢
 refine Sem.wp_mono M Γ t (λv p' s' y=>?_) (λξ ξ ξ y=>y) p s x
 have:=h v Γ Q E p' s' hc hΓ
 simp only [Sem.wp_bind',Sem.wp_bind'] at this
 exact this y
theorem eU.onRaise {t t':Sem PySem.Fin} {g:CX→Sem Unit} (h1:eU M A c t' t):eU M A c (t'.onRaise g) (t.onRaise g):=λΓ Q E p s hc hΓ x=>by
 simp only [Sem.wp_onRaise] at x ⊢
 exact h1 Γ _ _ p s hc hΓ x
theorem eU.cond {b:Bool} {t t' u u':Sem PySem.Fin} (h1:eU M A c t' t) (h2:eU M A c u' u):eU M A c (condFn (Sem PySem.Fin) b t' u') (condFn (Sem PySem.Fin) b t u):=by
 cases b
 ·exact h2
 ·exact h1
theorem mA {t t':Sem PySem.Fin} {Q:PySem.Fin→Df→Prop} {E:CX→Df→Prop} {s:Df} (h:eU M A c t' t) (x:wpOwn M A c t' Q E s):wpOwn M A c t Q E s:=λΓ p hc hΓ=>
 h Γ Q _ p s hc (hc ▸ hΓ.in) (x Γ p hc hΓ)
end
theorem l5 (e:Dj) (o:Obj) (es:Array Dj) (n:Nat) (h:o.data=.dict es n):Obj.mapDictKeys (·.push e) o=dw e o:=by
 obtain ⟨c,d,da,sl⟩:=o
 have h:da=.dict es n:=h
 subst h
 obtain ⟨l⟩:=es
 show (⟨c,d,.dict ((⟨l⟩:Array Dj).push e) (n+1),sl⟩:Obj)=⟨c,d,.dict ⟨l++[e]⟩ (n+1),sl⟩
 simp
theorem eX {h:Heap} {a:C1} {o:Obj} {f g:Obj→Obj} (ho:h.get? a=some o) (hfg:f o=g o):h.update a f=h.update a g:=by
 obtain ⟨objs,life⟩:=h
 show (⟨objs.modify a f,life⟩:Heap)=⟨objs.modify a g,life⟩
 congr 1
 have e:objs[a]?=some o:=by
  unfold Heap.get? at ho
  dsimp only at ho
  cases e:objs[a]? with
  | none=>simp only [e] at ho;cases ho
  | some o'=>
   simp only [e] at ho
   split at ho
   ·cases ho
   ·exact ho
 apply Er
 intro i
 simp only [Ec,Ec]
 split
 ·subst_vars
  simp only [e,Fo,Fo,hfg]
 ·rfl
section
variable {prog:Program} {w:Ek} {A:Dk} {c:Code}
set_option tactic.hygienic true in
theorem ox {Γ:PySem.Ctx} {d:C1} {key v:CX} {Q:Unit→Pos→Df→Prop} {E:CX→Pos→Df→Prop} {p:Pos} {s:Df} (x:wp (model prog w) Γ (dm d key v) Q E p s):
  ∃str t o es n,key=.str str t∧s.heap.get? d=some o∧o.data=.dict es n∧bO es.toList str=true∧Q () p {s with heap:=s.heap.update d (dw ⟨hashStr w str,.str str t,v⟩),toks:=s.toks+1}:=by
 unfold dm at x
 cases key with
 | str str t=>
  dsimp only at x
  rw [Sem.wp_bind'] at x
  obtain ⟨o,ho,x⟩:=x
  rw [Sem.wp_pure] at x
  split at x
  ·rename_i es n hd
   rw [Sem.wp_bind'] at x
   obtain ⟨hf,x⟩:=kH x
   refine ⟨str,t,o,es,n,rfl,ho,hd,tM hf,?_⟩
   rw [Sem.wp_bind'] at x
   unfold strHash at x
   rw [Sem.wp_bind'] at x
   have x:wp (model prog w) Γ (fresh >>= λξ=>PySem.update d (dw ⟨hashStr w str,.str str t,v⟩)) Q E p s:=x
   rw [Sem.wp_bind'] at x
   obtain ⟨_,x⟩:=x
   exact x
  ·exact (by rw [Sem.wp_unsupported] at x;exact x:False).elim
 | _=>exact (by rw [Sem.wp_unsupported] at x;exact x:False).elim
theorem pN {d:C1} {key v:CX} {f:Unit→Sem PySem.Fin} {fin:PySem.Fin} (hf:∀u,f u=pure fin):eU (model prog w) A c (PySem.holding [key,v] (dm d key v) >>= f) (PySem.holding [key,v] (dictSet d key v) >>= f):=λΓ Q E p s hc hΓ x=>by
 simp only [Sem.wp_bind',Sem.wp_holding] at x ⊢
 refine gg λG hG=>?_;obtain ⟨str,t,o,es,n,rfl,ho,hd,hfr,x⟩:=ox x;refine hG ?_
 simp only [hf,Sem.wp_pure'] at x
 unfold bO at hfr
 simp only [Dt,Dt,decide_eq_true_eq] at hfr
 refine gg λG hG=>?_;obtain ⟨⟨hall,hnone⟩,hlen⟩:=hfr;refine hG ?_
 have hsz:es.size≤CZ:=by
  simp only [ab]
  have:es.size=es.toList.length:=by simp
  lia
 have hall':(es.all λe=>isExactStrKey e.key)=true:=hall
 have hnone':(es.findIdx? λe=>e.key.isStr str)=none:=EB.mp hnone
 have key1:wpAny (model prog w) (A.under c) (dictSet d (.str str t) v) (λξ s'=>s'={s with heap:=s.heap.update d (dw ⟨hashStr w str,.str str t,v⟩),toks:=s.toks+1}) (λξ ξ=>False) s:=by
  unfold dictSet
  refine Ej ?_
  refine C0 (wpAny_pyHash_str ?_)
  refine Ej ?_
  refine C0 (PyProof.Rows.KTD.kt_dictFind_strs (s:={s with toks:=s.toks+1}) ho hd hall' ?_)
  simp only [hnone']
  refine C0 (Fy ?_)
  refine F0 (s:={s with toks:=s.toks+1}) ho hd ?_ hsz (by simp)
  show ({s with heap:=s.heap.update d (Obj.mapDictKeys _),toks:=s.toks+1}:Df)=_
  rw [eX ho (l5 _ o es n hd)]
 refine Sem.wp_mono _ Γ _ (λu p' s' y=>?_) (λξ ξ ξ y=>y.elim) p s (key1 Γ p hΓ)
 have y:s'=_:=y
 simp only [y,hf,Sem.wp_pure']
 exact x
end
end
section
open Sem (wp)
noncomputable def ib:{T // @dm=T}:=by
 refine ⟨?T,?h⟩
 rotate_left
 ·delta dm
  rw [ZFast.ze12456147031677567982,ZFast.ze2939129504906810491]
noncomputable def iF (k v:Expr) (g:Comprehension) (sc:Scope) (pos:Pos) (it:CX) (d:C1) (env:Env):{T:(C1→CX→CX→Sem Unit)→Sem PySem.Fin // jx (.compLoop (.DictComp k v [g] sc pos) 0 it (.ref d) env)=T ZFast.zw11925912800584824493}:=by
 refine ⟨?T,?h⟩
 rotate_left
 ·unfold jx ZFast.zw11892475500146522536
  dsimp only
  unfold ZFast.zw1180062409338748621
  generalize ZFast.zw11925912800584824493=ds
  rfl
theorem vo {prog:Program} {w:Ek} {A:Dk} {c:Code} {k v:Expr} {g:Comprehension} {sc:Scope} {pos:Pos} {it:CX} {d:C1} {env:Env}:
  eU (model prog w) A c ((iF k v g sc pos it d env).1 ib.1) (denote table (.compLoop (.DictComp k v [g] sc pos) 0 it (.ref d) env)):=by
 simp only [dr]
 suffices h:eU (model prog w) A c ((iF k v g sc pos it d env).1 ib.1) ((iF k v g sc pos it d env).1 ZFast.zw11925912800584824493) from λΓ Q E p s hc hΓ x=>by
  rw [(iF k v g sc pos it d env).2]
  exact h Γ Q E p s hc hΓ x
 unfold iF
 dsimp only
 refine ib.2▸ZFast.ze11925912800584824493▸PySem.W.R.onRaiseR_eq▸ZFast.ze12456147031677567982▸ZFast.ze17359229931016689406▸?_
 have key:∀kv vv:CX,∀f:Unit→Sem PySem.Fin,(∃fin,∀u,f u=pure fin)→eU (model prog w) A c (PySem.holding [kv,vv] (dm d kv vv) >>= f) (PySem.holding [kv,vv] (dictSet d kv vv) >>= f):=λkv vv f ⟨fin,hf⟩=>pN hf
 have ag:∀c':Code,∃fin,∀_:Unit,ZFast.zw12377390311714414960 c'=pure fin:=λc'=>⟨.again c',λξ=>by refine ZFast.ze12377390311714414960▸?_;rfl⟩
 have body:∀(X1 X2:Sem (Option CX)) (u:Sem Unit) (P1 P2:CX→Sem Unit) (F1:Sem Bool) (b:Bool) (Z:Sem PySem.Fin) (K1:Sem CX) (K2:CX→Sem CX) (u2:Sem Unit) (c':Code),
   eU (model prog w) A c (u >>= λξ=>condFn (Sem PySem.Fin) b
     (X1 >>= λo=>match o with
      | none=>pure (Fin.done Flow.next)
      | some v_1=>P1 v_1 >>= λξ=>P2 v_1 >>= λξ=>F1 >>= λs=>condFn (Sem PySem.Fin) s ((K1 >>= λkv=>K2 kv >>= λvv=>u2 >>= λξ=>PySem.holding [kv,vv] (dm d kv vv)) >>= λξ=>ZFast.zw12377390311714414960 c') Z)
     (X2 >>= λo=>match o with
      | none=>pure (Fin.done Flow.next)
      | some v_1=>P1 v_1 >>= λξ=>P2 v_1 >>= λξ=>F1 >>= λs=>condFn (Sem PySem.Fin) s ((K1 >>= λkv=>K2 kv >>= λvv=>u2 >>= λξ=>PySem.holding [kv,vv] (dm d kv vv)) >>= λξ=>ZFast.zw12377390311714414960 c') Z))
    (u >>= λξ=>condFn (Sem PySem.Fin) b
     (X1 >>= λo=>match o with
      | none=>pure (Fin.done Flow.next)
      | some v_1=>P1 v_1 >>= λξ=>P2 v_1 >>= λξ=>F1 >>= λs=>condFn (Sem PySem.Fin) s ((K1 >>= λkv=>K2 kv >>= λvv=>u2 >>= λξ=>PySem.holding [kv,vv] (dictSet d kv vv)) >>= λξ=>ZFast.zw12377390311714414960 c') Z)
     (X2 >>= λo=>match o with
      | none=>pure (Fin.done Flow.next)
      | some v_1=>P1 v_1 >>= λξ=>P2 v_1 >>= λξ=>F1 >>= λs=>condFn (Sem PySem.Fin) s ((K1 >>= λkv=>K2 kv >>= λvv=>u2 >>= λξ=>PySem.holding [kv,vv] (dictSet d kv vv)) >>= λξ=>ZFast.zw12377390311714414960 c') Z)):=by
  intro X1 X2 u P1 P2 F1 b Z K1 K2 u2 c'
  have one:∀o:Option CX,eU (model prog w) A c (match o with
      | none=>pure (Fin.done Flow.next)
      | some v_1=>P1 v_1 >>= λξ=>P2 v_1 >>= λξ=>F1 >>= λs=>condFn (Sem PySem.Fin) s ((K1 >>= λkv=>K2 kv >>= λvv=>u2 >>= λξ=>PySem.holding [kv,vv] (dm d kv vv)) >>= λξ=>ZFast.zw12377390311714414960 c') Z) (match o with
      | none=>pure (Fin.done Flow.next)
      | some v_1=>P1 v_1 >>= λξ=>P2 v_1 >>= λξ=>F1 >>= λs=>condFn (Sem PySem.Fin) s ((K1 >>= λkv=>K2 kv >>= λvv=>u2 >>= λξ=>PySem.holding [kv,vv] (dictSet d kv vv)) >>= λξ=>ZFast.zw12377390311714414960 c') Z):=by
   intro o
   cases o with
   | none=>exact eU.refl _
   | some v_1=>
    refine eU.bindR λξ=>eU.bindR λξ=>eU.bindR λs=>eU.cond ?_ (eU.refl _)
    refine eU.assoc λkv=>eU.assoc λvv=>eU.assoc λξ=>?_
    exact key kv vv _ (ag c')
  exact eU.bindR λξ=>eU.cond (eU.bindR one) (eU.bindR one)
 refine eU.cond (eU.onRaise ?_) (eU.onRaise ?_)
 ·exact body _ _ _ (λv_1=>ZFast.zw1578499551869305889 g.target it v_1) (λv_1=>ZFast.zw17772580674575903948 g.target env v_1) _ _ _ _ _ _ _
 ·exact body _ _ _ (λv_1=>ZFast.zw1578499551869305889 g.target it v_1) (λv_1=>ZFast.zw17772580674575903948 g.target env v_1) _ _ _ _ _ _ _
noncomputable def Bo (c:Code):{t:Sem PySem.Fin // ∀{prog:Program} {w:Ek} {A:Dk},eU (model prog w) A c t (denote table c)}:=match c with
 | .compLoop (.DictComp k v [g] sc pos) 0 it (.ref d) env=>⟨(iF k v g sc pos it d env).1 ib.1,vo⟩
 | c=>⟨jx c,by rw [dr];exact eU.refl _⟩
noncomputable def yW (c:Code):Sem PySem.Fin:=(Bo c).1
theorem xV {prog:Program} {w:Ek} {A:Dk} {c:Code}:eU (model prog w) A c (yW c) (denote table c):=(Bo c).2
section
variable {F:Fx} {X:Type} {P:X→Prop} {r:X→Dq} {ob:X→List Obj} {new:X→ao} {D1 D2:Dr→Dr}
theorem ae.of_codeD {k:Nat} {c:Code} {L M:ao} (x:∀rest A R d os,aP k A→bZ F (M++rest) (D2 d) os R L P r ob new→∀n t,Go F A (.plain R) (M++rest) (D1 d) os (.go c .base (yW c) L n t)):ae F k (.o c) L M P r ob new D1 D2:=
 ⟨λc' hc' rest A R d os hr hR h g t hg D=>by
  cases hc'
  exact y_code _ _ _ _ _ _ (mA xV ((x rest A R d os hr hR _ t).go h g hg D rfl))⟩
end
theorem ae.of_codeDB {F:Fx} {X:Type} {P:X→Prop} {r:X→Dq} {ob:X→List Obj} {new:X→ao} {D1 D2:Dr→Dr} {k:Nat} {c:Code} {L M:ao} (x:∀rest A R d os,aP k A→bZ F (M++rest) (D2 d) os R L P r ob new→∀n t,c9 F A (.plain R) (M++rest) (D1 d) os λξ ξ=>.go c .base (yW c) L n t):ae F k (.o c) L M P r ob new D1 D2:=
 ae.of_codeD λrest A R d os hr hR n t=>(x rest A R d os hr hR n t).one
end
section
open Sem (wp)
noncomputable def fC:List Dj→List Dj→Bool
 | _,[]=>true
 | done,e::r=>(match e.key with | .str s _=>bO done s | _=>false) && fC (done++[e]) r
noncomputable def dX (l:List Dj) (o:Obj):Obj:=match o with
 | ⟨c,d,.dict ⟨l0⟩ n,sl⟩=>⟨c,d,.dict ⟨l0++l⟩ (n+l.length),sl⟩
 | o=>o
theorem gq:∀(l done:List Dj),fC done l=true→∀e∈l,∃s t,e.key=.str s t
 | [],_,_,e,he=>by cases he
 | x::r,done,h,e,he=>by
  unfold fC at h
  simp only [Dt] at h
  cases he with
  | head=>
   cases hk:x.key with
   | str s t=>exact ⟨s,t,rfl⟩
   | _=>simp only [hk] at h;cases h.1
  | tail _ he=>exact gq r (done++[x]) h.2 e he
theorem lx {h:Heap} {d a:C1} {f:Obj→Obj} (hne:a≠d):(h.update d f).get? a=h.get? a:=by
 obtain ⟨objs,life⟩:=h
 show (match (objs.modify d f)[a]? with | some {data:=.freed,..}=>none | o=>o)=(match objs[a]? with | some {data:=.freed,..}=>none | o=>o)
 rw [Ec,if_neg (λe=>hne e.symm)]
theorem uT {h:Heap} {d:C1} {o:Obj} {f:Obj→Obj} (ho:h.get? d=some o) (hf:f o=o):h.update d f=h:=m7 ho hf
theorem rG (h:Heap) (d:C1) (f g:Obj→Obj):(h.update d f).update d g=h.update d (λo=>g (f o)):=by
 obtain ⟨objs,life⟩:=h
 show (⟨(objs.modify d f).modify d g,life⟩:Heap)=⟨objs.modify d (λo=>g (f o)),life⟩
 congr 1
 apply Er
 intro i
 simp only [Ec,Ec,Ec]
 split
 ·simp only [Option.map_map];rfl
 ·rfl
section
variable {prog:Program} {w:Ek} {A:Dk} {E:CX→Df→Prop}
theorem wS {s:Df} {d:C1} {done:List Dj} {n:Nat} {x:Str} {t:Tok} {hs:Int} {v:CX} {Q:Unit→Df→Prop} (hd:s.heap.get? d=some ⟨.type "dict",none,.dict ⟨done⟩ n,#[]⟩) (hf:bO done x=true)
  (hq:Q () {s with heap:=s.heap.update d (dw ⟨hs,.str x t,v⟩)}):wpAny (model prog w) A (dictPut d hs (.str x t) v) Q E s:=by
 unfold bO at hf
 simp only [Dt,Dt,decide_eq_true_eq] at hf
 obtain ⟨⟨hall,hnone⟩,hlen⟩:=hf
 refine C0 (PyProof.Rows.KTD.kt_dictFind_strs hd rfl hall ?_)
 refine (EB.mp hnone)▸?_
 refine F0 hd rfl ?_ (by show done.length≤_;rw [ab];exact lB ‹_› rfl) (by simp)
 rw [eX hd (l5 ⟨hs,.str x t,v⟩ _ ⟨done⟩ n rfl)]
 exact hq
theorem iZ {d a:C1} {oa:Obj} {l:List Dj} {na:Nat} (hne:a≠d) (had:oa.data=.dict ⟨l⟩ na) (f:Nat→PUnit→Sem (ForInStep PUnit))
  (hf:∀(i:Nat) (e:Dj) (x:Str) (t:Tok) (done:List Dj) (nd:Nat) (s:Df) (Q:ForInStep PUnit→Df→Prop),(⟨l⟩:Array Dj)[i]?=some e→e.key=.str x t→s.heap.get? a=some oa→s.heap.get? d=some ⟨.type "dict",none,.dict ⟨done⟩ nd,#[]⟩→bO done x=true→
   Q (.yield ⟨⟩) {s with heap:=s.heap.update d (dw e)}→wpAny (model prog w) A (f i ⟨⟩) Q E s):
  ∀(rem done:List Dj) (nd:Nat) (s:Df),l=done++rem→fC done rem=true→s.heap.get? a=some oa→s.heap.get? d=some ⟨.type "dict",none,.dict ⟨done⟩ nd,#[]⟩→
   ∀{Q:PUnit→Df→Prop},Q ⟨⟩ {s with heap:=s.heap.update d (dX rem)}→wpAny (model prog w) A (forIn (GP done.length rem.length) PUnit.unit f) Q E s
 | [],done,nd,s,hl,_,ha,hd,Q,hq=>by
  show wpAny _ _ (forIn [] _ _) _ _ _
  simp only [EF]
  rw [uT hd (by show (⟨_,_,.dict ⟨done++[]⟩ (nd+0),_⟩:Obj)=_;rw [Dm];rfl)] at hq
  exact Dc hq
 | e::rem,done,nd,s,hl,hg,ha,hd,Q,hq=>by
  have h2:(s.heap.update d (dw e)).get? a=some oa:=by rw [lx hne];exact ha
  have hget:(⟨l⟩:Array Dj)[done.length]?=some e:=by rw [hl];simp
  have hg':=hg
  unfold fC at hg
  simp only [Dt] at hg
  obtain ⟨x,t,hk⟩:=gq (e::rem) done hg' e (.head _)
  have hfr:bO done x=true:=by have:=hg.1;rw [hk] at this;exact this
  show wpAny _ _ (forIn (done.length::GP (done.length+1) rem.length) _ _) _ _ _
  rw [Ev]
  refine C0 (hf done.length e x t done nd s _ hget hk ha hd hfr ?_)
  have h1:(s.heap.update d (dw e)).get? d=some ⟨.type "dict",none,.dict ⟨done++[e]⟩ (nd+1),#[]⟩:=by
   exact Heap.get?_update_self (dw e) hd rfl
  have ih:=iZ hne had f hf rem (done++[e]) (nd+1) {s with heap:=s.heap.update d (dw e)} (by rw [hl];simp) hg.2 h2 h1 (Q:=Q) (by
   show Q ⟨⟩ {s with heap:=(s.heap.update d (dw e)).update d (dX rem)}
   rw [rG]
   rw [eX (g:=dX (e::rem)) hd (by
    show (⟨_,_,.dict ⟨(done++[e])++rem⟩ (nd+1+rem.length),_⟩:Obj)=⟨_,_,.dict ⟨done++e::rem⟩ (nd+(e::rem).length),_⟩
    simp only [C6,C5,ER,Ge 1];rfl)]
   exact hq)
  have e2:(done++[e]).length=done.length+1:=by simp
  rw [e2] at ih
  exact ih
theorem vQ {s:Df} {d a:C1} {oa:Obj} {l:List Dj} {na nd:Nat} (hne:a≠d) (h1:(a == sysModules)=false) (hac:oa.cls=.type "dict") (had:oa.data=.dict ⟨l⟩ na) (hg:fC [] l=true)
  (ha:s.heap.get? a=some oa) (hd:s.heap.get? d=some ⟨.type "dict",none,.dict ⟨[]⟩ nd,#[]⟩) {Q:Unit→Df→Prop} (hq:Q () {s with heap:=s.heap.update d (dX l)}):
  wpAny (model prog w) A (mergeMapping d (.ref a) true) Q E s:=by
 have hT:s.TypeIs (.ref a) "dict":=⟨oa,ha,hac⟩
 refine C0 (Eh hT isSubtype_dict_dict ?_)
 refine (if_pos rfl)▸?_
 refine C0 (Fm hT F.slot_dict_iter.lookup ?_)
 have e1:(some (CX.builtin "dict.__iter__") == some (CX.builtin "dict.__iter__"))=true:=by simp
 rw [e1]
 refine C0 (Dc ?_)
 dsimp only
 rw [h1]
 rw [if_neg Dy]
 refine C0 (ES hd rfl ?_)
 rw [if_pos (by rfl)]
 refine C0 (ES ha had ?_)
 have hstr:=gq l [] hg
 refine C0 (PySem.wpAny_forIn_array' _ (λrest ξ s'=>s'=s∧∀e∈rest,∃x t,e.key=.str x t) _ (λe rest b s' h=>?_) (λb s' h=>?_) ⟨l⟩ _ ⟨rfl,hstr⟩)
 ·obtain ⟨rfl,hr⟩:=h
  refine gg λG hG=>?_;obtain ⟨x,t,hk⟩:=hr e (.head _);refine hG ?_
  refine hk▸?_
  exact Dc ⟨rfl,λe' he'=>hr e' (.tail _ he')⟩
 ·obtain ⟨rfl,_⟩:=h
  try dsimp only
  refine C0 (ES ha had ?_)
  refine C0 (Gw ha had ?_)
  have hsz:(⟨l⟩:Array Dj).size=l.length:=by simp
  refine hsz▸List.range_eq_range'▸?_
  refine C0 (iZ hne had _ (λi e x t done nd' s1 Q1 hget hk ha1 hd1 hfr hq1=>?_) l [] nd s' rfl hg ha hd ?_)
  ·refine C0 (ES ha1 had ?_)
   have hfr':=hfr
   rw [hget]
   dsimp only
   refine C0 (Ej ?_)
   refine (if_pos rfl)▸hk▸?_
   unfold bO at hfr'
   simp only [Dt,Dt,decide_eq_true_eq] at hfr'
   obtain ⟨⟨hall,hnone⟩,_⟩:=hfr'
   refine C0 (PyProof.Rows.KTD.kt_dictFind_strs hd1 rfl hall ?_)
   rw [EB.mp hnone]
   rw [if_neg (by decide)]
   refine wS hd1 hfr ?_
   have ha2:(s1.heap.update d (dw ⟨e.hash,.str x t,e.val⟩)).get? a=some oa:=by rw [lx hne];exact ha1
   refine C0 (Gw ha2 had ?_)
   rw [if_neg (by simp)]
   have ee:(⟨e.hash,.str x t,e.val⟩:Dj)=e:=by rw [←hk]
   rw [ee]
   exact Dc hq1
  ·exact Dc hq
end
end
section
open Sem (wp)
noncomputable def c6 (e:Dj):Str×CX:=match e.key with
 | .str s _=>(s,e.val)
 | _=>(Str.empty,e.val)
noncomputable def k9 (o:Obj) (a d:C1) (l:List Dj):Bool:=decide (o.cls=.type "dict") && (!(a == 1)) && (!(a == d)) && fC [] l
noncomputable def fO (o:Obj):Bool:=match o with
 | ⟨c,none,.dict ⟨[]⟩ _,⟨[]⟩⟩=>decide (c=.type "dict")
 | _=>false
theorem sk {o:Obj} (h:fO o=true):∃n,o=⟨.type "dict",none,.dict ⟨[]⟩ n,#[]⟩:=by
 obtain ⟨c,d,da,⟨sl⟩⟩:=o
 cases d with
 | some _=>exact nomatch h
 | none=>
  cases da with
  | dict es n=>
   obtain ⟨l⟩:=es
   cases l with
   | cons _ _=>exact nomatch h
   | nil=>
    cases sl with
    | cons _ _=>exact nomatch h
    | nil=>exact ⟨n,by exact (of_decide_eq_true h)▸rfl⟩
  | _=>exact nomatch h
noncomputable def dD (args:List (Bool×Sem CX)) (x:Sem CX):Sem Args:=do
 let pos ←spliced args
 PySem.holding (pos++[]) do
  let d ←alloc {cls:=.type "dict",data:=.dict #[]}
  let m ←PySem.holding [.ref d] x
  match m with
  | .ref a=>do
   let o ←PySem.load a
   match o.data with
   | .dict es _=>do
    let od ←PySem.load d
    kj (ic (k9 o a d es.toList && fO od))
    PySem.update d (dX es.toList)
    pure ⟨pos,es.toList.map c6⟩
   | _=>.unsupported "dict"
  | _=>.unsupported "dict"
section
variable {prog:Program} {w:Ek} {A:Dk} {E:CX→Df→Prop}
theorem k6 {s:Df} {f:CX} {d:C1} {o:Obj} {l:List Dj} {n:Nat} (hd:s.heap.get? d=some o) (hda:o.data=.dict ⟨l⟩ n) (hk:∀e∈l,∃x t,e.key=.str x t) {Q:List (Str×CX)→Df→Prop} (hq:Q (l.map c6) s):
  wpAny (model prog w) A (keywordsIn f d) Q E s:=by
 unfold keywordsIn
 refine C0 (ES hd hda ?_)
 refine C0 (PySem.wpAny_forIn_array' _ (λrest b s'=>s'=s∧(∀e∈rest,∃x t,e.key=.str x t)∧b++rest.map c6=l.map c6) _ (λe rest b s' h=>?_) (λb s' h=>?_) ⟨l⟩ _ ⟨rfl,hk,rfl⟩)
 ·refine gg λG hG=>?_;obtain ⟨rfl,hr,hb⟩:=h
  obtain ⟨x,t,he⟩:=hr e (.head _);refine hG ?_
  refine he▸?_
  refine Dc ⟨rfl,λe' he'=>hr e' (.tail _ he'),?_⟩
  simp only [←hb,Dd,C6]
  have:c6 e=(x,e.val):=by unfold c6;exact he▸rfl
  refine this▸?_;rfl
 ·refine gg λG hG=>?_;obtain ⟨rfl,_,hb⟩:=h;refine hG ?_
  rw [EO,Dm] at hb
  refine hb▸?_
  exact Dc hq
end
noncomputable def yt {α:Type} (M:Model) (A:Dk) (c:Code) (t' t:Sem α):Prop:=
 ∀(Γ:PySem.Ctx) (Q:α→Df→Prop) (E:CX→Pos→Df→Prop) (p:Pos) (s:Df),Γ.code=c→Γ.In (A.under c)→wp M Γ t' (λa ξ s'=>Q a s') E p s→wp M Γ t (λa ξ s'=>Q a s') E p s
section
variable {M:Model} {A:Dk} {c:Code} {α β:Type}
theorem yt.holding {t t':Sem α} {vs:List CX} (h1:yt M A c t' t):yt M A c (PySem.holding vs t') (PySem.holding vs t):=λΓ Q E p s hc hΓ x=>by
 simp only [Sem.wp_holding] at x ⊢
 exact h1 Γ _ _ p s hc hΓ x
theorem yt.at {t t':Sem α} {q:Pos} {g:α→Sem β} (h:yt M A c t' t):Le M A c (t' >>= λa=>standAt q >>= λξ=>g a) (t >>= λa=>standAt q >>= λξ=>g a):=λΓ Q E p s hc hΓ x=>by
 rw [Sem.wp_bind'] at x ⊢
 exact h Γ (λa s'=>wp M Γ (g a) Q E q s') E p s hc hΓ x
end
section
variable {prog:Program} {w:Ek} {A:Dk} {c:Code}
theorem wP {o:Obj} {a d:C1} {l:List Dj} (h:k9 o a d l=true):o.cls=.type "dict"∧(a == sysModules)=false∧a≠d∧fC [] l=true:=by
 unfold k9 at h
 simp only [Dt,Dt,Dt,decide_eq_true_eq] at h
 refine gg λG hG=>?_;obtain ⟨⟨⟨h1,h2⟩,h3⟩,h4⟩:=h;refine hG ?_
 refine ⟨h1,?_,?_,h4⟩
 ·have:(a == 1)=false:=by simpa using h2
  exact this
 ·simpa using h3
theorem sL {s:Df} {d a:C1} {oa:Obj} {l:List Dj} {na nd:Nat} (hne:a≠d) (h1:(a == sysModules)=false) (hac:oa.cls=.type "dict") (had:oa.data=.dict ⟨l⟩ na) (hg:fC [] l=true)
  (ha:s.heap.get? a=some oa) (hd:s.heap.get? d=some ⟨.type "dict",none,.dict ⟨[]⟩ nd,#[]⟩) (h2:CX→Sem Unit) (h3:CX→Sem Unit) (h4:CX→Sem Unit):
  wpAny (model prog w) A ((PySem.holding [.ref a] (Sem.tryCatch ((mergeMapping d (.ref a) true).onRaise h2) h3)).onRaise h4) (λξ s'=>s'={s with heap:=s.heap.update d (dX l)}) (λξ ξ=>False) s:=
 GH (Ej (Fw (GH (vQ hne h1 hac had hg ha hd rfl))))
theorem mN {f:CX} {a1 a2 x:Sem CX}:yt (model prog w) A c (dD [(false,a1),(false,a2)] x) (evalArgs f true [(false,a1),(false,a2)] [(none,x)]):=by
 intro Γ Q E p s hc hΓ hx
 unfold dD at hx
 rw [Sem.wp_bind'] at hx
 show wp _ Γ (spliced [(false,a1),(false,a2)] >>= λa=>pure (a,(none:Option CX)) >>= _) _ E p s
 rw [Sem.wp_bind']
 refine Sem.wp_mono _ Γ _ (λpos p1 s1 hx=>?_) (λξ ξ ξ y=>y) p s hx
 rw [Sem.wp_bind',Sem.wp_pure']
 rw [Sem.wp_holding] at hx
 show wp _ Γ (PySem.holding (pos++[]) _) _ E p1 s1
 simp only [Sem.wp_holding]
 rw [if_neg (by simp)]
 rw [Sem.wp_bind'] at hx ⊢
 unfold mergedKeywords
 rw [Sem.wp_bind']
 rw [Sem.wp_cmd_alloc] at hx ⊢
 rw [Sem.wp_bind',Sem.wp_holding]
 rw [Sem.wp_bind'] at hx
 rw [Sem.wp_holding] at hx
 show wp (model prog w) Γ (forIn [((none:Option Str),x)] ([]:List (Str×Sem CX)) _ >>= _) _ E p1 _
 rw [Sem.wp_bind',Ev,Sem.wp_bind']
 show wp (model prog w) Γ (pure () >>= λξ=>x >>= λm=>_) _ E p1 _
 rw [Sem.wp_bind',Sem.wp_pure',Sem.wp_bind']
 refine Sem.wp_mono _ Γ _ (λm p2 s2 hx=>?_) (λξ ξ ξ y=>y) p1 _ hx
 cases m with
 | ref a=>
  dsimp only at hx
  rw [Sem.wp_bind'] at hx
  refine gg λG hG=>?_;obtain ⟨oa,ha,hx⟩:=hx;refine hG ?_
  rw [Sem.wp_pure] at hx
  split at hx
  ·rename_i es na had
   rw [Sem.wp_bind'] at hx
   refine gg λG hG=>?_;obtain ⟨od,hod,hx⟩:=hx;refine hG ?_
   rw [Sem.wp_pure,Sem.wp_bind'] at hx
   refine gg λG hG=>?_;obtain ⟨hB,hx⟩:=kH hx;refine hG ?_
   have hB:=tM hB
   rw [Dt] at hB
   refine gg λG hG=>?_;obtain ⟨hac,h1,hne,hg⟩:=wP hB.1
   obtain ⟨nd,hod'⟩:=sk hB.2;refine hG ?_
   rw [hod'] at hod
   rw [Sem.wp_bind'] at hx
   refine gg λG hG=>?_;obtain ⟨hds,hx⟩:=hx
   obtain ⟨l⟩:=es;refine hG ?_
   have hx:Q ⟨pos,l.map c6⟩ {s2 with heap:=s2.heap.update s1.heap.objs.size (dX l)}:=hx
   rw [Sem.wp_bind']
   refine Sem.wp_mono _ Γ _ (λu p3 s3 y=>?_) (λξ ξ ξ y=>y.elim) p2 s2 (sL hne h1 hac had hg ha hod _ _ _ Γ p2 hΓ)
   have y:s3=_:=y
   subst y
   rw [Sem.wp_pure']
   dsimp only
   rw [EF,Sem.wp_pure']
   rw [if_pos (by rfl),Sem.wp_pure',Sem.wp_pure']
   rw [Sem.wp_bind',Sem.wp_pure',Sem.wp_bind',Sem.wp_holding]
   have hd3:(s2.heap.update s1.heap.objs.size (dX l)).get? s1.heap.objs.size=some ⟨.type "dict",none,.dict ⟨[]++l⟩ (nd+l.length),#[]⟩:=Heap.get?_update_self (dX l) hod rfl
   refine Sem.wp_mono _ Γ _ (λkw p4 s4 y=>?_) (λξ ξ ξ y=>y.elim) p3 _ (k6 (E:=λξ ξ=>False) (Q:=λkw s'=>kw=l.map c6∧s'={s2 with heap:=s2.heap.update s1.heap.objs.size (dX l)}) hd3 rfl (λe he=>gq l [] hg e he) ⟨rfl,rfl⟩ Γ p3 hΓ)
   refine gg λG hG=>?_;obtain ⟨rfl,rfl⟩:=y;refine hG ?_
   rw [Sem.wp_pure']
   exact hx
  ·exact (by rw [Sem.wp_unsupported] at hx;exact hx:False).elim
 | _=>exact (by rw [Sem.wp_unsupported] at hx;exact hx:False).elim
end
end
section
open Sem (wp)
noncomputable def hV (pos:Pos) (f:CX) (first:List CX) (args:List (Bool×Sem CX)) (kws:List (Option Str×Sem CX)):{T:Sem Args→(List CX→Sem CX→Sem CX)→Sem CX // callWith pos f first args kws=T (evalArgs f true args kws) operate}:=by
 refine ⟨?T,?h⟩
 rotate_left
 ·unfold callWith
  generalize evalArgs f true args kws=ea
  generalize operate=op
  rfl
section
variable {prog:Program} {w:Ek} {A:Dk} {c:Code}
theorem Am {vs:List CX} {m:Sem CX}:Le (model prog w) A c m (operate vs m):=λΓ Q E p s ξ ξ x=>by
 simp only [Sem.wp_operate];exact x
theorem vA {pos:Pos} {f:CX} {first:List CX} {a1 a2 x:Sem CX}:
  Le (model prog w) A c ((hV pos f first [(false,a1),(false,a2)] [(none,x)]).1 (dD [(false,a1),(false,a2)] x) (λξ m=>m)) (callWith pos f first [(false,a1),(false,a2)] [(none,x)]):=by
 suffices h:Le (model prog w) A c ((hV pos f first [(false,a1),(false,a2)] [(none,x)]).1 (dD [(false,a1),(false,a2)] x) (λξ m=>m)) ((hV pos f first [(false,a1),(false,a2)] [(none,x)]).1 (evalArgs f true [(false,a1),(false,a2)] [(none,x)]) operate) from λΓ Q E p s hc hΓ y=>by
  rw [(hV pos f first [(false,a1),(false,a2)] [(none,x)]).2]
  exact h Γ Q E p s hc hΓ y
 refine Le.trans (t':=(hV pos f first [(false,a1),(false,a2)] [(none,x)]).1 (dD [(false,a1),(false,a2)] x) operate) ?_ ?_
 ·unfold hV
  dsimp only
  refine Le.bindR λa=>Le.bindR λξ=>Le.bindR λk=>?_
  cases k <;> first | exact Le.refl _ | exact Le.bindL Am
 ·unfold hV
  exact yt.at (yt.holding mN)
end
noncomputable def pE (o:Expr) (name:Str) (apos:Pos) (a1 a2 x:Sem CX) (pos:Pos) (env:Env):Sem CX:=do
  let ov ←attributeBase o name env (eval o env)
  standAt apos.atName
  let (f,first) ←PySem.holding [ov] (calleeOf (methodCallForm 3 [(false,a1),(false,a2)] [(none,x)]) o env ov name)
  let callPos ←methodCallPos (methodCallForm 3 [(false,a1),(false,a2)] [(none,x)]) o env apos pos
  (hV callPos f first [(false,a1),(false,a2)] [(none,x)]).1 (dD [(false,a1),(false,a2)] x) (λξ m=>m)
section
variable {prog:Program} {w:Ek} {A:Dk} {c:Code}
theorem rU {o:Expr} {name:Str} {apos pos p1 p2 kp:Pos} {i1 i2:Str} {k v:Expr} {gs:List Comprehension} {sc:Scope} {dp:Pos} {env:Env}:
  Le (model prog w) A c (pE o name apos (((backTo pos (starEach [.Name i1 p1,.Name i2 p2] env)).getD 0 (false,pure .none)).2) (((backTo pos (starEach [.Name i1 p1,.Name i2 p2] env)).getD 1 (false,pure .none)).2) (((backToKw pos (keywordEach [⟨none,.DictComp k v gs sc dp,kp⟩] env)).getD 0 (none,pure .none)).2) pos env)
   (eval (.Call (.Attribute o name apos) [.Name i1 p1,.Name i2 p2] [⟨none,.DictComp k v gs sc dp,kp⟩] pos) env):=by
 simp only [arm_eval_Call]
 refine Le.bindR λov=>Le.bindR λξ=>?_
 refine Le.bindR λfc=>Le.bindR λcp=>?_
 exact vA
end
end
section
open Sem (wp)
noncomputable def Bj (n:Nat) (pos:Pos) (i1 i2:Str) (p1 p2:Pos) (env:Env):Sem CX:=((backTo pos (starEach [.Name i1 p1,.Name i2 p2] env)).getD n (false,pure .none)).2
noncomputable def Cs (pos:Pos) (k v:Expr) (gs:List Comprehension) (sc:Scope) (dp kp:Pos) (env:Env):Sem CX:=((backToKw pos (keywordEach [⟨none,.DictComp k v gs sc dp,kp⟩] env)).getD 0 (none,pure .none)).2
noncomputable def um:{T // @Bj=T}:=by
 refine ⟨?T,?h⟩
 rotate_left
 ·delta Bj
  simp -iota only [ZFast.ze4897270859577272712,ZFast.ze13897175071876407860]
  rfl
noncomputable def A3:{T // @Cs=T}:=by
 refine ⟨?T,?h⟩
 rotate_left
 ·delta Cs
  simp -iota only [ZFast.ze621762911399731506,ZFast.ze11621922129505618389]
  rfl
noncomputable def qE:{T // @pE=T}:=by
 refine ⟨?T,?h⟩
 rotate_left
 ·delta pE hV dD
  dsimp only
  simp -iota only [ZFast.ze15487144857313948548,ZFast.ze14044960220447912780,ZFast.ze17359229931016689406,ZFast.ze11328156115524847652,ZFast.ze17856382988213008342,ZFast.ze6137100228056946695,ZFast.ze5798641394067236252,ZFast.ze6818842538254311539,ZFast.ze15829795217376195142,ZFast.ze11478286150595567475]
  rfl
noncomputable def AW (env:Env) (b:List Stmt):{t:Sem Flow // ∀{prog:Program} {w:Ek} {A:Dk} {c:Code},Le (model prog w) A c t (execs b env)}:=match b with
 | [s1,.Expr (.Call (.Attribute o name apos) [.Name i1 p1,.Name i2 p2] [⟨none,.DictComp k v gs sc dp,kp⟩] pos) ep]=>
  ⟨ej (ZFast.zw12563942051412417395 [s1] env) (ej (ra.1 (.Call (.Attribute o name apos) [.Name i1 p1,.Name i2 p2] [⟨none,.DictComp k v gs sc dp,kp⟩] pos) ep env (qE.1 o name apos (um.1 0 pos i1 i2 p1 p2 env) (um.1 1 pos i1 i2 p1 p2 env) (A3.1 pos k v gs sc dp kp env) pos env)) (pure .next)),by
   rw [←ZFast.ze12563942051412417395]
   refine j8 (dJ ?_ (by rw [arm_execs_nil];exact Le.refl _))
   rw [←ra.2,←qE.2,←um.2,←A3.2]
   exact rq rU⟩
 | b=>⟨ZFast.zw12563942051412417395 b env,by rw [←ZFast.ze12563942051412417395];exact Le.refl _⟩
noncomputable def mP (env:Env) (b:List Stmt):Sem Flow:=(AW env b).1
section
variable {prog:Program} {w:Ek} {A:Dk} {c:Code}
theorem te (env:Env) (b:List Stmt):Le (model prog w) A c (mP env b) (execs b env):=(AW env b).2
end
noncomputable def l8 (target:Expr) (it:CX) (body orelse:List Stmt) (env:Env):{T:(List Stmt→Env→Sem Flow)→Sem PySem.Fin // jx (.forLoop target it body orelse env)=T ZFast.zw12563942051412417395}:=by
 refine ⟨?T,?h⟩
 rotate_left
 ·show PySem.W.R.onRaiseR (ZFast.zw15207555903498437823 target it body orelse env) _=_
  unfold ZFast.zw15207555903498437823
  generalize ZFast.zw12563942051412417395=ca
  rfl
noncomputable def zp (c:Code):Sem PySem.Fin:=match c with
 | .forLoop target it body orelse env=>(l8 target it body orelse env).1 λb e=>mP e b
 | c=>jx c
theorem xN {prog:Program} {w:Ek} {A:Dk} {c:Code}:Le (model prog w) A c (zp c) (denote table c):=by
 cases c with
 | forLoop target it body orelse env=>
  show Le _ _ _ ((l8 target it body orelse env).1 λb e=>mP e b) _
  simp only [dr]
  suffices k:Le (model prog w) A (.forLoop target it body orelse env) ((l8 target it body orelse env).1 λb e=>mP e b) ((l8 target it body orelse env).1 ZFast.zw12563942051412417395) from λΓ Q E p s hc hΓ x=>by
   rw [(l8 target it body orelse env).2]
   exact k Γ Q E p s hc hΓ x
  unfold l8
  dsimp only
  refine PySem.W.R.onRaiseR_eq▸ZFast.ze12456147031677567982▸ZFast.ze12563942051412417395▸?_
  refine Le.onRaise (Le.bindR λξ=>Le.bindR λv=>?_)
  cases v with
  | none=>exact Le.refl _
  | some v=>exact Le.bindR λξ=>Le.bindR λξ=>Le.bindL (te env body)
 | _=>exact pR
section
variable {F:Fx} {X:Type} {P:X→Prop} {r:X→Dq} {post pm:X→ao} {D1 D2:Dr→Dr}
theorem ad.of_codeK {k:Nat} {c:Code} {L M:ao} (x:∀rest A R d os,aP k A→eY F rest (D2 d) os R P r post pm→∀n t,Go F A (.plain R) (M++rest) (D1 d) os (.go c .base (zp c) L n t)):ad F k (.o c) L M P r post pm D1 D2:=
 ⟨λc' hc' rest A R d os hr hR h g t hg D=>by
  cases hc'
  exact y_code _ _ _ _ _ _ (eE xN ((x rest A R d os hr hR _ t).go h g hg D rfl))⟩
end
theorem ad.of_codeKB {F:Fx} {X:Type} {P:X→Prop} {r:X→Dq} {post pm:X→ao} {D1 D2:Dr→Dr} {k:Nat} {c:Code} {L M:ao} (x:∀rest A R d os,aP k A→eY F rest (D2 d) os R P r post pm→∀n t,c9 F A (.plain R) (M++rest) (D1 d) os λξ ξ=>.go c .base (zp c) L n t):ad F k (.o c) L M P r post pm D1 D2:=
 ad.of_codeK λrest A R d os hr hR n t=>(x rest A R d os hr hR n t).one
end
section
noncomputable abbrev wb:Str:=S [115,101,108,102]
noncomputable abbrev wh:Str:=S [95,110,97,109,101]
noncomputable abbrev wg:Str:=S [95,118,97,108,117,101]
structure vL (fd:FuncData) (na:Str):Prop where
 pos:fd.params.posonlyargs=[]
 args:∃b1 c1 b2 c2 b3 c3,fd.params.args=[⟨wb,b1,c1⟩,⟨wh,b2,c2⟩,⟨wg,b3,c3⟩]
 var:fd.params.vararg=none
 kwo:fd.params.kwonlyargs=[]
 kwa:∃b c,fd.params.kwarg=some ⟨na,b,c⟩
 dfl:fd.defaults=.none
noncomputable def b6 (w:Ek):Nat→List (Str×CX)→List Dj
 | _,[]=>[]
 | t,kv::r=>⟨hashStr w kv.1,.str kv.1 t,kv.2⟩::b6 w (t+1) r
section
variable {prog:Program} {w:Ek} {A:Dk} {E:CX→Df→Prop}
theorem Br {W:Model} {α:Type} {c:Prop} [Decidable c] {t e:Sem α} {Q:α→Df→Prop} {s:Df} (h:¬c) (x:wpAny W A e Q E s):wpAny W A (if c then t else e) Q E s:=by rw [if_neg h];exact x
theorem oJ {β:Type} (f:Str×CX→β×List (Str×CX)→Sem (ForInStep (β×List (Str×CX)))) (sl:β):∀(l ex:List (Str×CX)),(∀kv∈l,∀ex,f kv (sl,ex)=pure (.yield (sl,ex++[kv])))→forIn l (sl,ex) f=pure (sl,ex++l)
 | [],ex,_=>by rw [Dm];rfl
 | kv::l,ex,h=>by
  rw [Ev,h kv (.head _),pure_bind]
  show forIn l (sl,ex++[kv]) f=_
  rw [oJ f sl l _ λk hk=>h k (.tail _ hk),C6]
  rfl
theorem tN {s:Df} {fd:FuncData} {na:Str} (K:vL fd na) (v1 v2 v3:CX) (kws:List (Str×CX)) (hk:∀kv∈kws,[wb,wh,wg].contains kv.1=false) (hlen:kws.length≤1000) {Q:List (Str×CX)→Df→Prop}
  (hset:∀(f:Str×CX→PUnit→Sem (ForInStep PUnit)),(∀x u,f x u=(do nsSet s.heap.objs.size x.1 x.2;pure (.yield ⟨⟩)))→∀(K2:PUnit→Df→Prop),(∀u s',Q [(wb,v1),(wh,v2),(wg,v3),(na,.ref s.heap.objs.size)] s'→K2 u s')→
   wpAny (model prog w) A (forIn kws PUnit.unit f) K2 E {s with heap:=s.heap.push {cls:=.type "dict",data:=.dict #[]}}):
  wpAny (model prog w) A (bindArgs fd ⟨[v1,v2,v3],kws⟩) Q E s:=by
 obtain ⟨h1,⟨b1,c1,b2,c2,b3,c3,h2⟩,h3,h4,⟨b4,c4,h5⟩,h6⟩:=K
 obtain ⟨f1,f2,⟨p1,p2,p3,p4,p5,p6,p7⟩,f4,f5,f6,f7,f8,f9⟩:=fd
 cases h1
 cases h2
 cases h3
 cases h4
 cases h5
 cases h6
 refine C0 (Es (oJ _ _ kws [] λkv h ex=>(if_neg λz=>Dy ((hk kv h).symm.trans ((GF _).symm.trans z))).trans (if_pos rfl)) ?_)
 refine C0 (Es (a:=none) rfl ?_)
 refine Br Dy (Br Dy ?_)
 refine C0 (Es (a:=[(wb,v1),(wh,v2),(wg,v3)]) rfl ?_)
 refine C0 (Es rfl ?_)
 refine Br Dy (Br (by show ¬(kws.length > CZ+1);rw [ab];lia) ?_)
 refine C0 (wpAny_alloc ?_)
 refine C0 (hset _ (λx u=>rfl) _ λu s2 h=>?_)
 exact Dc h
theorem qA (f:Str×CX→PUnit→Sem (ForInStep PUnit)) (d:C1) (hf:∀x u,f x u=(do nsSet d x.1 x.2;pure (.yield ⟨⟩))):∀(kws:List (Str×CX)) (done:List Dj) (nd:Nat) (s:Df) {Q:PUnit→Df→Prop},
  s.heap.get? d=some ⟨.type "dict",none,.dict ⟨done⟩ nd,#[]⟩→(∀e∈done,∃x t,e.key=.str x t)→(∀kv∈kws,(⟨done⟩:Array Dj).findIdx? (·.key.isStr kv.1)=none)→(kws.map (·.1)).Nodup→done.length+kws.length≤1000→
  Q ⟨⟩ {s with heap:=s.heap.update d (dX (b6 w s.toks kws)),toks:=s.toks+kws.length}→wpAny (model prog w) A (forIn kws PUnit.unit f) Q E s
 | [],done,nd,s,Q,hd,_,_,_,_,hq=>by
  simp only [EF]
  have e:s.heap.update d (dX (b6 w s.toks []))=s.heap:=uT hd (by show (⟨_,_,.dict ⟨done++[]⟩ (nd+0),_⟩:Obj)=_;rw [Dm];rfl)
  rw [e] at hq
  exact Dc hq
 | kv::r,done,nd,s,Q,hd,hstr,hnew,hnd,hlen,hq=>by
  have hn1:=hnew kv (.head _)
  rw [Ev,hf]
  refine C0 (C0 ?_)
  refine C0 (C0 (wpAny_askSetting (Dc ?_)))
  refine C0 (C0 (wpAny_fresh (Dc ?_)))
  refine C0 (FW hd ?_)
  dsimp only
  have href:aRefKeyMayBeTheName kv.1 ⟨done⟩=false:=by
   rw [aRefKeyMayBeTheName_eq]
   unfold aRefKeyMayBeTheNameByArray
   have:(⟨done⟩:Array Dj).any (·.refKey)=false:=by
    rw [Array.any_eq_false']
    intro e he
    obtain ⟨x,t,hk⟩:=hstr e (by simpa using he)
    unfold Dj.refKey
    refine hk▸?_
    exact Dy
   simp only [this,F2]
  rw [href,if_neg Dy]
  have hput:Obj.putName kv.1 (hashStr w kv.1) (.str kv.1 s.toks) kv.2 ⟨.type "dict",none,.dict ⟨done⟩ nd,#[]⟩=dw ⟨hashStr w kv.1,.str kv.1 s.toks,kv.2⟩ ⟨.type "dict",none,.dict ⟨done⟩ nd,#[]⟩:=by
   rw [Obj.putName_eq]
   unfold Obj.putNameByArray
   dsimp only
   rw [hn1]
   show (⟨_,_,.dict ((⟨done⟩:Array Dj).push _) (nd+1),_⟩:Obj)=⟨_,_,.dict ⟨done++[_]⟩ (nd+1),_⟩
   simp
  refine Gk hd ?_
  refine Dc ?_
  show wpAny (model prog w) A (forIn r PUnit.unit f) Q E {s with heap:=s.heap.update d (Obj.putName kv.1 (hashStr w kv.1) (.str kv.1 s.toks) kv.2),toks:=s.toks+1}
  refine (eX hd hput)▸?_
  have h1:(s.heap.update d (dw ⟨hashStr w kv.1,.str kv.1 s.toks,kv.2⟩)).get? d=some ⟨.type "dict",none,.dict ⟨done++[⟨hashStr w kv.1,.str kv.1 s.toks,kv.2⟩]⟩ (nd+1),#[]⟩:=
   Heap.get?_update_self (dw ⟨hashStr w kv.1,.str kv.1 s.toks,kv.2⟩) hd rfl
  rw [Dd,EP] at hnd
  refine qA f d hf r (done++[⟨hashStr w kv.1,.str kv.1 s.toks,kv.2⟩]) (nd+1) {s with heap:=s.heap.update d (dw ⟨hashStr w kv.1,.str kv.1 s.toks,kv.2⟩),toks:=s.toks+1} h1 ?_ ?_ hnd.2 (by simp only [CY,C5,De] at hlen ⊢;lia) ?_
  ·intro e he
   rcases DA.mp he with he | he
   ·exact hstr e he
   ·rw [Dl.mp he];exact ⟨_,_,rfl⟩
  ·intro kv' hkv'
   rw [EU]
   intro e he
   have he:e∈done++[⟨hashStr w kv.1,.str kv.1 s.toks,kv.2⟩]:=by simpa using he
   rcases DA.mp he with he | he
   ·exact (EU.mp (hnew kv' (.tail _ hkv'))) e (by simpa using he)
   ·rw [Dl.mp he]
    have hne:kv.1≠kv'.1:=λe=>hnd.1 (e ▸ DM hkv')
    simpa [CX.isStr] using hne
  ·show Q ⟨⟩ {s with heap:=(s.heap.update d (dw _)).update d (dX (b6 w (s.toks+1) r)),toks:=s.toks+1+r.length}
   rw [rG]
   rw [eX (g:=dX (b6 w s.toks (kv::r))) hd (by
    show (⟨_,_,.dict ⟨(done++[_])++b6 w (s.toks+1) r⟩ (nd+1+(b6 w (s.toks+1) r).length),_⟩:Obj)=⟨_,_,.dict ⟨done++b6 w s.toks (kv::r)⟩ (nd+(b6 w s.toks (kv::r)).length),_⟩
    rw [C6]
    simp only [ER,Ge 1];rfl)]
   simp only [C5,show s.toks+(r.length+1)=s.toks+1+r.length by lia] at hq
   exact hq
end
end
section
noncomputable def uU (fd:FuncData) (self:C1) (q:Str) (binds:List (Str×CX)):Sem PySem.Fin:=
 ZFast.zw11113344188204177931 fd.scope fd.globals fd.closure binds (q++".<locals>.") (some self) fd.code none fd.builtins >>= λenv=>fq >>= λξ=>nN fd env
section
variable {F:Fx} {X:Type} {P:X→Prop} {r:X→Dq} {post pm:X→ao} {D1 D2:Dr→Dr}
theorem ad.of_defK {k:Nat} {f ca:C1} {o co:Obj} {fd:FuncData} {na q:Str} {tq:Tok} {vs:Array CX} {v1 v2 v3:CX} {kws:List (Str×CX)} {L M:ao}
  (ho:F.kt.get f=some o) (ht:F.tab f=false) (hfd:o.data=.func fd) (h1:fd.scope.isGenerator=false) (h2:fd.scope.isCoroutine=false) (K:vL fd na)
  (hcode:fd.code=.ref ca) (hco:F.kt.get ca=some co) (htc:F.tab ca=false) (hcd:co.data=.fields vs) (hq:vs[1]?=some (.str q tq))
  (hk:∀kv∈kws,[wb,wh,wg].contains kv.1=false) (hnd:(kws.map (·.1)).Nodup) (hlen:kws.length≤1000)
  (x:∀rest A R d os,aP (k+1) A→eY F rest (D2 d) os R P r post pm→∀n t,Go F A (.plain R) (M++rest) (D1 d) os (.go (.call (.ref f) ⟨[v1,v2,v3],kws⟩) .base (uU fd f q [(wb,v1),(wh,v2),(wg,v3),(na,.ref n)]) (L++[(n,ai (b6 F.w t kws) kws.length)]) (n+1) (t+kws.length))):
  ad F (k+1) (.o (.call (.ref f) ⟨[v1,v2,v3],kws⟩)) L M P r post pm D1 D2:=by
 refine ⟨λc' hc' rest A R d os hr hR h g t hg D=>?_⟩
 have hc':c'=.call (.ref f) ⟨[v1,v2,v3],kws⟩:=hc'
 subst hc'
 have hl:=D.look ho ht
 have hlc:=D.look hco htc
 refine y_code _ _ _ _ _ _ ?_
 refine wpOwn_bind (wpOwn_of_wpAny (F7 hl ?_))
 simp only [hfd]
 rw [dQ fd f ⟨[v1,v2,v3],kws⟩ h1 h2]
 refine fT ?_ ?_
 ·have:=hr.depth
  show A.depth+0 < 1000
  lia
 unfold xj
 refine hcode▸?_
 rw [bind_assoc]
 refine wpOwn_bind (wpOwn_of_wpAny (ED hlc hcd hq ?_))
 simp only [bind_assoc,pure_bind]
 refine wpOwn_bind (wpOwn_of_wpAny (tN K v1 v2 v3 kws hk hlen λff hff K2 hK2=>?_))
 have D1':=D.alloc (o:=ai [] 0) rfl
 refine qA ff h.objs.size hff kws [] 0 _ ?_ (λe he=>by cases he) (λkv ξ=>by simp) hnd (by simpa using hlen) (hK2 _ _ ?_)
 ·exact Heap.get?_push_size _ rfl
 have y:=(x rest A R d os hr hR h.objs.size t).go
 have D2':=bq.update (L:=[(h.objs.size,ai [] 0)]) (rest:=L++(M++rest)) D1' (i:=0) (f:=dX (b6 F.w t kws)) rfl rfl
 have e1:bm [(h.objs.size,ai [] 0)] 0 (dX (b6 F.w t kws) (ai [] 0))=[(h.objs.size,ai (b6 F.w t kws) kws.length)]:=by
  have hl:(b6 F.w t kws).length=kws.length:=by
   have:∀(l:List (Str×CX)) (t:Nat),(b6 F.w t l).length=l.length:=by
    intro l
    induction l with
    | nil=>intro t;rfl
    | cons a r ih=>intro t;show (b6 F.w (t+1) r).length+1=_;rw [ih];rfl
   exact this kws t
  show [(h.objs.size,(⟨_,_,.dict ⟨[]++b6 F.w t kws⟩ (0+(b6 F.w t kws).length),_⟩:Obj))]=_
  rw [hl,EN]
  rfl
 rw [e1] at D2'
 unfold uU at y
 rw [←ZFast.ze11113344188204177931,hcode] at y
 refine y _ g hg (D2'.perm ?_) ?_
 ·simp only [C6]
  exact (Dn (l₁:=L)).symm
 ·obtain ⟨objs,life⟩:=h
  show ((objs.push _).modify objs.size _).size=objs.size+1
  rw [Gf,E2]
end
end
theorem xE {F:Fx} {h:Heap} {L:ao} {a:C1} {o:Obj} (hF:2≤F.low) (D:d5 F h L) (hm:(a,o)∈L):(a == sysModules)=false:=by
 have:=D.off _ hm
 have h0:=D.low
 have h1:F.h0.objs.size≤a:=this
 rw [beq_eq_false_iff_ne]
 intro e
 rw [e] at h1
 have h2:F.h0.objs.size≤1:=h1
 lia
theorem pW {F:Fx} {k:Nat} (hF:2≤F.low) (d:C1) (es:List Dj) (n:Nat):
  af F k (.b 549831036784903104784997 ⟨[.ref d],[]⟩) [(d,ai es n)] (X:=C1) (λξ=>True) (λx=>.ok (.ret (.ref x))) (λξ=>[ai es n]) (λx=>[(x,aE "dict_items" [.ref d])]):=by
 refine af.of_b (id:="dict.items") (by kernel_rfl) (Db (b:=Builtin.«dict.items») (by kernel_rfl)) (by decide+kernel) λrest A R dd os hr hR h g t hg D=>?_
 have hd:h.get? d=some (ai es n):=D.own (d,_) (C3 _ (.head _))
 have hb:=xE hF D (C3 _ (.head _))
 have D1:=D.alloc (o:=aE "dict_items" [.ref d]) rfl
 wp_walk
 exact hR h.objs.size _ g t trivial hg (D1.perm (by
  simp only [C6]
  exact (Dn (l₁:=[(d,_)])).symm))
theorem ph {F:Fx} {k:Nat} (v d:C1) (es:List Dj) (n:Nat):
  af F k (.b 2149273587171496586788315739181875383800982117 ⟨[.ref v],[]⟩) [(v,aE "dict_items" [.ref d]),(d,ai es n)] (X:=C1) (λξ=>True) (λx=>.ok (.ret (.ref x))) (λξ=>[aE "dict_items" [.ref d],ai es n])
   (λx=>[(x,aE "dict_itemiterator" [.none,.bool false,.ref d,.int (.ofNat 0) 0,.int (.ofNat es.length) 0,.int (.ofNat n) 0,.none,.none])]):=by
 refine af.of_b (id:="dict_items.__iter__") (by kernel_rfl) (Db (b:=Builtin.«dict_items.__iter__») (by kernel_rfl)) (by decide+kernel) λrest A R dd os hr hR h g t hg D=>?_
 have e1:Builtin.Dict_items.ownsTuple "dict_itemiterator"=true:=by decide+kernel
 have hv:h.get? v=some (aE "dict_items" [.ref d]):=D.own (v,_) (C3 _ (.head _))
 have hd:h.get? d=some (ai es n):=D.own (d,_) (C3 _ (.tail _ (.head _)))
 wp_walk
 have e2:(⟨es⟩:Array Dj).size=es.length:=by simp
 rw [if_pos e1,e2]
 have D1:=D.alloc (o:=aE "dict_itemiterator" [.none,.bool false,.ref d,.int (.ofNat 0) 0,.int (.ofNat es.length) 0,.int (.ofNat n) 0,.none,.none]) rfl
 exact hR h.objs.size _ g t trivial hg (D1.perm (by
  simp only [C6]
  exact (Dn (l₁:=[(v,_),(d,_)])).symm))
theorem rd {F:Fx} {A:Dk} {it:C1} {Q:String→Df→Prop} {E:CX→Df→Prop} {s:Df} {o:Obj} (h:s.heap.get? it=some o) (hc:o.cls=.type "dict_itemiterator") (x:Q "dict_itemiterator" s):
  wpAny (model F.prog F.w) A (typeNameOfWhole (.ref it)) Q E s:=wpAny_typeNameOfWhole_itemiter ⟨_,h,hc⟩ x
theorem gw {F:Fx} {q:List C1} {M:Model} {A:Dk} {E:CX→Df→Prop} {s:Df} {L:ao} {a:C1} {n:String} {vs:List CX} {j:Nat} {x:CX} {Q:Unit→Df→Prop}
  (D:bq F q s.heap ((a,aE n vs)::L)) (hj:j < vs.length) (k:∀h',h'.objs.size=s.heap.objs.size→bq F q h' ((a,aE n (vs.set j x))::L)→Q () {s with heap:=h'}):wpAny M A (setField (.ref a) j x) Q E s:=by
 have ha:s.heap.get? a=some (aE n vs):=D.own (a,_) (.head _)
 refine wpAny_setField ha rfl (by simpa using hj) (k _ ?_ ?_)
 ·show (s.heap.objs.modify a _).size=_
  rw [Gf]
 ·have D1:=bq.update (L:=[(a,aE n vs)]) (rest:=L) D (i:=0) (f:=Obj.mapFields λy=>y.setIfInBounds j x) rfl rfl
  have e:bm [(a,aE n vs)] 0 (Obj.mapFields (λy=>y.setIfInBounds j x) (aE n vs))++L=(a,aE n (vs.set j x))::L:=by
   show (a,(⟨_,_,.fields ((⟨vs⟩:Array CX).setIfInBounds j x),_⟩:Obj))::L=_
   rw [List.setIfInBounds_toArray]
   rfl
  simp only [e] at D1
  exact D1
set_option maxHeartbeats 0 in
theorem dB {F:Fx} {k:Nat} (it d:C1) (es:List Dj) (n i:Nat) (y0:CX) (hy0:y0=.none) (o1 o2:CX) (key val:CX) (hs:Int) (he:es[i]?=some ⟨hs,key,val⟩):
  af F k (.b 154871534474935724191431299575622858322749704592348232378772069 ⟨[.ref it],[]⟩) [(it,aE "dict_itemiterator" [y0,.bool false,.ref d,.int (.ofNat i) 0,.int (.ofNat es.length) 0,.int (.ofNat n) 0,o1,o2]),(d,ai es n)] (X:=C1) (λξ=>True) (λx=>.ok (.ret (.ref x)))
   (λx=>[aE "dict_itemiterator" [.int (.ofNat x) 0,.bool false,.ref d,.int (.ofNat (i+1)) 0,.int (.ofNat es.length) 0,.int (.ofNat n) 0,key,val],ai es n]) (λx=>[(x,gV [key,val])]):=by
 subst hy0
 refine af.of_b (id:="dict_itemiterator.__next__") (by kernel_rfl) (Db (b:=Builtin.«dict_itemiterator.__next__») (by kernel_rfl)) (by decide+kernel) λrest A R dd os hr hR h g t hg D=>?_
 have hi:h.get? it=some (aE "dict_itemiterator" [.none,.bool false,.ref d,.int (.ofNat i) 0,.int (.ofNat es.length) 0,.int (.ofNat n) 0,o1,o2]):=D.own (it,_) (C3 _ (.head _))
 have hd:h.get? d=some (ai es n):=D.own (d,_) (C3 _ (.tail _ (.head _)))
 wp_walk
 rw [if_neg (by simp only [Dz];lia)]
 have hg1:(⟨es⟩:Array Dj)[(C4 i).toNat]?=some ⟨hs,key,val⟩:=by simpa using he
 rw [hg1]
 dsimp only
 refine C0 ?_
 refine C0 (rd hi rfl (Dc ?_))
 refine C0 (Fa ⟨_,hi,rfl⟩ ?_)
 have e0:("dict_reversekeyiterator" == "dict_itemiterator")=false:=by decide+kernel
 rw [if_pos (by decide+kernel),if_neg (by decide+kernel)]
 refine C0 (gw D (by decide:3 < 8) λh1 hz1 D1=>?_)
 dsimp only [Gg] at D1
 have hi1:=D1.own (it,_) (.head _)
 refine C0 (Ej ?_)
 refine C0 (Fa ⟨_,hi1,rfl⟩ ?_)
 rw [if_neg (by decide+kernel)]
 refine C0 (Fa ⟨_,hi1,rfl⟩ ?_)
 rw [if_neg (by decide+kernel)]
 refine C0 (wpAny_newTuple ?_)
 have D2:=D1.alloc (o:=gV [key,val]) rfl
 have D3:=D2.perm (Ey _ _ _)
 have hi3:=D3.own (it,_) (.head _)
 refine C0 ?_
 refine C0 (ED hi3 rfl (x:=.none) rfl (Dc ?_))
 rw [if_pos rfl]
 dsimp only
 refine C0 (ED hi3 rfl (x:=o1) rfl ?_)
 refine C0 (ED hi3 rfl (x:=o2) rfl ?_)
 refine C0 (gw D3 (by decide:6 < 8) λh4 hz4 D4=>?_)
 dsimp only [Gg] at D4
 refine C0 (gw D4 (by decide:7 < 8) λh5 hz5 D5=>?_)
 dsimp only [Gg] at D5
 refine C0 (gw D5 (by decide:0 < 8) λh6 hz6 D6=>?_)
 dsimp only [Gg] at D6
 refine C0 (gw D6 (by decide:1 < 8) λh7 hz7 D7=>?_)
 dsimp only [Gg] at D7
 refine C0 (Gr (Dc ?_))
 refine Dc ?_
 exact hR h1.objs.size h7 g t trivial hg (D7.perm (Ee _ (Ey _ _ _)))
set_option maxHeartbeats 0 in
theorem lJ {F:Fx} {k:Nat} (it d:C1) (es:List Dj) (n i:Nat) (y0:CX) (hy0:y0=.none) (o1 o2:CX) (hi':i=es.length):
  af F k (.b 154871534474935724191431299575622858322749704592348232378772069 ⟨[.ref it],[]⟩) [(it,aE "dict_itemiterator" [y0,.bool false,.ref d,.int (.ofNat i) 0,.int (.ofNat es.length) 0,.int (.ofNat n) 0,o1,o2]),(d,ai es n)] (X:=C1×C1) (λξ=>True) (λx=>.error (.ref x.2))
   (λx=>[aE "dict_itemiterator" [.none,.bool false,.none,.int (.ofNat i) 0,.int (.ofNat es.length) 0,.int (.ofNat n) 0,o1,o2],ai es n]) (λx=>[(x.1,gV []),(x.2,bx x.1)]):=by
 subst hy0
 refine af.of_b (id:="dict_itemiterator.__next__") (by kernel_rfl) (Db (b:=Builtin.«dict_itemiterator.__next__») (by kernel_rfl)) (by decide+kernel) λrest A R dd os hr hR h g t hg D=>?_
 have hg1:(⟨es⟩:Array Dj)[(C4 i).toNat]?=none:=by simp [hi']
 have hi:h.get? it=some (aE "dict_itemiterator" [.none,.bool false,.ref d,.int (.ofNat i) 0,.int (.ofNat es.length) 0,.int (.ofNat n) 0,o1,o2]):=D.own (it,_) (C3 _ (.head _))
 have hd:h.get? d=some (ai es n):=D.own (d,_) (C3 _ (.tail _ (.head _)))
 wp_walk
 rw [if_neg (by simp only [Dz];lia)]
 refine hg1▸?_
 refine C0 ?_
 refine C0 (rd hi rfl (Dc ?_))
 have hh':A.in1.handled=none:=hr.handled.none
 rw [if_pos (by decide+kernel)]
 refine C0 (gw D (by decide:2 < 8) λh1 hz1 D1=>?_)
 have D2:=D1.alloc (o:=gV []) rfl
 have D3:=D2.alloc (o:=bx h1.objs.size) rfl
 have key:∀o,o=bx h1.objs.size→R (.error (.ref (h1.push (gV [])).objs.size)) ⟨(h1.push (gV [])).push o,g,dd.d,t,os⟩:=by
  intro o ho
  subst ho
  exact hR (h1.objs.size,(h1.push (gV [])).objs.size) _ g t trivial hg (D3.perm (lZ _ _ _ _ _))
 refine C0 ?_
 simp only [newExc,newTuple]
 refine C0 (DU ?_ (by size_fits))
 refine C0 (m:=firstArgMember _ _) (Es (a:=CX.none) (by first | rfl | (simp only [firstArgMember];rfl)) ?_)
 refine DU ?_ (by size_fits)
 refine C0 (Fh ?_)
 refine hh'▸?_
 exact FC (key _ (by kernel_rfl))
section
noncomputable abbrev oX:List Nat:=[95,110,97,109,101]
noncomputable abbrev mQ:List Nat:=[95,118,97,108,117,101]
noncomputable abbrev jH:List Nat:=[95,112,97,114,97,109,115]
noncomputable abbrev CO:List Nat:=[107]
noncomputable abbrev CF:List Nat:=[118]
noncomputable abbrev Hk:=Tok×Tok×Tok×Tok×Tok×Tok×Tok
noncomputable abbrev Cx (F:Fx) (K:Hk) (o:C1) (nm ow:List Nat) (d pl:C1):List Dj:=
 [en F kP K.1 (.ref o),en F oX K.2.1 (.str (S nm) K.2.2.1),en F mQ K.2.2.2.1 (.str (S ow) K.2.2.2.2.1),en F jH K.2.2.2.2.2.1 (.ref d),en F kg K.2.2.2.2.2.2 (.ref pl)]
noncomputable abbrev sQ (F:Fx) (K:Hk) (o:C1) (nm ow:List Nat) (d pl:C1) (e:Nat):Obj:=bY (Cx F K o nm ow d pl) e
noncomputable abbrev jZ (F:Fx) (K:Hk) (o:C1) (nm ow:List Nat) (d pl:C1) (kk:Tok) (vk:CX) (kv:Tok) (vv:CX) (e:Nat):Obj:=
 bY [en F kP K.1 (.ref o),en F oX K.2.1 (.str (S nm) K.2.2.1),en F mQ K.2.2.2.1 (.str (S ow) K.2.2.2.2.1),en F jH K.2.2.2.2.2.1 (.ref d),en F kg K.2.2.2.2.2.2 (.ref pl),en F CO kk vk,en F CF kv vv] e
noncomputable abbrev oT (F:Fx) (L it:C1):CV:=.o (hH (fH F 347 L) (.ref it) (gF F 347 [2]))
noncomputable abbrev Cr (d:C1) (y0:CX) (i m n:Nat) (o1 o2:CX):Obj:=aE "dict_itemiterator" [y0,.bool false,.ref d,.int (.ofNat i) 0,.int (.ofNat m) 0,.int (.ofNat n) 0,o1,o2]
theorem gj (c a:Nat):∀l:List Nat,(aI c [a] l).length=l.length
 | []=>rfl
 | k::r=>by
  have ih:=gj c a r
  unfold aI at ih ⊢
  simp only [D8,CY,ih]
  split <;> simp only [C5,De] <;> lia
noncomputable def gn (p:List Nat×Option (List Nat)):List Nat:=match p.2 with
 | some (v0::vr)=>(((aI 95 [45] p.1)++[61,34])++hO (v0::vr))++[34]
 | _=>aI 95 [45] p.1
noncomputable abbrev Xa:=List Dj×Nat×Nat×List (List Nat×Tok)
section
variable (L it d o od hl pl:C1) (K:Hk) (nm ow:List Nat) (kh:Tok) (eh:Nat) (es:List Dj) (n0:Nat)
noncomputable abbrev oV (F:Fx) (it d o od hl pl:C1) (kh:Tok) (eh:Nat) (es:List Dj) (n0:Nat) (y0:CX) (i:Nat) (o1 o2:CX) (pv:List CX) (ep:Nat):ao:=
 [(it,Cr d y0 i es.length n0 o1 o2),(d,ai es n0),(o,gG od),(od,ig F kh hl eh),(pl,aa pv ep)]
noncomputable abbrev oR (F:Fx) (L d o od hl pl:C1) (K:Hk) (nm ow:List Nat) (kh:Tok) (eh:Nat) (x:Xa):ao:=
 [(L,bY (en F kP K.1 (.ref o)::en F oX K.2.1 (.str (S nm) K.2.2.1)::en F mQ K.2.2.2.1 (.str (S ow) K.2.2.2.2.1)::en F jH K.2.2.2.2.2.1 (.ref d)::en F kg K.2.2.2.2.2.2 (.ref pl)::x.1) x.2.1),(o,gG od),(od,ig F kh hl eh),(pl,aa (al x.2.2.2) x.2.2.1)]
theorem xi (ef:Nat) (y0:CX) (hy0:y0=.none) (i:Nat) (hi:i=es.length) (o1 o2:CX) (parts:List (List Nat×Tok)) (ep:Nat):
  ad Z 8 (oT Z L it) ((L,sQ Z K o nm ow d pl ef)::oV Z it d o od hl pl kh eh es n0 y0 i o1 o2 (al parts) ep) [] (X:=Xa) (λx=>x.2.2.2=parts) (λξ=>.ok .next) (oR Z L d o od hl pl K nm ow kh eh) (λξ=>[]):=by
 subst hy0
 refine ad.of_codeTB λrest A R dd os hroom hR n t=>?_
 exists 1,lJ it d es n0 i (.none) rfl o1 o2 ‹_›,787,34
 exists az,([],ef,ep,parts),(by rfl),21,21845
theorem ye (kk:Tok) (vk:CX) (kv:Tok) (vv:CX) (ef:Nat) (y0:CX) (hy0:y0=.none) (i:Nat) (hi:i=es.length) (o1 o2:CX) (parts:List (List Nat×Tok)) (ep:Nat):
  ad Z 8 (oT Z L it) ((L,jZ Z K o nm ow d pl kk vk kv vv ef)::oV Z it d o od hl pl kh eh es n0 y0 i o1 o2 (al parts) ep) [] (X:=Xa) (λx=>x.2.2.2=parts) (λξ=>.ok .next) (oR Z L d o od hl pl K nm ow kh eh) (λξ=>[]):=by
 subst hy0
 refine ad.of_codeTB λrest A R dd os hroom hR n t=>?_
 exists 1,lJ it d es n0 i (.none) rfl o1 o2 ‹_›,787,34
 exists az,([.mk (pd Z [107]) (.str (S [107]) kk) vk,.mk (pd Z [118]) (.str (S [118]) kv) vv],ef,ep,parts),(by rfl),21,21845
theorem tW (ef:Nat) (y0:CX) (hy0:y0=.none) (i:Nat) (o1 o2:CX) (parts:List (List Nat×Tok)) (ep:Nat) (hpl:parts.length≤1000) (k:List Nat) (tk:Tok) (hk:k.length≤1000) (hkp:∀c∈k,bH c=true) (hs:Int) (he:es[i]?=some ⟨hs,.str (S k) tk,.none⟩) (P:Xa→Prop)
  (ih:∀(kk kv tk':Tok) (y0:CX) (ef ep:Nat) (tp:Tok),y0=.none→ad Z 8 (oT Z L it) ((L,jZ Z K o nm ow d pl kk (.str (S k) tk') kv (.none) ef)::oV Z it d o od hl pl kh eh es n0 y0 (i+1) (.str (S k) tk') (.none) (al parts++[.str (S (aI 95 [45] k)) tp]) ep) [] P (λξ=>.ok .next) (oR Z L d o od hl pl K nm ow kh eh) (λξ=>[])):
  ad Z 8 (oT Z L it) ((L,sQ Z K o nm ow d pl ef)::oV Z it d o od hl pl kh eh es n0 y0 i o1 o2 (al parts) ep) [] P (λξ=>.ok .next) (oR Z L d o od hl pl K nm ow kh eh) (λξ=>[]):=by
 have hsz:=ab
 have hk3:k.length+(k.length+1) * [45].length≤16777216:=by show _+_ * 1≤_;lia
 subst hy0
 have hk2:k.length < 16777216:=by exact lA ‹_› rfl
 have hpz:(al parts).length≤CZ:=by unfold al;rw [C2];exact lB ‹_› rfl
 refine ad.of_codeTB λrest A R dd os hroom hR n t=>?_
 exists 1,dB it d es n0 i (.none) rfl o1 o2 (.str (S k) tk) (.none) hs he,787,34
 exists 2,(i4 o (.mk (.ref 350) (some od) .plain #[]) k tk ‹_› ‹_›).up rfl,0x1576111161116111654545b894991919894991919894991919914144412,5
 refine bk hroom (gQ k tk 95 (t2+1) [45] (t2+1+1) rfl (eH _) rfl ‹_›) (t2+1+1+1) (dec 96779920982) [] ?_ (by kernel_rfl)
 intro cf3 x3 n3 t3 q3 p3
 exists 4,dj pl (al parts) ep (.str (S (aI 95 [45] k)) x3) ‹_›,129,7
 exists 5,aX,ih t1 (t1+1) tk (Decidable.rec (λh=>(λx=>.int (.ofNat x1) 0) h) (λh=>(λx=>.none) h) (instDecidableEqNat x1 x1)) (ef+1+1) (ep+1) x3 (by exact aZ _),0,1254198
 exists az,(x5.1,x5.2.1,x5.2.2.1,x5.2.2.2),(by rfl),0,4369
theorem u4 (kk:Tok) (vk:CX) (kv:Tok) (vv:CX) (ef:Nat) (y0:CX) (hy0:y0=.none) (i:Nat) (o1 o2:CX) (parts:List (List Nat×Tok)) (ep:Nat) (hpl:parts.length≤1000) (k:List Nat) (tk:Tok) (hk:k.length≤1000) (hkp:∀c∈k,bH c=true) (hs:Int) (he:es[i]?=some ⟨hs,.str (S k) tk,.none⟩) (P:Xa→Prop)
  (ih:∀(kk kv tk':Tok) (y0:CX) (ef ep:Nat) (tp:Tok),y0=.none→ad Z 8 (oT Z L it) ((L,jZ Z K o nm ow d pl kk (.str (S k) tk') kv (.none) ef)::oV Z it d o od hl pl kh eh es n0 y0 (i+1) (.str (S k) tk') (.none) (al parts++[.str (S (aI 95 [45] k)) tp]) ep) [] P (λξ=>.ok .next) (oR Z L d o od hl pl K nm ow kh eh) (λξ=>[])):
  ad Z 8 (oT Z L it) ((L,jZ Z K o nm ow d pl kk vk kv vv ef)::oV Z it d o od hl pl kh eh es n0 y0 i o1 o2 (al parts) ep) [] P (λξ=>.ok .next) (oR Z L d o od hl pl K nm ow kh eh) (λξ=>[]):=by
 subst hy0
 have hk2:k.length < 16777216:=by exact lA ‹_› rfl
 have hk3:k.length+(k.length+1) * [45].length≤16777216:=by show _+_ * 1≤_;lia
 have hsz:=ab
 have hpz:(al parts).length≤CZ:=by unfold al;rw [C2];exact lB ‹_› rfl
 refine ad.of_codeTB λrest A R dd os hroom hR n t=>?_
 exists 1,dB it d es n0 i (.none) rfl o1 o2 (.str (S k) tk) (.none) hs he,787,34
 exists 2,(i4 o (.mk (.ref 350) (some od) .plain #[]) k tk ‹_› ‹_›).up rfl,0x1576111161116111654545b894991919894991919894991919914144412,5
 refine bk hroom (gQ k tk 95 (t2+1) [45] (t2+1+1) rfl (eH _) rfl ‹_›) (t2+1+1+1) (dec 96779920982) [] ?_ (by kernel_rfl)
 intro cf3 x3 n3 t3 q3 p3
 exists 4,dj pl (al parts) ep (.str (S (aI 95 [45] k)) x3) ‹_›,129,7
 exists 5,aX,ih kk kv tk (Decidable.rec (λh=>(λx=>.int (.ofNat x1) 0) h) (λh=>(λx=>.none) h) (instDecidableEqNat x1 x1)) ef (ep+1) x3 (by exact aZ _),0,1254198
 exists az,(x5.1,x5.2.1,x5.2.2.1,x5.2.2.2),(by rfl),0,4369
theorem sX (ef:Nat) (y0:CX) (hy0:y0=.none) (i:Nat) (o1 o2:CX) (parts:List (List Nat×Tok)) (ep:Nat) (hpl:parts.length≤1000) (k:List Nat) (tk:Tok) (hk:k.length≤1000) (hkp:∀c∈k,bH c=true) (tv:Tok) (hs:Int) (he:es[i]?=some ⟨hs,.str (S k) tk,.str (S []) tv⟩) (P:Xa→Prop)
  (ih:∀(kk kv tk':Tok) (y0:CX) (ef ep:Nat) (tp:Tok),y0=.none→ad Z 8 (oT Z L it) ((L,jZ Z K o nm ow d pl kk (.str (S k) tk') kv (.str (S []) tv) ef)::oV Z it d o od hl pl kh eh es n0 y0 (i+1) (.str (S k) tk') (.str (S []) tv) (al parts++[.str (S (aI 95 [45] k)) tp]) ep) [] P (λξ=>.ok .next) (oR Z L d o od hl pl K nm ow kh eh) (λξ=>[])):
  ad Z 8 (oT Z L it) ((L,sQ Z K o nm ow d pl ef)::oV Z it d o od hl pl kh eh es n0 y0 i o1 o2 (al parts) ep) [] P (λξ=>.ok .next) (oR Z L d o od hl pl K nm ow kh eh) (λξ=>[]):=by
 have hk3:k.length+(k.length+1) * [45].length≤16777216:=by show _+_ * 1≤_;lia
 subst hy0
 have hk2:k.length < 16777216:=by exact lA ‹_› rfl
 have hsz:=ab
 have hpz:(al parts).length≤CZ:=by unfold al;rw [C2];exact lB ‹_› rfl
 have hvp:∀c∈([]:List Nat),aO c=true:=λc h=>by cases h
 have hv2:([]:List Nat).length < 16777216:=by decide
 refine ad.of_codeTB λrest A R dd os hroom hR n t=>?_
 exists 1,dB it d es n0 i (.none) rfl o1 o2 (.str (S k) tk) (.str (S []) tv) hs he,787,34
 exists 2,(i4 o (.mk (.ref 350) (some od) .plain #[]) k tk ‹_› ‹_›).up rfl,0x1576111161116111654545b894991919894991919894991919914144412,5
 exists 3,(nF o (.mk (.ref 350) (some od) .plain #[]) [] tv ‹_› ‹_›).up rfl,0x167211112111211126656,1
 refine bk hroom (gQ k tk 95 (t3+1) [45] (t3+1+1) rfl (eH _) rfl ‹_›) (t3+1+1+1) (dec 94900880982) [] ?_ (by kernel_rfl)
 intro cf4 x4 n4 t4 q4 p4
 exists 5,(nf (aI 95 [45] k) x4 tv).up rfl,22,0
 exists 6,dj pl (al parts) ep (.str (S (aI 95 [45] k)) x4) ‹_›,129,7
 exists 7,aX,ih t1 (t1+1) tk (Decidable.rec (λh=>(λx=>.int (.ofNat x1) 0) h) (λh=>(λx=>.none) h) (instDecidableEqNat x1 x1)) (ef+1+1) (ep+1) x4 (by exact aZ _),0,1254198
 exists az,(x7.1,x7.2.1,x7.2.2.1,x7.2.2.2),(by rfl),0,4369
theorem sf (kk:Tok) (vk:CX) (kv:Tok) (vv:CX) (ef:Nat) (y0:CX) (hy0:y0=.none) (i:Nat) (o1 o2:CX) (parts:List (List Nat×Tok)) (ep:Nat) (hpl:parts.length≤1000) (k:List Nat) (tk:Tok) (hk:k.length≤1000) (hkp:∀c∈k,bH c=true) (tv:Tok) (hs:Int) (he:es[i]?=some ⟨hs,.str (S k) tk,.str (S []) tv⟩) (P:Xa→Prop)
  (ih:∀(kk kv tk':Tok) (y0:CX) (ef ep:Nat) (tp:Tok),y0=.none→ad Z 8 (oT Z L it) ((L,jZ Z K o nm ow d pl kk (.str (S k) tk') kv (.str (S []) tv) ef)::oV Z it d o od hl pl kh eh es n0 y0 (i+1) (.str (S k) tk') (.str (S []) tv) (al parts++[.str (S (aI 95 [45] k)) tp]) ep) [] P (λξ=>.ok .next) (oR Z L d o od hl pl K nm ow kh eh) (λξ=>[])):
  ad Z 8 (oT Z L it) ((L,jZ Z K o nm ow d pl kk vk kv vv ef)::oV Z it d o od hl pl kh eh es n0 y0 i o1 o2 (al parts) ep) [] P (λξ=>.ok .next) (oR Z L d o od hl pl K nm ow kh eh) (λξ=>[]):=by
 have hk3:k.length+(k.length+1) * [45].length≤16777216:=by show _+_ * 1≤_;lia
 subst hy0
 have hk2:k.length < 16777216:=by exact lA ‹_› rfl
 have hsz:=ab
 have hpz:(al parts).length≤CZ:=by unfold al;rw [C2];exact lB ‹_› rfl
 have hvp:∀c∈([]:List Nat),aO c=true:=λc h=>by cases h
 have hv2:([]:List Nat).length < 16777216:=by decide
 refine ad.of_codeTB λrest A R dd os hroom hR n t=>?_
 exists 1,dB it d es n0 i (.none) rfl o1 o2 (.str (S k) tk) (.str (S []) tv) hs he,787,34
 exists 2,(i4 o (.mk (.ref 350) (some od) .plain #[]) k tk ‹_› ‹_›).up rfl,0x1576111161116111654545b894991919894991919894991919914144412,5
 exists 3,(nF o (.mk (.ref 350) (some od) .plain #[]) [] tv ‹_› ‹_›).up rfl,0x167211112111211126656,1
 refine bk hroom (gQ k tk 95 (t3+1) [45] (t3+1+1) rfl (eH _) rfl ‹_›) (t3+1+1+1) (dec 94900880982) [] ?_ (by kernel_rfl)
 intro cf4 x4 n4 t4 q4 p4
 exists 5,(nf (aI 95 [45] k) x4 tv).up rfl,22,0
 exists 6,dj pl (al parts) ep (.str (S (aI 95 [45] k)) x4) ‹_›,129,7
 exists 7,aX,ih kk kv tk (Decidable.rec (λh=>(λx=>.int (.ofNat x1) 0) h) (λh=>(λx=>.none) h) (instDecidableEqNat x1 x1)) ef (ep+1) x4 (by exact aZ _),0,1254198
 exists az,(x7.1,x7.2.1,x7.2.2.1,x7.2.2.2),(by rfl),0,4369
theorem tE (ef:Nat) (y0:CX) (hy0:y0=.none) (i:Nat) (o1 o2:CX) (parts:List (List Nat×Tok)) (ep:Nat) (hpl:parts.length≤1000) (k:List Nat) (tk:Tok) (hk:k.length≤1000) (hkp:∀c∈k,bH c=true) (tv:Tok) (v0:Nat) (vr:List Nat) (hv:(v0::vr).length≤1000) (hvp:∀c∈v0::vr,aO c=true) (hs:Int) (he:es[i]?=some ⟨hs,.str (S k) tk,.str (S (v0::vr)) tv⟩) (P:Xa→Prop)
  (ih:∀(kk kv tk':Tok) (y0:CX) (ef ep:Nat) (tp:Tok),y0=.none→ad Z 8 (oT Z L it) ((L,jZ Z K o nm ow d pl kk (.str (S k) tk') kv (.str (S (v0::vr)) tv) ef)::oV Z it d o od hl pl kh eh es n0 y0 (i+1) (.str (S k) tk') (.str (S (v0::vr)) tv) (al parts++[.str (S ((((aI 95 [45] k)++[61,34])++hO (v0::vr))++[34])) tp]) ep) [] P (λξ=>.ok .next) (oR Z L d o od hl pl K nm ow kh eh) (λξ=>[])):
  ad Z 8 (oT Z L it) ((L,sQ Z K o nm ow d pl ef)::oV Z it d o od hl pl kh eh es n0 y0 i o1 o2 (al parts) ep) [] P (λξ=>.ok .next) (oR Z L d o od hl pl K nm ow kh eh) (λξ=>[]):=by
 have hk3:k.length+(k.length+1) * [45].length≤16777216:=by show _+_ * 1≤_;lia
 subst hy0
 have hrl:(aI 95 [45] k).length≤1000:=by rw [gj];exact hk
 have hk2:k.length < 16777216:=by exact lA ‹_› rfl
 have hsz:=ab
 have hpz:(al parts).length≤CZ:=by unfold al;rw [C2];exact lB ‹_› rfl
 have hv2:(v0::vr).length < 16777216:=by exact lA ‹_› rfl
 refine ad.of_codeTB λrest A R dd os hroom hR n t=>?_
 exists 1,dB it d es n0 i (.none) rfl o1 o2 (.str (S k) tk) (.str (S (v0::vr)) tv) hs he,787,34
 exists 2,(i4 o (.mk (.ref 350) (some od) .plain #[]) k tk ‹_› ‹_›).up rfl,0x1576111161116111654545b894991919894991919894991919914144412,5
 exists 3,(nF o (.mk (.ref 350) (some od) .plain #[]) (v0::vr) tv ‹_› ‹_›).up rfl,0x167211112111211126656,1
 refine bk hroom (gQ k tk 95 (t3+1) [45] (t3+1+1) rfl (eH _) rfl ‹_›) (t3+1+1+1) (dec 94900880982) [] ?_ (by kernel_rfl)
 intro cf4 x4 n4 t4 q4 p4
 exists 5,(qB (aI 95 [45] k) v0 vr x4 tv ‹_› ‹_›).up rfl,22,0
 exists 6,dj pl (al parts) ep (.str (S (aI 95 [45] k++[61,34]++hO (v0::vr)++[34])) x5) ‹_›,129,7
 exists 7,aX,ih t1 (t1+1) tk (Decidable.rec (λh=>(λx=>.int (.ofNat x1) 0) h) (λh=>(λx=>.none) h) (instDecidableEqNat x1 x1)) (ef+1+1) (ep+1) x5 (by exact aZ _),0,1254198
 exists az,(x7.1,x7.2.1,x7.2.2.1,x7.2.2.2),(by rfl),0,4369
theorem u8 (kk:Tok) (vk:CX) (kv:Tok) (vv:CX) (ef:Nat) (y0:CX) (hy0:y0=.none) (i:Nat) (o1 o2:CX) (parts:List (List Nat×Tok)) (ep:Nat) (hpl:parts.length≤1000) (k:List Nat) (tk:Tok) (hk:k.length≤1000) (hkp:∀c∈k,bH c=true) (tv:Tok) (v0:Nat) (vr:List Nat) (hv:(v0::vr).length≤1000) (hvp:∀c∈v0::vr,aO c=true) (hs:Int) (he:es[i]?=some ⟨hs,.str (S k) tk,.str (S (v0::vr)) tv⟩) (P:Xa→Prop)
  (ih:∀(kk kv tk':Tok) (y0:CX) (ef ep:Nat) (tp:Tok),y0=.none→ad Z 8 (oT Z L it) ((L,jZ Z K o nm ow d pl kk (.str (S k) tk') kv (.str (S (v0::vr)) tv) ef)::oV Z it d o od hl pl kh eh es n0 y0 (i+1) (.str (S k) tk') (.str (S (v0::vr)) tv) (al parts++[.str (S ((((aI 95 [45] k)++[61,34])++hO (v0::vr))++[34])) tp]) ep) [] P (λξ=>.ok .next) (oR Z L d o od hl pl K nm ow kh eh) (λξ=>[])):
  ad Z 8 (oT Z L it) ((L,jZ Z K o nm ow d pl kk vk kv vv ef)::oV Z it d o od hl pl kh eh es n0 y0 i o1 o2 (al parts) ep) [] P (λξ=>.ok .next) (oR Z L d o od hl pl K nm ow kh eh) (λξ=>[]):=by
 have hk3:k.length+(k.length+1) * [45].length≤16777216:=by show _+_ * 1≤_;lia
 have hv2:(v0::vr).length < 16777216:=by exact lA ‹_› rfl
 subst hy0
 have hk2:k.length < 16777216:=by exact lA ‹_› rfl
 have hsz:=ab
 have hpz:(al parts).length≤CZ:=by unfold al;rw [C2];exact lB ‹_› rfl
 have hrl:(aI 95 [45] k).length≤1000:=by rw [gj];exact hk
 refine ad.of_codeTB λrest A R dd os hroom hR n t=>?_
 exists 1,dB it d es n0 i (.none) rfl o1 o2 (.str (S k) tk) (.str (S (v0::vr)) tv) hs he,787,34
 exists 2,(i4 o (.mk (.ref 350) (some od) .plain #[]) k tk ‹_› ‹_›).up rfl,0x1576111161116111654545b894991919894991919894991919914144412,5
 exists 3,(nF o (.mk (.ref 350) (some od) .plain #[]) (v0::vr) tv ‹_› ‹_›).up rfl,0x167211112111211126656,1
 refine bk hroom (gQ k tk 95 (t3+1) [45] (t3+1+1) rfl (eH _) rfl ‹_›) (t3+1+1+1) (dec 94900880982) [] ?_ (by kernel_rfl)
 intro cf4 x4 n4 t4 q4 p4
 exists 5,(qB (aI 95 [45] k) v0 vr x4 tv ‹_› ‹_›).up rfl,22,0
 exists 6,dj pl (al parts) ep (.str (S (aI 95 [45] k++[61,34]++hO (v0::vr)++[34])) x5) ‹_›,129,7
 exists 7,aX,ih kk kv tk (Decidable.rec (λh=>(λx=>.int (.ofNat x1) 0) h) (λh=>(λx=>.none) h) (instDecidableEqNat x1 x1)) ef (ep+1) x5 (by exact aZ _),0,1254198
 exists az,(x7.1,x7.2.1,x7.2.2.1,x7.2.2.2),(by rfl),0,4369
end
end
section
theorem iK (w:Ek):∀(l:List (Str×CX)) (t:Nat),(b6 w t l).length=l.length
 | [],_=>rfl
 | a::r,t=>by show (b6 w (t+1) r).length+1=_;rw [iK w r (t+1)];rfl
theorem lQ (w:Ek):∀(l:List (Str×CX)) (t i:Nat) (kv:Str×CX),l[i]?=some kv→(b6 w t l)[i]?=some ⟨hashStr w kv.1,.str kv.1 (t+i),kv.2⟩
 | [],_,i,_,h=>by cases i <;> cases h
 | a::r,t,0,kv,h=>by
  have h:a=kv:=by simpa using h
  subst h
  rfl
 | a::r,t,i+1,kv,h=>by
  have h:r[i]?=some kv:=by simpa using h
  have:=lQ w r (t+1) i kv h
  show (b6 w (t+1) r)[i]?=_
  rw [this,show t+1+i=t+(i+1) by lia]
noncomputable def Pm.kw (p:Pm):Str×CX:=(S p.k,p.val)
noncomputable def By (p:List Nat×Option (List Nat)):Prop:=(∀c∈p.1,bH c=true)∧p.1.length≤1000∧∀x,p.2=some x→(∀c∈x,aO c=true)∧x.length≤1000
inductive BF where
 | s5
 | s7 (kk:Tok) (vk:CX) (kv:Tok) (vv:CX)
noncomputable def CG (F:Fx) (K:Hk) (o:C1) (nm ow:List Nat) (d pl:C1) (e:Nat):BF→Obj
 | .s5=>sQ F K o nm ow d pl e
 | .s7 kk vk kv vv=>jZ F K o nm ow d pl kk vk kv vv e
section
variable (L it d o od hl pl:C1) (K:Hk) (nm ow:List Nat) (kh:Tok) (eh:Nat) (w':Ek) (ps:List Pm) (t0:Nat) (n0:Nat)
theorem qT (hok:∀p∈ps,By p.pl):∀(rem:List Pm) (i:Nat) (st:BF) (y0:CX) (o1 o2:CX) (parts:List (List Nat×Tok)) (ep ef:Nat),y0=.none→ps.drop i=rem→i+rem.length=ps.length→parts.length+rem.length≤1000→
  ad Z 8 (oT Z L it) ((L,CG Z K o nm ow d pl ef st)::oV Z it d o od hl pl kh eh (b6 w' t0 (ps.map Pm.kw)) n0 y0 i o1 o2 (al parts) ep) []
   (λx:Xa=>x.2.2.2.map (·.1)=parts.map (·.1)++rem.map λp=>gn p.pl) (λξ=>.ok .next) (oR Z L d o od hl pl K nm ow kh eh) (λξ=>[])
 | [],i,st,y0,o1,o2,parts,ep,ef,hy,hd,hl',_=>by
  have hlen:i=(b6 w' t0 (ps.map Pm.kw)).length:=by simp only [iK,C2,←hl'];rfl
  cases st with
  | s5=>exact ad.to (xi L it d o od hl pl K nm ow kh eh _ n0 ef y0 hy i hlen o1 o2 parts ep) (C8 _) id (λξ=>[]) λx hx=>⟨by
    have hx:x.2.2.2=parts:=hx
    show x.2.2.2.map (·.1)=_
    simp only [hx,EO,Dm],rfl,C8 _⟩
  | s7 kk vk kv vv=>exact ad.to (ye L it d o od hl pl K nm ow kh eh _ n0 kk vk kv vv ef y0 hy i hlen o1 o2 parts ep) (C8 _) id (λξ=>[]) λx hx=>⟨by
    have hx:x.2.2.2=parts:=hx
    show x.2.2.2.map (·.1)=_
    simp only [hx,EO,Dm],rfl,C8 _⟩
 | p::rem,i,st,y0,o1,o2,parts,ep,ef,hy,hd,hl',hsz=>by
  have e1:∀tp:Tok,(parts++[(gn p.pl,tp)]).map (·.1)++rem.map (λp=>gn p.pl)=parts.map (·.1)++(p::rem).map (λp=>gn p.pl):=λtp=>by simp
  have hi:ps[i]?=some p:=by
   have:=congrArg (λl=>l[0]?) hd
   simpa using this
  have hd':ps.drop (i+1)=rem:=by
   have:=congrArg (DX 1) hd
   simp only [DE] at this
   exact this
  have hp:=hok p (Dw hi)
  have hg:=lQ w' (ps.map Pm.kw) t0 i p.kw (by simp only [Dv,hi];rfl)
  simp only [C5] at hsz hl'
  have hpl:parts.length≤1000:=by lia
  have ih0:=λ(st:BF) (y0:CX) (o1 o2:CX) (tp:Tok) (ep ef:Nat) (hy:y0=.none)=>qT hok rem (i+1) st y0 o1 o2 (parts++[(gn p.pl,tp)]) ep ef hy hd' (by lia) (by rw [CY];show _+1+_≤_;lia)
  simp only [e1,←bu] at ih0
  clear e1
  obtain ⟨a,k,tk,v,tv,e⟩:=p
  obtain ⟨h1,h2,h3⟩:=hp
  cases v with
  | none=>
   cases st with
   | s5=>exact tW L it d o od hl pl K nm ow kh eh _ n0 ef y0 hy i o1 o2 parts ep hpl k _ h2 h1 _ hg _ λkk kv tk' y0 ef ep tp hy=>ih0 (.s7 kk _ kv _) y0 _ _ tp ep ef hy
   | s7 a1 a2 a3 a4=>exact u4 L it d o od hl pl K nm ow kh eh _ n0 a1 a2 a3 a4 ef y0 hy i o1 o2 parts ep hpl k _ h2 h1 _ hg _ λkk kv tk' y0 ef ep tp hy=>ih0 (.s7 kk _ kv _) y0 _ _ tp ep ef hy
  | some x=>
   obtain ⟨g1,g2⟩:=h3 x rfl
   cases x with
   | nil=>
    cases st with
    | s5=>exact sX L it d o od hl pl K nm ow kh eh _ n0 ef y0 hy i o1 o2 parts ep hpl k _ h2 h1 tv _ hg _ λkk kv tk' y0 ef ep tp hy=>ih0 (.s7 kk _ kv _) y0 _ _ tp ep ef hy
    | s7 a1 a2 a3 a4=>exact sf L it d o od hl pl K nm ow kh eh _ n0 a1 a2 a3 a4 ef y0 hy i o1 o2 parts ep hpl k _ h2 h1 tv _ hg _ λkk kv tk' y0 ef ep tp hy=>ih0 (.s7 kk _ kv _) y0 _ _ tp ep ef hy
   | cons v0 vr=>
    cases st with
    | s5=>exact tE L it d o od hl pl K nm ow kh eh _ n0 ef y0 hy i o1 o2 parts ep hpl k _ h2 h1 tv v0 vr g2 g1 _ hg _ λkk kv tk' y0 ef ep tp hy=>ih0 (.s7 kk _ kv _) y0 _ _ tp ep ef hy
    | s7 a1 a2 a3 a4=>exact u8 L it d o od hl pl K nm ow kh eh _ n0 a1 a2 a3 a4 ef y0 hy i o1 o2 parts ep hpl k _ h2 h1 tv v0 vr g2 g1 _ hg _ λkk kv tk' y0 ef ep tp hy=>ih0 (.s7 kk _ kv _) y0 _ _ tp ep ef hy
theorem zI (hok:∀p∈ps,By p.pl) (hsz:ps.length≤999) (to:Tok) (ep ef:Nat) (es:List Dj) (hes:es=b6 w' t0 (ps.map Pm.kw)) (m:Nat) (hm:m=es.length):
  ad Z 8 (oT Z L it) [(L,sQ Z K o nm ow d pl ef),(it,Cr d .none 0 m n0 .none .none),(d,ai es n0),(o,gG od),(od,ig Z kh hl eh),(pl,aa [.str (S ow) to] ep)] []
   (λx:Xa=>x.2.2.2.map (·.1)=ow::ps.map λp=>gn p.pl) (λξ=>.ok .next) (oR Z L d o od hl pl K nm ow kh eh) (λξ=>[]):=by
 subst hm
 subst hes
 exact qT L it d o od hl pl K nm ow kh eh w' ps t0 n0 hok ps 0 .s5 .none .none .none [(ow,to)] ep ef rfl rfl (EN _) (by show 1+_≤_;lia)
end
end
noncomputable def eM (F:Fx):C1:=match (eu F 347).code with | .ref a=>a | _=>0
noncomputable def Cf (F:Fx):Str:=match (fY (cu F (eM F)))[1]? with | some (CX.str q _)=>q | _=>Str.empty
noncomputable def AM (F:Fx):Tok:=match (fY (cu F (eM F)))[1]? with | some (CX.str _ t)=>t | _=>0
noncomputable abbrev je (n:Nat):Arg:=((eu Z 347).params.args[n]?).getD ⟨Str.empty,none,⟨0,0,0,0⟩⟩
theorem Bn:vL (eu Z 347) (S [95,112,97,114,97,109,115]) where
 pos:=by kernel_rfl
 args:=⟨(je 0).annotation,(je 0).pos,(je 1).annotation,(je 1).pos,(je 2).annotation,(je 2).pos,by kernel_rfl⟩
 var:=by kernel_rfl
 kwo:=by kernel_rfl
 kwa:=⟨(((eu Z 347).params.kwarg).getD (je 0)).annotation,(((eu Z 347).params.kwarg).getD (je 0)).pos,by kernel_rfl⟩
 dfl:=by kernel_rfl
theorem tH {k:Nat} {X:Type} {P:X→Prop} {r:X→Dq} {post pm:X→ao} {D1 D2:Dr→Dr} {v1 v2 v3:CX} {kws:List (Str×CX)} {L M:ao}
  (hk:∀kv∈kws,[wb,wh,wg].contains kv.1=false) (hnd:(kws.map (·.1)).Nodup) (hlen:kws.length≤1000)
  (x:∀rest A R d os,aP (k+1) A→eY Z rest (D2 d) os R P r post pm→∀n t w' es,es=b6 w' t kws→c9 Z A (.plain R) (M++rest) (D1 d) os (λξ ξ=>.go (.call (.ref 347) ⟨[v1,v2,v3],kws⟩) .base (uU (eu Z 347) 347 (Cf Z) [(wb,v1),(wh,v2),(wg,v3),(S [95,112,97,114,97,109,115],.ref n)]) (L++[(n,ai es kws.length)]) (n+1) (t+kws.length))):
  ad Z (k+1) (.o (.call (.ref 347) ⟨[v1,v2,v3],kws⟩)) L M P r post pm D1 D2:=
 ad.of_defK (o:=cu Z 347) (co:=cu Z (eM Z)) (ca:=eM Z) (vs:=fY (cu Z (eM Z))) (tq:=AM Z)
  (by kernel_rfl) (by kernel_rfl) (by kernel_rfl) (by kernel_rfl) (by kernel_rfl) Bn (by kernel_rfl) (by kernel_rfl) (by kernel_rfl) (by kernel_rfl) (by kernel_rfl) hk hnd hlen λrest A R d os hr hR n t=>(x rest A R d os hr hR n t _ _ rfl).one
noncomputable abbrev Xh:=List (List Nat×Tok)×C1×Nat×Tok×Tok
theorem sj (o od hl:C1) (k:Tok) (e el:Nat) (xs:List CX) (hxs:xs.length≤1000) (nm ow:List Nat) (tn to:Tok) (ps:List Pm)
  (hk:∀kv∈ps.map Pm.kw,[wb,wh,wg].contains kv.1=false) (hnd:((ps.map Pm.kw).map (·.1)).Nodup) (hlen:ps.length≤999) (hok:∀p∈ps,By p.pl)
  (hw1:∀c∈ow,aO c=true) (hw2:ow.length < 16777216) (hn1:∀c∈nm,bH c=true) (hn2:nm.length < 16777216) (hj:((ow::ps.map λp=>gn p.pl).map (·.length)).sum+(ow::ps.map λp=>gn p.pl).length * 2≤CZ):
  ad Z 12 (.o (.call (.ref 347) ⟨[.ref o,.str (S nm) tn,.str (S ow) to],ps.map Pm.kw⟩)) [(o,gG od),(od,ig Z k hl e),(hl,aa xs el)] [] (X:=Xh) (λx=>x.1.map (·.1)=ow::ps.map λp=>gn p.pl) (λξ=>.ok (.ret .none))
   (λx=>[(o,gG od),(od,ig Z k hl e),(hl,aa (xs++[.ref x.2.1]) x.2.2.1),(x.2.1,an nm x.2.2.2.1 (ap [59,32] (x.1.map (·.1))) x.2.2.2.2)]) (λξ=>[]):=by
 have hs:=ab
 have hjn:∀(y:List (List Nat×Tok)),y.map (·.1)=(ow::ps.map λp=>gn p.pl)→((y.map (·.1)).map (·.length)).sum+y.length * [59,32].length≤CZ:=λy hy=>by
  have:y.length=(ow::ps.map λp=>gn p.pl).length:=by rw [←hy,C2]
  rw [hy,this];exact hj
 have hl2:(ps.map Pm.kw).length≤1000:=by rw [C2];exact lB ‹_› rfl
 have hxz:xs.length≤CZ:=by exact lB ‹_› rfl
 have hkl:=(iK Z.w (ps.map Pm.kw))
 have hF:2≤Z.low:=by delta Z gI;exact (by decide:2≤394)
 refine tH hk hnd hl2 λrest A R d os hroom hR n t w' es hes=>?_
 exists 1,(nF o (.mk (.ref 350) (some od) .plain #[]) ow to ‹_› ‹_›).up rfl,0x1632111121112111266561156565656,1
 exists 2,dj (n+1+1) [] 0 (.str (S ow) to) (by decide),0x7167777656,6
 exists 3,pW ‹_› n es (C9 (Ds Pm.kw ps)),0x6166667,5
 exists 4,ph x3 n es (C9 (Ds Pm.kw ps)),12595,18
 exists 5,dx,(zI (n+1) x4 n o od hl (n+1+1) ((t+C9 (Ds Pm.kw ps),t+C9 (Ds Pm.kw ps)+1,tn,t+C9 (Ds Pm.kw ps)+1+1,to,t+C9 (Ds Pm.kw ps)+1+1+1,t+C9 (Ds Pm.kw ps)+1+1+1+1)) nm ow k e w' ps t (C9 (Ds Pm.kw ps)) hok ‹_› to (0+1) (0+1+1+1+1+1) es hes (C9 es) rfl).up rfl,4,2306616
 exists 6,(i4 o (.mk (.ref 350) (some od) .plain #[]) nm (((t+C9 (Ds Pm.kw ps),t+C9 (Ds Pm.kw ps)+1,tn,t+C9 (Ds Pm.kw ps)+1+1,to,t+C9 (Ds Pm.kw ps)+1+1+1,t+C9 (Ds Pm.kw ps)+1+1+1+1).2).2).1 ‹_› ‹_›).up rfl,0x124311113111311132777741331113111132,2
 exists 7,dt [59,32] t6 (n+1+1) x5.2.2.2 x5.2.2.1 (by apply_assumption <;> assumption),19,4
 exists 8,dj hl xs el (.ref n7) ‹_›,113,6
 exists az,((x5.2.2).2,n7,el+1,tn,x7),(by rfl),0,16707
section
set_option hygiene false in
noncomputable abbrev k7:List Nat:=[107,101,121]
noncomputable abbrev CA (F:Fx):Expr:=gb F 371 [1,1] 0
noncomputable abbrev qu (F:Fx) (L C it d:C1):CV:=fV F 371 L C (CA F) [] it d
noncomputable abbrev Xk:=Tok×CX×Tok×CX×Nat×Obj×Nat×List Dj
noncomputable abbrev vD (F:Fx) (xs:List CX) (ex:Nat) (y:Xk):List Obj:=
 [ai [en F k7 y.1 y.2.1,en F cN y.2.2.1 y.2.2.2.1] y.2.2.2.2.1,y.2.2.2.2.2.1,aa xs ex,ai y.2.2.2.2.2.2.2 y.2.2.2.2.2.2.1]
section
variable (L C it pa d:C1) (xs:List CX) (ex:Nat)
noncomputable abbrev pn (C it pa d:C1) (xs:List CX) (ex:Nat) (o:Obj) (i:Nat) (es:List Dj) (n:Nat):ao:=
 [(C,o),(it,aS pa i),(pa,aa xs ex),(d,ai es n)]
theorem y7 (k0:Tok) (v0:CX) (k1:Tok) (v1:CX) (ec0:Nat) (i:Nat) (hv:xs.length≤i) (es:List Dj) (n0:Nat):
  af Z 6 (qu Z L C it d) (pn C it pa d xs ex (ai [en Z k7 k0 v0,en Z cN k1 v1] ec0) i es n0)
   (X:=Obj) (λξ=>True) (λξ=>.ok .next) (λx=>[ai [en Z k7 k0 v0,en Z cN k1 v1] ec0,x,aa xs ex,ai es n0]) (λξ=>[]):=by
 refine af.of_codeB λrest A R dd os hroom hR n t=>?_
 exists 1,iX it pa i xs ex ‹_›,787,34
 exists ar,eS i,5,12565
theorem wQ (ec0:Nat) (i:Nat) (hv:xs.length≤i) (es:List Dj) (n0:Nat):
  af Z 6 (qu Z L C it d) (pn C it pa d xs ex (ai [] ec0) i es n0)
   (X:=Obj) (λξ=>True) (λξ=>.ok .next) (λx=>[ai [] ec0,x,aa xs ex,ai es n0]) (λξ=>[]):=by
 refine af.of_codeB λrest A R dd os hroom hR n t=>?_
 exists 1,iX it pa i xs ex ‹_›,787,34
 exists ar,eS i,5,12565
theorem uN (k0:Tok) (v0:CX) (k1:Tok) (v1:CX) (ec0:Nat) (i:Nat) (p:C1) (ep:Nat) (c0:Nat) (cr:List Nat) (tk:Tok) (hi:xs[i]?=some (.ref p)) (es:List Dj) (n0:Nat) (hfr:bO es (S (c0::cr))=true) (M:ao) (P:Xk→Prop)
  (ih:∀(k0 k1:Tok) (ec:Nat),ae Z 6 (qu Z L C it d) (pn C it pa d xs ex (ai [en Z k7 k0 (.str (S (c0::cr)) tk),en Z cN k1 .none] ec) (i+1) (es++[en Z (c0::cr) tk .none]) (n0+1)++[(p,aa [.str (S (c0::cr)) tk,.none] ep)]) M P (λξ=>.ok .next) (λy=>vD Z xs ex y++[aa [.str (S (c0::cr)) tk,.none] ep]) (λξ=>[])):
  ae Z 6 (qu Z L C it d) (pn C it pa d xs ex (ai [en Z k7 k0 v0,en Z cN k1 v1] ec0) i es n0++[(p,aa [.str (S (c0::cr)) tk,.none] ep)]) M P (λξ=>.ok .next) (λy=>vD Z xs ex y++[aa [.str (S (c0::cr)) tk,.none] ep]) (λξ=>[]):=by
 refine ae.of_codeDB λrest A R dd os hroom hR n t=>?_
 exists 1,bb it pa i xs ex (.ref p) hi,787,34
 exists 2,bb n1 p 0 [.str (S (c0::cr)) tk,.none] ep _ rfl,0x71771616662,86
 exists 3,bb n1 p 1 [.str (S (c0::cr)) tk,.none] ep _ rfl,530,17
 exists 4,bD n1 p (.type "list") none #[] (.str (S (c0::cr)) tk) (.none) ep,530,17
 refine bk hroom (d6 (ic (bO (El (Fb es)) (S (c0::cr)))) (j7 hfr)) (t4+1+1) (dec 0x98878785) [] ?_ (by kernel_rfl)
 intro cf5 x5 n5 t5 q5 p5
 exists 6,aW,ih k0 k1 ec0,8,152919
 exists ar,(x6.1,x6.2.1,x6.2.2.1,x6.2.2.2.1,x6.2.2.2.2.1,x6.2.2.2.2.2.1,x6.2.2.2.2.2.2.1,x6.2.2.2.2.2.2.2),0,69905
theorem rT (ec0:Nat) (i:Nat) (p:C1) (ep:Nat) (c0:Nat) (cr:List Nat) (tk:Tok) (hi:xs[i]?=some (.ref p)) (es:List Dj) (n0:Nat) (hfr:bO es (S (c0::cr))=true) (M:ao) (P:Xk→Prop)
  (ih:∀(k0 k1:Tok) (ec:Nat),ae Z 6 (qu Z L C it d) (pn C it pa d xs ex (ai [en Z k7 k0 (.str (S (c0::cr)) tk),en Z cN k1 .none] ec) (i+1) (es++[en Z (c0::cr) tk .none]) (n0+1)++[(p,aa [.str (S (c0::cr)) tk,.none] ep)]) M P (λξ=>.ok .next) (λy=>vD Z xs ex y++[aa [.str (S (c0::cr)) tk,.none] ep]) (λξ=>[])):
  ae Z 6 (qu Z L C it d) (pn C it pa d xs ex (ai [] ec0) i es n0++[(p,aa [.str (S (c0::cr)) tk,.none] ep)]) M P (λξ=>.ok .next) (λy=>vD Z xs ex y++[aa [.str (S (c0::cr)) tk,.none] ep]) (λξ=>[]):=by
 refine ae.of_codeDB λrest A R dd os hroom hR n t=>?_
 exists 1,bb it pa i xs ex (.ref p) hi,787,34
 exists 2,bb n1 p 0 [.str (S (c0::cr)) tk,.none] ep _ rfl,0x71771616662,86
 exists 3,bb n1 p 1 [.str (S (c0::cr)) tk,.none] ep _ rfl,530,17
 exists 4,bD n1 p (.type "list") none #[] (.str (S (c0::cr)) tk) (.none) ep,530,17
 refine bk hroom (d6 (ic (bO (El (Fb es)) (S (c0::cr)))) (j7 hfr)) (t4+1+1) (dec 0x98878785) [] ?_ (by kernel_rfl)
 intro cf5 x5 n5 t5 q5 p5
 exists 6,aW,ih t4 (t4+1) (ec0+1+1),8,152919
 exists ar,(x6.1,x6.2.1,x6.2.2.1,x6.2.2.2.1,x6.2.2.2.2.1,x6.2.2.2.2.2.1,x6.2.2.2.2.2.2.1,x6.2.2.2.2.2.2.2),0,69905
theorem uE (k0:Tok) (v0:CX) (k1:Tok) (v1:CX) (ec0:Nat) (i:Nat) (p:C1) (ep:Nat) (c0:Nat) (cr:List Nat) (tk:Tok) (vs:List Nat) (tv:Tok) (hi:xs[i]?=some (.ref p)) (es:List Dj) (n0:Nat) (hfr:bO es (S (c0::cr))=true) (M:ao) (P:Xk→Prop)
  (ih:∀(k0 k1:Tok) (ec:Nat),ae Z 6 (qu Z L C it d) (pn C it pa d xs ex (ai [en Z k7 k0 (.str (S (c0::cr)) tk),en Z cN k1 (.str (S vs) tv)] ec) (i+1) (es++[en Z (c0::cr) tk (.str (S vs) tv)]) (n0+1)++[(p,aa [.str (S (c0::cr)) tk,.str (S vs) tv] ep)]) M P (λξ=>.ok .next) (λy=>vD Z xs ex y++[aa [.str (S (c0::cr)) tk,.str (S vs) tv] ep]) (λξ=>[])):
  ae Z 6 (qu Z L C it d) (pn C it pa d xs ex (ai [en Z k7 k0 v0,en Z cN k1 v1] ec0) i es n0++[(p,aa [.str (S (c0::cr)) tk,.str (S vs) tv] ep)]) M P (λξ=>.ok .next) (λy=>vD Z xs ex y++[aa [.str (S (c0::cr)) tk,.str (S vs) tv] ep]) (λξ=>[]):=by
 refine ae.of_codeDB λrest A R dd os hroom hR n t=>?_
 exists 1,bb it pa i xs ex (.ref p) hi,787,34
 exists 2,bb n1 p 0 [.str (S (c0::cr)) tk,.str (S vs) tv] ep _ rfl,0x71771616662,86
 exists 3,bb n1 p 1 [.str (S (c0::cr)) tk,.str (S vs) tv] ep _ rfl,530,17
 exists 4,bD n1 p (.type "list") none #[] (.str (S (c0::cr)) tk) (.str (S vs) tv) ep,530,17
 refine bk hroom (d6 (ic (bO (El (Fb es)) (S (c0::cr)))) (j7 hfr)) (t4+1+1) (dec 0x98878785) [] ?_ (by kernel_rfl)
 intro cf5 x5 n5 t5 q5 p5
 exists 6,aW,ih k0 k1 ec0,8,152919
 exists ar,(x6.1,x6.2.1,x6.2.2.1,x6.2.2.2.1,x6.2.2.2.2.1,x6.2.2.2.2.2.1,x6.2.2.2.2.2.2.1,x6.2.2.2.2.2.2.2),0,69905
theorem sN (ec0:Nat) (i:Nat) (p:C1) (ep:Nat) (c0:Nat) (cr:List Nat) (tk:Tok) (vs:List Nat) (tv:Tok) (hi:xs[i]?=some (.ref p)) (es:List Dj) (n0:Nat) (hfr:bO es (S (c0::cr))=true) (M:ao) (P:Xk→Prop)
  (ih:∀(k0 k1:Tok) (ec:Nat),ae Z 6 (qu Z L C it d) (pn C it pa d xs ex (ai [en Z k7 k0 (.str (S (c0::cr)) tk),en Z cN k1 (.str (S vs) tv)] ec) (i+1) (es++[en Z (c0::cr) tk (.str (S vs) tv)]) (n0+1)++[(p,aa [.str (S (c0::cr)) tk,.str (S vs) tv] ep)]) M P (λξ=>.ok .next) (λy=>vD Z xs ex y++[aa [.str (S (c0::cr)) tk,.str (S vs) tv] ep]) (λξ=>[])):
  ae Z 6 (qu Z L C it d) (pn C it pa d xs ex (ai [] ec0) i es n0++[(p,aa [.str (S (c0::cr)) tk,.str (S vs) tv] ep)]) M P (λξ=>.ok .next) (λy=>vD Z xs ex y++[aa [.str (S (c0::cr)) tk,.str (S vs) tv] ep]) (λξ=>[]):=by
 refine ae.of_codeDB λrest A R dd os hroom hR n t=>?_
 exists 1,bb it pa i xs ex (.ref p) hi,787,34
 exists 2,bb n1 p 0 [.str (S (c0::cr)) tk,.str (S vs) tv] ep _ rfl,0x71771616662,86
 exists 3,bb n1 p 1 [.str (S (c0::cr)) tk,.str (S vs) tv] ep _ rfl,530,17
 exists 4,bD n1 p (.type "list") none #[] (.str (S (c0::cr)) tk) (.str (S vs) tv) ep,530,17
 refine bk hroom (d6 (ic (bO (El (Fb es)) (S (c0::cr)))) (j7 hfr)) (t4+1+1) (dec 0x98878785) [] ?_ (by kernel_rfl)
 intro cf5 x5 n5 t5 q5 p5
 exists 6,aW,ih t4 (t4+1) (ec0+1+1),8,152919
 exists ar,(x6.1,x6.2.1,x6.2.2.1,x6.2.2.2.1,x6.2.2.2.2.1,x6.2.2.2.2.2.1,x6.2.2.2.2.2.2.1,x6.2.2.2.2.2.2.2),0,69905
end
end
section
noncomputable def du (F:Fx) (ps:List Pm):List Dj:=ps.map λp=>en F p.k p.tk p.val
theorem AA {x y:List Nat} (h:x≠y):(S x == S y)=false:=by
 rw [nx];simpa using h
theorem ij (F:Fx) (ps:List Pm) (k:List Nat) (h:∀p∈ps,p.k≠k) (hl:ps.length≤1000):bO (du F ps) (S k)=true:=by
 unfold bO
 rw [Dt,Dt]
 refine ⟨⟨?_,?_⟩,?_⟩
 ·rw [Array.all_eq_true_iff_forall_mem]
  intro e he
  have he:e∈du F ps:=by simpa using he
  obtain ⟨p,_,rfl⟩:=Fs.mp he
  rfl
 ·rw [EB]
  have:∀l:List Dj,(∀e∈l,e.key.isStr (S k)=false)→(⟨l⟩:Array Dj).findIdx? (λe=>e.key.isStr (S k))=none:=by
   intro l hl
   rw [EU]
   intro e he
   exact hl e (by simpa using he)
  refine this _ λe he=>?_
  obtain ⟨p,hp,rfl⟩:=Fs.mp he
  exact AA (h p hp)
 ·rw [decide_eq_true_eq]
  unfold du
  rw [C2];exact hl
theorem qD (F:Fx):∀(ps done:List Pm),((done++ps).map (·.k)).Nodup→(done++ps).length≤1000→fC (du F done) (du F ps)=true
 | [],done,_,_=>rfl
 | p::ps,done,hnd,hl=>by
  have e1:done++p::ps=(done++[p])++ps:=by simp
  have ih:=qD F ps (done++[p]) (by rw [←e1];exact hnd) (by rw [←e1];exact hl)
  have e2:du F (done++[p])=du F done++[en F p.k p.tk p.val]:=by unfold du;rw [Da];rfl
  rw [e2] at ih
  show (bO (du F done) (S p.k) && fC (du F done++[en F p.k p.tk p.val]) (du F ps))=true
  simp only [ih,Bool.and_true]
  refine ij F done p.k (λq hq e=>?_) (by rw [CY] at hl;lia)
  rw [Da,Eu] at hnd
  exact hnd.2.2 q.k (DM hq) p.k (by simp) e
theorem ml (F:Fx) (ps:List Pm):(du F ps).map c6=ps.map Pm.kw:=by
 unfold du
 rw [DV]
 rfl
theorem ae.lowP {F:Fx} {k:Nat} {v:CV} {L M:ao} {X:Type} {P:X→Prop} {r:X→Dq} {ob:X→List Obj} {new:X→ao} {D1 D2:Dr→Dr} (S:ae F k v L M P r ob new D1 D2):ae F k v L M (λx=>P x∧∀p∈L,F.low≤p.1) r ob new D1 D2:=
 ⟨λc hc rest A R d os hr hR h g t hg D=>S.go c hc rest A R d os hr (λx h' g' t' hp hg' D'=>hR x h' g' t' ⟨hp,λp hp=>Ex D.low (D.off p (C3 _ hp))⟩ hg' D') h g t hg D⟩
section
variable (L C it pa d:C1) (ps:List Pm) (ex:Nat)
theorem rk (hne:∀p∈ps,p.k≠[]) (hnd:(ps.map (·.k)).Nodup) (hl:ps.length≤1000):∀(rem:List Pm) (i:Nat) (k0:Tok) (v0:CX) (k1:Tok) (v1:CX) (ec n0:Nat),ps.drop i=rem→
  ae Z 6 (qu Z L C it d) (pn C it pa d (aB ps) ex (ai [en Z k7 k0 v0,en Z cN k1 v1] ec) i (du Z (ps.take i)) n0) (cI ps)
   (λy:Xk=>y.2.2.2.2.2.2.2=du Z ps) (λξ=>.ok .next) (vD Z (aB ps) ex) (λξ=>[])
 | [],i,k0,v0,k1,v1,ec,n0,hd=>by
  have hle:=Dx.mp hd
  have hv:(aB ps).length≤i:=by unfold aB;rw [C2];exact hle
  refine ae.to ((y7 L C it pa d (aB ps) ex k0 v0 k1 v1 ec i hv (du Z (ps.take i)) n0).toR (cI ps)) (λx=>(k0,v0,k1,v1,ec,x,n0,du Z (ps.take i))) λx ξ=>⟨?_,rfl,rfl,rfl⟩
  show du _ (ps.take i)=_
  rw [EM hle]
 | p::rem,i,k0,v0,k1,v1,ec,n0,hd=>by
  have hi:ps[i]?=some p:=by
   have:=congrArg (λl=>l[0]?) hd
   simpa using this
  have hd':ps.drop (i+1)=rem:=by
   have:=congrArg (DX 1) hd
   rw [DE] at this
   exact this
  have hmem:p∈ps:=Dw hi
  have htk:ps.take (i+1)=ps.take i++[p]:=by rw [FD,hi];rfl
  have ih0:=λ(k0 k1:Tok) (v0 v1:CX) (ec:Nat)=>rk hne hnd hl rem (i+1) k0 v0 k1 v1 ec (n0+1) hd'
  obtain ⟨M,hM⟩:∃M,(cI ps).Perm (M++[p.ob]):=fW (cI ps) i p.ob (by unfold cI;rw [Dv,hi];rfl)
  have hri:(aB ps)[i]?=some (.ref p.a):=by unfold aB;rw [Dv,hi];rfl
  have ih:=λ(k0 k1:Tok) (v0 v1:CX) (ec:Nat)=>ae.take p.ob (ih0 k0 k1 v0 v1 ec) hM (λξ=>rfl)
  refine ae.back p.ob ?_ hM (λξ=>rfl)
  clear ih0
  have hfr:bO (du Z (ps.take i)) (S p.k)=true:=by
   refine ij _ _ _ (λq hq e=>?_) (by rw [DY];lia)
   have e2:ps=(ps.take i++[p])++ps.drop (i+1):=by rw [←htk,Eo]
   rw [e2,Da,Eu] at hnd
   have:=hnd.1
   rw [Da,Eu] at this
   exact this.2.2 q.k (DM hq) p.k (by simp) e
  have hes:du Z (ps.take (i+1))=du Z (ps.take i)++[en Z p.k p.tk p.val]:=by unfold du;simp only [htk,Da];rfl
  rw [hes] at ih
  have hk:=hne p hmem
  obtain ⟨a,k,tk,v,tv,e⟩:=p
  obtain ⟨n0',nr,rfl⟩:∃n0 nr,k=n0::nr:=Di hk
  cases v with
  | none=>exact uN L C it pa d (aB ps) ex k0 v0 k1 v1 ec i a e n0' nr tk hri _ n0 hfr M _ λk0 k1 ec=>ih k0 k1 _ _ ec
  | some x=>exact uE L C it pa d (aB ps) ex k0 v0 k1 v1 ec i a e n0' nr tk x tv hri _ n0 hfr M _ λk0 k1 ec=>ih k0 k1 _ _ ec
theorem yF (hne:∀p∈ps,p.k≠[]) (hnd:(ps.map (·.k)).Nodup) (hl:ps.length≤1000) (p0:Pm) (rem:List Pm) (hps:ps=p0::rem) (ec:Nat):
  ae Z 6 (qu Z L C it d) (pn C it pa d (aB ps) ex (ai [] ec) 0 [] 0) (cI ps)
   (λy:Xk=>y.2.2.2.2.2.2.2=du Z ps∧∀p∈(pn C it pa d (aB ps) ex (ai [] ec) 0 [] 0),Z.low≤p.1) (λξ=>.ok .next) (vD Z (aB ps) ex) (λξ=>[]):=by
 refine ae.lowP ?_
 have hi:ps[0]?=some p0:=by rw [hps];rfl
 have hd':ps.drop 1=rem:=by rw [hps];rfl
 have hmem:p0∈ps:=by rw [hps];exact .head _
 have hes:du Z (ps.take 1)=[]++[en Z p0.k p0.tk p0.val]:=by rw [hps];rfl
 have ih0:=λ(k0 k1:Tok) (v0 v1:CX) (ec:Nat)=>rk L C it pa d ps ex hne hnd hl rem 1 k0 v0 k1 v1 ec 1 hd'
 obtain ⟨M,hM⟩:∃M,(cI ps).Perm (M++[p0.ob]):=fW (cI ps) 0 p0.ob (by unfold cI;rw [Dv,hi];rfl)
 have hri:(aB ps)[0]?=some (.ref p0.a):=by unfold aB;rw [Dv,hi];rfl
 have ih:=λ(k0 k1:Tok) (v0 v1:CX) (ec:Nat)=>ae.take p0.ob (ih0 k0 k1 v0 v1 ec) hM (λξ=>rfl)
 refine ae.back p0.ob ?_ hM (λξ=>rfl)
 clear ih0
 rw [hes] at ih
 have hk:=hne p0 hmem
 obtain ⟨a,k,tk,v,tv,e⟩:=p0
 refine gg λG hG=>?_;obtain ⟨n0',nr,rfl⟩:∃n0 nr,k=n0::nr:=Di hk;refine hG ?_
 cases v with
 | none=>exact rT L C it pa d (aB ps) ex ec 0 a e n0' nr tk hri [] 0 (ij Z [] _ (λξ h=>by cases h) (Du _)) M _ λk0 k1 ec=>ih k0 k1 _ _ ec
 | some x=>exact sN L C it pa d (aB ps) ex ec 0 a e n0' nr tk x tv hri [] 0 (ij Z [] _ (λξ h=>by cases h) (Du _)) M _ λk0 k1 ec=>ih k0 k1 _ _ ec
end
end
theorem iC (x:List Nat):ap [] (ay x)=aI 95 [45] x:=by
 rw [aR]
 induction x with
 | nil=>rfl
 | cons c r ih=>
  show cx c++(ay r).flatten=aI 95 [45] ([c]++r)
  simp only [ih,fQ]
  congr 1
  unfold cx aI
  by_cases h:c=95
  ·subst h;rfl
  ·have:([c] == [95])=false:=by simp [h]
   have h2:(c == 95)=false:=by simp [h]
   rw [this,if_neg (by simp),D8,h2,if_neg (by simp)];rfl
theorem uo (x:List Nat):ap [] (bg x)=hO x:=by
 rw [aR]
 induction x with
 | nil=>rfl
 | cons c r ih=>
  show cv c++(bg r).flatten=hO ([c]++r)
  unfold hO at ih ⊢
  simp only [ih,fQ 92,fQ 34]
  congr 1
  by_cases h:c=92
  ·subst h;rfl
  ·by_cases h2:c=34
   ·subst h2;rfl
   ·have e1:decide (c∈[34,92])=false:=by simp [h,h2]
    simp only [show aI 92 [92,92] [c]=[c] from by simp [aI,h],show aI 34 [92,34] [c]=[c] from by simp [aI,h2]]
    unfold cv
    rw [e1];rfl
theorem jM (tx:List Nat) (p:List Nat×Option (List Nat)):io tx p=tx++([59,32]++gn p):=by
 obtain ⟨k,v⟩:=p
 delta io gn
 cases v with
 | none=>simp only [iC,C6]
 | some x=>
  cases x with
  | nil=>simp only [iC,C6]
  | cons v0 vr=>simp only [iC,uo];simp only [C6]
theorem lX:∀(l:List (List Nat×Option (List Nat))) (o:List Nat),l.foldl io o=ap [59,32] (o::l.map gn)
 | [],o=>rfl
 | p::l,o=>by
  rw [Ew,lX l (io o p),jM]
  show ap [59,32] ((o++([59,32]++gn p))::l.map gn)=o++[59,32]++ap [59,32] (gn p::l.map gn)
  cases l.map gn with
  | nil=>show o++([59,32]++gn p)=o++[59,32]++gn p;simp
  | cons y r=>show (o++([59,32]++gn p))++[59,32]++_=o++[59,32]++(gn p++[59,32]++_);simp
theorem pV (o:List Nat) (ps:List Pm):bt o ps=ap [59,32] (o::ps.map λp=>gn p.pl):=by
 unfold bt
 rw [lX,DV]
 rfl
theorem xg (p:List Nat×Option (List Nat)) (h:sy p):(gn p).length+2≤4000:=by
 have:=kB [] p h
 simp only [jM,DF,CY] at this
 have h2:([59,32]:List Nat).length=2:=rfl
 have h3:([]:List Nat).length=0:=rfl
 lia
theorem qC:∀l:List Pm,(∀p∈l,sy p.pl)→((l.map λp=>gn p.pl).map (·.length)).sum+l.length * 2≤4000 * l.length
 | [],_=>Dh _
 | p::l,h=>by
  have h1:=qC l (λq hq=>h q (.tail _ hq))
  have h2:=xg p.pl (h p (.head _))
  simp only [Dd,Dd,DC,C5]
  lia
structure kR (ps:List Pm):Prop where
 nd:(ps.map (·.k)).Nodup
 len:ps.length≤100
 okp:∀p∈ps,sy p.pl
 okq:∀p∈ps,By p.pl
 nms:∀p∈ps,[wb,wh,wg].contains (S p.k)=false
theorem kR.keys {ps:List Pm} (h:kR ps):∀p∈ps,p.k≠[]:=λp hp=>(h.okp p hp).1
theorem A8 {x y:List Nat} (h:S x=S y):x=y:=by
 have:=congrArg (λs:Str=>s.cps.toList) h
 exact this
theorem wU:∀ps:List Pm,(ps.map (·.k)).Nodup→((ps.map Pm.kw).map (·.1)).Nodup:=by
 intro ps h
 simp only [DV]
 have e:ps.map ((·.1)∘Pm.kw)=(ps.map (·.k)).map S:=by simp only [DV];rfl
 simp only [e]
 refine List.Pairwise.map S (λa b hab e=>hab (A8 e)) h
noncomputable abbrev Xi:=C1×Nat×Tok×Tok
theorem fP (o od hl:C1) (k:Tok) (e el:Nat) (xs:List CX) (hxs:xs.length≤1000) (nm ow:List Nat) (hn:nm∈a8) (tn to:Tok) (ps:List Pm) (hok:kR ps)
  (hw1:∀c∈ow,aO c=true) (hw2:ow.length≤1000) (kws:List (Str×CX)) (hkw:kws=ps.map Pm.kw):
  ad Z 12 (.o (.call (.ref 347) ⟨[.ref o,.str (S nm) tn,.str (S ow) to],kws⟩)) [(o,gG od),(od,ig Z k hl e),(hl,aa xs el)] [] (X:=Xi) (λξ=>True) (λξ=>.ok (.ret .none))
   (λx=>[(o,gG od),(od,ig Z k hl e),(hl,aa (xs++[.ref x.1]) x.2.1),(x.1,an nm x.2.2.1 (bt ow ps) x.2.2.2)]) (λξ=>[]):=by
 subst hkw
 have hs:=ab
 have hlen:=hok.len
 refine gg λG hG=>?_;obtain ⟨n1,n2,_,_⟩:=jN nm hn;refine hG ?_
 have hsum:=qC ps hok.okp
 refine ad.to (sj o od hl k e el xs hxs nm ow tn to ps (λkv hkv=>?_) (wU ps hok.nd) (by lia) hok.okq hw1 (by exact lA ‹_› rfl) n1 n2 ?_) (C8 _) (λx=>(x.2.1,x.2.2.1,x.2.2.2.1,x.2.2.2.2)) (λξ=>[]) λx hx=>⟨trivial,rfl,?_⟩
 ·refine gg λG hG=>?_;obtain ⟨p,hp,rfl⟩:=Fs.mp hkv;refine hG ?_
  exact hok.nms p hp
 ·simp only [Dd,DC,C5,C2]
  lia
 ·have hx:x.1.map (·.1)=ow::ps.map λp=>gn p.pl:=hx
  simp only [pV,←hx]
  exact C8 _
theorem ry {a:Nat} (h:Z.low≤a):394≤a:=by unfold Z gI at h;exact h
theorem mX (L C it pa d:C1) (ps:List Pm) (ex:Nat) (hok:kR ps) (p0:Pm) (rem:List Pm) (hps:ps=p0::rem) (ec:Nat):
  ae Z 6 (qu Z L C it d) (pn C it pa d (aB ps) ex (ai [] ec) 0 [] 0) (cI ps)
   (λy:Xk=>y.2.2.2.2.2.2.2=du Z ps∧394≤d) (λξ=>.ok .next) (vD Z (aB ps) ex) (λξ=>[]):=by
 have hl:=hok.len
 exact ae.to (yF L C it pa d ps ex hok.keys hok.nd (by exact lB ‹_› rfl) p0 rem hps ec) (λx=>x) λx hx=>⟨⟨hx.1,ry (hx.2 _ (.tail _ (.tail _ (.tail _ (.head _)))))⟩,rfl,rfl,rfl⟩
theorem qX (L C it pa d:C1) (ex:Nat) (ec:Nat):
  ae Z 6 (qu Z L C it d) (pn C it pa d [] ex (ai [] ec) 0 [] 0) []
   (X:=Obj) (λξ=>[]=du Z []∧394≤d) (λξ=>.ok .next) (λx=>[ai [] ec,x,aa [] ex,ai [] 0]) (λξ=>[]):=by
 have S1:=ae.lowP ((wQ L C it pa d [] ex ec 0 (Du _) [] 0).toR [])
 exact ae.to S1 (λx=>x) λx hx=>⟨⟨rfl,ry (hx.2 _ (.tail _ (.tail _ (.tail _ (.head _)))))⟩,rfl,rfl,rfl⟩
theorem nl:kR []:=⟨GD,Du _,(λξ h=>by cases h),(λξ h=>by cases h),(λξ h=>by cases h)⟩
theorem nj (o od hl:C1) (k:Tok) (e el:Nat) (x:List Nat) (tx:Tok) (ps:List Pt) (hz':ps.length+ps.length≤CZ) (hn:∀x∈ps,x.f∈a8) (x0:Pt) (rem:List Pt) (hps:ps=x0::rem) (hx:x∈a8):
  ae Z 9 (.o (.call (.ref 268) ⟨[.ref o,.str (S x) tx],[]⟩)) [(o,gG od),(od,ig Z k hl e),(hl,aa (ah ps) el)] (aj ps) (X:=Nat×List CX) (λy=>y.2=ah (ps.filter (bn (bN x)))) (λx=>.ok (.ret .none))
   (λx=>[gG od,ig Z k hl e,aa x.2 x.1]) (λx=>[]):=by
 have hx1:=(jN x hx).2.2.1
 have hx2:=(jN x hx).2.2.2
 have hz:ps.length≤CZ:=by lia
 have hr:(ah ps).length≤CZ:=by unfold ah;rw [C2];exact hz
 have hfl:∀y:List CX,y=ah (ps.filter (bn (bN x)))→(ah ps).length+y.length≤CZ:=λy hy=>by
  rw [hy];unfold ah;rw [C2,C2]
  have:=Ed (bn (bN x)) ps
  lia
 exists 1,ae.of_defB
 exists 1,cC x tx ‹_›,0x1632111121112111251156451,0
 exists 2,(i4 o (.mk (.ref 350) (some od) .plain #[]) (bN x) x1 ‹_› ‹_›).up rfl,1,1
 exists 3,cT,(w5 n (n2+1+1) (n+1) n2 hl (n2+1) el (bN x) x1 ps ‹_› ‹_› x0 rem hps 0 0).up rfl,0x71717717141443122111211112556,283496
 exists 4,dA hl n3 (n2+1) (.type "list") none #[] (ah ps) el x3.2.2.2.2.1 x3.2.2.2.2.2 (hfl _ ‹_›),0x414481771117111179122,899
 exists ar,(x4,x3.2.2.2.2.1),0,375
section
theorem gC {F:Fx} {k:Nat} (a:Nat) (t:Tok) (b:Nat) (u:Tok) (c:Bool) (h:(a != b)=c):af F k (.b 455125451010842570354538 ⟨[.int (.ofNat a) t,.int (.ofNat b) u],[]⟩) [] (X:=Unit) (λξ=>True) (λξ=>.ok (.ret (.bool c))) (λξ=>[]) (λξ=>[]):=by
 have e:(C4 a != C4 b)=c:=by
  rw [←h]
  by_cases hab:a=b
  ·subst hab;simp
  ·have:C4 a≠C4 b:=λe=>hab (C4.inj e)
   simp only [bne_iff_ne.mpr this,bne_iff_ne.mpr hab]
 have S1:af F k (.b 455125451010842570354538 ⟨[.int (.ofNat a) t,.int (.ofNat b) u],[]⟩) [] (X:=Unit) (λξ=>True) (λξ=>.ok (.ret (.bool (C4 a != C4 b)))) (λξ=>[]) (λξ=>[]):=
  .of_val (id:="int.__ne__") (by kernel_rfl) (Db (b:=Builtin.«int.__ne__») (by kernel_rfl)) (by decide+kernel) (gives_int_ne (C4 a) (C4 b) t u)
 rw [e] at S1
 exact S1
structure Fd where
 a:C1
 g:Bool
 kd:Nat
 tk:Tok
 nm:List Nat
 tn:Tok
 ow:List Nat
 to:Tok
 pa:C1
 e:Nat
noncomputable def bF (g:Bool) (kd:Nat) (tk:Tok) (nm:List Nat) (tn:Tok) (ow:List Nat) (to:Tok) (pa:C1) (e:Nat):Obj:=
 aa [.bool g,.int (.ofNat kd) tk,.str (S nm) tn,.str (S ow) to,.ref pa] e
noncomputable def Fd.ob (f:Fd):C1×Obj:=(f.a,bF f.g f.kd f.tk f.nm f.tn f.ow f.to f.pa f.e)
noncomputable def ey (fs:List Fd):ao:=fs.map Fd.ob
noncomputable def aF (fs:List Fd):List CX:=fs.map λf=>.ref f.a
noncomputable abbrev dK:List Nat:=[111,110,101]
noncomputable abbrev eJ:List Nat:=[102,105,101,108,100]
noncomputable abbrev CL (F:Fx):Expr:=gb F 376 [1,0,0] 0
noncomputable abbrev rJ (F:Fx) (L C ca it acc:C1):CV:=fV F 376 L C (CL F) [(S eJ,ca)] it acc
noncomputable abbrev Xt:=Tok×C1×Nat×Obj×Nat×List CX
section
variable (L C ca it sl acc:C1) (xs:List CX) (el:Nat) (fa:C1) (fg:Bool) (fk:Nat) (ftk:Tok) (fnm:List Nat) (ftn:Tok) (fow:List Nat) (fto:Tok) (fpa:C1) (fe:Nat)
noncomputable abbrev qL (C it sl acc ca fa:C1) (xs:List CX) (el:Nat) (fo:Obj) (o:Obj) (i:Nat) (ys:List CX) (ea:Nat):ao:=
 [(C,o),(it,aS sl i),(sl,aa xs el),(acc,aa ys ea),(ca,aY (.ref fa)),(fa,fo)]
noncomputable abbrev uY (F:Fx) (fa:C1) (xs:List CX) (el:Nat) (fo:Obj) (x:Xt):List Obj:=
 [ai [en F dK x.1 (.ref x.2.1)] x.2.2.1,x.2.2.2.1,aa xs el,aa x.2.2.2.2.2 x.2.2.2.2.1,aY (.ref fa),fo]
theorem yN (k0:Tok) (p0:C1) (i:Nat) (hv:xs.length≤i) (ys:List CX) (ea ec:Nat):
  af Z 6 (rJ Z L C ca it acc) (qL C it sl acc ca fa xs el (bF fg fk ftk fnm ftn fow fto fpa fe) (ai [en Z dK k0 (.ref p0)] ec) i ys ea)
   (X:=Obj) (λξ=>True) (λξ=>.ok .next) (λx=>[ai [en Z dK k0 (.ref p0)] ec,x,aa xs el,aa ys ea,aY (.ref fa),(bF fg fk ftk fnm ftn fow fto fpa fe)]) (λξ=>[]):=by
 exists 0,af.of_codeB
 exists 1,iX it sl i xs el ‹_›,787,34
 exists ar,eS i,5,3354901
theorem wA (i:Nat) (hv:xs.length≤i) (ys:List CX) (ea ec:Nat):
  af Z 6 (rJ Z L C ca it acc) (qL C it sl acc ca fa xs el (bF fg fk ftk fnm ftn fow fto fpa fe) (ai [] ec) i ys ea)
   (X:=Obj) (λξ=>True) (λξ=>.ok .next) (λx=>[ai [] ec,x,aa xs el,aa ys ea,aY (.ref fa),(bF fg fk ftk fnm ftn fow fto fpa fe)]) (λξ=>[]):=by
 exists 0,af.of_codeB
 exists 1,iX it sl i xs el ‹_›,787,34
 exists ar,eS i,5,3354901
theorem wW (k0:Tok) (p0:C1) (ec0:Nat) (i:Nat) (p:C1) (og:Bool) (ok:Nat) (otk:Tok) (onm:List Nat) (otn:Tok) (oow:List Nat) (oto:Tok) (opa:C1) (oe:Nat) (hi:xs[i]?=some (.ref p)) (hne:(ok != fk)=true) (ys:List CX) (hyl:ys.length≤CZ) (ea:Nat) (M:ao) (P:Xt→Prop)
  (ih:∀(k0:Tok) (ec ea:Nat),ae Z 6 (rJ Z L C ca it acc) (qL C it sl acc ca fa xs el (bF fg fk ftk fnm ftn fow fto fpa fe) (ai [en Z dK k0 (.ref p)] ec) (i+1) (ys++[.ref p]) ea++[(p,bF og ok otk onm otn oow oto opa oe)]) M P (λξ=>.ok .next) (λx=>uY Z fa xs el (bF fg fk ftk fnm ftn fow fto fpa fe) x++[(bF og ok otk onm otn oow oto opa oe)]) (λξ=>[])):
  ae Z 6 (rJ Z L C ca it acc) (qL C it sl acc ca fa xs el (bF fg fk ftk fnm ftn fow fto fpa fe) (ai [en Z dK k0 (.ref p0)] ec0) i ys ea++[(p,bF og ok otk onm otn oow oto opa oe)]) M P (λξ=>.ok .next) (λx=>uY Z fa xs el (bF fg fk ftk fnm ftn fow fto fpa fe) x++[(bF og ok otk onm otn oow oto opa oe)]) (λξ=>[]):=by
 exists 0,ae.of_codeB
 exists 1,bb it sl i xs el (.ref p) hi,787,34
 exists 2,em p [.bool og,.int (.ofNat ok) otk,.str (S onm) otn,.str (S oow) oto,.ref opa] oe 1 (t1+1) _ rfl (by decide),0x81888434,7
 exists 3,em fa [.bool fg,.int (.ofNat fk) ftk,.str (S fnm) ftn,.str (S fow) fto,.ref fpa] fe 1 t2 _ rfl (by decide),8489095,7
 exists 4,gC ok otk fk ftk _ hne,1,0
 exists 5,dj acc ys ea (.ref p) ‹_›,1814,6
 exists 6,aW,ih k0 ec0 (ea+1),0,18027590
 exists ar,(x6.1,x6.2.1,x6.2.2.1,x6.2.2.2.1,x6.2.2.2.2.1,x6.2.2.2.2.2),0,17895697
theorem xw (k0:Tok) (p0:C1) (ec0:Nat) (i:Nat) (p:C1) (og:Bool) (ok:Nat) (otk:Tok) (onm:List Nat) (otn:Tok) (oow:List Nat) (oto:Tok) (opa:C1) (oe:Nat) (hi:xs[i]?=some (.ref p)) (hne:(ok != fk)=false) (ys:List CX) (hyl:ys.length≤CZ) (ea:Nat) (M:ao) (P:Xt→Prop)
  (ih:∀(k0:Tok) (ec ea:Nat),ae Z 6 (rJ Z L C ca it acc) (qL C it sl acc ca fa xs el (bF fg fk ftk fnm ftn fow fto fpa fe) (ai [en Z dK k0 (.ref p)] ec) (i+1) ys ea++[(p,bF og ok otk onm otn oow oto opa oe)]) M P (λξ=>.ok .next) (λx=>uY Z fa xs el (bF fg fk ftk fnm ftn fow fto fpa fe) x++[(bF og ok otk onm otn oow oto opa oe)]) (λξ=>[])):
  ae Z 6 (rJ Z L C ca it acc) (qL C it sl acc ca fa xs el (bF fg fk ftk fnm ftn fow fto fpa fe) (ai [en Z dK k0 (.ref p0)] ec0) i ys ea++[(p,bF og ok otk onm otn oow oto opa oe)]) M P (λξ=>.ok .next) (λx=>uY Z fa xs el (bF fg fk ftk fnm ftn fow fto fpa fe) x++[(bF og ok otk onm otn oow oto opa oe)]) (λξ=>[]):=by
 exists 0,ae.of_codeB
 exists 1,bb it sl i xs el (.ref p) hi,787,34
 exists 2,em p [.bool og,.int (.ofNat ok) otk,.str (S onm) otn,.str (S oow) oto,.ref opa] oe 1 (t1+1) _ rfl (by decide),0x81888434,7
 exists 3,em fa [.bool fg,.int (.ofNat fk) ftk,.str (S fnm) ftn,.str (S fow) fto,.ref fpa] fe 1 t2 _ rfl (by decide),8489095,7
 exists 4,gC ok otk fk ftk _ hne,1,0
 exists 5,aW,ih k0 ec0 ea,0,18035509
 exists ar,(x5.1,x5.2.1,x5.2.2.1,x5.2.2.2.1,x5.2.2.2.2.1,x5.2.2.2.2.2),0,17895697
theorem uL (ec0:Nat) (i:Nat) (p:C1) (og:Bool) (ok:Nat) (otk:Tok) (onm:List Nat) (otn:Tok) (oow:List Nat) (oto:Tok) (opa:C1) (oe:Nat) (hi:xs[i]?=some (.ref p)) (hne:(ok != fk)=true) (ys:List CX) (hyl:ys.length≤CZ) (ea:Nat) (M:ao) (P:Xt→Prop)
  (ih:∀(k0:Tok) (ec ea:Nat),ae Z 6 (rJ Z L C ca it acc) (qL C it sl acc ca fa xs el (bF fg fk ftk fnm ftn fow fto fpa fe) (ai [en Z dK k0 (.ref p)] ec) (i+1) (ys++[.ref p]) ea++[(p,bF og ok otk onm otn oow oto opa oe)]) M P (λξ=>.ok .next) (λx=>uY Z fa xs el (bF fg fk ftk fnm ftn fow fto fpa fe) x++[(bF og ok otk onm otn oow oto opa oe)]) (λξ=>[])):
  ae Z 6 (rJ Z L C ca it acc) (qL C it sl acc ca fa xs el (bF fg fk ftk fnm ftn fow fto fpa fe) (ai [] ec0) i ys ea++[(p,bF og ok otk onm otn oow oto opa oe)]) M P (λξ=>.ok .next) (λx=>uY Z fa xs el (bF fg fk ftk fnm ftn fow fto fpa fe) x++[(bF og ok otk onm otn oow oto opa oe)]) (λξ=>[]):=by
 exists 0,ae.of_codeB
 exists 1,bb it sl i xs el (.ref p) hi,787,34
 exists 2,em p [.bool og,.int (.ofNat ok) otk,.str (S onm) otn,.str (S oow) oto,.ref opa] oe 1 (t1+1) _ rfl (by decide),0x81888434,7
 exists 3,em fa [.bool fg,.int (.ofNat fk) ftk,.str (S fnm) ftn,.str (S fow) fto,.ref fpa] fe 1 t2 _ rfl (by decide),8489095,7
 exists 4,gC ok otk fk ftk _ hne,1,0
 exists 5,dj acc ys ea (.ref p) ‹_›,1814,6
 exists 6,aW,ih t1 (ec0+1) (ea+1),0,18027590
 exists ar,(x6.1,x6.2.1,x6.2.2.1,x6.2.2.2.1,x6.2.2.2.2.1,x6.2.2.2.2.2),0,17895697
theorem vO (ec0:Nat) (i:Nat) (p:C1) (og:Bool) (ok:Nat) (otk:Tok) (onm:List Nat) (otn:Tok) (oow:List Nat) (oto:Tok) (opa:C1) (oe:Nat) (hi:xs[i]?=some (.ref p)) (hne:(ok != fk)=false) (ys:List CX) (hyl:ys.length≤CZ) (ea:Nat) (M:ao) (P:Xt→Prop)
  (ih:∀(k0:Tok) (ec ea:Nat),ae Z 6 (rJ Z L C ca it acc) (qL C it sl acc ca fa xs el (bF fg fk ftk fnm ftn fow fto fpa fe) (ai [en Z dK k0 (.ref p)] ec) (i+1) ys ea++[(p,bF og ok otk onm otn oow oto opa oe)]) M P (λξ=>.ok .next) (λx=>uY Z fa xs el (bF fg fk ftk fnm ftn fow fto fpa fe) x++[(bF og ok otk onm otn oow oto opa oe)]) (λξ=>[])):
  ae Z 6 (rJ Z L C ca it acc) (qL C it sl acc ca fa xs el (bF fg fk ftk fnm ftn fow fto fpa fe) (ai [] ec0) i ys ea++[(p,bF og ok otk onm otn oow oto opa oe)]) M P (λξ=>.ok .next) (λx=>uY Z fa xs el (bF fg fk ftk fnm ftn fow fto fpa fe) x++[(bF og ok otk onm otn oow oto opa oe)]) (λξ=>[]):=by
 exists 0,ae.of_codeB
 exists 1,bb it sl i xs el (.ref p) hi,787,34
 exists 2,em p [.bool og,.int (.ofNat ok) otk,.str (S onm) otn,.str (S oow) oto,.ref opa] oe 1 (t1+1) _ rfl (by decide),0x81888434,7
 exists 3,em fa [.bool fg,.int (.ofNat fk) ftk,.str (S fnm) ftn,.str (S fow) fto,.ref fpa] fe 1 t2 _ rfl (by decide),8489095,7
 exists 4,gC ok otk fk ftk _ hne,1,0
 exists 5,aW,ih t1 (ec0+1) ea,0,18035509
 exists ar,(x5.1,x5.2.1,x5.2.2.1,x5.2.2.2.1,x5.2.2.2.2.1,x5.2.2.2.2.2),0,17895697
end
end
section
set_option hygiene false in
theorem kG (F:Fx) (ps:List Pm) (hok:kR ps) (a d:C1) (es:List Dj) (n:Nat) (h:es=du F ps∧394≤a) (hne:@LT.lt Nat _ d a):ic (k9 (ai es n) a d es && fO (ai [] 0))≤16777216:=by
 refine j7 ?_
 obtain ⟨rfl,h2⟩:=h
 have hl:=hok.len
 unfold k9
 have e1:(a == 1)=false:=by rw [beq_eq_false_iff_ne];exact λe=>absurd h2 (by rw [e];decide)
 have e2:(a == d)=false:=by rw [beq_eq_false_iff_ne];exact λe=>absurd hne (by rw [e];exact FF _)
 have e3:fC [] (du F ps)=true:=qD F ps [] hok.nd (by simp only [DF];exact lB ‹_› rfl)
 simp only [e1,e2,e3]
 rfl
theorem eR {F:Fx} {k:Nat} (it l:C1) (cls:CX) (dd:Option C1) (sl:Array (Option CX)) (a b c d f:CX) (e:Nat):
  af F k (.b 36058839055461744822429329989390181918337346850548333 ⟨[.ref it],[]⟩) [(it,aS l 5),(l,⟨cls,dd,.seq ⟨[a,b,c,d,f]⟩ e,sl⟩)] (X:=C1×C1) (λξ=>True) (λx=>.error (.ref x.2))
   (λξ=>[eS 5,⟨cls,dd,.seq ⟨[a,b,c,d,f]⟩ e,sl⟩]) (λx=>[(x.1,⟨.type "tuple",none,.seq ⟨[]⟩ 0,#[]⟩),(x.2,bx x.1)]):=
 bQ it l 5 cls dd sl [a,b,c,d,f] e (Dh 5)
noncomputable abbrev dk:List Nat:=[102,105,101,108,100,115]
noncomputable abbrev kO:List Nat:=[116,97,98,108,101]
noncomputable abbrev yq:List Nat:=[103,111,110,101]
noncomputable abbrev yi:List Nat:=[107,105,110,100]
noncomputable abbrev qS (F:Fx) (L it:C1):CV:=.o (hH (fH F 371 L) (.ref it) (gF F 371 [1]))
noncomputable abbrev y9 (F:Fx) (K:Tok×Tok) (fl o:C1) (e:Nat):Obj:=bY [en F dk K.1 (.ref fl),en F kO K.2 (.ref o)] e
noncomputable abbrev jz (F:Fx) (K:Tok×Tok) (fl o:C1) (k1 k2 k3 k4 k5:Tok) (g:Bool) (kd:Nat) (tk:Tok) (nm:List Nat) (tn:Tok) (ow:List Nat) (to:Tok) (pa:C1) (e:Nat):Obj:=
 bY [en F dk K.1 (.ref fl),en F kO K.2 (.ref o),en F yq k1 (.bool g),en F yi k2 (.int (.ofNat kd) tk),en F ji k3 (.str (S nm) tn),en F nO k4 (.str (S ow) to),en F dE k5 (.ref pa)] e
noncomputable abbrev Xb:=List Dj×Nat×List Pt×Nat
noncomputable abbrev sH (F:Fx) (L:C1) (K:Tok×Tok) (fl o od hl:C1) (kh:Tok) (eh:Nat) (xs:List CX) (ex:Nat) (x:Xb):ao:=
 [(L,bY (en F dk K.1 (.ref fl)::en F kO K.2 (.ref o)::x.1) x.2.1),(fl,aa xs ex),(o,gG od),(od,ig F kh hl eh),(hl,aa (ah x.2.2.1) x.2.2.2)]
noncomputable abbrev lj (F:Fx) (it fl o od hl:C1) (kh:Tok) (eh:Nat) (xs:List CX) (ex:Nat) (i:Nat) (ys:List CX) (el:Nat):ao:=
 [(it,aS fl i),(fl,aa xs ex),(o,gG od),(od,ig F kh hl eh),(hl,aa ys el)]
section
variable (L it:C1) (K:Tok×Tok) (fl o od hl:C1) (kh:Tok) (eh:Nat) (xs:List CX) (ex:Nat)
theorem BA (ef i el:Nat) (qs:List Pt) (hql:qs.length≤1000) (fa:C1) (kd:Nat) (tk:Tok) (nm:List Nat) (hn:nm∈a8) (tn:Tok) (ow:List Nat) (hw1:∀c∈ow,aO c=true) (hw2:ow.length≤1000) (to:Tok) (pa:C1) (fe:Nat) (ps:List Pm) (hok:kR ps) (p0:Pm) (rem:List Pm) (hps:ps=p0::rem) (pe:Nat) (N:ao) (hi:xs[i]?=some (.ref fa)) (P:Xb→Prop) (pm:Xb→ao)
  (ih:∀(k1 k2 k3 k4 k5:Tok) (ef el:Nat) (a:C1) (u1 u2:Tok),ad Z 16 (qS Z L it) ((L,jz Z K fl o k1 k2 k3 k4 k5 false kd tk nm tn ow to pa ef)::lj Z it fl o od hl kh eh xs ex (i+1) (ah qs++[.ref a]) el++[(fa,bF false kd tk nm tn ow to pa fe),(pa,aa (aB ps) pe),(a,an nm u1 (bt ow ps) u2)]) (cI ps++(aj qs++N)) P (λξ=>.ok .next) (sH Z L K fl o od hl kh eh xs ex) pm):
  ad Z 16 (qS Z L it) ((L,y9 Z K fl o ef)::lj Z it fl o od hl kh eh xs ex i (ah qs) el++[(fa,bF false kd tk nm tn ow to pa fe),(pa,aa (aB ps) pe)]) (cI ps++(aj qs++N)) P (λξ=>.ok .next) (sH Z L K fl o od hl kh eh xs ex) pm:=by
 have hrl:(ah qs).length≤1000:=by unfold ah;rw [C2];exact hql
 refine ad.of_codeKB λrest A R d os hroom hR n t=>?_
 exists 1,bb it fl i xs ex (.ref fa) hi,787,34
 exists 2,bb n1 fa 0 [.bool DT,.int (.ofNat kd) tk,.str (S nm) tn,.str (S ow) to,.ref pa] fe _ rfl,0xa1aa1818882,121
 exists 3,bb n1 fa 1 [.bool DT,.int (.ofNat kd) tk,.str (S nm) tn,.str (S ow) to,.ref pa] fe _ rfl,530,17
 exists 4,bb n1 fa 2 [.bool DT,.int (.ofNat kd) tk,.str (S nm) tn,.str (S ow) to,.ref pa] fe _ rfl,530,17
 exists 5,bb n1 fa 3 [.bool DT,.int (.ofNat kd) tk,.str (S nm) tn,.str (S ow) to,.ref pa] fe _ rfl,530,17
 exists 6,bb n1 fa 4 [.bool DT,.int (.ofNat kd) tk,.str (S nm) tn,.str (S ow) to,.ref pa] fe _ rfl,530,17
 exists 7,eR n1 fa (.type "list") none #[] (.bool DT) (.int (.ofNat kd) tk) (.str (S nm) tn) (.str (S ow) to) (.ref pa) fe,530,17
 exists 8,gS,(mX L (n7+1+1+1+1) (n7+1+1) pa (n7+1+1+1) ps pe ‹_› p0 rem hps 0).up rfl,0xef10ef10ef0ef10ef1c1cc888111111a1991111119111198878787878785,0xdbe0ff,aj qs++(N++rest),(pT [_,_,_,_] [2,3,4,0,0,5,0] [2,3,4,5,0,0,0] rfl)
 refine bk hroom (d6 (ic (k9 (ai x8.2.2.2.2.2.2.2 x8.2.2.2.2.2.2.1) (n7+1+1+1) (n7+1) (El (Fb x8.2.2.2.2.2.2.2)) && fO (.mk (.type "dict") none (.dict #[]) #[]))) (kG _ _ hok _ _ _ _ ‹_› (by lia))) t8 (dec 72831082786) [] ?_ (by kernel_rfl)
 intro cf9 x9 n9 t9 q9 p9
 exists 10,cM,(fP o od hl kh eh el (ah qs) ‹_› nm ow ‹_› tn to ps hok ‹_› ‹_› ((List.brecOn.go (El (Fb x8.2.2.2.2.2.2.2)) (Ds._f c6)).1) (by obtain ⟨hk9,_⟩:=‹_∧394≤_›;refine Eq.trans ?_ ((congrArg (Ds c6) hk9).trans (ml _ _));kernel_rfl)).up rfl,0xff110ff0ff,3276,cI ps++(aj qs++(N++rest)),(pT [_,_,_,_] [2,3,4,0,0,5,0] [1,2,3,4,5,0,0,0,0] rfl)
 exists 11,fZ,ih t7 (t7+1) (t7+1+1) (t7+1+1+1) (t7+1+1+1+1) (ef+1+1+1+1+1) x10.2.1 x10.1 x10.2.2.1 x10.2.2.2,0,0x147111dd0ef,rest,(pT [_,_,_,_] [1,2,3,4,5,0,0,0,0] [2,3,4,0,0,5,0] rfl)
 exists az,(x11.1,x11.2.1,x11.2.2.1,x11.2.2.2),(by rfl),0,69905
end
end
section
set_option hygiene false in
section
variable (L it:C1) (K:Tok×Tok) (fl o od hl:C1) (kh:Tok) (eh:Nat) (xs:List CX) (ex:Nat)
theorem zX (c1 c2 c3 c4 c5:Tok) (g0:Bool) (kd0:Nat) (tk0:Tok) (nm0:List Nat) (tn0:Tok) (ow0:List Nat) (to0:Tok) (pa0:C1) (ef i el:Nat) (hv:xs.length≤i) (ys:List CX):
  ae Z 16 (qS Z L it) ((L,jz Z K fl o c1 c2 c3 c4 c5 g0 kd0 tk0 nm0 tn0 ow0 to0 pa0 ef)::lj Z it fl o od hl kh eh xs ex i ys el) [] (X:=Nat×Obj) (λξ=>True) (λξ=>.ok .next)
   (λx=>[jz Z K fl o c1 c2 c3 c4 c5 g0 kd0 tk0 nm0 tn0 ow0 to0 pa0 x.1,x.2,aa xs ex,gG od,ig Z kh hl eh,aa ys el]) (λξ=>[]):=by
 exists 0,ae.of_codeB
 exists 1,iX it fl i xs ex ‹_›,787,34
 exists ar,(ef,eS i),21,3354901
theorem z9 (c1 c2 c3 c4 c5:Tok) (g0:Bool) (kd0:Nat) (tk0:Tok) (nm0:List Nat) (tn0:Tok) (ow0:List Nat) (to0:Tok) (pa0:C1) (ef i el:Nat) (qs:List Pt) (hql:qs.length≤1000) (fa:C1) (kd:Nat) (tk:Tok) (nm:List Nat) (hn:nm∈a8) (tn:Tok) (ow:List Nat) (hw1:∀c∈ow,aO c=true) (hw2:ow.length≤1000) (to:Tok) (pa:C1) (fe:Nat) (ps:List Pm) (hok:kR ps) (p0:Pm) (rem:List Pm) (hps:ps=p0::rem) (pe:Nat) (N:ao) (hi:xs[i]?=some (.ref fa)) (P:Xb→Prop) (pm:Xb→ao)
  (ih:∀(k1 k2 k3 k4 k5:Tok) (ef el:Nat) (a:C1) (u1 u2:Tok),ad Z 16 (qS Z L it) ((L,jz Z K fl o k1 k2 k3 k4 k5 false kd tk nm tn ow to pa ef)::lj Z it fl o od hl kh eh xs ex (i+1) (ah qs++[.ref a]) el++[(fa,bF false kd tk nm tn ow to pa fe),(pa,aa (aB ps) pe),(a,an nm u1 (bt ow ps) u2)]) (cI ps++(aj qs++N)) P (λξ=>.ok .next) (sH Z L K fl o od hl kh eh xs ex) pm):
  ad Z 16 (qS Z L it) ((L,jz Z K fl o c1 c2 c3 c4 c5 g0 kd0 tk0 nm0 tn0 ow0 to0 pa0 ef)::lj Z it fl o od hl kh eh xs ex i (ah qs) el++[(fa,bF false kd tk nm tn ow to pa fe),(pa,aa (aB ps) pe)]) (cI ps++(aj qs++N)) P (λξ=>.ok .next) (sH Z L K fl o od hl kh eh xs ex) pm:=by
 have hrl:(ah qs).length≤1000:=by unfold ah;rw [C2];exact hql
 refine ad.of_codeKB λrest A R d os hroom hR n t=>?_
 exists 1,bb it fl i xs ex (.ref fa) hi,787,34
 exists 2,bb n1 fa 0 [.bool DT,.int (.ofNat kd) tk,.str (S nm) tn,.str (S ow) to,.ref pa] fe _ rfl,0xa1aa1818882,121
 exists 3,bb n1 fa 1 [.bool DT,.int (.ofNat kd) tk,.str (S nm) tn,.str (S ow) to,.ref pa] fe _ rfl,530,17
 exists 4,bb n1 fa 2 [.bool DT,.int (.ofNat kd) tk,.str (S nm) tn,.str (S ow) to,.ref pa] fe _ rfl,530,17
 exists 5,bb n1 fa 3 [.bool DT,.int (.ofNat kd) tk,.str (S nm) tn,.str (S ow) to,.ref pa] fe _ rfl,530,17
 exists 6,bb n1 fa 4 [.bool DT,.int (.ofNat kd) tk,.str (S nm) tn,.str (S ow) to,.ref pa] fe _ rfl,530,17
 exists 7,eR n1 fa (.type "list") none #[] (.bool DT) (.int (.ofNat kd) tk) (.str (S nm) tn) (.str (S ow) to) (.ref pa) fe,530,17
 exists 8,gS,(mX L (n7+1+1+1+1) (n7+1+1) pa (n7+1+1+1) ps pe ‹_› p0 rem hps 0).up rfl,0xef10ef10ef0ef10ef1c1cc888111111a1991111119111198878787878785,0xdbe0ff,aj qs++(N++rest),(pT [_,_,_,_] [2,3,4,0,0,5,0] [2,3,4,5,0,0,0] rfl)
 refine bk hroom (d6 (ic (k9 (ai x8.2.2.2.2.2.2.2 x8.2.2.2.2.2.2.1) (n7+1+1+1) (n7+1) (El (Fb x8.2.2.2.2.2.2.2)) && fO (.mk (.type "dict") none (.dict #[]) #[]))) (kG _ _ hok _ _ _ _ ‹_› (by lia))) t8 (dec 72831082786) [] ?_ (by kernel_rfl)
 intro cf9 x9 n9 t9 q9 p9
 exists 10,cM,(fP o od hl kh eh el (ah qs) ‹_› nm ow ‹_› tn to ps hok ‹_› ‹_› ((List.brecOn.go (El (Fb x8.2.2.2.2.2.2.2)) (Ds._f c6)).1) (by obtain ⟨hk9,_⟩:=‹_∧394≤_›;refine Eq.trans ?_ ((congrArg (Ds c6) hk9).trans (ml _ _));kernel_rfl)).up rfl,0xff110ff0ff,3276,cI ps++(aj qs++(N++rest)),(pT [_,_,_,_] [2,3,4,0,0,5,0] [1,2,3,4,5,0,0,0,0] rfl)
 exists 11,fZ,ih c1 c2 c3 c4 c5 ef x10.2.1 x10.1 x10.2.2.1 x10.2.2.2,0,0x147111dd0ef,rest,(pT [_,_,_,_] [1,2,3,4,5,0,0,0,0] [2,3,4,0,0,5,0] rfl)
 exists az,(x11.1,x11.2.1,x11.2.2.1,x11.2.2.2),(by rfl),0,69905
theorem Ap (c1 c2 c3 c4 c5:Tok) (g0:Bool) (kd0:Nat) (tk0:Tok) (nm0:List Nat) (tn0:Tok) (ow0:List Nat) (to0:Tok) (pa0:C1) (ef i el:Nat) (qs:List Pt) (hql:qs.length≤1000) (fa:C1) (kd:Nat) (tk:Tok) (nm:List Nat) (hn:nm∈a8) (tn:Tok) (ow:List Nat) (hw1:∀c∈ow,aO c=true) (hw2:ow.length≤1000) (to:Tok) (pa:C1) (fe:Nat) (pe:Nat) (N:ao) (hi:xs[i]?=some (.ref fa)) (P:Xb→Prop) (pm:Xb→ao)
  (ih:∀(k1 k2 k3 k4 k5:Tok) (ef el:Nat) (a:C1) (u1 u2:Tok),ad Z 16 (qS Z L it) ((L,jz Z K fl o k1 k2 k3 k4 k5 false kd tk nm tn ow to pa ef)::lj Z it fl o od hl kh eh xs ex (i+1) (ah qs++[.ref a]) el++[(fa,bF false kd tk nm tn ow to pa fe),(pa,aa [] pe),(a,an nm u1 (bt ow []) u2)]) (aj qs++N) P (λξ=>.ok .next) (sH Z L K fl o od hl kh eh xs ex) pm):
  ad Z 16 (qS Z L it) ((L,jz Z K fl o c1 c2 c3 c4 c5 g0 kd0 tk0 nm0 tn0 ow0 to0 pa0 ef)::lj Z it fl o od hl kh eh xs ex i (ah qs) el++[(fa,bF false kd tk nm tn ow to pa fe),(pa,aa [] pe)]) (aj qs++N) P (λξ=>.ok .next) (sH Z L K fl o od hl kh eh xs ex) pm:=by
 have hrl:(ah qs).length≤1000:=by unfold ah;rw [C2];exact hql
 have hok:=nl
 refine ad.of_codeKB λrest A R d os hroom hR n t=>?_
 exists 1,bb it fl i xs ex (.ref fa) hi,787,34
 exists 2,bb n1 fa 0 [.bool DT,.int (.ofNat kd) tk,.str (S nm) tn,.str (S ow) to,.ref pa] fe _ rfl,0xa1aa1818882,121
 exists 3,bb n1 fa 1 [.bool DT,.int (.ofNat kd) tk,.str (S nm) tn,.str (S ow) to,.ref pa] fe _ rfl,530,17
 exists 4,bb n1 fa 2 [.bool DT,.int (.ofNat kd) tk,.str (S nm) tn,.str (S ow) to,.ref pa] fe _ rfl,530,17
 exists 5,bb n1 fa 3 [.bool DT,.int (.ofNat kd) tk,.str (S nm) tn,.str (S ow) to,.ref pa] fe _ rfl,530,17
 exists 6,bb n1 fa 4 [.bool DT,.int (.ofNat kd) tk,.str (S nm) tn,.str (S ow) to,.ref pa] fe _ rfl,530,17
 exists 7,eR n1 fa (.type "list") none #[] (.bool DT) (.int (.ofNat kd) tk) (.str (S nm) tn) (.str (S ow) to) (.ref pa) fe,530,17
 exists 8,gS,(qX L (n7+1+1+1+1) (n7+1+1) pa (n7+1+1+1) pe 0).up rfl,0xef10ef10ef0ef10ef1c1cc888111111a1991111119111198878787878785,0xdbe0ff,aj qs++(N++rest),(pT [_,_,_] [2,3,0,4,0] [1,2,3,4,0,0,0] rfl)
 refine bk hroom (d6 (ic (k9 (ai [] 0) (n7+1+1+1) (n7+1) (El ⟨[]⟩) && fO (.mk (.type "dict") none (.dict #[]) #[]))) (kG _ _ hok _ _ _ _ ‹_› (by lia))) t8 (dec 1111330) [] ?_ (by kernel_rfl)
 intro cf9 x9 n9 t9 q9 p9
 exists 10,cM,(fP o od hl kh eh el (ah qs) ‹_› nm ow ‹_› tn to [] hok ‹_› ‹_› [] rfl).up rfl,0xff110ff0ff,3276,aj qs++(N++rest),(pT [_,_,_] [2,3,0,4,0] [1,2,3,4,0,0,0] rfl)
 exists 11,fZ,ih c1 c2 c3 c4 c5 ef x10.2.1 x10.1 x10.2.2.1 x10.2.2.2,0,0x147111dd0ef,rest,(pT [_,_,_] [1,2,3,4,0,0,0] [2,3,0,4,0] rfl)
 exists az,(x11.1,x11.2.1,x11.2.2.1,x11.2.2.2),(by rfl),0,69905
theorem Ba (c1 c2 c3 c4 c5:Tok) (g0:Bool) (kd0:Nat) (tk0:Tok) (nm0:List Nat) (tn0:Tok) (ow0:List Nat) (to0:Tok) (pa0:C1) (ef i el:Nat) (qs:List Pt) (hql:qs.length≤1000) (x0:Pt) (xr:List Pt) (hqs:qs=x0::xr) (hqn:∀x∈qs,x.f∈a8) (fa:C1) (kd:Nat) (tk:Tok) (nm:List Nat) (hn:nm∈a8) (tn:Tok) (ow:List Nat) (hw1:∀c∈ow,aO c=true) (hw2:ow.length≤1000) (to:Tok) (pa:C1) (fe:Nat) (ps:List Pm) (hok:kR ps) (p0:Pm) (rem:List Pm) (hps:ps=p0::rem) (pe:Nat) (N:ao) (hi:xs[i]?=some (.ref fa)) (P:Xb→Prop) (pm:Xb→ao)
  (ih:∀(k1 k2 k3 k4 k5:Tok) (ef el:Nat) (a:C1) (u1 u2:Tok) (l:List CX),l=ah (qs.filter (bn (bN nm)))→ad Z 16 (qS Z L it) ((L,jz Z K fl o k1 k2 k3 k4 k5 true kd tk nm tn ow to pa ef)::lj Z it fl o od hl kh eh xs ex (i+1) (l++[.ref a]) el++[(fa,bF true kd tk nm tn ow to pa fe),(pa,aa (aB ps) pe),(a,an nm u1 (bt ow ps) u2)]) (cI ps++(aj qs++N)) P (λξ=>.ok .next) (sH Z L K fl o od hl kh eh xs ex) pm):
  ad Z 16 (qS Z L it) ((L,jz Z K fl o c1 c2 c3 c4 c5 g0 kd0 tk0 nm0 tn0 ow0 to0 pa0 ef)::lj Z it fl o od hl kh eh xs ex i (ah qs) el++[(fa,bF true kd tk nm tn ow to pa fe),(pa,aa (aB ps) pe)]) (cI ps++(aj qs++N)) P (λξ=>.ok .next) (sH Z L K fl o od hl kh eh xs ex) pm:=by
 have hrl:(ah qs).length≤1000:=by unfold ah;rw [C2];exact hql
 have hs:=ab
 have hrl2:qs.length+qs.length≤CZ:=by lia
 have hfl:∀y:List CX,y=ah (qs.filter (bn (bN nm)))→y.length≤1000:=λy hy=>by
  rw [hy];unfold ah;rw [C2]
  have:=Ed (bn (bN nm)) qs
  exact Ex ‹_› ‹_›
 refine ad.of_codeKB λrest A R d os hroom hR n t=>?_
 exists 1,bb it fl i xs ex (.ref fa) hi,787,34
 exists 2,bb n1 fa 0 [.bool En,.int (.ofNat kd) tk,.str (S nm) tn,.str (S ow) to,.ref pa] fe _ rfl,0xa1aa1818882,121
 exists 3,bb n1 fa 1 [.bool En,.int (.ofNat kd) tk,.str (S nm) tn,.str (S ow) to,.ref pa] fe _ rfl,530,17
 exists 4,bb n1 fa 2 [.bool En,.int (.ofNat kd) tk,.str (S nm) tn,.str (S ow) to,.ref pa] fe _ rfl,530,17
 exists 5,bb n1 fa 3 [.bool En,.int (.ofNat kd) tk,.str (S nm) tn,.str (S ow) to,.ref pa] fe _ rfl,530,17
 exists 6,bb n1 fa 4 [.bool En,.int (.ofNat kd) tk,.str (S nm) tn,.str (S ow) to,.ref pa] fe _ rfl,530,17
 exists 7,eR n1 fa (.type "list") none #[] (.bool En) (.int (.ofNat kd) tk) (.str (S nm) tn) (.str (S ow) to) (.ref pa) fe,530,17
 exists 8,gS,(nj o od hl kh eh el nm tn qs ‹_› ‹_› x0 xr hqs ‹_›).up rfl,0x111191988878787878785,2184,cI ps++(N++rest),(pT [_,_,_,_] [2,3,4,0,0,5,0] [3,2,4,5,0,0,0] rfl)
 exists 9,gS,(mX L (n8+1+1+1+1) (n8+1+1) pa (n8+1+1+1) ps pe ‹_› p0 rem hps 0).up rfl,0xef10ef10ef0ef10ef1c1ccbbb1111113122111111211112b,0xdbe0ff,aj qs++(N++rest),(pT [_,_,_,_] [2,3,4,0,0,5,0] [2,3,4,5,0,0,0] rfl)
 refine bk hroom (d6 (ic (k9 (ai x9.2.2.2.2.2.2.2 x9.2.2.2.2.2.2.1) (n8+1+1+1) (n8+1) (El (Fb x9.2.2.2.2.2.2.2)) && fO (.mk (.type "dict") none (.dict #[]) #[]))) (kG _ _ hok _ _ _ _ ‹_› (by lia))) t9 (dec 72831082786) [] ?_ (by kernel_rfl)
 intro cf10 x10 n10 t10 q10 p10
 exists 11,cM,(fP o od hl kh eh x8.1 x8.2 (hfl _ ‹_›) nm ow ‹_› tn to ps hok ‹_› ‹_› ((List.brecOn.go (El (Fb x9.2.2.2.2.2.2.2)) (Ds._f c6)).1) (by obtain ⟨hk9,_⟩:=‹_∧394≤_›;refine Eq.trans ?_ ((congrArg (Ds c6) hk9).trans (ml _ _));kernel_rfl)).up rfl,0xff110ff0ff,1365,cI ps++(aj qs++(N++rest)),(pT [_,_,_,_] [2,3,4,0,0,5,0] [1,2,3,4,5,0,0,0,0] rfl)
 exists 12,fZ,ih c1 c2 c3 c4 c5 ef x11.2.1 x11.1 x11.2.2.1 x11.2.2.2 x8.2 ‹_›,0,0x147111dd0ef,rest,(pT [_,_,_,_] [1,2,3,4,5,0,0,0,0] [2,3,4,0,0,5,0] rfl)
 exists az,(x12.1,x12.2.1,x12.2.2.1,x12.2.2.2),(by rfl),0,69905
theorem A6 (c1 c2 c3 c4 c5:Tok) (g0:Bool) (kd0:Nat) (tk0:Tok) (nm0:List Nat) (tn0:Tok) (ow0:List Nat) (to0:Tok) (pa0:C1) (ef i el:Nat) (qs:List Pt) (hql:qs.length≤1000) (x0:Pt) (xr:List Pt) (hqs:qs=x0::xr) (hqn:∀x∈qs,x.f∈a8) (fa:C1) (kd:Nat) (tk:Tok) (nm:List Nat) (hn:nm∈a8) (tn:Tok) (ow:List Nat) (hw1:∀c∈ow,aO c=true) (hw2:ow.length≤1000) (to:Tok) (pa:C1) (fe:Nat) (pe:Nat) (N:ao) (hi:xs[i]?=some (.ref fa)) (P:Xb→Prop) (pm:Xb→ao)
  (ih:∀(k1 k2 k3 k4 k5:Tok) (ef el:Nat) (a:C1) (u1 u2:Tok) (l:List CX),l=ah (qs.filter (bn (bN nm)))→ad Z 16 (qS Z L it) ((L,jz Z K fl o k1 k2 k3 k4 k5 true kd tk nm tn ow to pa ef)::lj Z it fl o od hl kh eh xs ex (i+1) (l++[.ref a]) el++[(fa,bF true kd tk nm tn ow to pa fe),(pa,aa [] pe),(a,an nm u1 (bt ow []) u2)]) (aj qs++N) P (λξ=>.ok .next) (sH Z L K fl o od hl kh eh xs ex) pm):
  ad Z 16 (qS Z L it) ((L,jz Z K fl o c1 c2 c3 c4 c5 g0 kd0 tk0 nm0 tn0 ow0 to0 pa0 ef)::lj Z it fl o od hl kh eh xs ex i (ah qs) el++[(fa,bF true kd tk nm tn ow to pa fe),(pa,aa [] pe)]) (aj qs++N) P (λξ=>.ok .next) (sH Z L K fl o od hl kh eh xs ex) pm:=by
 have hrl:(ah qs).length≤1000:=by unfold ah;rw [C2];exact hql
 have hs:=ab
 have hrl2:qs.length+qs.length≤CZ:=by lia
 have hfl:∀y:List CX,y=ah (qs.filter (bn (bN nm)))→y.length≤1000:=λy hy=>by
  rw [hy];unfold ah;rw [C2]
  have:=Ed (bn (bN nm)) qs
  exact Ex ‹_› ‹_›
 have hok:=nl
 refine ad.of_codeKB λrest A R d os hroom hR n t=>?_
 exists 1,bb it fl i xs ex (.ref fa) hi,787,34
 exists 2,bb n1 fa 0 [.bool En,.int (.ofNat kd) tk,.str (S nm) tn,.str (S ow) to,.ref pa] fe _ rfl,0xa1aa1818882,121
 exists 3,bb n1 fa 1 [.bool En,.int (.ofNat kd) tk,.str (S nm) tn,.str (S ow) to,.ref pa] fe _ rfl,530,17
 exists 4,bb n1 fa 2 [.bool En,.int (.ofNat kd) tk,.str (S nm) tn,.str (S ow) to,.ref pa] fe _ rfl,530,17
 exists 5,bb n1 fa 3 [.bool En,.int (.ofNat kd) tk,.str (S nm) tn,.str (S ow) to,.ref pa] fe _ rfl,530,17
 exists 6,bb n1 fa 4 [.bool En,.int (.ofNat kd) tk,.str (S nm) tn,.str (S ow) to,.ref pa] fe _ rfl,530,17
 exists 7,eR n1 fa (.type "list") none #[] (.bool En) (.int (.ofNat kd) tk) (.str (S nm) tn) (.str (S ow) to) (.ref pa) fe,530,17
 exists 8,gS,(nj o od hl kh eh el nm tn qs ‹_› ‹_› x0 xr hqs ‹_›).up rfl,0x111191988878787878785,2184,N++rest,(pT [_,_,_] [2,3,0,4,0] [2,3,4,0,0] rfl)
 exists 9,gS,(qX L (n8+1+1+1+1) (n8+1+1) pa (n8+1+1+1) pe 0).up rfl,0xef10ef10ef0ef10ef1c1ccbbb1111113122111111211112b,0xdbe0ff,aj qs++(N++rest),(pT [_,_,_] [2,3,0,4,0] [1,2,3,4,0,0,0] rfl)
 refine bk hroom (d6 (ic (k9 (ai [] 0) (n8+1+1+1) (n8+1) (El ⟨[]⟩) && fO (.mk (.type "dict") none (.dict #[]) #[]))) (kG _ _ hok _ _ _ _ ‹_› (by lia))) t9 (dec 1111330) [] ?_ (by kernel_rfl)
 intro cf10 x10 n10 t10 q10 p10
 exists 11,cM,(fP o od hl kh eh x8.1 x8.2 (hfl _ ‹_›) nm ow ‹_› tn to [] hok ‹_› ‹_› [] rfl).up rfl,0xff110ff0ff,1365,aj qs++(N++rest),(pT [_,_,_] [2,3,0,4,0] [1,2,3,4,0,0,0] rfl)
 exists 12,fZ,ih c1 c2 c3 c4 c5 ef x11.2.1 x11.1 x11.2.2.1 x11.2.2.2 x8.2 ‹_›,0,0x147111dd0ef,rest,(pT [_,_,_] [1,2,3,4,0,0,0] [2,3,0,4,0] rfl)
 exists az,(x12.1,x12.2.1,x12.2.2.1,x12.2.2.2),(by rfl),0,69905
end
end
section
theorem eT {fs:List Fd} {i:Nat} {x:Fd} (h:fs[i]?=some x):(aF fs)[i]?=some (.ref x.a):=by unfold aF;rw [Dv,h];rfl
theorem qw {oth:List Fd} {x:Fd} (h:x∈oth):∃M,(ey oth).Perm (M++[x.ob]):=by
 obtain ⟨i,hi⟩:=Fc.mp h
 exact fW (ey oth) i x.ob (by unfold ey;rw [Dv,hi];rfl)
noncomputable def ch (k:Nat) (f:Fd):Bool:=f.kd != k
section
variable (L C ca it sl acc:C1) (el:Nat) (f:Fd) (oth:List Fd)
theorem jD (st:List Fd) (hz:st.length≤1000) (hsub:∀x∈st,x∈oth):∀(rem:List Fd) (i:Nat) (ys:List CX) (k0:Tok) (p0:C1) (ec ea:Nat),st.drop i=rem→ys.length≤i→
  ae Z 6 (rJ Z L C ca it acc) (qL C it sl acc ca f.a (aF st) el f.ob.2 (ai [en Z dK k0 (.ref p0)] ec) i ys ea) (ey oth)
   (λx:Xt=>x.2.2.2.2.2=ys++aF (rem.filter (ch f.kd))) (λξ=>.ok .next) (uY Z f.a (aF st) el f.ob.2) (λξ=>[])
 | [],i,ys,k0,p0,ec,ea,hd,_=>by
  have hl':(aF st).length≤i:=by unfold aF;rw [C2];exact Dx.mp hd
  refine ae.to ((yN L C ca it sl acc (aF st) el f.a f.g f.kd f.tk f.nm f.tn f.ow f.to f.pa f.e k0 p0 i hl' ys ea ec).toR (ey oth)) (λx=>(k0,p0,ec,x,ea,ys)) λx ξ=>⟨by simp [aF],rfl,rfl,rfl⟩
 | y::rem,i,ys,k0,p0,ec,ea,hd,hys=>by
  have hs:=ab
  have hi:st[i]?=some y:=by
   have:=congrArg (λl=>l[0]?) hd
   simpa using this
  have hd':st.drop (i+1)=rem:=by
   have:=congrArg (DX 1) hd
   rw [DE] at this
   exact this
  have hlt:i < st.length:=(Dg.mp hi).1
  obtain ⟨M,hM⟩:=qw (hsub y (Dw hi))
  refine ae.back y.ob ?_ hM (λξ=>rfl)
  cases hk:(y.kd != f.kd) with
  | true=>
   refine wW L C ca it sl acc (aF st) el f.a f.g f.kd f.tk f.nm f.tn f.ow f.to f.pa f.e k0 p0 ec i y.a y.g y.kd y.tk y.nm y.tn y.ow y.to y.pa y.e (eT hi) hk ys (by lia) ea M _ λk1 ec' ea'=>?_
   have ih:=jD st hz hsub rem (i+1) (ys++[.ref y.a]) k1 y.a ec' ea' hd' (by rw [CY];simp;lia)
   have e:ys++[CX.ref y.a]++aF (rem.filter (ch f.kd))=ys++aF ((y::rem).filter (ch f.kd)):=by
    rw [EH (by exact hk)]
    simp [aF]
   rw [e] at ih
   exact ae.take y.ob ih hM (λξ=>rfl)
  | false=>
   refine xw L C ca it sl acc (aF st) el f.a f.g f.kd f.tk f.nm f.tn f.ow f.to f.pa f.e k0 p0 ec i y.a y.g y.kd y.tk y.nm y.tn y.ow y.to y.pa y.e (eT hi) hk ys (by lia) ea M _ λk1 ec' ea'=>?_
   have ih:=jD st hz hsub rem (i+1) ys k1 y.a ec' ea' hd' (by exact D0 ‹_›)
   have e:ys++aF (rem.filter (ch f.kd))=ys++aF ((y::rem).filter (ch f.kd)):=by
    rw [EI (by intro h;rw [show ch f.kd y=(y.kd != f.kd) from rfl,hk] at h;cases h)]
   rw [e] at ih
   exact ae.take y.ob ih hM (λξ=>rfl)
theorem yY (y:Fd) (rem:List Fd) (hz:(y::rem).length≤1000) (hsub:∀x∈y::rem,x∈oth) (ec ea:Nat):
  ae Z 6 (rJ Z L C ca it acc) (qL C it sl acc ca f.a (aF (y::rem)) el (bF f.g f.kd f.tk f.nm f.tn f.ow f.to f.pa f.e) (ai [] ec) 0 [] ea) (ey oth)
   (λx:Xt=>x.2.2.2.2.2=aF ((y::rem).filter (ch f.kd))) (λξ=>.ok .next) (uY Z f.a (aF (y::rem)) el (bF f.g f.kd f.tk f.nm f.tn f.ow f.to f.pa f.e)) (λξ=>[]):=by
 obtain ⟨M,hM⟩:=qw (hsub y (.head _))
 refine ae.back y.ob ?_ hM (λξ=>rfl)
 cases hk:(y.kd != f.kd) with
 | true=>
  refine uL L C ca it sl acc (aF (y::rem)) el f.a f.g f.kd f.tk f.nm f.tn f.ow f.to f.pa f.e ec 0 y.a y.g y.kd y.tk y.nm y.tn y.ow y.to y.pa y.e rfl hk [] (Du _) ea M _ λk1 ec' ea'=>?_
  have ih:=jD L C ca it sl acc el f oth (y::rem) hz hsub rem (0+1) ([]++[.ref y.a]) k1 y.a ec' ea' rfl (by simp)
  have e:([]:List CX)++[CX.ref y.a]++aF (rem.filter (ch f.kd))=aF ((y::rem).filter (ch f.kd)):=by
   rw [EH (by exact hk)]
   simp [aF]
  rw [e] at ih
  exact ae.take y.ob ih hM (λξ=>rfl)
 | false=>
  refine vO L C ca it sl acc (aF (y::rem)) el f.a f.g f.kd f.tk f.nm f.tn f.ow f.to f.pa f.e ec 0 y.a y.g y.kd y.tk y.nm y.tn y.ow y.to y.pa y.e rfl hk [] (Du _) ea M _ λk1 ec' ea'=>?_
  have ih:=jD L C ca it sl acc el f oth (y::rem) hz hsub rem (0+1) [] k1 y.a ec' ea' rfl (Du _)
  have e:([]:List CX)++aF (rem.filter (ch f.kd))=aF ((y::rem).filter (ch f.kd)):=by
   rw [EI (by intro h;rw [show ch f.kd y=(y.kd != f.kd) from rfl,hk] at h;cases h)]
   rfl
  rw [e] at ih
  exact ae.take y.ob ih hM (λξ=>rfl)
end
end
section
noncomputable def yw (F:Fx) (f L:C1) (cells:List (Str×C1)):Env:={fH F f L with cells:=cells}
noncomputable abbrev xk:List Nat:=[102,105,101,108,100,115]
noncomputable abbrev sF:List Nat:=[115,116,97,110,100,105,110,103]
noncomputable abbrev rE (F:Fx) (L ca it:C1):CV:=.o (hH (yw F 376 L [(S eJ,ca)]) (.ref it) (gF F 376 [1]))
noncomputable def tR:Obj:=⟨.type "cell",none,.cell none,#[]⟩
noncomputable abbrev oS (F:Fx) (kf ks:Tok) (fl sl:C1) (e:Nat):Obj:=bY [en F xk kf (.ref fl),en F sF ks (.ref sl)] e
noncomputable abbrev Xz:=Nat×C1×Nat×List CX
noncomputable abbrev sD (F:Fx) (L:C1) (kf ks:Tok) (fl:C1) (xs:List CX) (ex:Nat) (x:Xz):ao:=
 [(L,oS F kf ks fl x.2.1 x.1),(fl,aa xs ex),(x.2.1,aa x.2.2.2 x.2.2.1)]
theorem wR (L C ca it sl acc:C1) (el:Nat) (fa:C1) (kd:Nat) (tk:Tok) (nm:List Nat) (tn:Tok) (ow:List Nat) (to:Tok) (pa:C1) (e:Nat) (oth:List Fd) (y:Fd) (rem:List Fd) (hz:(y::rem).length≤1000) (hsub:∀x∈y::rem,x∈oth) (ec ea:Nat):
  ae Z 6 (rJ Z L C ca it acc) (qL C it sl acc ca fa (aF (y::rem)) el (bF true kd tk nm tn ow to pa e) (ai [] ec) 0 [] ea) (ey oth)
   (λx:Xt=>x.2.2.2.2.2=aF ((y::rem).filter (ch kd))) (λξ=>.ok .next) (uY Z fa (aF (y::rem)) el (bF true kd tk nm tn ow to pa e)) (λξ=>[]):=
 yY L C ca it sl acc el ⟨fa,true,kd,tk,nm,tn,ow,to,pa,e⟩ oth y rem hz hsub ec ea
theorem xK (L C ca it sl acc:C1) (el:Nat) (fa:C1) (kd:Nat) (tk:Tok) (nm:List Nat) (tn:Tok) (ow:List Nat) (to:Tok) (pa:C1) (e:Nat) (ec ea:Nat):
  af Z 6 (rJ Z L C ca it acc) (qL C it sl acc ca fa [] el (bF true kd tk nm tn ow to pa e) (ai [] ec) 0 [] ea)
   (X:=Obj) (λξ=>True) (λξ=>.ok .next) (λx=>[ai [] ec,x,aa [] el,aa [] ea,aY (.ref fa),bF true kd tk nm tn ow to pa e]) (λξ=>[]):=
 wA L C ca it sl acc [] el fa true kd tk nm tn ow to pa e 0 (Dh _) [] ea ec
section
variable (L ca it:C1) (kf ks:Tok) (fl:C1) (xs:List CX) (ex:Nat) (sl:C1)
theorem zh (v0:CX) (i:Nat) (hv:xs.length≤i) (ys:List CX) (ef es:Nat) (M:ao):
  ad Z 8 (rE Z L ca it) [(L,oS Z kf ks fl sl ef),(ca,aY v0),(it,aS fl i),(fl,aa xs ex),(sl,aa ys es)] M
   (X:=Xz) (λx=>x.2.2.2=ys) (λξ=>.ok .next) (sD Z L kf ks fl xs ex) (λξ=>M):=by
 have S1:af Z 8 (rE Z L ca it) [(L,oS Z kf ks fl sl ef),(ca,aY v0),(it,aS fl i),(fl,aa xs ex),(sl,aa ys es)]
   (X:=Nat×Obj) (λξ=>True) (λξ=>.ok .next) (λy=>[oS Z kf ks fl sl y.1,aY v0,y.2,aa xs ex,aa ys es]) (λξ=>[]):=by
  exists 0,af.of_codeB
  exists 1,iX it fl i xs ex ‹_›,1044,51
  exists ar,(ef,eS i),21,201045
 refine ad.to (ae.toM (S1.toR M)) (.refl _) (λy=>(y.1,sl,es,ys)) (λy=>[(ca,aY v0),(it,y.2)]) λy ξ=>⟨rfl,rfl,?_⟩
 show F3 ([(L,_),(ca,_),(it,_),(fl,_),(sl,_)]++M) ([(ca,_),(it,_)]++([(L,_),(fl,_),(sl,_)]++M))
 exact (pT [[_],[_],[_],[_],[_],_] [2,3,4,5,6,0,0,0,0,7,0] [3,4,0,2,5,6,0,0,7,0,0] rfl)
theorem Ar (i:Nat) (p:C1) (kd:Nat) (tk:Tok) (nm:List Nat) (tn:Tok) (ow:List Nat) (to:Tok) (pa:C1) (e:Nat) (oth:List Fd) (hi:xs[i]?=some (.ref p)) (ef es:Nat) (P:Xz→Prop) (pm:Xz→ao)
  (ih:∀(ef es:Nat),ad Z 8 (rE Z L ca it) ([(L,oS Z kf ks fl sl ef),(ca,aY (.ref p)),(it,aS fl (i+1)),(fl,aa xs ex),(sl,aa ([]++[.ref p]) es)]++[(p,bF false kd tk nm tn ow to pa e)]) (ey oth) P (λξ=>.ok .next) (sD Z L kf ks fl xs ex) (λξ=>ey oth++[(p,bF false kd tk nm tn ow to pa e)])):
  ad Z 8 (rE Z L ca it) ([(L,oS Z kf ks fl sl ef),(ca,tR),(it,aS fl i),(fl,aa xs ex),(sl,aa [] es)]++[(p,bF false kd tk nm tn ow to pa e)]) (ey oth) P (λξ=>.ok .next) (sD Z L kf ks fl xs ex) (λξ=>ey oth++[(p,bF false kd tk nm tn ow to pa e)]):=by
 exists 0,ad.of_codeB
 exists 1,bb it fl i xs ex (.ref p) hi,1044,51
 exists 2,em p [.bool DT,.int (.ofNat kd) tk,.str (S nm) tn,.str (S ow) to,.ref pa] e 0 t1 _ rfl (DD _),0x71777545,6
 exists 3,dj sl [] es (.ref p) (by decide),0x71677775,6
 exists 4,aX,ih ef (es+1),0,1127253
 exists az,(x4.1,x4.2.1,x4.2.2.1,x4.2.2.2),(by rfl),0,273
theorem AP (i:Nat) (p:C1) (kd:Nat) (tk:Tok) (nm:List Nat) (tn:Tok) (ow:List Nat) (to:Tok) (pa:C1) (e:Nat) (oth:List Fd) (hi:xs[i]?=some (.ref p)) (ef es:Nat) (P:Xz→Prop) (pm:Xz→ao)
  (ih:∀(ef es:Nat) (sl':C1),ad Z 8 (rE Z L ca it) ([(L,oS Z kf ks fl sl' ef),(ca,aY (.ref p)),(it,aS fl (i+1)),(fl,aa xs ex),(sl',aa ([]++[.ref p]) es)]++[(p,bF true kd tk nm tn ow to pa e)]) (ey oth) P (λξ=>.ok .next) (sD Z L kf ks fl xs ex) (λξ=>ey oth++[(p,bF true kd tk nm tn ow to pa e)])):
  ad Z 8 (rE Z L ca it) ([(L,oS Z kf ks fl sl ef),(ca,tR),(it,aS fl i),(fl,aa xs ex),(sl,aa [] es)]++[(p,bF true kd tk nm tn ow to pa e)]) (ey oth) P (λξ=>.ok .next) (sD Z L kf ks fl xs ex) (λξ=>ey oth++[(p,bF true kd tk nm tn ow to pa e)]):=by
 exists 0,ad.of_codeB
 exists 1,bb it fl i xs ex (.ref p) hi,1044,51
 exists 2,em p [.bool En,.int (.ofNat kd) tk,.str (S nm) tn,.str (S ow) to,.ref pa] e 0 t1 _ rfl (DD _),0x71777545,6
 exists 3,(xK L (n2+1+1) ca n2 sl (n2+1) es p kd tk nm tn ow to pa e 0 0).up rfl,0x81818818171775,1402489
 exists 4,dj (n2+1) [] 0 (.ref p) (by decide),0x5165555a29a,4
 exists 5,aX,ih ef (0+1) (n2+1),0,4286041
 exists az,(x5.1,x5.2.1,x5.2.2.1,x5.2.2.2),(by rfl),0,273
theorem Ao (v0:CX) (i:Nat) (p:C1) (kd:Nat) (tk:Tok) (nm:List Nat) (tn:Tok) (ow:List Nat) (to:Tok) (pa:C1) (e:Nat) (oth:List Fd) (ys:List CX) (hyl:ys.length≤CZ) (hi:xs[i]?=some (.ref p)) (ef es:Nat) (P:Xz→Prop) (pm:Xz→ao)
  (ih:∀(ef es:Nat),ad Z 8 (rE Z L ca it) ([(L,oS Z kf ks fl sl ef),(ca,aY (.ref p)),(it,aS fl (i+1)),(fl,aa xs ex),(sl,aa (ys++[.ref p]) es)]++[(p,bF false kd tk nm tn ow to pa e)]) (ey oth) P (λξ=>.ok .next) (sD Z L kf ks fl xs ex) (λξ=>ey oth++[(p,bF false kd tk nm tn ow to pa e)])):
  ad Z 8 (rE Z L ca it) ([(L,oS Z kf ks fl sl ef),(ca,aY v0),(it,aS fl i),(fl,aa xs ex),(sl,aa ys es)]++[(p,bF false kd tk nm tn ow to pa e)]) (ey oth) P (λξ=>.ok .next) (sD Z L kf ks fl xs ex) (λξ=>ey oth++[(p,bF false kd tk nm tn ow to pa e)]):=by
 exists 0,ad.of_codeB
 exists 1,bb it fl i xs ex (.ref p) hi,1044,51
 exists 2,em p [.bool DT,.int (.ofNat kd) tk,.str (S nm) tn,.str (S ow) to,.ref pa] e 0 t1 _ rfl (DD _),0x71777545,6
 exists 3,dj sl ys es (.ref p) ‹_›,0x71677775,6
 exists 4,aX,ih ef (es+1),0,1127253
 exists az,(x4.1,x4.2.1,x4.2.2.1,x4.2.2.2),(by rfl),0,273
theorem Ab (v0:CX) (i:Nat) (p:C1) (kd:Nat) (tk:Tok) (nm:List Nat) (tn:Tok) (ow:List Nat) (to:Tok) (pa:C1) (e:Nat) (oth:List Fd) (y:Fd) (st:List Fd) (hz:(y::st).length≤1000) (hsub:∀x∈y::st,x∈oth) (hi:xs[i]?=some (.ref p)) (ef es:Nat) (P:Xz→Prop) (pm:Xz→ao)
  (ih:∀(ef es:Nat) (sl':C1) (l:List CX),l=aF ((y::st).filter (ch kd))→ad Z 8 (rE Z L ca it) ([(L,oS Z kf ks fl sl' ef),(ca,aY (.ref p)),(it,aS fl (i+1)),(fl,aa xs ex),(sl',aa (l++[.ref p]) es)]++[(p,bF true kd tk nm tn ow to pa e)]) (ey oth) P (λξ=>.ok .next) (sD Z L kf ks fl xs ex) (λξ=>ey oth++[(p,bF true kd tk nm tn ow to pa e)])):
  ad Z 8 (rE Z L ca it) ([(L,oS Z kf ks fl sl ef),(ca,aY v0),(it,aS fl i),(fl,aa xs ex),(sl,aa (aF (y::st)) es)]++[(p,bF true kd tk nm tn ow to pa e)]) (ey oth) P (λξ=>.ok .next) (sD Z L kf ks fl xs ex) (λξ=>ey oth++[(p,bF true kd tk nm tn ow to pa e)]):=by
 have hs:=ab
 have hflt:∀l:List CX,l=aF ((y::st).filter (ch kd))→l.length≤CZ:=λl hl=>by
  rw [hl];unfold aF;rw [C2]
  have:=Ed (ch kd) (y::st)
  lia
 exists 0,ad.of_codeB
 exists 1,bb it fl i xs ex (.ref p) hi,1044,51
 exists 2,em p [.bool En,.int (.ofNat kd) tk,.str (S nm) tn,.str (S ow) to,.ref pa] e 0 t1 _ rfl (DD _),0x71777545,6
 exists 3,cT,(wR L (n2+1+1) ca n2 sl (n2+1) es p kd tk nm tn ow to pa e oth y st ‹_› hsub 0 0).up rfl,0x81818818171775,1402489
 exists 4,dj (n2+1) x3.2.2.2.2.2 x3.2.2.2.2.1 (.ref p) (by apply_assumption <;> assumption),0x5165555a1229a,4
 exists 5,aX,ih ef (x3.2.2.2.2.1+1) (n2+1) x3.2.2.2.2.2 ‹_›,0,4286041
 exists az,(x5.1,x5.2.1,x5.2.2.1,x5.2.2.2),(by rfl),0,273
end
end
section
noncomputable def dn:List Fd→List Fd→List Fd
 | st,[]=>st
 | st,f::r=>dn ((if f.g then st.filter (ch f.kd) else st)++[f]) r
theorem jS (l:List Fd) (f:Fd):aF l++[.ref f.a]=aF (l++[f]):=by unfold aF;simp only [Da];rfl
section
variable {F:Fx} {k:Nat} {vw:CV} {L:ao} {X:Type} {P:X→Prop} {r:X→Dq} {post:X→ao} {all oth:ao} {e:C1×Obj}
theorem ad.takeE (S:ad F k vw L all P r post (λξ=>all) (λd=>d) (λd=>d)) (hp:all.Perm (oth++[e])):ad F k vw (L++[e]) oth P r post (λξ=>oth++[e]):=
 ad.to S (by
  rw [C6]
  exact C7 L ((DH).trans hp.symm)) id (λξ=>[]) λx hx=>⟨hx,rfl,C7 (post x) hp⟩
theorem ad.backE (S:ad F k vw (L++[e]) oth P r post (λξ=>oth++[e]) (λd=>d) (λd=>d)) (hp:all.Perm (oth++[e])):ad F k vw L all P r post (λξ=>all):=
 ad.to S (by
  rw [C6]
  exact C7 L (hp.trans DH)) id (λξ=>[]) λx hx=>⟨hx,rfl,C7 (post x) hp.symm⟩
end
theorem tS (fs:List Fd) (i:Nat) (f:Fd) (h:fs[i]?=some f):(ey fs).Perm (ey (fs.take i++fs.drop (i+1))++[f.ob]):=by
 have e:fs=fs.take i++f::fs.drop (i+1):=by
  obtain ⟨hlt,h2⟩:=Dg.mp h
  rw [←h2,←EY hlt,Eo]
 have e2:ey fs=ey (fs.take i)++f.ob::ey (fs.drop (i+1)):=by
  conv=>lhs;rw [e]
  unfold ey;rw [Da,Dd]
 rw [e2]
 unfold ey
 simp only [Da,C6]
 exact C7 _ ((FA _ _).symm)
section
variable (L ca it:C1) (kf ks:Tok) (fl:C1) (fs:List Fd) (ex:Nat)
theorem qJ (hz:fs.length≤900):∀(rem:List Fd) (i:Nat) (sl:C1) (y:Fd) (st:List Fd) (v0:CX) (ef es:Nat),fs.drop i=rem→(∀x∈y::st,x∈fs.take i)→(y::st).length≤i→
  ad Z 8 (rE Z L ca it) [(L,oS Z kf ks fl sl ef),(ca,aY v0),(it,aS fl i),(fl,aa (aF fs) ex),(sl,aa (aF (y::st)) es)] (ey fs)
   (λx:Xz=>x.2.2.2=aF (dn (y::st) rem)) (λξ=>.ok .next) (sD Z L kf ks fl (aF fs) ex) (λξ=>ey fs)
 | [],i,sl,y,st,v0,ef,es,hd,_,_=>by
  have hl:(aF fs).length≤i:=by unfold aF;rw [C2];exact Dx.mp hd
  exact zh L ca it kf ks fl (aF fs) ex sl v0 i hl (aF (y::st)) ef es (ey fs)
 | f::rem,i,sl,y,st,v0,ef,es,hd,hsub,hlen=>by
  have hsub2:∀x∈y::st,x∈fs.take i++fs.drop (i+1):=λx hx=>C3 _ (hsub x hx)
  have hs:=ab
  have hi:fs[i]?=some f:=by
   have:=congrArg (λl=>l[0]?) hd
   simpa using this
  have hlt:i < fs.length:=(Dg.mp hi).1
  have hd':fs.drop (i+1)=rem:=by
   have:=congrArg (DX 1) hd
   rw [DE] at this
   exact this
  have hM:=tS fs i f hi
  have htk:fs.take (i+1)=fs.take i++[f]:=by rw [FD,hi];rfl
  have hnext:∀(st2:List Fd),(∀x∈st2,x∈y::st)→st2.length≤(y::st).length→∀(sl':C1) (ef' es':Nat),ad Z 8 (rE Z L ca it) [(L,oS Z kf ks fl sl' ef'),(ca,aY (.ref f.a)),(it,aS fl (i+1)),(fl,aa (aF fs) ex),(sl',aa (aF (st2++[f])) es')] (ey fs)
   (λx:Xz=>x.2.2.2=aF (dn (st2++[f]) rem)) (λξ=>.ok .next) (sD Z L kf ks fl (aF fs) ex) (λξ=>ey fs):=by
   intro st2 h2 h3 sl' ef' es'
   have hmem:∀x∈st2++[f],x∈fs.take (i+1):=λx hx=>by
    rw [htk]
    rcases DA.mp hx with hx | hx
    ·exact C3 _ (hsub x (h2 x hx))
    ·exact Dp _ hx
   have hl2:(st2++[f]).length≤i+1:=by rw [CY];simp only [C5,De] at hlen h3 ⊢;lia
   cases h:st2++[f] with
   | nil=>cases st2 <;> cases h
   | cons y2 st3=>
    rw [h] at hmem hl2
    exact qJ hz rem (i+1) sl' y2 st3 (.ref f.a) ef' es' hd' hmem hl2
  refine ad.backE ?_ hM
  have hl900:(y::st).length≤1000:=by lia
  obtain ⟨a,g,kd,tk,nm,tn,ow,to,pa,e⟩:=f
  cases g with
  | false=>
   refine Ao L ca it kf ks fl (aF fs) ex sl v0 i a kd tk nm tn ow to pa e _ (aF (y::st)) (by unfold aF;rw [C2];exact lB ‹_› rfl) (eT hi) ef es _ (λξ=>[]) λef' es'=>?_
   have:=hnext (y::st) (λξ h=>h) (Dh _) sl ef' es'
   rw [←jS] at this
   exact ad.takeE this hM
  | true=>
   refine Ab L ca it kf ks fl (aF fs) ex sl v0 i a kd tk nm tn ow to pa e _ y st hl900 hsub2 (eT hi) ef es _ (λξ=>[]) λef' es' sl' l hl=>?_
   subst hl
   have:=hnext ((y::st).filter (ch kd)) (λx hx=>(E3.mp hx).1) (Ed _ _) sl' ef' es'
   rw [←jS] at this
   exact ad.takeE this hM
theorem zB (hz:fs.length≤900) (f:Fd) (rem:List Fd) (hfs:fs=f::rem) (sl:C1) (ef es:Nat):
  ad Z 8 (rE Z L ca it) [(L,oS Z kf ks fl sl ef),(ca,tR),(it,aS fl 0),(fl,aa (aF fs) ex),(sl,aa [] es)] (ey fs)
   (λx:Xz=>x.2.2.2=aF (dn [] fs)) (λξ=>.ok .next) (sD Z L kf ks fl (aF fs) ex) (λξ=>ey fs):=by
 have hi:fs[0]?=some f:=by rw [hfs];rfl
 have hM:=tS fs 0 f hi
 have hd':fs.drop (0+1)=rem:=by rw [hfs];rfl
 have hn:∀(sl':C1) (ef' es':Nat),ad Z 8 (rE Z L ca it) [(L,oS Z kf ks fl sl' ef'),(ca,aY (.ref f.a)),(it,aS fl (0+1)),(fl,aa (aF fs) ex),(sl',aa (aF [f]) es')] (ey fs)
   (λx:Xz=>x.2.2.2=aF (dn [] fs)) (λξ=>.ok .next) (sD Z L kf ks fl (aF fs) ex) (λξ=>ey fs):=by
  intro sl' ef' es'
  have:=qJ L ca it kf ks fl fs ex hz rem 1 sl' f [] (.ref f.a) ef' es' hd' (λx hx=>by simp only [Dl.mp hx,hfs];exact .head _) (Dh _)
  have e:dn [f] rem=dn [] fs:=by
   simp only [hfs,dn]
   cases f.g <;> rfl
  rw [e] at this
  exact this
 refine ad.backE ?_ hM
 obtain ⟨a,g,kd,tk,nm,tn,ow,to,pa,e⟩:=f
 cases g with
 | false=>exact Ar L ca it kf ks fl (aF fs) ex sl 0 a kd tk nm tn ow to pa e _ (eT hi) ef es _ (λξ=>[]) λef' es'=>ad.takeE (hn sl ef' es') hM
 | true=>exact AP L ca it kf ks fl (aF fs) ex sl 0 a kd tk nm tn ow to pa e _ (eT hi) ef es _ (λξ=>[]) λef' es' sl'=>ad.takeE (hn sl' ef' es') hM
end
end
section
structure Fp where
 f:Fd
 ps:List Pm
 pe:Nat
noncomputable def Fp.led (x:Fp):ao:=[(x.f.a,bF x.f.g x.f.kd x.f.tk x.f.nm x.f.tn x.f.ow x.f.to x.f.pa x.f.e),(x.f.pa,aa (aB x.ps) x.pe)]++cI x.ps
noncomputable def bf (l:List Fp):ao:=l.flatMap Fp.led
noncomputable def au (l:List Fp):List CX:=l.map λx=>.ref x.f.a
structure zZ (x:Fp):Prop where
 nm:x.f.nm∈a8
 ow:∀c∈x.f.ow,aO c=true
 owl:x.f.ow.length≤1000
 ps:kR x.ps
noncomputable def d3 (x:Pt):List Nat×List Nat:=(x.f,x.q)
noncomputable def Fp.row (x:Fp):List Nat×List Nat:=(x.f.nm,bt x.f.ow x.ps)
noncomputable def b7 (acc:List (List Nat×List Nat)) (x:Fp):List (List Nat×List Nat):=
 (if x.f.g then acc.filter (λy=>bN y.1 != bN x.f.nm) else acc)++[x.row]
theorem ad.lose {F:Fx} {k:Nat} {v:CV} {L M J:ao} {X:Type} {P:X→Prop} {r:X→Dq} {post pm:X→ao} {D1 D2:Dr→Dr} (S:ad F k v L M P r post pm D1 D2):ad F k v L (M++J) P r post pm D1 D2:=
 ⟨λc hc rest A R d os hr hR h g t hg D=>S.go c hc rest A R d os hr hR h g t hg (bq.drop (L:=J) (D.perm (by
  have:(L++((M++J)++rest)).Perm (J++(L++(M++rest))):=pT [_,_,_,_] [2,3,4,0,5,0,0] [4,2,3,5,0,0,0] rfl
  exact this)))⟩
theorem qg (l:List Fp) (i:Nat) (y:Fp) (h:l[i]?=some y):(bf l).Perm (bf (l.take i++l.drop (i+1))++y.led):=by
 have hlt:=(Dg.mp h).1
 have e:l=l.take i++y::l.drop (i+1):=by
  have h1:=Eo i l
  have h2:l.drop i=y::l.drop (i+1):=by
   rw [EY hlt]
   rw [DB hlt] at h
   injection h with h
   rw [h]
  rw [h2] at h1
  exact h1.symm
 have e2:bf l=bf (l.take i)++(y.led++bf (l.drop (i+1))):=by
  conv=>lhs;rw [e]
  unfold bf
  rw [Eb,D8]
 rw [e2]
 unfold bf
 rw [Eb]
 exact (pT [_,_,_] [2,3,4,0,0] [2,4,0,3,0] rfl)
theorem cY (l:List Pt) (x:Pt):ah l++[.ref x.p]=ah (l++[x]):=by unfold ah;simp only [Da];rfl
theorem fv (l:List Pt) (x:Pt):aj (l++[x])=aj l++[x.e]:=by unfold aj;rw [Da];rfl
theorem tg (l:List Pt) (p:Pt→Bool):(aj l).Perm (aj (l.filter p)++aj (l.filter λx=>!p x)):=by
 unfold aj
 rw [←Da]
 exact (List.filter_append_perm p l).symm.map _
section
variable (L it:C1) (K:Tok×Tok) (fl o od hl:C1) (kh:Tok) (eh:Nat) (ex:Nat) (l:List Fp)
theorem qO (hok:∀x∈l,zZ x):∀(rem:List Fp) (i:Nat) (c1 c2 c3 c4 c5:Tok) (g0:Bool) (kd0:Nat) (tk0:Tok) (nm0:List Nat) (tn0:Tok) (ow0:List Nat) (to0:Tok) (pa0:C1) (ef el:Nat) (qs:List Pt),
  l.drop i=rem→qs≠[]→(∀x∈qs,x.f∈a8)→qs.length+rem.length≤1000→
  ad Z 16 (qS Z L it) ((L,jz Z K fl o c1 c2 c3 c4 c5 g0 kd0 tk0 nm0 tn0 ow0 to0 pa0 ef)::lj Z it fl o od hl kh eh (au l) ex i (ah qs) el) (bf l++aj qs)
   (λx:Xb=>x.2.2.1.map d3=rem.foldl b7 (qs.map d3)) (λξ=>.ok .next) (sH Z L K fl o od hl kh eh (au l) ex) (λx=>bf l++aj x.2.2.1)
 | [],i,c1,c2,c3,c4,c5,g0,kd0,tk0,nm0,tn0,ow0,to0,pa0,ef,el,qs,hd,_,_,_=>by
  have hv:(au l).length≤i:=by delta au;rw [C2];exact Dx.mp hd
  have S1:=ae.toM (bG.toR (ae.toT (zX L it K fl o od hl kh eh (au l) ex c1 c2 c3 c4 c5 g0 kd0 tk0 nm0 tn0 ow0 to0 pa0 ef i el hv (ah qs))) (bf l++aj qs))
  refine ad.to S1 (C8 _) (λx=>([en Z yq c1 (.bool g0),en Z yi c2 (.int (.ofNat kd0) tk0),en Z ji c3 (.str (S nm0) tn0),en Z nO c4 (.str (S ow0) to0),en Z dE c5 (.ref pa0)],x.1,qs,el)) (λx=>[(it,x.2)]) λx ξ=>⟨rfl,rfl,?_⟩
  exact Ey _ _ _
 | y::rem,i,c1,c2,c3,c4,c5,g0,kd0,tk0,nm0,tn0,ow0,to0,pa0,ef,el,qs,hd,hq0,hqn,hsz=>by
  have hi:l[i]?=some y:=by
   have:=congrArg (λl=>l[0]?) hd
   simpa using this
  have hd':l.drop (i+1)=rem:=by
   have:=congrArg (DX 1) hd
   rw [DE] at this
   exact this
  obtain ⟨o1,o2,o3,o4⟩:=hok y (Dw hi)
  have hat:=qg l i y hi
  have hri:(au l)[i]?=some (.ref y.f.a):=by delta au;simp only [Dv,hi];rfl
  simp only [C5] at hsz
  have hql:qs.length≤1000:=by lia
  obtain ⟨x0,xr,hqs⟩:=Di hq0
  have ih:=λ(k1 k2 k3 k4 k5:Tok) (ef el:Nat) (qs':List Pt) (J:List Pt) (hJ:(aj qs).Perm (aj qs'++aj J)) (hlq:qs'.length≤qs.length) (hqn':∀x∈qs',x.f∈a8) (a:C1) (u1 u2:Tok)=>
   ad.lose (J:=aj J) (qO hok rem (i+1) k1 k2 k3 k4 k5 y.f.g y.f.kd y.f.tk y.f.nm y.f.tn y.f.ow y.f.to y.f.pa ef el (qs'++[⟨a,y.f.nm,u1,bt y.f.ow y.ps,u2⟩]) hd' (by simp) (by
    intro x hx
    rcases DA.mp hx with hx | hx
    ·exact hqn' x hx
    ·rw [Dl.mp hx];exact o1) (by rw [CY];show _+1+_≤_;lia))
  have led:∀(qs' J:List Pt) (hJ:(aj qs).Perm (aj qs'++aj J)) (a:C1) (u1 u2:Tok) (A0:ao),
    ((A0++[(y.f.a,bF y.f.g y.f.kd y.f.tk y.f.nm y.f.tn y.f.ow y.f.to y.f.pa y.f.e),(y.f.pa,aa (aB y.ps) y.pe),(a,an y.f.nm u1 (bt y.f.ow y.ps) u2)])++(cI y.ps++(aj qs++bf (l.take i++l.drop (i+1))))).Perm (A0++((bf l++aj (qs'++[⟨a,y.f.nm,u1,bt y.f.ow y.ps,u2⟩]))++aj J)):=by
   intro qs' J hJ a u1 u2 A0
   refine DW ?_ (C7 A0 (((hat.append_right _).append_right _)).symm)
   refine DW (C7 _ (C7 _ (hJ.append_right _))) ?_
   simp only [fv]
   delta Fp.led Pt.e
   exact (pT [_,[_],[_],[_],_,_,_,_] [2,3,4,5,0,0,0,6,7,8,0,9,0,0,0] [2,9,3,4,0,6,0,0,7,5,0,0,8,0,0] rfl)
  have ledn:∀(A0:ao),(A0++(bf l++aj qs)).Perm ((A0++[(y.f.a,bF y.f.g y.f.kd y.f.tk y.f.nm y.f.tn y.f.ow y.f.to y.f.pa y.f.e),(y.f.pa,aa (aB y.ps) y.pe)])++(cI y.ps++(aj qs++bf (l.take i++l.drop (i+1))))):=by
   intro A0
   refine DW (C7 A0 (hat.append_right _)) ?_
   delta Fp.led
   exact (pT [_,_,[_],[_],_,_] [2,3,4,5,0,6,0,0,7,0,0] [2,4,5,0,0,6,7,3,0,0,0] rfl)
  have hpd:∀x:Xb,(bf l++aj x.2.2.1).Perm (bf l++aj x.2.2.1):=λξ=>.refl _
  cases hg:y.f.g with
  | false=>
   rw [hg] at ih led ledn
   have hJ0:(aj qs).Perm (aj qs++aj []):=by delta aj;rw [EO,Dm]
   have et:∀(a:C1) (u1 u2:Tok),rem.foldl b7 ((qs++[(⟨a,y.f.nm,u1,bt y.f.ow y.ps,u2⟩:Pt)]).map d3)=(y::rem).foldl b7 (qs.map d3):=λa u1 u2=>by
    simp only [Ew,Da]
    delta b7
    refine hg▸?_
    rfl
   cases hps:y.ps with
   | nil=>
    rw [hps] at ih led ledn et
    refine ad.to (Ap L it K fl o od hl kh eh (au l) ex c1 c2 c3 c4 c5 g0 kd0 tk0 nm0 tn0 ow0 to0 pa0 ef i el qs hql y.f.a y.f.kd y.f.tk y.f.nm o1 y.f.tn y.f.ow o2 o3 y.f.to y.f.pa y.f.e y.pe (bf (l.take i++l.drop (i+1))) hri _ (λx=>bf l++aj x.2.2.1) λk1 k2 k3 k4 k5 ef el a u1 u2=>?_) (ledn _) id (λξ=>[]) (λx hx=>⟨hx,rfl,C8 _⟩)
    refine ad.to (ih k1 k2 k3 k4 k5 ef el qs [] hJ0 (Dh _) hqn a u1 u2) ?_ id (λξ=>[]) (λx hx=>⟨?_,rfl,C8 _⟩)
    ·simp only [←cY]
     exact led qs [] hJ0 a u1 u2 (_::lj Z it fl o od hl kh eh (au l) ex (i+1) (ah qs++[.ref a]) el)
    ·rw [←et a u1 u2];exact hx
   | cons p0 pr=>
    refine ad.to (z9 L it K fl o od hl kh eh (au l) ex c1 c2 c3 c4 c5 g0 kd0 tk0 nm0 tn0 ow0 to0 pa0 ef i el qs hql y.f.a y.f.kd y.f.tk y.f.nm o1 y.f.tn y.f.ow o2 o3 y.f.to y.f.pa y.f.e y.ps o4 p0 pr hps y.pe (bf (l.take i++l.drop (i+1))) hri _ (λx=>bf l++aj x.2.2.1) λk1 k2 k3 k4 k5 ef el a u1 u2=>?_) (ledn _) id (λξ=>[]) (λx hx=>⟨hx,rfl,C8 _⟩)
    refine ad.to (ih k1 k2 k3 k4 k5 ef el qs [] hJ0 (Dh _) hqn a u1 u2) ?_ id (λξ=>[]) (λx hx=>⟨?_,rfl,C8 _⟩)
    ·simp only [←cY]
     exact led qs [] hJ0 a u1 u2 (_::lj Z it fl o od hl kh eh (au l) ex (i+1) (ah qs++[.ref a]) el)
    ·rw [←et a u1 u2];exact hx
  | true=>
   have hqn':∀x∈qs.filter (bn (bN y.f.nm)),x.f∈a8:=λx hx=>hqn x (E3.mp hx).1
   rw [hg] at ih led ledn
   have hJ0:=tg qs (bn (bN y.f.nm))
   have hle:=Ed (bn (bN y.f.nm)) qs
   have et:∀(a:C1) (u1 u2:Tok),rem.foldl b7 ((qs.filter (bn (bN y.f.nm))++[(⟨a,y.f.nm,u1,bt y.f.ow y.ps,u2⟩:Pt)]).map d3)=(y::rem).foldl b7 (qs.map d3):=λa u1 u2=>by
    simp only [Ew,Da]
    congr 1
    delta b7
    rw [hg,if_pos rfl,Fq]
    try rfl
   cases hps:y.ps with
   | nil=>
    rw [hps] at ih led ledn et
    refine ad.to (A6 L it K fl o od hl kh eh (au l) ex c1 c2 c3 c4 c5 g0 kd0 tk0 nm0 tn0 ow0 to0 pa0 ef i el qs hql x0 xr hqs hqn y.f.a y.f.kd y.f.tk y.f.nm o1 y.f.tn y.f.ow o2 o3 y.f.to y.f.pa y.f.e y.pe (bf (l.take i++l.drop (i+1))) hri _ (λx=>bf l++aj x.2.2.1) λk1 k2 k3 k4 k5 ef el a u1 u2 l' hl'=>?_) (ledn _) id (λξ=>[]) (λx hx=>⟨hx,rfl,C8 _⟩)
    subst hl'
    refine ad.to (ih k1 k2 k3 k4 k5 ef el _ _ hJ0 hle hqn' a u1 u2) ?_ id (λξ=>[]) (λx hx=>⟨?_,rfl,C8 _⟩)
    ·simp only [←cY]
     exact led _ _ hJ0 a u1 u2 (_::lj Z it fl o od hl kh eh (au l) ex (i+1) (ah (qs.filter (bn (bN y.f.nm)))++[.ref a]) el)
    ·rw [←et a u1 u2];exact hx
   | cons p0 pr=>
    refine ad.to (Ba L it K fl o od hl kh eh (au l) ex c1 c2 c3 c4 c5 g0 kd0 tk0 nm0 tn0 ow0 to0 pa0 ef i el qs hql x0 xr hqs hqn y.f.a y.f.kd y.f.tk y.f.nm o1 y.f.tn y.f.ow o2 o3 y.f.to y.f.pa y.f.e y.ps o4 p0 pr hps y.pe (bf (l.take i++l.drop (i+1))) hri _ (λx=>bf l++aj x.2.2.1) λk1 k2 k3 k4 k5 ef el a u1 u2 l' hl'=>?_) (ledn _) id (λξ=>[]) (λx hx=>⟨hx,rfl,C8 _⟩)
    subst hl'
    refine ad.to (ih k1 k2 k3 k4 k5 ef el _ _ hJ0 hle hqn' a u1 u2) ?_ id (λξ=>[]) (λx hx=>⟨?_,rfl,C8 _⟩)
    ·simp only [←cY]
     exact led _ _ hJ0 a u1 u2 (_::lj Z it fl o od hl kh eh (au l) ex (i+1) (ah (qs.filter (bn (bN y.f.nm)))++[.ref a]) el)
    ·rw [←et a u1 u2];exact hx
end
end
theorem ua (y:Fp) (rem:List Fp) (hg:y.f.g=false) (a:C1) (u1 u2:Tok):rem.foldl b7 (([]++[(⟨a,y.f.nm,u1,bt y.f.ow y.ps,u2⟩:Pt)]).map d3)=(y::rem).foldl b7 []:=by
 simp only [Ew]
 congr 1
 unfold b7
 refine hg▸?_
 rfl
theorem zG (L it:C1) (K:Tok×Tok) (fl o od hl:C1) (kh:Tok) (eh:Nat) (ex:Nat) (l:List Fp) (hok:∀x∈l,zZ x) (hlen:l.length≤900) (y:Fp) (rem:List Fp) (hl':l=y::rem) (hg:y.f.g=false) (p0:Pm) (pr:List Pm) (hps:y.ps=p0::pr) (ef el:Nat):
  ad Z 16 (qS Z L it) ((L,y9 Z K fl o ef)::lj Z it fl o od hl kh eh (au l) ex 0 [] el) (bf l)
   (λx:Xb=>x.2.2.1.map d3=l.foldl b7 []) (λξ=>.ok .next) (sH Z L K fl o od hl kh eh (au l) ex) (λx=>bf l++aj x.2.2.1):=by
 have hi:l[0]?=some y:=by rw [hl'];rfl
 have hd':l.drop 1=rem:=by rw [hl'];rfl
 obtain ⟨o1,o2,o3,o4⟩:=hok y (Dw hi)
 have hat:(bf l).Perm (bf (l.take 0++l.drop 1)++y.led):=qg l 0 y hi
 have hri:(au l)[0]?=some (.ref y.f.a):=by unfold au;simp only [Dv,hi];rfl
 have hrl:rem.length+1≤900:=by rw [hl',C5] at hlen;exact hlen
 refine ad.to (BA L it K fl o od hl kh eh (au l) ex ef 0 el [] (Du _) y.f.a y.f.kd y.f.tk y.f.nm o1 y.f.tn y.f.ow o2 o3 y.f.to y.f.pa y.f.e y.ps o4 p0 pr hps y.pe (bf (l.take 0++l.drop 1)) hri _ (λx=>bf l++aj x.2.2.1) λk1 k2 k3 k4 k5 ef el a u1 u2=>?_) ?_ id (λξ=>[]) (λx hx=>⟨hx,rfl,C8 _⟩)
 ·have ih:=qO L it K fl o od hl kh eh ex l hok rem 1 k1 k2 k3 k4 k5 y.f.g y.f.kd y.f.tk y.f.nm y.f.tn y.f.ow y.f.to y.f.pa ef el [(⟨a,y.f.nm,u1,bt y.f.ow y.ps,u2⟩:Pt)] hd' (by simp) (by intro x hx;rw [Dl.mp hx];exact o1) (by show 1+_≤_;lia)
  have e:aj []=[]:=rfl
  have et:=ua y rem hg a u1 u2
  simp only [DF] at et
  rw [et,hg] at ih
  refine ad.to ih ?_ id (λξ=>[]) (λx hx=>⟨by rw [hl'];exact hx,rfl,C8 _⟩)
  refine DW ?_ (C7 _ (hat.append_right _).symm)
  unfold Fp.led
  rw [hg]
  show F3 ((_::(lj Z it fl o od hl kh eh (au l) ex 1 [.ref a] el++[(y.f.a,_),(y.f.pa,_),(a,_)]))++(cI y.ps++(aj []++_))) (_::lj Z it fl o od hl kh eh (au l) ex 1 [.ref a] el++((_++([(y.f.a,_),(y.f.pa,_)]++cI y.ps))++[(a,_)]))
  rw [e]
  refine i9 λa=>?_
  simp only [mi,nZ,rt]
  lia
 ·refine DW (C7 _ hat) ?_
  unfold Fp.led
  refine hg▸?_
  have e:aj []=[]:=rfl
  have er:ah []=[]:=rfl
  rw [e,er]
  refine i9 λa=>?_
  simp only [mi,nZ,rt]
  lia
theorem xJ (L it:C1) (K1 K2:Tok) (fl o od hl:C1) (kh:Tok) (eh:Nat) (ex:Nat) (l:List Fp) (hok:∀x∈l,zZ x) (hlen:l.length≤900) (y:Fp) (rem:List Fp) (hl':l=y::rem) (hg:y.f.g=false) (p0:Pm) (pr:List Pm) (hps:y.ps=p0::pr) (ef el:Nat):
  ad Z 16 (qS Z L it) ((L,y9 Z (K1,K2) fl o ef)::lj Z it fl o od hl kh eh (au l) ex 0 [] el) (bf l)
   (λx:Xb=>x.2.2.1.map d3=l.foldl b7 []) (λξ=>.ok .next) (sH Z L (K1,K2) fl o od hl kh eh (au l) ex) (λx=>bf l++aj x.2.2.1):=
 zG L it (K1,K2) fl o od hl kh eh ex l hok hlen y rem hl' hg p0 pr hps ef el
noncomputable abbrev Ci:=C1×C1×C1×Tok×Nat×List Pt×Nat
theorem sO (fl:C1) (ex:Nat) (l:List Fp) (hok:∀x∈l,zZ x) (hlen:l.length≤900) (y:Fp) (rem:List Fp) (hl':l=y::rem) (hg:y.f.g=false) (p0:Pm) (pr:List Pm) (hps:y.ps=p0::pr):
  ad Z 18 (.o (.call (.ref 371) ⟨[.ref fl],[]⟩)) [(fl,aa (au l) ex)] (bf l)
   (X:=Ci) (λx=>x.2.2.2.2.2.1.map d3=l.foldl b7 []) (λx=>.ok (.ret (.ref x.1))) (λx=>[(fl,aa (au l) ex),(x.1,gG x.2.1),(x.2.1,ig Z x.2.2.2.1 x.2.2.1 x.2.2.2.2.1),(x.2.2.1,aa (ah x.2.2.2.2.2.1) x.2.2.2.2.2.2)]) (λx=>bf l++aj x.2.2.2.2.2.1):=by
 exists 1,ad.of_defB
 exists 1,(qo (n+1+1) (n+1) 0).up rfl,0x11115151111111111111111111111111111111231,52
 exists 2,dx,(xJ n n1 t t1 fl (n+1+1) (n+1) x1.2.1 x1.1 x1.2.2 ex l ‹_› ‹_› y rem hl' ‹_› p0 pr hps (0+1+1) 0).up rfl,0x715155656,1119317
 exists az,(n+1+1,n+1,x1.2.1,x1.1,x1.2.2,x2.2.2.1,x2.2.2.2),(by rfl),2,8738
section
noncomputable abbrev gp:List Nat:=[115,99,114,105,112,116]
noncomputable abbrev nX:List Nat:=[120]
noncomputable abbrev uP:List Nat:=[110,97,109,101,115]
noncomputable abbrev fJ (F:Fx) (L it:C1):CV:=.o (hH (fH F 366 L) (.ref it) (gF F 366 [1]))
noncomputable abbrev ma (F:Fx) (K1 K2:Tok) (sl fl:C1) (e:Nat):Obj:=bY [en F gp K1 (.ref sl),en F dk K2 (.ref fl)] e
noncomputable abbrev ju (F:Fx) (K1 K2:Tok) (sl fl:C1) (k1:Tok) (v1:CX) (k2:Tok) (v2:CX) (k3:Tok) (v3:CX) (e:Nat):Obj:=
 bY [en F gp K1 (.ref sl),en F dk K2 (.ref fl),en F nX k1 v1,en F lN k2 v2,en F dE k3 v3] e
noncomputable abbrev fn (F:Fx) (K1 K2:Tok) (sl fl:C1) (k1:Tok) (v1:CX) (k2:Tok) (v2:CX) (k3:Tok) (v3:CX) (k4:Tok) (v4:CX) (k5:Tok) (v5:CX) (e:Nat):Obj:=
 bY [en F gp K1 (.ref sl),en F dk K2 (.ref fl),en F nX k1 v1,en F lN k2 v2,en F dE k3 v3,en F uP k4 v4,en F nO k5 v5] e
noncomputable abbrev Xf:=List Dj×Nat×List Fp×Nat
noncomputable abbrev gm (F:Fx) (L:C1) (K1 K2:Tok) (sl fl:C1) (x:Xf):ao:=
 [(L,bY (en F gp K1 (.ref sl)::en F dk K2 (.ref fl)::x.1) x.2.1),(fl,aa (au x.2.2.1) x.2.2.2)]
noncomputable abbrev gJ (it xl fl fa pa:C1) (xs:List (Nat×Tok)) (ex i:Nat) (ys:List CX) (el:Nat) (g:Bool) (kd:Nat) (tk:Tok) (nm:List Nat) (tn:Tok) (ow:List Nat) (to:Tok) (fe:Nat) (pv:List CX) (pe:Nat):ao:=
 [(it,aS xl i),(xl,aa (aJ xs) ex),(fl,aa (ys++[.ref fa]) el),(fa,bF g kd tk nm tn ow to pa fe),(pa,aa pv pe)]
noncomputable def kb:List (List (List Nat)):=[[[86,105,97],[86,73,65]],[[86,105],[118,105]],[[88,45,76,111,110,103,45,78,97,109,101],[120,45,108,111,110,103,45,110,97,109,101]]]
section
variable (L it:C1) (K1 K2:Tok) (sl xl fl:C1) (xs:List (Nat×Tok)) (ex:Nat)
theorem wy (ef i:Nat) (hv:(aJ xs).length≤i) (ls:List CX) (el:Nat):
  ae Z 10 (fJ Z L it) [(L,ma Z K1 K2 sl fl ef),(it,aS xl i),(xl,aa (aJ xs) ex),(fl,aa ls el)] [] (X:=Nat×Obj) (λξ=>True) (λξ=>.ok .next)
   (λx=>[ma Z K1 K2 sl fl x.1,x.2,aa (aJ xs) ex,aa ls el]) (λξ=>[]):=by
 exists 0,ae.of_codeB
 exists 1,iX it xl i (aJ xs) ex ‹_›,787,34
 exists ar,(ef,eS i),21,12565
theorem wi (k1:Tok) (v1:CX) (k2:Tok) (v2:CX) (k3:Tok) (v3:CX) (ef i:Nat) (hv:(aJ xs).length≤i) (ls:List CX) (el:Nat):
  ae Z 10 (fJ Z L it) [(L,ju Z K1 K2 sl fl k1 v1 k2 v2 k3 v3 ef),(it,aS xl i),(xl,aa (aJ xs) ex),(fl,aa ls el)] [] (X:=Nat×Obj) (λξ=>True) (λξ=>.ok .next)
   (λx=>[ju Z K1 K2 sl fl k1 v1 k2 v2 k3 v3 x.1,x.2,aa (aJ xs) ex,aa ls el]) (λξ=>[]):=by
 exists 0,ae.of_codeB
 exists 1,iX it xl i (aJ xs) ex ‹_›,787,34
 exists ar,(ef,eS i),21,12565
theorem xz (k1:Tok) (v1:CX) (k2:Tok) (v2:CX) (k3:Tok) (v3:CX) (k4:Tok) (v4:CX) (k5:Tok) (v5:CX) (ef i:Nat) (hv:(aJ xs).length≤i) (ls:List CX) (el:Nat):
  ae Z 10 (fJ Z L it) [(L,fn Z K1 K2 sl fl k1 v1 k2 v2 k3 v3 k4 v4 k5 v5 ef),(it,aS xl i),(xl,aa (aJ xs) ex),(fl,aa ls el)] [] (X:=Nat×Obj) (λξ=>True) (λξ=>.ok .next)
   (λx=>[fn Z K1 K2 sl fl k1 v1 k2 v2 k3 v3 k4 v4 k5 v5 x.1,x.2,aa (aJ xs) ex,aa ls el]) (λξ=>[]):=by
 exists 0,ae.of_codeB
 exists 1,iX it xl i (aJ xs) ex ‹_›,787,34
 exists ar,(ef,eS i),21,12565
theorem zC (ef i:Nat) (x:Nat) (tx:Tok) (hi:(aJ xs)[i]?=some (.int (.ofNat x) tx)) (fa pa:C1) (ys:List CX) (hyl:ys.length≤1000) (el:Nat) (g:Bool) (kd:Nat) (tk:Tok) (nm:List Nat) (tn:Tok) (ow:List Nat) (to:Tok) (fe:Nat) (pv:List CX) (pe:Nat) (h5:x % 5=0) (h3:x / 5 % 3=0) (M:ao) (P:Xf→Prop) (pm:Xf→ao)
  (ih:∀(c1 c2 c3 c4 c5 ts tk2 tn2 to2:Tok) (ef el fe2 pe2:Nat) (na fb pb:C1),ad Z 10 (fJ Z L it) ((L,fn Z K1 K2 sl fl c1 (.int (.ofNat x) tx) c2 (.int (.ofNat (x / 5)) ts) c3 (.ref pa) c4 (.ref na) c5 (.str (S (([[118],[97,116,116,97,99,104,109,101,110,116],[105,110,108,105,110,101]]:List (List Nat)).getD (x / 5 / 12 % 3) [])) to2) ef)::gJ it xl fl fb pb xs ex (i+1) (ys++[.ref fa]) el (x / 5 / 6 % 2 == 1) 0 tk2 (([[86,105,97],[86,73,65]]:List (List Nat)).getD (x / 5 / 3 % 2) []) tn2 (([[118],[97,116,116,97,99,104,109,101,110,116],[105,110,108,105,110,101]]:List (List Nat)).getD (x / 5 / 12 % 3) []) to2 fe2 [] pe2++[(fa,bF g kd tk nm tn ow to pa fe),(pa,aa pv pe)]) M P (λξ=>.ok .next) (gm Z L K1 K2 sl fl) pm):
  ad Z 10 (fJ Z L it) ((L,ma Z K1 K2 sl fl ef)::gJ it xl fl fa pa xs ex i ys el g kd tk nm tn ow to fe pv pe) M P (λξ=>.ok .next) (gm Z L K1 K2 sl fl) pm:=by
 have hs:=ab
 have hy2:ys.length < 16777216:=by exact lA ‹_› rfl
 exists 0,ad.of_codeB
 exists 1,bb it xl i (aJ xs) ex (.int (.ofNat x) tx) hi,787,34
 exists 2,am x tx 5 (t1+1) rfl (by decide),5172,0
 exists 3,iu fl ys (.ref fa) el (t2+1+1) ‹_›,0x5155511434,4
 exists 4,em fa [.bool g,.int (.ofNat kd) tk,.str (S nm) tn,.str (S ow) to,.ref pa] fe 4 t3 _ rfl (by decide),398950,5
 exists 5,aC x tx 5 (t4+1) 0 h5 rfl,91489,0
 exists 6,ax 0 x5 0 t5,1,0
 exists 7,aC (x / 5) x2 3 (t6+1+1+1+1+1+1) 0 h3 rfl,22,0
 exists 8,em (n6+1+1+1) [.ref n6,.ref (n6+1),.ref (n6+1+1)] 0 0 x7 _ rfl (DD _),727995,10
 exists 9,am (x / 5) x2 12 (t8+1+1+1+1) rfl (by decide),95857,0
 exists 10,aq (x / 5 / 12) x9 3 t9 rfl,1,0
 exists 11,ci n8 [118] [97,116,116,97,99,104,109,101,110,116] [105,110,108,105,110,101] (t8+1) (t8+1+1) (t8+1+1+1) 0 (x / 5 / 12 % 3) x10 (DN _ (by decide)),793804,11
 exists 12,am (x / 5) x2 6 (t11+1) rfl (by decide),0x1855558781,0
 exists 13,aq (x / 5 / 6) x12 2 t12 rfl,1,0
 exists 14,ax (x / 5 / 6 % 2) x13 1 t13,1,0
 exists 15,aC (x / 5) x2 3 t14 0 h3 rfl,24,0
 exists 16,am (x / 5) x2 3 t15 rfl (by decide),392,0
 exists 17,aq (x / 5 / 3) x16 2 t16 rfl,1,0
 exists 18,ce n6 [86,105,97] [86,73,65] t6 (t6+1) 0 (x / 5 / 3 % 2) x17 (DN _ (by decide)),662186,9
 exists 19,dj fl (ys++[.ref fa]) el (.ref (n18+1)) (by simp only [CY,C5,De];lia),1561,5
 exists 20,aX,ih t1 t2 t4 t8 t11 x2 x15 (D9 [t6,t6+1] (x / 5 / 3 % 2) 0) (D9 [t8+1,t8+1+1,t8+1+1+1] (x / 5 / 12 % 3) 0) (ef+1+1+1+1+1) (el+1) 0 0 n6 (n18+1) n18,0,0x44891668
 exists az,(x20.1,x20.2.1,x20.2.2.1,x20.2.2.2),(by rfl),0,17
end
end
section
section
variable (L it:C1) (K1 K2:Tok) (sl xl fl:C1) (xs:List (Nat×Tok)) (ex:Nat)
theorem yM (ef i:Nat) (x:Nat) (tx:Tok) (hi:(aJ xs)[i]?=some (.int (.ofNat x) tx)) (fa pa:C1) (ys:List CX) (hyl:ys.length≤1000) (el:Nat) (g:Bool) (kd:Nat) (tk:Tok) (nm:List Nat) (tn:Tok) (ow:List Nat) (to:Tok) (fe:Nat) (pv:List CX) (pe:Nat) (h5:x % 5=0) (h3:x / 5 % 3=1) (M:ao) (P:Xf→Prop) (pm:Xf→ao)
  (ih:∀(c1 c2 c3 c4 c5 ts tk2 tn2 to2:Tok) (ef el fe2 pe2:Nat) (na fb pb:C1),ad Z 10 (fJ Z L it) ((L,fn Z K1 K2 sl fl c1 (.int (.ofNat x) tx) c2 (.int (.ofNat (x / 5)) ts) c3 (.ref pa) c4 (.ref na) c5 (.str (S (([[118],[97,116,116,97,99,104,109,101,110,116],[105,110,108,105,110,101]]:List (List Nat)).getD (x / 5 / 12 % 3) [])) to2) ef)::gJ it xl fl fb pb xs ex (i+1) (ys++[.ref fa]) el (x / 5 / 6 % 2 == 1) 1 tk2 (([[86,105],[118,105]]:List (List Nat)).getD (x / 5 / 3 % 2) []) tn2 (([[118],[97,116,116,97,99,104,109,101,110,116],[105,110,108,105,110,101]]:List (List Nat)).getD (x / 5 / 12 % 3) []) to2 fe2 [] pe2++[(fa,bF g kd tk nm tn ow to pa fe),(pa,aa pv pe)]) M P (λξ=>.ok .next) (gm Z L K1 K2 sl fl) pm):
  ad Z 10 (fJ Z L it) ((L,ma Z K1 K2 sl fl ef)::gJ it xl fl fa pa xs ex i ys el g kd tk nm tn ow to fe pv pe) M P (λξ=>.ok .next) (gm Z L K1 K2 sl fl) pm:=by
 have hs:=ab
 have hy2:ys.length < 16777216:=by exact lA ‹_› rfl
 exists 0,ad.of_codeB
 exists 1,bb it xl i (aJ xs) ex (.int (.ofNat x) tx) hi,787,34
 exists 2,am x tx 5 (t1+1) rfl (by decide),5172,0
 exists 3,iu fl ys (.ref fa) el (t2+1+1) ‹_›,0x5155511434,4
 exists 4,em fa [.bool g,.int (.ofNat kd) tk,.str (S nm) tn,.str (S ow) to,.ref pa] fe 4 t3 _ rfl (by decide),398950,5
 exists 5,aC x tx 5 (t4+1) 0 h5 rfl,91489,0
 exists 6,ax 0 x5 0 t5,1,0
 exists 7,aC (x / 5) x2 3 (t6+1+1+1+1+1+1) 1 h3 rfl,22,0
 exists 8,em (n6+1+1+1) [.ref n6,.ref (n6+1),.ref (n6+1+1)] 0 1 x7 _ rfl (by decide),727995,10
 exists 9,am (x / 5) x2 12 (t8+1+1+1+1) rfl (by decide),95857,0
 exists 10,aq (x / 5 / 12) x9 3 t9 rfl,1,0
 exists 11,ci n8 [118] [97,116,116,97,99,104,109,101,110,116] [105,110,108,105,110,101] (t8+1) (t8+1+1) (t8+1+1+1) 0 (x / 5 / 12 % 3) x10 (DN _ (by decide)),793804,11
 exists 12,am (x / 5) x2 6 (t11+1) rfl (by decide),0x1855558781,0
 exists 13,aq (x / 5 / 6) x12 2 t12 rfl,1,0
 exists 14,ax (x / 5 / 6 % 2) x13 1 t13,1,0
 exists 15,aC (x / 5) x2 3 t14 1 h3 rfl,24,0
 exists 16,am (x / 5) x2 3 t15 rfl (by decide),392,0
 exists 17,aq (x / 5 / 3) x16 2 t16 rfl,1,0
 exists 18,ce (n6+1) [86,105] [118,105] (t6+1+1) (t6+1+1+1) 0 (x / 5 / 3 % 2) x17 (DN _ (by decide)),727995,10
 exists 19,dj fl (ys++[.ref fa]) el (.ref (n18+1)) (by simp only [CY,C5,De];lia),1561,5
 exists 20,aX,ih t1 t2 t4 t8 t11 x2 x15 (D9 [t6+1+1,t6+1+1+1] (x / 5 / 3 % 2) 0) (D9 [t8+1,t8+1+1,t8+1+1+1] (x / 5 / 12 % 3) 0) (ef+1+1+1+1+1) (el+1) 0 0 (n6+1) (n18+1) n18,0,0x44891668
 exists az,(x20.1,x20.2.1,x20.2.2.1,x20.2.2.2),(by rfl),0,17
theorem yZ (ef i:Nat) (x:Nat) (tx:Tok) (hi:(aJ xs)[i]?=some (.int (.ofNat x) tx)) (fa pa:C1) (ys:List CX) (hyl:ys.length≤1000) (el:Nat) (g:Bool) (kd:Nat) (tk:Tok) (nm:List Nat) (tn:Tok) (ow:List Nat) (to:Tok) (fe:Nat) (pv:List CX) (pe:Nat) (h5:x % 5=0) (h3:x / 5 % 3=2) (M:ao) (P:Xf→Prop) (pm:Xf→ao)
  (ih:∀(c1 c2 c3 c4 c5 ts tk2 tn2 to2:Tok) (ef el fe2 pe2:Nat) (na fb pb:C1),ad Z 10 (fJ Z L it) ((L,fn Z K1 K2 sl fl c1 (.int (.ofNat x) tx) c2 (.int (.ofNat (x / 5)) ts) c3 (.ref pa) c4 (.ref na) c5 (.str (S (([[118],[97,116,116,97,99,104,109,101,110,116],[105,110,108,105,110,101]]:List (List Nat)).getD (x / 5 / 12 % 3) [])) to2) ef)::gJ it xl fl fb pb xs ex (i+1) (ys++[.ref fa]) el (x / 5 / 6 % 2 == 1) 2 tk2 (([[88,45,76,111,110,103,45,78,97,109,101],[120,45,108,111,110,103,45,110,97,109,101]]:List (List Nat)).getD (x / 5 / 3 % 2) []) tn2 (([[118],[97,116,116,97,99,104,109,101,110,116],[105,110,108,105,110,101]]:List (List Nat)).getD (x / 5 / 12 % 3) []) to2 fe2 [] pe2++[(fa,bF g kd tk nm tn ow to pa fe),(pa,aa pv pe)]) M P (λξ=>.ok .next) (gm Z L K1 K2 sl fl) pm):
  ad Z 10 (fJ Z L it) ((L,ma Z K1 K2 sl fl ef)::gJ it xl fl fa pa xs ex i ys el g kd tk nm tn ow to fe pv pe) M P (λξ=>.ok .next) (gm Z L K1 K2 sl fl) pm:=by
 have hs:=ab
 have hy2:ys.length < 16777216:=by exact lA ‹_› rfl
 exists 0,ad.of_codeB
 exists 1,bb it xl i (aJ xs) ex (.int (.ofNat x) tx) hi,787,34
 exists 2,am x tx 5 (t1+1) rfl (by decide),5172,0
 exists 3,iu fl ys (.ref fa) el (t2+1+1) ‹_›,0x5155511434,4
 exists 4,em fa [.bool g,.int (.ofNat kd) tk,.str (S nm) tn,.str (S ow) to,.ref pa] fe 4 t3 _ rfl (by decide),398950,5
 exists 5,aC x tx 5 (t4+1) 0 h5 rfl,91489,0
 exists 6,ax 0 x5 0 t5,1,0
 exists 7,aC (x / 5) x2 3 (t6+1+1+1+1+1+1) 2 h3 rfl,22,0
 exists 8,em (n6+1+1+1) [.ref n6,.ref (n6+1),.ref (n6+1+1)] 0 2 x7 _ rfl (by decide),727995,10
 exists 9,am (x / 5) x2 12 (t8+1+1+1+1) rfl (by decide),95857,0
 exists 10,aq (x / 5 / 12) x9 3 t9 rfl,1,0
 exists 11,ci n8 [118] [97,116,116,97,99,104,109,101,110,116] [105,110,108,105,110,101] (t8+1) (t8+1+1) (t8+1+1+1) 0 (x / 5 / 12 % 3) x10 (DN _ (by decide)),793804,11
 exists 12,am (x / 5) x2 6 (t11+1) rfl (by decide),0x1855558781,0
 exists 13,aq (x / 5 / 6) x12 2 t12 rfl,1,0
 exists 14,ax (x / 5 / 6 % 2) x13 1 t13,1,0
 exists 15,aC (x / 5) x2 3 t14 2 h3 rfl,24,0
 exists 16,am (x / 5) x2 3 t15 rfl (by decide),392,0
 exists 17,aq (x / 5 / 3) x16 2 t16 rfl,1,0
 exists 18,ce (n6+1+1) [88,45,76,111,110,103,45,78,97,109,101] [120,45,108,111,110,103,45,110,97,109,101] (t6+1+1+1+1) (t6+1+1+1+1+1) 0 (x / 5 / 3 % 2) x17 (DN _ (by decide)),793804,11
 exists 19,dj fl (ys++[.ref fa]) el (.ref (n18+1)) (by simp only [CY,C5,De];lia),1561,5
 exists 20,aX,ih t1 t2 t4 t8 t11 x2 x15 (D9 [t6+1+1+1+1,t6+1+1+1+1+1] (x / 5 / 3 % 2) 0) (D9 [t8+1,t8+1+1,t8+1+1+1] (x / 5 / 12 % 3) 0) (ef+1+1+1+1+1) (el+1) 0 0 (n6+1+1) (n18+1) n18,0,0x44891668
 exists az,(x20.1,x20.2.1,x20.2.2.1,x20.2.2.2),(by rfl),0,17
theorem zS (k1:Tok) (v1:CX) (k2:Tok) (v2:CX) (k3:Tok) (v3:CX) (ef i:Nat) (x:Nat) (tx:Tok) (hi:(aJ xs)[i]?=some (.int (.ofNat x) tx)) (fa pa:C1) (ys:List CX) (hyl:ys.length≤1000) (el:Nat) (g:Bool) (kd:Nat) (tk:Tok) (nm:List Nat) (tn:Tok) (ow:List Nat) (to:Tok) (fe:Nat) (pv:List CX) (pe:Nat) (h5:x % 5=0) (h3:x / 5 % 3=0) (M:ao) (P:Xf→Prop) (pm:Xf→ao)
  (ih:∀(c1 c2 c3 c4 c5 ts tk2 tn2 to2:Tok) (ef el fe2 pe2:Nat) (na fb pb:C1),ad Z 10 (fJ Z L it) ((L,fn Z K1 K2 sl fl c1 (.int (.ofNat x) tx) c2 (.int (.ofNat (x / 5)) ts) c3 (.ref pa) c4 (.ref na) c5 (.str (S (([[118],[97,116,116,97,99,104,109,101,110,116],[105,110,108,105,110,101]]:List (List Nat)).getD (x / 5 / 12 % 3) [])) to2) ef)::gJ it xl fl fb pb xs ex (i+1) (ys++[.ref fa]) el (x / 5 / 6 % 2 == 1) 0 tk2 (([[86,105,97],[86,73,65]]:List (List Nat)).getD (x / 5 / 3 % 2) []) tn2 (([[118],[97,116,116,97,99,104,109,101,110,116],[105,110,108,105,110,101]]:List (List Nat)).getD (x / 5 / 12 % 3) []) to2 fe2 [] pe2++[(fa,bF g kd tk nm tn ow to pa fe),(pa,aa pv pe)]) M P (λξ=>.ok .next) (gm Z L K1 K2 sl fl) pm):
  ad Z 10 (fJ Z L it) ((L,ju Z K1 K2 sl fl k1 v1 k2 v2 k3 v3 ef)::gJ it xl fl fa pa xs ex i ys el g kd tk nm tn ow to fe pv pe) M P (λξ=>.ok .next) (gm Z L K1 K2 sl fl) pm:=by
 have hs:=ab
 have hy2:ys.length < 16777216:=by exact lA ‹_› rfl
 exists 0,ad.of_codeB
 exists 1,bb it xl i (aJ xs) ex (.int (.ofNat x) tx) hi,787,34
 exists 2,am x tx 5 (t1+1) rfl (by decide),5172,0
 exists 3,iu fl ys (.ref fa) el (t2+1+1) ‹_›,0x5155511434,4
 exists 4,em fa [.bool g,.int (.ofNat kd) tk,.str (S nm) tn,.str (S ow) to,.ref pa] fe 4 t3 _ rfl (by decide),398950,5
 exists 5,aC x tx 5 (t4+1) 0 h5 rfl,91489,0
 exists 6,ax 0 x5 0 t5,1,0
 exists 7,aC (x / 5) x2 3 (t6+1+1+1+1+1+1) 0 h3 rfl,22,0
 exists 8,em (n6+1+1+1) [.ref n6,.ref (n6+1),.ref (n6+1+1)] 0 0 x7 _ rfl (DD _),727995,10
 exists 9,am (x / 5) x2 12 (t8+1+1+1+1) rfl (by decide),95857,0
 exists 10,aq (x / 5 / 12) x9 3 t9 rfl,1,0
 exists 11,ci n8 [118] [97,116,116,97,99,104,109,101,110,116] [105,110,108,105,110,101] (t8+1) (t8+1+1) (t8+1+1+1) 0 (x / 5 / 12 % 3) x10 (DN _ (by decide)),793804,11
 exists 12,am (x / 5) x2 6 (t11+1) rfl (by decide),0x1855558781,0
 exists 13,aq (x / 5 / 6) x12 2 t12 rfl,1,0
 exists 14,ax (x / 5 / 6 % 2) x13 1 t13,1,0
 exists 15,aC (x / 5) x2 3 t14 0 h3 rfl,24,0
 exists 16,am (x / 5) x2 3 t15 rfl (by decide),392,0
 exists 17,aq (x / 5 / 3) x16 2 t16 rfl,1,0
 exists 18,ce n6 [86,105,97] [86,73,65] t6 (t6+1) 0 (x / 5 / 3 % 2) x17 (DN _ (by decide)),662186,9
 exists 19,dj fl (ys++[.ref fa]) el (.ref (n18+1)) (by simp only [CY,C5,De];lia),1561,5
 exists 20,aX,ih k1 k2 k3 t8 t11 x2 x15 (D9 [t6,t6+1] (x / 5 / 3 % 2) 0) (D9 [t8+1,t8+1+1,t8+1+1+1] (x / 5 / 12 % 3) 0) (ef+1+1) (el+1) 0 0 n6 (n18+1) n18,0,0x44891668
 exists az,(x20.1,x20.2.1,x20.2.2.1,x20.2.2.2),(by rfl),0,17
theorem zv (k1:Tok) (v1:CX) (k2:Tok) (v2:CX) (k3:Tok) (v3:CX) (ef i:Nat) (x:Nat) (tx:Tok) (hi:(aJ xs)[i]?=some (.int (.ofNat x) tx)) (fa pa:C1) (ys:List CX) (hyl:ys.length≤1000) (el:Nat) (g:Bool) (kd:Nat) (tk:Tok) (nm:List Nat) (tn:Tok) (ow:List Nat) (to:Tok) (fe:Nat) (pv:List CX) (pe:Nat) (h5:x % 5=0) (h3:x / 5 % 3=1) (M:ao) (P:Xf→Prop) (pm:Xf→ao)
  (ih:∀(c1 c2 c3 c4 c5 ts tk2 tn2 to2:Tok) (ef el fe2 pe2:Nat) (na fb pb:C1),ad Z 10 (fJ Z L it) ((L,fn Z K1 K2 sl fl c1 (.int (.ofNat x) tx) c2 (.int (.ofNat (x / 5)) ts) c3 (.ref pa) c4 (.ref na) c5 (.str (S (([[118],[97,116,116,97,99,104,109,101,110,116],[105,110,108,105,110,101]]:List (List Nat)).getD (x / 5 / 12 % 3) [])) to2) ef)::gJ it xl fl fb pb xs ex (i+1) (ys++[.ref fa]) el (x / 5 / 6 % 2 == 1) 1 tk2 (([[86,105],[118,105]]:List (List Nat)).getD (x / 5 / 3 % 2) []) tn2 (([[118],[97,116,116,97,99,104,109,101,110,116],[105,110,108,105,110,101]]:List (List Nat)).getD (x / 5 / 12 % 3) []) to2 fe2 [] pe2++[(fa,bF g kd tk nm tn ow to pa fe),(pa,aa pv pe)]) M P (λξ=>.ok .next) (gm Z L K1 K2 sl fl) pm):
  ad Z 10 (fJ Z L it) ((L,ju Z K1 K2 sl fl k1 v1 k2 v2 k3 v3 ef)::gJ it xl fl fa pa xs ex i ys el g kd tk nm tn ow to fe pv pe) M P (λξ=>.ok .next) (gm Z L K1 K2 sl fl) pm:=by
 have hs:=ab
 have hy2:ys.length < 16777216:=by exact lA ‹_› rfl
 exists 0,ad.of_codeB
 exists 1,bb it xl i (aJ xs) ex (.int (.ofNat x) tx) hi,787,34
 exists 2,am x tx 5 (t1+1) rfl (by decide),5172,0
 exists 3,iu fl ys (.ref fa) el (t2+1+1) ‹_›,0x5155511434,4
 exists 4,em fa [.bool g,.int (.ofNat kd) tk,.str (S nm) tn,.str (S ow) to,.ref pa] fe 4 t3 _ rfl (by decide),398950,5
 exists 5,aC x tx 5 (t4+1) 0 h5 rfl,91489,0
 exists 6,ax 0 x5 0 t5,1,0
 exists 7,aC (x / 5) x2 3 (t6+1+1+1+1+1+1) 1 h3 rfl,22,0
 exists 8,em (n6+1+1+1) [.ref n6,.ref (n6+1),.ref (n6+1+1)] 0 1 x7 _ rfl (by decide),727995,10
 exists 9,am (x / 5) x2 12 (t8+1+1+1+1) rfl (by decide),95857,0
 exists 10,aq (x / 5 / 12) x9 3 t9 rfl,1,0
 exists 11,ci n8 [118] [97,116,116,97,99,104,109,101,110,116] [105,110,108,105,110,101] (t8+1) (t8+1+1) (t8+1+1+1) 0 (x / 5 / 12 % 3) x10 (DN _ (by decide)),793804,11
 exists 12,am (x / 5) x2 6 (t11+1) rfl (by decide),0x1855558781,0
 exists 13,aq (x / 5 / 6) x12 2 t12 rfl,1,0
 exists 14,ax (x / 5 / 6 % 2) x13 1 t13,1,0
 exists 15,aC (x / 5) x2 3 t14 1 h3 rfl,24,0
 exists 16,am (x / 5) x2 3 t15 rfl (by decide),392,0
 exists 17,aq (x / 5 / 3) x16 2 t16 rfl,1,0
 exists 18,ce (n6+1) [86,105] [118,105] (t6+1+1) (t6+1+1+1) 0 (x / 5 / 3 % 2) x17 (DN _ (by decide)),727995,10
 exists 19,dj fl (ys++[.ref fa]) el (.ref (n18+1)) (by simp only [CY,C5,De];lia),1561,5
 exists 20,aX,ih k1 k2 k3 t8 t11 x2 x15 (D9 [t6+1+1,t6+1+1+1] (x / 5 / 3 % 2) 0) (D9 [t8+1,t8+1+1,t8+1+1+1] (x / 5 / 12 % 3) 0) (ef+1+1) (el+1) 0 0 (n6+1) (n18+1) n18,0,0x44891668
 exists az,(x20.1,x20.2.1,x20.2.2.1,x20.2.2.2),(by rfl),0,17
theorem yU (k1:Tok) (v1:CX) (k2:Tok) (v2:CX) (k3:Tok) (v3:CX) (ef i:Nat) (x:Nat) (tx:Tok) (hi:(aJ xs)[i]?=some (.int (.ofNat x) tx)) (fa pa:C1) (ys:List CX) (hyl:ys.length≤1000) (el:Nat) (g:Bool) (kd:Nat) (tk:Tok) (nm:List Nat) (tn:Tok) (ow:List Nat) (to:Tok) (fe:Nat) (pv:List CX) (pe:Nat) (h5:x % 5=0) (h3:x / 5 % 3=2) (M:ao) (P:Xf→Prop) (pm:Xf→ao)
  (ih:∀(c1 c2 c3 c4 c5 ts tk2 tn2 to2:Tok) (ef el fe2 pe2:Nat) (na fb pb:C1),ad Z 10 (fJ Z L it) ((L,fn Z K1 K2 sl fl c1 (.int (.ofNat x) tx) c2 (.int (.ofNat (x / 5)) ts) c3 (.ref pa) c4 (.ref na) c5 (.str (S (([[118],[97,116,116,97,99,104,109,101,110,116],[105,110,108,105,110,101]]:List (List Nat)).getD (x / 5 / 12 % 3) [])) to2) ef)::gJ it xl fl fb pb xs ex (i+1) (ys++[.ref fa]) el (x / 5 / 6 % 2 == 1) 2 tk2 (([[88,45,76,111,110,103,45,78,97,109,101],[120,45,108,111,110,103,45,110,97,109,101]]:List (List Nat)).getD (x / 5 / 3 % 2) []) tn2 (([[118],[97,116,116,97,99,104,109,101,110,116],[105,110,108,105,110,101]]:List (List Nat)).getD (x / 5 / 12 % 3) []) to2 fe2 [] pe2++[(fa,bF g kd tk nm tn ow to pa fe),(pa,aa pv pe)]) M P (λξ=>.ok .next) (gm Z L K1 K2 sl fl) pm):
  ad Z 10 (fJ Z L it) ((L,ju Z K1 K2 sl fl k1 v1 k2 v2 k3 v3 ef)::gJ it xl fl fa pa xs ex i ys el g kd tk nm tn ow to fe pv pe) M P (λξ=>.ok .next) (gm Z L K1 K2 sl fl) pm:=by
 have hs:=ab
 have hy2:ys.length < 16777216:=by exact lA ‹_› rfl
 exists 0,ad.of_codeB
 exists 1,bb it xl i (aJ xs) ex (.int (.ofNat x) tx) hi,787,34
 exists 2,am x tx 5 (t1+1) rfl (by decide),5172,0
 exists 3,iu fl ys (.ref fa) el (t2+1+1) ‹_›,0x5155511434,4
 exists 4,em fa [.bool g,.int (.ofNat kd) tk,.str (S nm) tn,.str (S ow) to,.ref pa] fe 4 t3 _ rfl (by decide),398950,5
 exists 5,aC x tx 5 (t4+1) 0 h5 rfl,91489,0
 exists 6,ax 0 x5 0 t5,1,0
 exists 7,aC (x / 5) x2 3 (t6+1+1+1+1+1+1) 2 h3 rfl,22,0
 exists 8,em (n6+1+1+1) [.ref n6,.ref (n6+1),.ref (n6+1+1)] 0 2 x7 _ rfl (by decide),727995,10
 exists 9,am (x / 5) x2 12 (t8+1+1+1+1) rfl (by decide),95857,0
 exists 10,aq (x / 5 / 12) x9 3 t9 rfl,1,0
 exists 11,ci n8 [118] [97,116,116,97,99,104,109,101,110,116] [105,110,108,105,110,101] (t8+1) (t8+1+1) (t8+1+1+1) 0 (x / 5 / 12 % 3) x10 (DN _ (by decide)),793804,11
 exists 12,am (x / 5) x2 6 (t11+1) rfl (by decide),0x1855558781,0
 exists 13,aq (x / 5 / 6) x12 2 t12 rfl,1,0
 exists 14,ax (x / 5 / 6 % 2) x13 1 t13,1,0
 exists 15,aC (x / 5) x2 3 t14 2 h3 rfl,24,0
 exists 16,am (x / 5) x2 3 t15 rfl (by decide),392,0
 exists 17,aq (x / 5 / 3) x16 2 t16 rfl,1,0
 exists 18,ce (n6+1+1) [88,45,76,111,110,103,45,78,97,109,101] [120,45,108,111,110,103,45,110,97,109,101] (t6+1+1+1+1) (t6+1+1+1+1+1) 0 (x / 5 / 3 % 2) x17 (DN _ (by decide)),793804,11
 exists 19,dj fl (ys++[.ref fa]) el (.ref (n18+1)) (by simp only [CY,C5,De];lia),1561,5
 exists 20,aX,ih k1 k2 k3 t8 t11 x2 x15 (D9 [t6+1+1+1+1,t6+1+1+1+1+1] (x / 5 / 3 % 2) 0) (D9 [t8+1,t8+1+1,t8+1+1+1] (x / 5 / 12 % 3) 0) (ef+1+1) (el+1) 0 0 (n6+1+1) (n18+1) n18,0,0x44891668
 exists az,(x20.1,x20.2.1,x20.2.2.1,x20.2.2.2),(by rfl),0,17
theorem zo (k1:Tok) (v1:CX) (k2:Tok) (v2:CX) (k3:Tok) (v3:CX) (k4:Tok) (v4:CX) (k5:Tok) (v5:CX) (ef i:Nat) (x:Nat) (tx:Tok) (hi:(aJ xs)[i]?=some (.int (.ofNat x) tx)) (fa pa:C1) (ys:List CX) (hyl:ys.length≤1000) (el:Nat) (g:Bool) (kd:Nat) (tk:Tok) (nm:List Nat) (tn:Tok) (ow:List Nat) (to:Tok) (fe:Nat) (pv:List CX) (pe:Nat) (h5:x % 5=0) (h3:x / 5 % 3=0) (M:ao) (P:Xf→Prop) (pm:Xf→ao)
  (ih:∀(c1 c2 c3 c4 c5 ts tk2 tn2 to2:Tok) (ef el fe2 pe2:Nat) (na fb pb:C1),ad Z 10 (fJ Z L it) ((L,fn Z K1 K2 sl fl c1 (.int (.ofNat x) tx) c2 (.int (.ofNat (x / 5)) ts) c3 (.ref pa) c4 (.ref na) c5 (.str (S (([[118],[97,116,116,97,99,104,109,101,110,116],[105,110,108,105,110,101]]:List (List Nat)).getD (x / 5 / 12 % 3) [])) to2) ef)::gJ it xl fl fb pb xs ex (i+1) (ys++[.ref fa]) el (x / 5 / 6 % 2 == 1) 0 tk2 (([[86,105,97],[86,73,65]]:List (List Nat)).getD (x / 5 / 3 % 2) []) tn2 (([[118],[97,116,116,97,99,104,109,101,110,116],[105,110,108,105,110,101]]:List (List Nat)).getD (x / 5 / 12 % 3) []) to2 fe2 [] pe2++[(fa,bF g kd tk nm tn ow to pa fe),(pa,aa pv pe)]) M P (λξ=>.ok .next) (gm Z L K1 K2 sl fl) pm):
  ad Z 10 (fJ Z L it) ((L,fn Z K1 K2 sl fl k1 v1 k2 v2 k3 v3 k4 v4 k5 v5 ef)::gJ it xl fl fa pa xs ex i ys el g kd tk nm tn ow to fe pv pe) M P (λξ=>.ok .next) (gm Z L K1 K2 sl fl) pm:=by
 have hs:=ab
 have hy2:ys.length < 16777216:=by exact lA ‹_› rfl
 exists 0,ad.of_codeB
 exists 1,bb it xl i (aJ xs) ex (.int (.ofNat x) tx) hi,787,34
 exists 2,am x tx 5 (t1+1) rfl (by decide),5172,0
 exists 3,iu fl ys (.ref fa) el (t2+1+1) ‹_›,0x5155511434,4
 exists 4,em fa [.bool g,.int (.ofNat kd) tk,.str (S nm) tn,.str (S ow) to,.ref pa] fe 4 t3 _ rfl (by decide),398950,5
 exists 5,aC x tx 5 (t4+1) 0 h5 rfl,91489,0
 exists 6,ax 0 x5 0 t5,1,0
 exists 7,aC (x / 5) x2 3 (t6+1+1+1+1+1+1) 0 h3 rfl,22,0
 exists 8,em (n6+1+1+1) [.ref n6,.ref (n6+1),.ref (n6+1+1)] 0 0 x7 _ rfl (DD _),727995,10
 exists 9,am (x / 5) x2 12 (t8+1+1+1+1) rfl (by decide),95857,0
 exists 10,aq (x / 5 / 12) x9 3 t9 rfl,1,0
 exists 11,ci n8 [118] [97,116,116,97,99,104,109,101,110,116] [105,110,108,105,110,101] (t8+1) (t8+1+1) (t8+1+1+1) 0 (x / 5 / 12 % 3) x10 (DN _ (by decide)),793804,11
 exists 12,am (x / 5) x2 6 (t11+1) rfl (by decide),0x1855558781,0
 exists 13,aq (x / 5 / 6) x12 2 t12 rfl,1,0
 exists 14,ax (x / 5 / 6 % 2) x13 1 t13,1,0
 exists 15,aC (x / 5) x2 3 t14 0 h3 rfl,24,0
 exists 16,am (x / 5) x2 3 t15 rfl (by decide),392,0
 exists 17,aq (x / 5 / 3) x16 2 t16 rfl,1,0
 exists 18,ce n6 [86,105,97] [86,73,65] t6 (t6+1) 0 (x / 5 / 3 % 2) x17 (DN _ (by decide)),662186,9
 exists 19,dj fl (ys++[.ref fa]) el (.ref (n18+1)) (by simp only [CY,C5,De];lia),1561,5
 exists 20,aX,ih k1 k2 k3 k4 k5 x2 x15 (D9 [t6,t6+1] (x / 5 / 3 % 2) 0) (D9 [t8+1,t8+1+1,t8+1+1+1] (x / 5 / 12 % 3) 0) ef (el+1) 0 0 n6 (n18+1) n18,0,0x44891668
 exists az,(x20.1,x20.2.1,x20.2.2.1,x20.2.2.2),(by rfl),0,17
theorem yI (k1:Tok) (v1:CX) (k2:Tok) (v2:CX) (k3:Tok) (v3:CX) (k4:Tok) (v4:CX) (k5:Tok) (v5:CX) (ef i:Nat) (x:Nat) (tx:Tok) (hi:(aJ xs)[i]?=some (.int (.ofNat x) tx)) (fa pa:C1) (ys:List CX) (hyl:ys.length≤1000) (el:Nat) (g:Bool) (kd:Nat) (tk:Tok) (nm:List Nat) (tn:Tok) (ow:List Nat) (to:Tok) (fe:Nat) (pv:List CX) (pe:Nat) (h5:x % 5=0) (h3:x / 5 % 3=1) (M:ao) (P:Xf→Prop) (pm:Xf→ao)
  (ih:∀(c1 c2 c3 c4 c5 ts tk2 tn2 to2:Tok) (ef el fe2 pe2:Nat) (na fb pb:C1),ad Z 10 (fJ Z L it) ((L,fn Z K1 K2 sl fl c1 (.int (.ofNat x) tx) c2 (.int (.ofNat (x / 5)) ts) c3 (.ref pa) c4 (.ref na) c5 (.str (S (([[118],[97,116,116,97,99,104,109,101,110,116],[105,110,108,105,110,101]]:List (List Nat)).getD (x / 5 / 12 % 3) [])) to2) ef)::gJ it xl fl fb pb xs ex (i+1) (ys++[.ref fa]) el (x / 5 / 6 % 2 == 1) 1 tk2 (([[86,105],[118,105]]:List (List Nat)).getD (x / 5 / 3 % 2) []) tn2 (([[118],[97,116,116,97,99,104,109,101,110,116],[105,110,108,105,110,101]]:List (List Nat)).getD (x / 5 / 12 % 3) []) to2 fe2 [] pe2++[(fa,bF g kd tk nm tn ow to pa fe),(pa,aa pv pe)]) M P (λξ=>.ok .next) (gm Z L K1 K2 sl fl) pm):
  ad Z 10 (fJ Z L it) ((L,fn Z K1 K2 sl fl k1 v1 k2 v2 k3 v3 k4 v4 k5 v5 ef)::gJ it xl fl fa pa xs ex i ys el g kd tk nm tn ow to fe pv pe) M P (λξ=>.ok .next) (gm Z L K1 K2 sl fl) pm:=by
 have hs:=ab
 have hy2:ys.length < 16777216:=by exact lA ‹_› rfl
 exists 0,ad.of_codeB
 exists 1,bb it xl i (aJ xs) ex (.int (.ofNat x) tx) hi,787,34
 exists 2,am x tx 5 (t1+1) rfl (by decide),5172,0
 exists 3,iu fl ys (.ref fa) el (t2+1+1) ‹_›,0x5155511434,4
 exists 4,em fa [.bool g,.int (.ofNat kd) tk,.str (S nm) tn,.str (S ow) to,.ref pa] fe 4 t3 _ rfl (by decide),398950,5
 exists 5,aC x tx 5 (t4+1) 0 h5 rfl,91489,0
 exists 6,ax 0 x5 0 t5,1,0
 exists 7,aC (x / 5) x2 3 (t6+1+1+1+1+1+1) 1 h3 rfl,22,0
 exists 8,em (n6+1+1+1) [.ref n6,.ref (n6+1),.ref (n6+1+1)] 0 1 x7 _ rfl (by decide),727995,10
 exists 9,am (x / 5) x2 12 (t8+1+1+1+1) rfl (by decide),95857,0
 exists 10,aq (x / 5 / 12) x9 3 t9 rfl,1,0
 exists 11,ci n8 [118] [97,116,116,97,99,104,109,101,110,116] [105,110,108,105,110,101] (t8+1) (t8+1+1) (t8+1+1+1) 0 (x / 5 / 12 % 3) x10 (DN _ (by decide)),793804,11
 exists 12,am (x / 5) x2 6 (t11+1) rfl (by decide),0x1855558781,0
 exists 13,aq (x / 5 / 6) x12 2 t12 rfl,1,0
 exists 14,ax (x / 5 / 6 % 2) x13 1 t13,1,0
 exists 15,aC (x / 5) x2 3 t14 1 h3 rfl,24,0
 exists 16,am (x / 5) x2 3 t15 rfl (by decide),392,0
 exists 17,aq (x / 5 / 3) x16 2 t16 rfl,1,0
 exists 18,ce (n6+1) [86,105] [118,105] (t6+1+1) (t6+1+1+1) 0 (x / 5 / 3 % 2) x17 (DN _ (by decide)),727995,10
 exists 19,dj fl (ys++[.ref fa]) el (.ref (n18+1)) (by simp only [CY,C5,De];lia),1561,5
 exists 20,aX,ih k1 k2 k3 k4 k5 x2 x15 (D9 [t6+1+1,t6+1+1+1] (x / 5 / 3 % 2) 0) (D9 [t8+1,t8+1+1,t8+1+1+1] (x / 5 / 12 % 3) 0) ef (el+1) 0 0 (n6+1) (n18+1) n18,0,0x44891668
 exists az,(x20.1,x20.2.1,x20.2.2.1,x20.2.2.2),(by rfl),0,17
theorem zN (k1:Tok) (v1:CX) (k2:Tok) (v2:CX) (k3:Tok) (v3:CX) (k4:Tok) (v4:CX) (k5:Tok) (v5:CX) (ef i:Nat) (x:Nat) (tx:Tok) (hi:(aJ xs)[i]?=some (.int (.ofNat x) tx)) (fa pa:C1) (ys:List CX) (hyl:ys.length≤1000) (el:Nat) (g:Bool) (kd:Nat) (tk:Tok) (nm:List Nat) (tn:Tok) (ow:List Nat) (to:Tok) (fe:Nat) (pv:List CX) (pe:Nat) (h5:x % 5=0) (h3:x / 5 % 3=2) (M:ao) (P:Xf→Prop) (pm:Xf→ao)
  (ih:∀(c1 c2 c3 c4 c5 ts tk2 tn2 to2:Tok) (ef el fe2 pe2:Nat) (na fb pb:C1),ad Z 10 (fJ Z L it) ((L,fn Z K1 K2 sl fl c1 (.int (.ofNat x) tx) c2 (.int (.ofNat (x / 5)) ts) c3 (.ref pa) c4 (.ref na) c5 (.str (S (([[118],[97,116,116,97,99,104,109,101,110,116],[105,110,108,105,110,101]]:List (List Nat)).getD (x / 5 / 12 % 3) [])) to2) ef)::gJ it xl fl fb pb xs ex (i+1) (ys++[.ref fa]) el (x / 5 / 6 % 2 == 1) 2 tk2 (([[88,45,76,111,110,103,45,78,97,109,101],[120,45,108,111,110,103,45,110,97,109,101]]:List (List Nat)).getD (x / 5 / 3 % 2) []) tn2 (([[118],[97,116,116,97,99,104,109,101,110,116],[105,110,108,105,110,101]]:List (List Nat)).getD (x / 5 / 12 % 3) []) to2 fe2 [] pe2++[(fa,bF g kd tk nm tn ow to pa fe),(pa,aa pv pe)]) M P (λξ=>.ok .next) (gm Z L K1 K2 sl fl) pm):
  ad Z 10 (fJ Z L it) ((L,fn Z K1 K2 sl fl k1 v1 k2 v2 k3 v3 k4 v4 k5 v5 ef)::gJ it xl fl fa pa xs ex i ys el g kd tk nm tn ow to fe pv pe) M P (λξ=>.ok .next) (gm Z L K1 K2 sl fl) pm:=by
 have hs:=ab
 have hy2:ys.length < 16777216:=by exact lA ‹_› rfl
 exists 0,ad.of_codeB
 exists 1,bb it xl i (aJ xs) ex (.int (.ofNat x) tx) hi,787,34
 exists 2,am x tx 5 (t1+1) rfl (by decide),5172,0
 exists 3,iu fl ys (.ref fa) el (t2+1+1) ‹_›,0x5155511434,4
 exists 4,em fa [.bool g,.int (.ofNat kd) tk,.str (S nm) tn,.str (S ow) to,.ref pa] fe 4 t3 _ rfl (by decide),398950,5
 exists 5,aC x tx 5 (t4+1) 0 h5 rfl,91489,0
 exists 6,ax 0 x5 0 t5,1,0
 exists 7,aC (x / 5) x2 3 (t6+1+1+1+1+1+1) 2 h3 rfl,22,0
 exists 8,em (n6+1+1+1) [.ref n6,.ref (n6+1),.ref (n6+1+1)] 0 2 x7 _ rfl (by decide),727995,10
 exists 9,am (x / 5) x2 12 (t8+1+1+1+1) rfl (by decide),95857,0
 exists 10,aq (x / 5 / 12) x9 3 t9 rfl,1,0
 exists 11,ci n8 [118] [97,116,116,97,99,104,109,101,110,116] [105,110,108,105,110,101] (t8+1) (t8+1+1) (t8+1+1+1) 0 (x / 5 / 12 % 3) x10 (DN _ (by decide)),793804,11
 exists 12,am (x / 5) x2 6 (t11+1) rfl (by decide),0x1855558781,0
 exists 13,aq (x / 5 / 6) x12 2 t12 rfl,1,0
 exists 14,ax (x / 5 / 6 % 2) x13 1 t13,1,0
 exists 15,aC (x / 5) x2 3 t14 2 h3 rfl,24,0
 exists 16,am (x / 5) x2 3 t15 rfl (by decide),392,0
 exists 17,aq (x / 5 / 3) x16 2 t16 rfl,1,0
 exists 18,ce (n6+1+1) [88,45,76,111,110,103,45,78,97,109,101] [120,45,108,111,110,103,45,110,97,109,101] (t6+1+1+1+1) (t6+1+1+1+1+1) 0 (x / 5 / 3 % 2) x17 (DN _ (by decide)),793804,11
 exists 19,dj fl (ys++[.ref fa]) el (.ref (n18+1)) (by simp only [CY,C5,De];lia),1561,5
 exists 20,aX,ih k1 k2 k3 k4 k5 x2 x15 (D9 [t6+1+1+1+1,t6+1+1+1+1+1] (x / 5 / 3 % 2) 0) (D9 [t8+1,t8+1+1,t8+1+1+1] (x / 5 / 12 % 3) 0) ef (el+1) 0 0 (n6+1+1) (n18+1) n18,0,0x44891668
 exists az,(x20.1,x20.2.1,x20.2.2.1,x20.2.2.2),(by rfl),0,17
end
end
section
section
variable (L it:C1) (K1 K2:Tok) (sl xl fl:C1) (xs:List (Nat×Tok)) (ex:Nat)
theorem Bh (ef i:Nat) (x:Nat) (tx:Tok) (hi:(aJ xs)[i]?=some (.int (.ofNat x) tx)) (fa pa:C1) (ys:List CX) (hyl:ys.length≤1000) (el:Nat) (g:Bool) (kd:Nat) (tk:Tok) (nm:List Nat) (tn:Tok) (ow:List Nat) (to:Tok) (fe:Nat) (pv:List CX) (pe:Nat) (h5:x % 5=1) (hpl:pv.length < 10) (M:ao) (P:Xf→Prop) (pm:Xf→ao)
  (ih:∀(c1 c2 c3 ts tk2:Tok) (ef pe2 qe:Nat) (qa:C1),ad Z 10 (fJ Z L it) ((L,ju Z K1 K2 sl fl c1 (.int (.ofNat x) tx) c2 (.int (.ofNat (x / 5)) ts) c3 (.ref pa) ef)::gJ it xl fl fa pa xs ex (i+1) ys el g kd tk nm tn ow to fe (pv++[.ref qa]) pe2++[(qa,aa [.str (S ([107,95]++[48+pv.length])) tk2,.none] qe)]) M P (λξ=>.ok .next) (gm Z L K1 K2 sl fl) pm):
  ad Z 10 (fJ Z L it) ((L,ma Z K1 K2 sl fl ef)::gJ it xl fl fa pa xs ex i ys el g kd tk nm tn ow to fe pv pe) M P (λξ=>.ok .next) (gm Z L K1 K2 sl fl) pm:=by
 have hs:=ab
 have hy2:ys.length < 16777216:=by exact lA ‹_› rfl
 exists 0,ad.of_codeB
 exists 1,bb it xl i (aJ xs) ex (.int (.ofNat x) tx) hi,787,34
 exists 2,am x tx 5 (t1+1) rfl (by decide),5172,0
 exists 3,iu fl ys (.ref fa) el (t2+1+1) ‹_›,0x5155511434,4
 exists 4,em fa [.bool g,.int (.ofNat kd) tk,.str (S nm) tn,.str (S ow) to,.ref pa] fe 4 t3 _ rfl (by decide),398950,5
 exists 5,aC x tx 5 (t4+1) 1 h5 rfl,91489,0
 exists 6,ax 1 x5 0 t5,1,0
 exists 7,aC x tx 5 t6 1 h5 rfl,22,0
 exists 8,ax 1 x7 1 t7,1,0
 exists 9,dy pa pv pe (by exact lD ‹_› rfl),0x16111177776,6
 exists 10,gA (C9 pv) x9 ‹_›,273,0
 exists 11,ak [107,95] t8 [48+C9 pv] x10 (by simp only [CY,C5,De];lia),273,0
 exists 12,dj pa pv pe (.ref n11) (by exact lD ‹_› rfl),33,1
 exists 13,aX,ih t1 t2 t4 x2 x11 (ef+1+1+1) (pe+1) 0 n11,0,17970246
 exists az,(x13.1,x13.2.1,x13.2.2.1,x13.2.2.2),(by rfl),0,17
theorem Bl (ef i:Nat) (x:Nat) (tx:Tok) (hi:(aJ xs)[i]?=some (.int (.ofNat x) tx)) (fa pa:C1) (ys:List CX) (hyl:ys.length≤1000) (el:Nat) (g:Bool) (kd:Nat) (tk:Tok) (nm:List Nat) (tn:Tok) (ow:List Nat) (to:Tok) (fe:Nat) (pv:List CX) (pe:Nat) (q:Nat) (h5:x % 5=q) (hq0:(q == 0)=false) (hq1:(q == 1)=false) (c:Nat) (hqc:q=c+2) (hc3:c < 3) (hpl:pv.length < 10) (M:ao) (P:Xf→Prop) (pm:Xf→ao)
  (ih:∀(c1 c2 c3 ts tk2 tv:Tok) (ef pe2 qe:Nat) (qa:C1),ad Z 10 (fJ Z L it) ((L,ju Z K1 K2 sl fl c1 (.int (.ofNat x) tx) c2 (.int (.ofNat (x / 5)) ts) c3 (.ref pa) ef)::gJ it xl fl fa pa xs ex (i+1) ys el g kd tk nm tn ow to fe (pv++[.ref qa]) pe2++[(qa,aa [.str (S (([107]++DI c 95)++[48+pv.length])) tk2,(.str (S (cz (x / 5 % 262144))) tv)] qe)]) M P (λξ=>.ok .next) (gm Z L K1 K2 sl fl) pm):
  ad Z 10 (fJ Z L it) ((L,ma Z K1 K2 sl fl ef)::gJ it xl fl fa pa xs ex i ys el g kd tk nm tn ow to fe pv pe) M P (λξ=>.ok .next) (gm Z L K1 K2 sl fl) pm:=by
 have hs:=ab
 have hy2:ys.length < 16777216:=by exact lA ‹_› rfl
 have hcl:[107].length+(DI c 95).length≤CZ:=by rw [Ep];show 1+_≤_;lia
 have hcl2:([107]++DI c 95).length+[48+pv.length].length≤CZ:=by rw [CY,Ep];show 1+_+1≤_;lia
 exists 0,ad.of_codeB
 exists 1,bb it xl i (aJ xs) ex (.int (.ofNat x) tx) hi,787,34
 exists 2,am x tx 5 (t1+1) rfl (by decide),5172,0
 exists 3,iu fl ys (.ref fa) el (t2+1+1) ‹_›,0x5155511434,4
 exists 4,em fa [.bool g,.int (.ofNat kd) tk,.str (S nm) tn,.str (S ow) to,.ref pa] fe 4 t3 _ rfl (by decide),398950,5
 exists 5,aC x tx 5 (t4+1) q h5 rfl,91489,0
 exists 6,dC q x5 0 t5 _ hq0,1,0
 exists 7,aC x tx 5 t6 q h5 rfl,22,0
 exists 8,dC q x7 1 t7 _ hq1,1,0
 exists 9,aC x tx 5 (t8+1+1) q h5 rfl,23558006,0
 exists 10,jV q x9 2 t9 c hqc,1,0
 exists 11,iM (t8+1) c x10 ‹_›,273,0
 exists 12,ak [107] t8 (DI c 95) x11 ‹_›,1,0
 exists 13,dy pa pv pe (by exact lD ‹_› rfl),1446161,6
 exists 14,gA (C9 pv) x13 ‹_›,273,0
 exists 15,ak ([107]++DI c 95) x12 [48+C9 pv] x14 ‹_›,273,0
 exists 16,iU t15 (t15+1),369,0
 exists 17,aq (x / 5) x2 262144 x16 rfl,1,0
 exists 18,(g8 (x / 5 % 262144) x17 (DN _ (by decide))).up rfl,1,0
 exists 19,dj pa pv pe (.ref n18) (by exact lD ‹_› rfl),33,1
 exists 20,aX,ih t1 t2 t4 x2 x15 x18 (ef+1+1+1) (pe+1) 0 n18,0,17970246
 exists az,(x20.1,x20.2.1,x20.2.2.1,x20.2.2.2),(by rfl),0,17
theorem Ah (k1:Tok) (v1:CX) (k2:Tok) (v2:CX) (k3:Tok) (v3:CX) (ef i:Nat) (x:Nat) (tx:Tok) (hi:(aJ xs)[i]?=some (.int (.ofNat x) tx)) (fa pa:C1) (ys:List CX) (hyl:ys.length≤1000) (el:Nat) (g:Bool) (kd:Nat) (tk:Tok) (nm:List Nat) (tn:Tok) (ow:List Nat) (to:Tok) (fe:Nat) (pv:List CX) (pe:Nat) (h5:x % 5=1) (hpl:pv.length < 10) (M:ao) (P:Xf→Prop) (pm:Xf→ao)
  (ih:∀(c1 c2 c3 ts tk2:Tok) (ef pe2 qe:Nat) (qa:C1),ad Z 10 (fJ Z L it) ((L,ju Z K1 K2 sl fl c1 (.int (.ofNat x) tx) c2 (.int (.ofNat (x / 5)) ts) c3 (.ref pa) ef)::gJ it xl fl fa pa xs ex (i+1) ys el g kd tk nm tn ow to fe (pv++[.ref qa]) pe2++[(qa,aa [.str (S ([107,95]++[48+pv.length])) tk2,.none] qe)]) M P (λξ=>.ok .next) (gm Z L K1 K2 sl fl) pm):
  ad Z 10 (fJ Z L it) ((L,ju Z K1 K2 sl fl k1 v1 k2 v2 k3 v3 ef)::gJ it xl fl fa pa xs ex i ys el g kd tk nm tn ow to fe pv pe) M P (λξ=>.ok .next) (gm Z L K1 K2 sl fl) pm:=by
 have hs:=ab
 have hy2:ys.length < 16777216:=by exact lA ‹_› rfl
 exists 0,ad.of_codeB
 exists 1,bb it xl i (aJ xs) ex (.int (.ofNat x) tx) hi,787,34
 exists 2,am x tx 5 (t1+1) rfl (by decide),5172,0
 exists 3,iu fl ys (.ref fa) el (t2+1+1) ‹_›,0x5155511434,4
 exists 4,em fa [.bool g,.int (.ofNat kd) tk,.str (S nm) tn,.str (S ow) to,.ref pa] fe 4 t3 _ rfl (by decide),398950,5
 exists 5,aC x tx 5 (t4+1) 1 h5 rfl,91489,0
 exists 6,ax 1 x5 0 t5,1,0
 exists 7,aC x tx 5 t6 1 h5 rfl,22,0
 exists 8,ax 1 x7 1 t7,1,0
 exists 9,dy pa pv pe (by exact lD ‹_› rfl),0x16111177776,6
 exists 10,gA (C9 pv) x9 ‹_›,273,0
 exists 11,ak [107,95] t8 [48+C9 pv] x10 (by simp only [CY,C5,De];lia),273,0
 exists 12,dj pa pv pe (.ref n11) (by exact lD ‹_› rfl),33,1
 exists 13,aX,ih k1 k2 k3 x2 x11 ef (pe+1) 0 n11,0,17970246
 exists az,(x13.1,x13.2.1,x13.2.2.1,x13.2.2.2),(by rfl),0,17
theorem A4 (k1:Tok) (v1:CX) (k2:Tok) (v2:CX) (k3:Tok) (v3:CX) (ef i:Nat) (x:Nat) (tx:Tok) (hi:(aJ xs)[i]?=some (.int (.ofNat x) tx)) (fa pa:C1) (ys:List CX) (hyl:ys.length≤1000) (el:Nat) (g:Bool) (kd:Nat) (tk:Tok) (nm:List Nat) (tn:Tok) (ow:List Nat) (to:Tok) (fe:Nat) (pv:List CX) (pe:Nat) (q:Nat) (h5:x % 5=q) (hq0:(q == 0)=false) (hq1:(q == 1)=false) (c:Nat) (hqc:q=c+2) (hc3:c < 3) (hpl:pv.length < 10) (M:ao) (P:Xf→Prop) (pm:Xf→ao)
  (ih:∀(c1 c2 c3 ts tk2 tv:Tok) (ef pe2 qe:Nat) (qa:C1),ad Z 10 (fJ Z L it) ((L,ju Z K1 K2 sl fl c1 (.int (.ofNat x) tx) c2 (.int (.ofNat (x / 5)) ts) c3 (.ref pa) ef)::gJ it xl fl fa pa xs ex (i+1) ys el g kd tk nm tn ow to fe (pv++[.ref qa]) pe2++[(qa,aa [.str (S (([107]++DI c 95)++[48+pv.length])) tk2,(.str (S (cz (x / 5 % 262144))) tv)] qe)]) M P (λξ=>.ok .next) (gm Z L K1 K2 sl fl) pm):
  ad Z 10 (fJ Z L it) ((L,ju Z K1 K2 sl fl k1 v1 k2 v2 k3 v3 ef)::gJ it xl fl fa pa xs ex i ys el g kd tk nm tn ow to fe pv pe) M P (λξ=>.ok .next) (gm Z L K1 K2 sl fl) pm:=by
 have hs:=ab
 have hy2:ys.length < 16777216:=by exact lA ‹_› rfl
 have hcl:[107].length+(DI c 95).length≤CZ:=by rw [Ep];show 1+_≤_;lia
 have hcl2:([107]++DI c 95).length+[48+pv.length].length≤CZ:=by rw [CY,Ep];show 1+_+1≤_;lia
 exists 0,ad.of_codeB
 exists 1,bb it xl i (aJ xs) ex (.int (.ofNat x) tx) hi,787,34
 exists 2,am x tx 5 (t1+1) rfl (by decide),5172,0
 exists 3,iu fl ys (.ref fa) el (t2+1+1) ‹_›,0x5155511434,4
 exists 4,em fa [.bool g,.int (.ofNat kd) tk,.str (S nm) tn,.str (S ow) to,.ref pa] fe 4 t3 _ rfl (by decide),398950,5
 exists 5,aC x tx 5 (t4+1) q h5 rfl,91489,0
 exists 6,dC q x5 0 t5 _ hq0,1,0
 exists 7,aC x tx 5 t6 q h5 rfl,22,0
 exists 8,dC q x7 1 t7 _ hq1,1,0
 exists 9,aC x tx 5 (t8+1+1) q h5 rfl,23558006,0
 exists 10,jV q x9 2 t9 c hqc,1,0
 exists 11,iM (t8+1) c x10 ‹_›,273,0
 exists 12,ak [107] t8 (DI c 95) x11 ‹_›,1,0
 exists 13,dy pa pv pe (by exact lD ‹_› rfl),1446161,6
 exists 14,gA (C9 pv) x13 ‹_›,273,0
 exists 15,ak ([107]++DI c 95) x12 [48+C9 pv] x14 ‹_›,273,0
 exists 16,iU t15 (t15+1),369,0
 exists 17,aq (x / 5) x2 262144 x16 rfl,1,0
 exists 18,(g8 (x / 5 % 262144) x17 (DN _ (by decide))).up rfl,1,0
 exists 19,dj pa pv pe (.ref n18) (by exact lD ‹_› rfl),33,1
 exists 20,aX,ih k1 k2 k3 x2 x15 x18 ef (pe+1) 0 n18,0,17970246
 exists az,(x20.1,x20.2.1,x20.2.2.1,x20.2.2.2),(by rfl),0,17
theorem AI (k1:Tok) (v1:CX) (k2:Tok) (v2:CX) (k3:Tok) (v3:CX) (k4:Tok) (v4:CX) (k5:Tok) (v5:CX) (ef i:Nat) (x:Nat) (tx:Tok) (hi:(aJ xs)[i]?=some (.int (.ofNat x) tx)) (fa pa:C1) (ys:List CX) (hyl:ys.length≤1000) (el:Nat) (g:Bool) (kd:Nat) (tk:Tok) (nm:List Nat) (tn:Tok) (ow:List Nat) (to:Tok) (fe:Nat) (pv:List CX) (pe:Nat) (h5:x % 5=1) (hpl:pv.length < 10) (M:ao) (P:Xf→Prop) (pm:Xf→ao)
  (ih:∀(c1 c2 c3 ts tk2:Tok) (ef pe2 qe:Nat) (qa:C1),ad Z 10 (fJ Z L it) ((L,fn Z K1 K2 sl fl c1 (.int (.ofNat x) tx) c2 (.int (.ofNat (x / 5)) ts) c3 (.ref pa) k4 v4 k5 v5 ef)::gJ it xl fl fa pa xs ex (i+1) ys el g kd tk nm tn ow to fe (pv++[.ref qa]) pe2++[(qa,aa [.str (S ([107,95]++[48+pv.length])) tk2,.none] qe)]) M P (λξ=>.ok .next) (gm Z L K1 K2 sl fl) pm):
  ad Z 10 (fJ Z L it) ((L,fn Z K1 K2 sl fl k1 v1 k2 v2 k3 v3 k4 v4 k5 v5 ef)::gJ it xl fl fa pa xs ex i ys el g kd tk nm tn ow to fe pv pe) M P (λξ=>.ok .next) (gm Z L K1 K2 sl fl) pm:=by
 have hs:=ab
 have hy2:ys.length < 16777216:=by exact lA ‹_› rfl
 exists 0,ad.of_codeB
 exists 1,bb it xl i (aJ xs) ex (.int (.ofNat x) tx) hi,787,34
 exists 2,am x tx 5 (t1+1) rfl (by decide),5172,0
 exists 3,iu fl ys (.ref fa) el (t2+1+1) ‹_›,0x5155511434,4
 exists 4,em fa [.bool g,.int (.ofNat kd) tk,.str (S nm) tn,.str (S ow) to,.ref pa] fe 4 t3 _ rfl (by decide),398950,5
 exists 5,aC x tx 5 (t4+1) 1 h5 rfl,91489,0
 exists 6,ax 1 x5 0 t5,1,0
 exists 7,aC x tx 5 t6 1 h5 rfl,22,0
 exists 8,ax 1 x7 1 t7,1,0
 exists 9,dy pa pv pe (by exact lD ‹_› rfl),0x16111177776,6
 exists 10,gA (C9 pv) x9 ‹_›,273,0
 exists 11,ak [107,95] t8 [48+C9 pv] x10 (by simp only [CY,C5,De];lia),273,0
 exists 12,dj pa pv pe (.ref n11) (by exact lD ‹_› rfl),33,1
 exists 13,aX,ih k1 k2 k3 x2 x11 ef (pe+1) 0 n11,0,17970246
 exists az,(x13.1,x13.2.1,x13.2.2.1,x13.2.2.2),(by rfl),0,17
theorem AJ (k1:Tok) (v1:CX) (k2:Tok) (v2:CX) (k3:Tok) (v3:CX) (k4:Tok) (v4:CX) (k5:Tok) (v5:CX) (ef i:Nat) (x:Nat) (tx:Tok) (hi:(aJ xs)[i]?=some (.int (.ofNat x) tx)) (fa pa:C1) (ys:List CX) (hyl:ys.length≤1000) (el:Nat) (g:Bool) (kd:Nat) (tk:Tok) (nm:List Nat) (tn:Tok) (ow:List Nat) (to:Tok) (fe:Nat) (pv:List CX) (pe:Nat) (q:Nat) (h5:x % 5=q) (hq0:(q == 0)=false) (hq1:(q == 1)=false) (c:Nat) (hqc:q=c+2) (hc3:c < 3) (hpl:pv.length < 10) (M:ao) (P:Xf→Prop) (pm:Xf→ao)
  (ih:∀(c1 c2 c3 ts tk2 tv:Tok) (ef pe2 qe:Nat) (qa:C1),ad Z 10 (fJ Z L it) ((L,fn Z K1 K2 sl fl c1 (.int (.ofNat x) tx) c2 (.int (.ofNat (x / 5)) ts) c3 (.ref pa) k4 v4 k5 v5 ef)::gJ it xl fl fa pa xs ex (i+1) ys el g kd tk nm tn ow to fe (pv++[.ref qa]) pe2++[(qa,aa [.str (S (([107]++DI c 95)++[48+pv.length])) tk2,(.str (S (cz (x / 5 % 262144))) tv)] qe)]) M P (λξ=>.ok .next) (gm Z L K1 K2 sl fl) pm):
  ad Z 10 (fJ Z L it) ((L,fn Z K1 K2 sl fl k1 v1 k2 v2 k3 v3 k4 v4 k5 v5 ef)::gJ it xl fl fa pa xs ex i ys el g kd tk nm tn ow to fe pv pe) M P (λξ=>.ok .next) (gm Z L K1 K2 sl fl) pm:=by
 have hs:=ab
 have hy2:ys.length < 16777216:=by exact lA ‹_› rfl
 have hcl:[107].length+(DI c 95).length≤CZ:=by rw [Ep];show 1+_≤_;lia
 have hcl2:([107]++DI c 95).length+[48+pv.length].length≤CZ:=by rw [CY,Ep];show 1+_+1≤_;lia
 exists 0,ad.of_codeB
 exists 1,bb it xl i (aJ xs) ex (.int (.ofNat x) tx) hi,787,34
 exists 2,am x tx 5 (t1+1) rfl (by decide),5172,0
 exists 3,iu fl ys (.ref fa) el (t2+1+1) ‹_›,0x5155511434,4
 exists 4,em fa [.bool g,.int (.ofNat kd) tk,.str (S nm) tn,.str (S ow) to,.ref pa] fe 4 t3 _ rfl (by decide),398950,5
 exists 5,aC x tx 5 (t4+1) q h5 rfl,91489,0
 exists 6,dC q x5 0 t5 _ hq0,1,0
 exists 7,aC x tx 5 t6 q h5 rfl,22,0
 exists 8,dC q x7 1 t7 _ hq1,1,0
 exists 9,aC x tx 5 (t8+1+1) q h5 rfl,23558006,0
 exists 10,jV q x9 2 t9 c hqc,1,0
 exists 11,iM (t8+1) c x10 ‹_›,273,0
 exists 12,ak [107] t8 (DI c 95) x11 ‹_›,1,0
 exists 13,dy pa pv pe (by exact lD ‹_› rfl),1446161,6
 exists 14,gA (C9 pv) x13 ‹_›,273,0
 exists 15,ak ([107]++DI c 95) x12 [48+C9 pv] x14 ‹_›,273,0
 exists 16,iU t15 (t15+1),369,0
 exists 17,aq (x / 5) x2 262144 x16 rfl,1,0
 exists 18,(g8 (x / 5 % 262144) x17 (DN _ (by decide))).up rfl,1,0
 exists 19,dj pa pv pe (.ref n18) (by exact lD ‹_› rfl),33,1
 exists 20,aX,ih k1 k2 k3 x2 x15 x18 ef (pe+1) 0 n18,0,17970246
 exists az,(x20.1,x20.2.1,x20.2.2.1,x20.2.2.2),(by rfl),0,17
end
end
section
structure PF where
 g:Bool
 kd:Nat
 nm:List Nat
 ow:List Nat
 ps:List (List Nat×Option (List Nat))
noncomputable def Fp.pf (x:Fp):PF:=⟨x.f.g,x.f.kd,x.f.nm,x.f.ow,x.ps.map Pm.pl⟩
noncomputable def uC:List (List Nat):=[[118],[97,116,116,97,99,104,109,101,110,116],[105,110,108,105,110,101]]
noncomputable def gK (x:Nat):PF:=⟨x / 5 / 6 % 2 == 1,x / 5 % 3,(kb.getD (x / 5 % 3) []).getD (x / 5 / 3 % 2) [],uC.getD (x / 5 / 12 % 3) [],[]⟩
noncomputable def iy (x n:Nat):List Nat×Option (List Nat):=
 if x % 5=1 then ([107,95]++[48+n],none) else (([107]++DI (x % 5 - 2) 95)++[48+n],some (cz (x / 5 % 262144)))
noncomputable def rY (x:Nat) (l:PF):PF:={l with ps:=l.ps++[iy x l.ps.length]}
noncomputable def eB (acc:List PF) (x:Nat):List PF:=
 if x % 5=0 then acc++[gK x] else acc.dropLast++(match acc.getLast? with | some l=>[rY x l] | none=>[])
theorem lF (acc:List PF) (x:Nat) (h:x % 5=0):eB acc x=acc++[gK x]:=by unfold eB;rw [if_pos h]
theorem lK (acc:List PF) (l:PF) (x:Nat) (h:¬x % 5=0):eB (acc++[l]) x=acc++[rY x l]:=by
 unfold eB;rw [if_neg h,List.dropLast_concat,EV]
theorem jh (l:List Fp) (x:Fp):au l++[.ref x.f.a]=au (l++[x]):=by unfold au;simp only [Da];rfl
theorem hY (l:List Fp) (x:Fp):bf (l++[x])=bf l++x.led:=by unfold bf;rw [Eb];simp
theorem pq (l:List Pm) (p:Pm):aB l++[.ref p.a]=aB (l++[p]):=by unfold aB;rw [Da];rfl
theorem ux (l:List Pm) (p:Pm):cI (l++[p])=cI l++[p.ob]:=by unfold cI;rw [Da];rfl
inductive AT where
 | s2
 | s5 (k1:Tok) (v1:CX) (k2:Tok) (v2:CX) (k3:Tok) (v3:CX)
 | s7 (k1:Tok) (v1:CX) (k2:Tok) (v2:CX) (k3:Tok) (v3:CX) (k4:Tok) (v4:CX) (k5:Tok) (v5:CX)
noncomputable def BQ (F:Fx) (K1 K2:Tok) (sl fl:C1) (e:Nat):AT→Obj
 | .s2=>ma F K1 K2 sl fl e
 | .s5 k1 v1 k2 v2 k3 v3=>ju F K1 K2 sl fl k1 v1 k2 v2 k3 v3 e
 | .s7 k1 v1 k2 v2 k3 v3 k4 v4 k5 v5=>fn F K1 K2 sl fl k1 v1 k2 v2 k3 v3 k4 v4 k5 v5 e
noncomputable def BI (F:Fx):AT→List Dj
 | .s2=>[]
 | .s5 k1 v1 k2 v2 k3 v3=>[en F nX k1 v1,en F lN k2 v2,en F dE k3 v3]
 | .s7 k1 v1 k2 v2 k3 v3 k4 v4 k5 v5=>[en F nX k1 v1,en F lN k2 v2,en F dE k3 v3,en F uP k4 v4,en F nO k5 v5]
section
variable (L it:C1) (K1 K2:Tok) (sl xl fl:C1) (xs:List (Nat×Tok)) (ex:Nat)
theorem mt:∀(rem:List (Nat×Tok)) (i:Nat) (st:AT) (ini:List Fp) (la:Fp) (ef el:Nat),xs.drop i=rem→ini.length+rem.length≤900→la.ps.length+rem.length≤9→
  ad Z 10 (fJ Z L it) ((L,BQ Z K1 K2 sl fl ef st)::gJ it xl fl la.f.a la.f.pa xs ex i (au ini) el la.f.g la.f.kd la.f.tk la.f.nm la.f.tn la.f.ow la.f.to la.f.e (aB la.ps) la.pe) (bf ini++cI la.ps)
   (λx:Xf=>x.2.2.1.map Fp.pf=(rem.map (·.1)).foldl eB ((ini++[la]).map Fp.pf)) (λξ=>.ok .next) (gm Z L K1 K2 sl fl) (λx=>bf x.2.2.1)
 | [],i,st,ini,la,ef,el,hd,_,_=>by
  have hv:(aJ xs).length≤i:=by unfold aJ;rw [C2];exact Dx.mp hd
  have hend:∀(e1:Nat) (f1:Obj) (o2:Obj),([(L,f1),(it,o2),(xl,aa (aJ xs) ex),(fl,aa (au ini++[.ref la.f.a]) el)]++((la.f.a,bF la.f.g la.f.kd la.f.tk la.f.nm la.f.tn la.f.ow la.f.to la.f.pa la.f.e)::(la.f.pa,aa (aB la.ps) la.pe)::(bf ini++cI la.ps))).Perm
    ([(it,o2),(xl,aa (aJ xs) ex)]++([(L,f1),(fl,aa (au (ini++[la])) el)]++(bf ini++la.led))):=by
   intro e1 f1 o2
   rw [←jh]
   unfold Fp.led
   exact (pT [[_],[_],[_],[_],[_],[_],_,_] [2,3,4,5,0,0,0,6,7,8,9,0,0,0,0] [3,4,0,2,5,0,8,6,7,0,9,0,0,0,0] rfl)
  cases st with
  | s2=>
   refine ad.to (ae.toM (bG.toR (ae.toT (wy L it K1 K2 sl xl fl xs ex ef i hv (au ini++[.ref la.f.a]) el)) ((la.f.a,bF la.f.g la.f.kd la.f.tk la.f.nm la.f.tn la.f.ow la.f.to la.f.pa la.f.e)::(la.f.pa,aa (aB la.ps) la.pe)::(bf ini++cI la.ps)))) (C8 _) (λx=>(BI Z (.s2),x.1,ini++[la],el)) (λx=>[(it,x.2),(xl,aa (aJ xs) ex)]) λx ξ=>⟨rfl,rfl,?_⟩
   simp only [hY]
   exact hend x.1 _ x.2
  | s5 k1 v1 k2 v2 k3 v3=>
   refine ad.to (ae.toM (bG.toR (ae.toT (wi L it K1 K2 sl xl fl xs ex k1 v1 k2 v2 k3 v3 ef i hv (au ini++[.ref la.f.a]) el)) ((la.f.a,bF la.f.g la.f.kd la.f.tk la.f.nm la.f.tn la.f.ow la.f.to la.f.pa la.f.e)::(la.f.pa,aa (aB la.ps) la.pe)::(bf ini++cI la.ps)))) (C8 _) (λx=>(BI Z (.s5 k1 v1 k2 v2 k3 v3),x.1,ini++[la],el)) (λx=>[(it,x.2),(xl,aa (aJ xs) ex)]) λx ξ=>⟨rfl,rfl,?_⟩
   simp only [hY]
   exact hend x.1 _ x.2
  | s7 k1 v1 k2 v2 k3 v3 k4 v4 k5 v5=>
   refine ad.to (ae.toM (bG.toR (ae.toT (xz L it K1 K2 sl xl fl xs ex k1 v1 k2 v2 k3 v3 k4 v4 k5 v5 ef i hv (au ini++[.ref la.f.a]) el)) ((la.f.a,bF la.f.g la.f.kd la.f.tk la.f.nm la.f.tn la.f.ow la.f.to la.f.pa la.f.e)::(la.f.pa,aa (aB la.ps) la.pe)::(bf ini++cI la.ps)))) (C8 _) (λx=>(BI Z (.s7 k1 v1 k2 v2 k3 v3 k4 v4 k5 v5),x.1,ini++[la],el)) (λx=>[(it,x.2),(xl,aa (aJ xs) ex)]) λx ξ=>⟨rfl,rfl,?_⟩
   simp only [hY]
   exact hend x.1 _ x.2
 | (x,tx)::rem,i,st,ini,la,ef,el,hd,hsz,hps=>by
  have hx0:xs[i]?=some (x,tx):=by
   have:=congrArg (λl=>l[0]?) hd
   simpa using this
  have hi:(aJ xs)[i]?=some (.int (.ofNat x) tx):=qH hx0
  have hd':xs.drop (i+1)=rem:=by
   have:=congrArg (DX 1) hd
   rw [DE] at this
   exact this
  simp only [C5] at hsz hps
  have hyl:(au ini).length≤1000:=by unfold au;rw [C2];lia
  have hpe:(aB la.ps).length=la.ps.length:=by unfold aB;rw [C2]
  have hpl:(aB la.ps).length < 10:=by lia
  simp only [Dd,Ew]
  by_cases h5:x % 5=0
  ·have ihA:∀(st':AT) (la':Fp) (ef el:Nat),la'.ps=[]→la'.f.g=(x / 5 / 6 % 2 == 1)→True→True→la'.pf=gK x→ad Z 10 (fJ Z L it) ((L,BQ Z K1 K2 sl fl ef st')::(gJ it xl fl la'.f.a la'.f.pa xs ex (i+1) (au ini++[.ref la.f.a]) el la'.f.g la'.f.kd la'.f.tk la'.f.nm la'.f.tn la'.f.ow la'.f.to la'.f.e [] la'.pe++[(la.f.a,bF la.f.g la.f.kd la.f.tk la.f.nm la.f.tn la.f.ow la.f.to la.f.pa la.f.e),(la.f.pa,aa (aB la.ps) la.pe)])) (bf ini++cI la.ps)
     (λy:Xf=>y.2.2.1.map Fp.pf=(rem.map (·.1)).foldl eB (eB ((ini++[la]).map Fp.pf) x)) (λξ=>.ok .next) (gm Z L K1 K2 sl fl) (λy=>bf y.2.2.1):=by
    intro st' la' ef el h1 _ _ _ h2
    have ih:=mt rem (i+1) st' (ini++[la]) la' ef el hd' (by rw [CY];show _+1+_≤_;lia) (by rw [h1];show 0+_≤_;lia)
    have e1:((ini++[la])++[la']).map Fp.pf=eB ((ini++[la]).map Fp.pf) x:=by
     rw [lF _ _ h5,Da,Dd,h2];rfl
    rw [e1,h1] at ih
    refine ad.to ih ?_ id (λξ=>[]) (λy hy=>⟨hy,rfl,C8 _⟩)
    rw [hY,←jh]
    unfold Fp.led
    have ep:aB []=[]:=rfl
    have ep2:cI []=[]:=rfl
    simp only [ep,ep2]
    exact (pT [[_],[_],[_],[_],[_],[_],[_],[_],_,_] [2,3,4,5,6,7,0,0,0,0,8,9,0,0,0,10,11,0,0] [2,3,4,5,6,7,0,0,0,0,0,10,8,9,0,11,0,0,1,0,0] rfl)
   have hr:x / 5 % 3=0∨x / 5 % 3=1∨x / 5 % 3=2:=by lia
   rcases hr with h3 | h3 | h3
   ·cases st with
    | s2=>
     refine ad.to (zC L it K1 K2 sl xl fl xs ex ef i x tx hi la.f.a la.f.pa (au ini) hyl el la.f.g la.f.kd la.f.tk la.f.nm la.f.tn la.f.ow la.f.to la.f.e (aB la.ps) la.pe h5 h3 (bf ini++cI la.ps) _ (λx=>bf x.2.2.1) λc1 c2 c3 c4 c5 ts tk2 tn2 to2 ef el fe2 pe2 na fb pb=>?_) (C8 _) id (λξ=>[]) (λx hx=>⟨hx,rfl,C8 _⟩)
     exact ihA (.s7 c1 _ c2 _ c3 _ c4 _ c5 _) ⟨⟨fb,_,_,tk2,_,tn2,_,to2,pb,fe2⟩,[],pe2⟩ ef el rfl rfl trivial trivial (by unfold gK;rw [h3];rfl)
    | s5 k1 v1 k2 v2 k3 v3=>
     refine ad.to (zS L it K1 K2 sl xl fl xs ex k1 v1 k2 v2 k3 v3 ef i x tx hi la.f.a la.f.pa (au ini) hyl el la.f.g la.f.kd la.f.tk la.f.nm la.f.tn la.f.ow la.f.to la.f.e (aB la.ps) la.pe h5 h3 (bf ini++cI la.ps) _ (λx=>bf x.2.2.1) λc1 c2 c3 c4 c5 ts tk2 tn2 to2 ef el fe2 pe2 na fb pb=>?_) (C8 _) id (λξ=>[]) (λx hx=>⟨hx,rfl,C8 _⟩)
     exact ihA (.s7 c1 _ c2 _ c3 _ c4 _ c5 _) ⟨⟨fb,_,_,tk2,_,tn2,_,to2,pb,fe2⟩,[],pe2⟩ ef el rfl rfl trivial trivial (by unfold gK;rw [h3];rfl)
    | s7 k1 v1 k2 v2 k3 v3 k4 v4 k5 v5=>
     refine ad.to (zo L it K1 K2 sl xl fl xs ex k1 v1 k2 v2 k3 v3 k4 v4 k5 v5 ef i x tx hi la.f.a la.f.pa (au ini) hyl el la.f.g la.f.kd la.f.tk la.f.nm la.f.tn la.f.ow la.f.to la.f.e (aB la.ps) la.pe h5 h3 (bf ini++cI la.ps) _ (λx=>bf x.2.2.1) λc1 c2 c3 c4 c5 ts tk2 tn2 to2 ef el fe2 pe2 na fb pb=>?_) (C8 _) id (λξ=>[]) (λx hx=>⟨hx,rfl,C8 _⟩)
     exact ihA (.s7 c1 _ c2 _ c3 _ c4 _ c5 _) ⟨⟨fb,_,_,tk2,_,tn2,_,to2,pb,fe2⟩,[],pe2⟩ ef el rfl rfl trivial trivial (by unfold gK;rw [h3];rfl)
   ·cases st with
    | s2=>
     refine ad.to (yM L it K1 K2 sl xl fl xs ex ef i x tx hi la.f.a la.f.pa (au ini) hyl el la.f.g la.f.kd la.f.tk la.f.nm la.f.tn la.f.ow la.f.to la.f.e (aB la.ps) la.pe h5 h3 (bf ini++cI la.ps) _ (λx=>bf x.2.2.1) λc1 c2 c3 c4 c5 ts tk2 tn2 to2 ef el fe2 pe2 na fb pb=>?_) (C8 _) id (λξ=>[]) (λx hx=>⟨hx,rfl,C8 _⟩)
     exact ihA (.s7 c1 _ c2 _ c3 _ c4 _ c5 _) ⟨⟨fb,_,_,tk2,_,tn2,_,to2,pb,fe2⟩,[],pe2⟩ ef el rfl rfl trivial trivial (by unfold gK;rw [h3];rfl)
    | s5 k1 v1 k2 v2 k3 v3=>
     refine ad.to (zv L it K1 K2 sl xl fl xs ex k1 v1 k2 v2 k3 v3 ef i x tx hi la.f.a la.f.pa (au ini) hyl el la.f.g la.f.kd la.f.tk la.f.nm la.f.tn la.f.ow la.f.to la.f.e (aB la.ps) la.pe h5 h3 (bf ini++cI la.ps) _ (λx=>bf x.2.2.1) λc1 c2 c3 c4 c5 ts tk2 tn2 to2 ef el fe2 pe2 na fb pb=>?_) (C8 _) id (λξ=>[]) (λx hx=>⟨hx,rfl,C8 _⟩)
     exact ihA (.s7 c1 _ c2 _ c3 _ c4 _ c5 _) ⟨⟨fb,_,_,tk2,_,tn2,_,to2,pb,fe2⟩,[],pe2⟩ ef el rfl rfl trivial trivial (by unfold gK;rw [h3];rfl)
    | s7 k1 v1 k2 v2 k3 v3 k4 v4 k5 v5=>
     refine ad.to (yI L it K1 K2 sl xl fl xs ex k1 v1 k2 v2 k3 v3 k4 v4 k5 v5 ef i x tx hi la.f.a la.f.pa (au ini) hyl el la.f.g la.f.kd la.f.tk la.f.nm la.f.tn la.f.ow la.f.to la.f.e (aB la.ps) la.pe h5 h3 (bf ini++cI la.ps) _ (λx=>bf x.2.2.1) λc1 c2 c3 c4 c5 ts tk2 tn2 to2 ef el fe2 pe2 na fb pb=>?_) (C8 _) id (λξ=>[]) (λx hx=>⟨hx,rfl,C8 _⟩)
     exact ihA (.s7 c1 _ c2 _ c3 _ c4 _ c5 _) ⟨⟨fb,_,_,tk2,_,tn2,_,to2,pb,fe2⟩,[],pe2⟩ ef el rfl rfl trivial trivial (by unfold gK;rw [h3];rfl)
   ·cases st with
    | s2=>
     refine ad.to (yZ L it K1 K2 sl xl fl xs ex ef i x tx hi la.f.a la.f.pa (au ini) hyl el la.f.g la.f.kd la.f.tk la.f.nm la.f.tn la.f.ow la.f.to la.f.e (aB la.ps) la.pe h5 h3 (bf ini++cI la.ps) _ (λx=>bf x.2.2.1) λc1 c2 c3 c4 c5 ts tk2 tn2 to2 ef el fe2 pe2 na fb pb=>?_) (C8 _) id (λξ=>[]) (λx hx=>⟨hx,rfl,C8 _⟩)
     exact ihA (.s7 c1 _ c2 _ c3 _ c4 _ c5 _) ⟨⟨fb,_,_,tk2,_,tn2,_,to2,pb,fe2⟩,[],pe2⟩ ef el rfl rfl trivial trivial (by unfold gK;rw [h3];rfl)
    | s5 k1 v1 k2 v2 k3 v3=>
     refine ad.to (yU L it K1 K2 sl xl fl xs ex k1 v1 k2 v2 k3 v3 ef i x tx hi la.f.a la.f.pa (au ini) hyl el la.f.g la.f.kd la.f.tk la.f.nm la.f.tn la.f.ow la.f.to la.f.e (aB la.ps) la.pe h5 h3 (bf ini++cI la.ps) _ (λx=>bf x.2.2.1) λc1 c2 c3 c4 c5 ts tk2 tn2 to2 ef el fe2 pe2 na fb pb=>?_) (C8 _) id (λξ=>[]) (λx hx=>⟨hx,rfl,C8 _⟩)
     exact ihA (.s7 c1 _ c2 _ c3 _ c4 _ c5 _) ⟨⟨fb,_,_,tk2,_,tn2,_,to2,pb,fe2⟩,[],pe2⟩ ef el rfl rfl trivial trivial (by unfold gK;rw [h3];rfl)
    | s7 k1 v1 k2 v2 k3 v3 k4 v4 k5 v5=>
     refine ad.to (zN L it K1 K2 sl xl fl xs ex k1 v1 k2 v2 k3 v3 k4 v4 k5 v5 ef i x tx hi la.f.a la.f.pa (au ini) hyl el la.f.g la.f.kd la.f.tk la.f.nm la.f.tn la.f.ow la.f.to la.f.e (aB la.ps) la.pe h5 h3 (bf ini++cI la.ps) _ (λx=>bf x.2.2.1) λc1 c2 c3 c4 c5 ts tk2 tn2 to2 ef el fe2 pe2 na fb pb=>?_) (C8 _) id (λξ=>[]) (λx hx=>⟨hx,rfl,C8 _⟩)
     exact ihA (.s7 c1 _ c2 _ c3 _ c4 _ c5 _) ⟨⟨fb,_,_,tk2,_,tn2,_,to2,pb,fe2⟩,[],pe2⟩ ef el rfl rfl trivial trivial (by unfold gK;rw [h3];rfl)
  ·have ihP:∀(st':AT) (p:Pm) (ef el pe2:Nat),p.pl=iy x la.ps.length→ad Z 10 (fJ Z L it) ((L,BQ Z K1 K2 sl fl ef st')::(gJ it xl fl la.f.a la.f.pa xs ex (i+1) (au ini) el la.f.g la.f.kd la.f.tk la.f.nm la.f.tn la.f.ow la.f.to la.f.e (aB la.ps++[.ref p.a]) pe2++[p.ob])) (bf ini++cI la.ps)
     (λy:Xf=>y.2.2.1.map Fp.pf=(rem.map (·.1)).foldl eB (eB ((ini++[la]).map Fp.pf) x)) (λξ=>.ok .next) (gm Z L K1 K2 sl fl) (λy=>bf y.2.2.1):=by
    intro st' p ef el pe2 h1
    have ih:=mt rem (i+1) st' ini {la with ps:=la.ps++[p],pe:=pe2} ef el hd' (by lia) (by rw [CY];show _+1+_≤_;lia)
    have e1:(ini++[({la with ps:=la.ps++[p],pe:=pe2}:Fp)]).map Fp.pf=eB ((ini++[la]).map Fp.pf) x:=by
     simp only [Da,Da,Dd,Dd,EO,lK _ _ _ h5]
     congr 2
     unfold Fp.pf rY
     dsimp only
     rw [Da,C2,Dd,h1]
     rfl
    rw [e1] at ih
    refine ad.to ih ?_ id (λξ=>[]) (λy hy=>⟨hy,rfl,C8 _⟩)
    rw [pq,ux]
    exact (pT [[_],[_],[_],[_],[_],[_],[_],_,_] [2,3,4,5,6,7,0,0,0,0,8,0,0,9,10,0,0] [2,3,4,5,6,7,0,0,0,0,0,9,10,8,0,0,0] rfl)
   by_cases h5':x % 5=1
   ·have h5:=h5'
    cases st with
    | s2=>
     refine ad.to (Bh L it K1 K2 sl xl fl xs ex ef i x tx hi la.f.a la.f.pa (au ini) hyl el la.f.g la.f.kd la.f.tk la.f.nm la.f.tn la.f.ow la.f.to la.f.e (aB la.ps) la.pe h5 hpl (bf ini++cI la.ps) _ (λx=>bf x.2.2.1) λc1 c2 c3 ts tk2 ef pe2 qe qa=>?_) (C8 _) id (λξ=>[]) (λx hx=>⟨hx,rfl,C8 _⟩)
     exact ihP (.s5 c1 _ c2 _ c3 _) ⟨qa,_,tk2,none,0,qe⟩ ef el pe2 (by unfold iy;rw [if_pos h5,←hpe];rfl)
    | s5 k1 v1 k2 v2 k3 v3=>
     refine ad.to (Ah L it K1 K2 sl xl fl xs ex k1 v1 k2 v2 k3 v3 ef i x tx hi la.f.a la.f.pa (au ini) hyl el la.f.g la.f.kd la.f.tk la.f.nm la.f.tn la.f.ow la.f.to la.f.e (aB la.ps) la.pe h5 hpl (bf ini++cI la.ps) _ (λx=>bf x.2.2.1) λc1 c2 c3 ts tk2 ef pe2 qe qa=>?_) (C8 _) id (λξ=>[]) (λx hx=>⟨hx,rfl,C8 _⟩)
     exact ihP (.s5 c1 _ c2 _ c3 _) ⟨qa,_,tk2,none,0,qe⟩ ef el pe2 (by unfold iy;rw [if_pos h5,←hpe];rfl)
    | s7 k1 v1 k2 v2 k3 v3 k4 v4 k5 v5=>
     refine ad.to (AI L it K1 K2 sl xl fl xs ex k1 v1 k2 v2 k3 v3 k4 v4 k5 v5 ef i x tx hi la.f.a la.f.pa (au ini) hyl el la.f.g la.f.kd la.f.tk la.f.nm la.f.tn la.f.ow la.f.to la.f.e (aB la.ps) la.pe h5 hpl (bf ini++cI la.ps) _ (λx=>bf x.2.2.1) λc1 c2 c3 ts tk2 ef pe2 qe qa=>?_) (C8 _) id (λξ=>[]) (λx hx=>⟨hx,rfl,C8 _⟩)
     exact ihP (.s7 c1 _ c2 _ c3 _ k4 v4 k5 v5) ⟨qa,_,tk2,none,0,qe⟩ ef el pe2 (by unfold iy;rw [if_pos h5,←hpe];rfl)
   ·have hq0:(x % 5 == 0)=false:=by rw [beq_eq_false_iff_ne];exact h5
    have hq1:(x % 5 == 1)=false:=by rw [beq_eq_false_iff_ne];exact h5'
    have hqc:x % 5=x % 5 - 2+2:=by lia
    have hc3:x % 5 - 2 < 3:=by lia
    cases st with
    | s2=>
     refine ad.to (Bl L it K1 K2 sl xl fl xs ex ef i x tx hi la.f.a la.f.pa (au ini) hyl el la.f.g la.f.kd la.f.tk la.f.nm la.f.tn la.f.ow la.f.to la.f.e (aB la.ps) la.pe (x % 5) rfl hq0 hq1 (x % 5 - 2) hqc hc3 hpl (bf ini++cI la.ps) _ (λx=>bf x.2.2.1) λc1 c2 c3 ts tk2 tv ef pe2 qe qa=>?_) (C8 _) id (λξ=>[]) (λx hx=>⟨hx,rfl,C8 _⟩)
     exact ihP (.s5 c1 _ c2 _ c3 _) ⟨qa,_,tk2,some _,tv,qe⟩ ef el pe2 (by unfold iy;rw [if_neg h5',←hpe];rfl)
    | s5 k1 v1 k2 v2 k3 v3=>
     refine ad.to (A4 L it K1 K2 sl xl fl xs ex k1 v1 k2 v2 k3 v3 ef i x tx hi la.f.a la.f.pa (au ini) hyl el la.f.g la.f.kd la.f.tk la.f.nm la.f.tn la.f.ow la.f.to la.f.e (aB la.ps) la.pe (x % 5) rfl hq0 hq1 (x % 5 - 2) hqc hc3 hpl (bf ini++cI la.ps) _ (λx=>bf x.2.2.1) λc1 c2 c3 ts tk2 tv ef pe2 qe qa=>?_) (C8 _) id (λξ=>[]) (λx hx=>⟨hx,rfl,C8 _⟩)
     exact ihP (.s5 c1 _ c2 _ c3 _) ⟨qa,_,tk2,some _,tv,qe⟩ ef el pe2 (by unfold iy;rw [if_neg h5',←hpe];rfl)
    | s7 k1 v1 k2 v2 k3 v3 k4 v4 k5 v5=>
     refine ad.to (AJ L it K1 K2 sl xl fl xs ex k1 v1 k2 v2 k3 v3 k4 v4 k5 v5 ef i x tx hi la.f.a la.f.pa (au ini) hyl el la.f.g la.f.kd la.f.tk la.f.nm la.f.tn la.f.ow la.f.to la.f.e (aB la.ps) la.pe (x % 5) rfl hq0 hq1 (x % 5 - 2) hqc hc3 hpl (bf ini++cI la.ps) _ (λx=>bf x.2.2.1) λc1 c2 c3 ts tk2 tv ef pe2 qe qa=>?_) (C8 _) id (λξ=>[]) (λx hx=>⟨hx,rfl,C8 _⟩)
     exact ihP (.s7 c1 _ c2 _ c3 _ k4 v4 k5 v5) ⟨qa,_,tk2,some _,tv,qe⟩ ef el pe2 (by unfold iy;rw [if_neg h5',←hpe];rfl)
end
end
noncomputable abbrev l9:List Nat:=[102,105,108,101,95,110,97,109,101]
noncomputable abbrev ot:List Nat:=[97,32,34,98,34,59,32,99,92,100]
noncomputable abbrev zr:List Nat:=[86,105,97]
noncomputable abbrev rD:List Nat:=[102,111,114,109]
noncomputable def z6:PF:=⟨false,0,zr,rD,[(l9,some ot)]⟩
noncomputable def bL (vals:List Nat):List PF:=vals.foldl eB [z6]
theorem uJ (L it:C1) (K1 K2:Tok) (sl xl fl:C1) (xs:List (Nat×Tok)) (ex:Nat) (vals:List Nat) (hv:xs.map (·.1)=vals) (hx:vals.length≤8) (ef el fa pa qa fe pe qe:Nat) (tk tn to t1 t2:Tok):
  ad Z 10 (fJ Z L it) [(L,ma Z K1 K2 sl fl ef),(it,aS xl 0),(xl,aa (aJ xs) ex),(fl,aa [.ref fa] el),(fa,aa [.bool false,.int (.ofNat 0) tk,.str (S zr) tn,.str (S rD) to,.ref pa] fe),(pa,aa [.ref qa] pe),(qa,aa [.str (S l9) t1,.str (S ot) t2] qe)] []
   (λx:Xf=>x.2.2.1.map Fp.pf=bL vals) (λξ=>.ok .next) (gm Z L K1 K2 sl fl) (λx=>bf x.2.2.1):=by
 have hl:xs.length≤8:=by simp only [←hv,C2] at hx;exact hx
 have S1:=mt L it K1 K2 sl xl fl xs ex xs 0 .s2 [] ⟨⟨fa,false,0,tk,zr,tn,rD,to,pa,fe⟩,[⟨qa,l9,t1,some ot,t2,qe⟩],pe⟩ ef el rfl (by show 0+_≤_;lia) (by show 1+_≤_;lia)
 refine ad.to S1 ?_ id (λξ=>[]) (λx hx=>⟨?_,rfl,C8 _⟩)
 ·simp only [Dm]
  exact C8 _
 ·have hx:x.2.2.1.map Fp.pf=(xs.map (·.1)).foldl eB [z6]:=hx
  simp only [hv] at hx
  exact hx
theorem Bk {F:Fx} {k:Nat} (a sl:C1) (zs:List (Int×Tok)) (e:Nat) (tm:Tok) (zt:List (Int×Tok)) (hzt:zt=zs.take 8) (hsz:(zV zs).length≤CZ):
  af F k (.b 128106587276438692081757506308484131437 ⟨[.ref a,.ref sl],[]⟩) [(a,aa (zV zs) e),(sl,aE "slice" [.none,.int (.ofNat 8) tm,.none])] (X:=C1) (λξ=>True) (λx=>.ok (.ret (.ref x)))
   (λξ=>[aa (zV zs) e,aE "slice" [.none,.int (.ofNat 8) tm,.none]]) (λx=>[(x,aa (zV zt) 0)]):=by
 have:=ez (F:=F) (k:=k) a sl (.type "list") none #[] (zV zs) e 8 tm hsz
 have e:(zV zs).take 8=zV zt:=by rw [hzt];unfold zV;rw [F6]
 rw [e] at this
 exact this
theorem yB {F:Fx} {k:Nat} (a sl:C1) (e:Nat) (tm:Tok):
  af F k (.b 128106587276438692081757506308484131437 ⟨[.ref a,.ref sl],[]⟩) [(a,aa [] e),(sl,aE "slice" [.none,.int (.ofNat 8) tm,.none])] (X:=C1) (λξ=>True) (λx=>.ok (.ret (.ref x)))
   (λξ=>[aa [] e,aE "slice" [.none,.int (.ofNat 8) tm,.none]]) (λx=>[(x,aa [] 0)]):=
 ez a sl (.type "list") none #[] [] e 8 tm (Du _)
noncomputable abbrev Co:=C1×Nat×List Fp
theorem oq (sl:C1) (zs:List (Int×Tok)) (e:Nat) (hsz:zs.length≤1000) (zt:List (Int×Tok)) (hzt:zt=zs.take 8) (z:Int) (t0:Tok) (rem:List (Int×Tok)) (hzs:zt=(z,t0)::rem):
  ad Z 12 (.o (.call (.ref 366) ⟨[.ref sl],[]⟩)) [(sl,aa (zV zs) e)] [] (X:=Co) (λx=>x.2.2.map Fp.pf=bL (zt.map λp=>aU 1000000000 p.1)) (λx=>.ok (.ret (.ref x.1)))
   (λx=>[(sl,aa (zV zs) e),(x.1,aa (au x.2.2) x.2.1)]) (λx=>bf x.2.2):=by
 have hv8:(zt.map λp=>aU 1000000000 p.1).length≤8:=by simp only [C2,hzt,DY];lia
 have hs:=ab
 have hz1:(zV zs).length≤CZ:=by unfold zV;simp only [C2];exact lB ‹_› rfl
 have hz8:zt.length≤100:=by simp only [hzt,DY];lia
 exists 1,ad.of_defB
 exists 1,Bk sl (n+1+1+1+1+1) zs e (t+1+1+1+1+1+1+1) zt hzt ‹_›,0x2122232311231,97
 exists 2,(zL n (n1+1+1) n1 x1 (n1+1) zt 0 z t0 rem hzs ‹_› 0 0).up rfl,0xa1a1aa1a14144,33691
 exists 3,dx,(uJ n n2 t (t+1+1+1+1+1+1) sl (n1+1) (n+1+1+1+1) x2.2.2.2.2.2.2 x2.2.2.2.2.2.1 (Ds (λp=>aU 1000000000 p.1) zt) p2 ‹_› (0+1+1) 0 (n+1+1+1) (n+1+1) (n+1) 0 0 0 (t+1) (t+1+1) (t+1+1+1) (t+1+1+1+1) (t+1+1+1+1+1)).up rfl,0xd15155122,0x67894b7
 exists az,(n+1+1+1+1,x3.2.2.2,x3.2.2.1),(by rfl),2,38
theorem oN (sl:C1) (e:Nat):
  ad Z 12 (.o (.call (.ref 366) ⟨[.ref sl],[]⟩)) [(sl,aa [] e)] [] (X:=Co) (λx=>x.2.2.map Fp.pf=bL []) (λx=>.ok (.ret (.ref x.1)))
   (λx=>[(sl,aa [] e),(x.1,aa (au x.2.2) x.2.1)]) (λx=>bf x.2.2):=by
 have fl_top0:=λ(L it:C1) (K1 K2:Tok) (sl xl fl:C1) (ex ef el fa pa qa fe pe qe:Nat) (tk tn to t1 t2:Tok)=>uJ L it K1 K2 sl xl fl [] ex [] rfl (Du _) ef el fa pa qa fe pe qe tk tn to t1 t2
 have ei:aJ []=[]:=rfl
 rw [ei] at fl_top0
 exists 1,ad.of_defB
 exists 1,yB sl (n+1+1+1+1+1) e (t+1+1+1+1+1+1+1),0x2122232311231,97
 exists 2,(zM n (n1+1+1) n1 x1 (n1+1) 0 0 0).up rfl,0xa1a1aa1a14144,33691
 exists 3,dx,(fl_top0 n n2 t (t+1+1+1+1+1+1) sl (n1+1) (n+1+1+1+1) 0 (0+1+1) 0 (n+1+1+1) (n+1+1) (n+1) 0 0 0 (t+1) (t+1+1) (t+1+1+1) (t+1+1+1+1) (t+1+1+1+1+1)).up rfl,0xd151552,0x67894b7
 exists az,(n+1+1+1+1,x3.2.2.2,x3.2.2.1),(by rfl),2,38
section
noncomputable def fG:List ((List Nat×Tok)×(List Nat×Tok))→List (List Nat×Tok)
 | []=>[]
 | c::cs=>c.1::c.2::fG cs
noncomputable def fX (c:(List Nat×Tok)×(List Nat×Tok)):List Nat×List Nat:=(c.1.1,c.2.1)
noncomputable def z2 (m:Nat):PS→List (List Nat×List Nat)→Prop
 | _,[]=>True
 | s,c::cs=>oO m s c∧qf s c∧z2 m (b5 m s c) cs
noncomputable def jt (m:Nat) (s:PS) (cs:List (List Nat×List Nat)):PS:=cs.foldl (b5 m) s
section
variable (L z its own it l:C1) (e0:Nat) (v vd la a dd:C1) (K:Vk) (m e:Nat) (J:Ak) (q:List Nat)
theorem oK (xs:List CX):∀(cs:List ((List Nat×Tok)×(List Nat×Tok))) (s:VS) (i:Nat) (f:List Nat) (tf:Tok) (ef:Nat) (kp:Tok) (x0:List Nat) (tx0:Tok) (y0:CX) (_:y0=.none) (u1 u2:List Nat) (v1 v2:Tok) (e2:Nat),
  xs.drop i=al (fG cs)→z2 m (bi s) (cs.map fX)→
  ad Z 16 (ny Z L z) ([(L,vT Z J v f tf q l kp x0 tx0 ef)]++yE z its own it l y0 i xs e0 [.str (S u1) v1,.str (S u2) v2] e2++fK Z v vd la a dd K m e s) (aj s.2.2.1)
   (X:=VS×Obj) (λx=>bi x.1=jt m (bi s) (cs.map fX)) (λξ=>.ok .next) (λx=>(L,x.2)::fK Z v vd la a dd K m e x.1) (λx=>aj x.1.2.2.1)
 | [],s,i,f,tf,ef,kp,x0,tx0,y0,hy,u1,u2,v1,v2,e2,hxs,_=>by
  have hl:xs.length≤i:=by
   have:=congrArg C9 hxs
   rw [DO] at this
   simp [fG,al] at this
   omega
  refine ad.to (wo L z its own it l e0 v vd la a dd K m e J f tf q ef kp x0 tx0 y0 hy xs i hl _ e2 s) (.refl _) id (λξ=>[]) λx hx=>⟨?_,rfl,C8 _⟩
  show bi x.1=bi s
  rw [show x.1=s from hx]
 | c::cs,s,i,f,tf,ef,kp,x0,tx0,y0,hy,u1,u2,v1,v2,e2,hxs,hok=>by
  obtain ⟨⟨x,tx⟩,⟨y,ty⟩⟩:=c
  have h1:xs[i]?=some (.str (S x) tx):=by
   have:=congrArg (λl=>l[0]?) hxs
   simpa [fG,al] using this
  have h2:xs[i+1]?=some (.str (S y) ty):=by
   have:=congrArg (λl=>l[1]?) hxs
   simpa [fG,al] using this
  have h3:xs.drop (i+1+1)=al (fG cs):=by
   have:=congrArg (DX 2) hxs
   rw [DE] at this
   exact this
  exact vR L z its own it l e0 v vd la a dd K m e J f tf q ef kp x0 tx0 y0 hy xs i u1 u2 v1 v2 e2 s x y tx ty h1 h2 hok.1 hok.2.1 _ λkp tf y0 e2 ef s' hy0 hs'=>by
   have ih:=oK xs cs s' (i+1+1) x tf ef kp y ty y0 hy0 x y tx ty e2 h3 (by rw [hs'];exact hok.2.2)
   rw [hs'] at ih
   exact ih
theorem xQ (c:(List Nat×Tok)×(List Nat×Tok)) (cs:List ((List Nat×Tok)×(List Nat×Tok))) (xs:List CX) (s:VS) (f:List Nat) (tf:Tok) (ef e2:Nat) (hxs:xs=al (fG (c::cs))) (hok:z2 m (bi s) ((c::cs).map fX)):
  ad Z 16 (ny Z L z) ([(L,zd Z J v f tf q l ef)]++yE z its own it l .none 0 xs e0 [.none,.none] e2++fK Z v vd la a dd K m e s) (aj s.2.2.1)
   (X:=VS×Obj) (λx=>bi x.1=jt m (bi s) ((c::cs).map fX)) (λξ=>.ok .next) (λx=>(L,x.2)::fK Z v vd la a dd K m e x.1) (λx=>aj x.1.2.2.1):=by
 obtain ⟨⟨x,tx⟩,⟨y,ty⟩⟩:=c
 subst hxs
 exact sR L z its own it l e0 v vd la a dd K m e J f tf q ef (al (fG (((x,tx),y,ty)::cs))) 0 e2 s x y tx ty rfl rfl hok.1 hok.2.1 _ λkp tf y0 e2 ef s' hy0 hs'=>by
  have ih:=oK L z its own it l e0 v vd la a dd K m e J q (al (fG (((x,tx),y,ty)::cs))) cs s' (0+1+1) x tf ef kp y ty y0 hy0 x y tx ty e2 rfl (by rw [hs'];exact hok.2.2)
  rw [hs'] at ih
  exact ih
end
noncomputable def ku:List (List Nat)→List (List Nat×List Nat)
 | x::y::r=>(x,y)::ku r
 | _=>[]
noncomputable def fw:List (List Nat×Tok)→List ((List Nat×Tok)×(List Nat×Tok))
 | x::y::r=>(x,y)::fw r
 | _=>[]
theorem kA:∀(n:Nat) (l:List (List Nat×Tok)),l.length=2 * n→fG (fw l)=l
 | 0,l,h=>by cases l with | nil=>rfl | cons x l=>simp at h
 | n+1,[],h=>by simp at h
 | n+1,[x],h=>by simp at h;lia
 | n+1,x::y::r,h=>by
  show x::y::fG (fw r)=x::y::r
  rw [kA n r (by simp at h;lia)]
theorem jc:∀(n:Nat) (l:List (List Nat×Tok)),l.length=2 * n→(fw l).map fX=ku (l.map (·.1))
 | 0,l,h=>by cases l with | nil=>rfl | cons x l=>simp at h
 | n+1,[],h=>by simp at h
 | n+1,[x],h=>by simp at h;lia
 | n+1,x::y::r,h=>by
  show (x.1,y.1)::(fw r).map fX=(x.1,y.1)::ku (r.map (·.1))
  rw [jc n r (by simp at h;lia)]
theorem kT:∀(n:Nat) (l:List Nat),∃k,(bz n l).length=2 * k+1
 | 0,l=>⟨0,rfl⟩
 | n+1,l=>by
  unfold bz
  by_cases h:l.all (λc=>!aA c)=true
  ·rw [if_pos h];exact ⟨0,rfl⟩
  ·rw [if_neg h]
   obtain ⟨k,hk⟩:=kT n ((l.dropWhile (λc=>!aA c)).dropWhile aA)
   exact ⟨k+1,by simp only [C5,C5,hk];lia⟩
noncomputable def bj (x:List Nat):List (List Nat×List Nat):=ku ([]::bz x.length x)
theorem wC (L z its own it l:C1) (e0:Nat) (v vd la a dd:C1) (K:Vk) (m e:Nat) (J:Ak) (q:List Nat) (q0:Nat) (qr:List Nat) (s:VS) (hok:z2 m (bi s) (bj (q0::qr)))
  (t0:Tok) (c:List Nat) (tc:Tok) (res:List (List Nat×Tok)) (hres:bz (q0::qr).length (q0::qr)=(q0::c)::res.map (·.1)∧(q0::c).length≤CZ∧(CX.str (S (q0::c)) tc::al res).length+1≤CZ) (tf:Tok) (ef e2:Nat):
  ad Z 16 (ny Z L z) ([(L,zd Z J v [] tf q l ef)]++yE z its own it l .none 0 (.str (S []) t0::.str (S (q0::c)) tc::al res) e0 [.none,.none] e2++fK Z v vd la a dd K m e s) (aj s.2.2.1)
   (X:=VS×Obj) (λx=>bi x.1=jt m (bi s) (bj (q0::qr))) (λξ=>.ok .next) (λx=>(L,x.2)::fK Z v vd la a dd K m e x.1) (λx=>aj x.1.2.2.1):=by
 obtain ⟨k,hk⟩:=kT (q0::qr).length (q0::qr)
 rw [hres.1,C5,C2] at hk
 have hl:res.length=2 * k:=by lia
 have e1:bj (q0::qr)=(((([],t0),q0::c,tc)::fw res).map fX):=by
  unfold bj
  rw [hres.1]
  show ([],q0::c)::ku (res.map (·.1))=([],q0::c)::(fw res).map fX
  rw [jc k res hl]
 rw [e1] at hok ⊢
 exact xQ L z its own it l e0 v vd la a dd K m e J q (([],t0),q0::c,tc) (fw res) _ s [] tf ef e2 (by
  show _=al (([],t0)::(q0::c,tc)::fG (fw res))
  rw [kA k res hl];rfl) hok
end
end
section
open PyProof.Rows PySem PySem.Calls PySem.W PySem.W.X
theorem o5 {F:Fx} {k:Nat} (a b:C1) (e e2:Nat) (ys:List CX) (hsz:ys.length≤CZ):
  af F k (.b 7635736742594467534504881056365 ⟨[.ref a,.ref b],[]⟩) [(a,⟨.type "list",none,.seq ⟨[]⟩ e,#[]⟩),(b,⟨.type "list",none,.seq ⟨ys⟩ e2,#[]⟩)] (X:=Nat) (λξ=>True) (λξ=>.ok (.ret (.ref a)))
   (λx=>[⟨.type "list",none,.seq ⟨ys⟩ x,#[]⟩,⟨.type "list",none,.seq ⟨ys⟩ e2,#[]⟩]) (λξ=>[]):=by
 refine af.of_b (id:="list.__iadd__") (by kernel_rfl) (Db (b:=Builtin.«list.__iadd__») (by kernel_rfl)) (by decide+kernel) λrest A R d os hr hR h g t hg D=>?_
 have ha:h.get? a=some ⟨.type "list",none,.seq ⟨[]⟩ e,#[]⟩:=D.own (a,_) (C3 _ (.head _))
 have hb:h.get? b=some ⟨.type "list",none,.seq ⟨ys⟩ e2,#[]⟩:=D.own (b,_) (C3 _ (.tail _ (.head _)))
 have D':=D.update (L:=[(a,⟨.type "list",none,.seq ⟨[]⟩ e,#[]⟩),(b,⟨.type "list",none,.seq ⟨ys⟩ e2,#[]⟩)]) (i:=0) (f:=Obj.mapSeq λx=>x++⟨ys⟩) rfl rfl
 obtain ⟨e',e2⟩:∃e',(Obj.mapSeq (λx=>x++⟨ys⟩) ⟨.type "list",none,.seq ⟨[]⟩ e,#[]⟩)=⟨.type "list",none,.seq ⟨ys⟩ e',#[]⟩:=⟨_,by simp only [Obj.mapSeq];congr 2;simp⟩
 rw [show bm [(a,(⟨.type "list",none,.seq ⟨[]⟩ e,#[]⟩:Obj)),(b,⟨.type "list",none,.seq ⟨ys⟩ _,#[]⟩)] 0 (Obj.mapSeq (λx=>x++⟨ys⟩) ⟨.type "list",none,.seq ⟨[]⟩ e,#[]⟩)=[(a,(⟨.type "list",none,.seq ⟨ys⟩ e',#[]⟩:Obj)),(b,⟨.type "list",none,.seq ⟨ys⟩ _,#[]⟩)] from by simp only [e2];rfl] at D'
 exact PySem.AutoSeq1.list___iadd___list_list_0 a ⟨[]⟩ e b ⟨ys⟩ _ (by simp) (by simp) (by simp;exact lB ‹_› rfl) F.prog F.w A R ⟨h,g,d.d,t,os⟩ ⟨ha,hb,hR e' _ g t trivial hg D'⟩
end
section
open PyProof.Rows PySem PySem.Calls PySem.Spec PySem.W PySem.W.X
theorem xU (v vd la a dd:C1) (K:Vk) (m e:Nat) (s:VS) (q0:Nat) (qr:List Nat) (tf tq tc:Tok) (hb:aA q0=false) (hok:z2 m (bi s) (bj (q0::qr))) (hz:2 * (q0::qr).length+2≤CZ):
  ad Z 20 (.o (.call (.ref 106) ⟨[.ref v,.str (S []) tf,.str (S (q0::qr)) tq,.str (S [59]) tc],[]⟩)) (fK Z v vd la a dd K m e s) (aj s.2.2.1)
   (X:=VS×Obj) (λx=>bi x.1=jt m (bi s) (bj (q0::qr))) (λξ=>.ok (.ret .none)) (λx=>fK Z v vd la a dd K m e x.1) (λx=>aj x.1.2.2.1):=by
 have hs:=ab
 have hz1:(q0::qr).length≤CZ:=by lia
 exists 1,ad.of_defB
 exists 1,wM tf (q0::qr) tq ‹_›,0x1771111111676767671,0
 exists 2,su _ q0 qr x1 ‹_› ‹_›,17,0
 exists 3,em x2.1 (.str (S (q0::x2.2.1)) x2.2.2.1::al x2.2.2.2) 0 0 (t2+1) _ rfl (DD _),555886712,1
 exists 4,aG (q0::x2.2.1) x2.2.2.1 (And.left (And.right ‹bz _ _=_∧_∧_›)),0,0
 exists 5,ik x2.1 (n4+1) n4 (.type "list") none #[] (.str (S (q0::x2.2.1)) x2.2.2.1::al x2.2.2.2) 0 (t4+1) [.str (S []) t4] 0 (And.right (And.right ‹bz _ _=_∧_∧_›)),135720,1921
 exists 6,o5 (n5+1+1+1) (n5+1+1) 0 0 [.ref n5,.ref n5] (by simp only [CY,C5,De];lia),0x1dc1c1cc11cb1212211a1111,205
 exists 7,dx,(wC n (n6+1+1) n6 (n6+1) n5 x2.1 x5 v vd la a dd K m e ((t,t+1,t+1+1,tq,t+1+1+1,tc,t2)) (q0::qr) q0 qr s hok t4 x2.2.1 x2.2.2.1 x2.2.2.2 ‹_› tf (0+1+1+1+1+1) 0).up rfl,0x10f110f110f10f10f110f110f10fd1d1ddd1d1dd11112,0x55555b3bd0efb
 exists az,((x7.1.1,x7.1.2.1,x7.1.2.2.1,x7.1.2.2.2.1,x7.1.2.2.2.2.1,x7.1.2.2.2.2.2.1,x7.1.2.2.2.2.2.2.1,x7.1.2.2.2.2.2.2.2),x7.2),(by rfl),0,139810
noncomputable def eO (s:PS):PS:=(0,[],s.2.2++[aD s.2.1])
noncomputable def xt (s:PS):Prop:=s.1+bS s.2.1 < 16000000∧s.2.1.length < 900000∧s.2.2.length < 900000∧(∃ps f q0 qr,s.2.1=ps++[(f,q0::qr)])∧(aD s.2.1).all Unicode.isSpace=false
theorem sJ (v vd la a dd:C1) (K:Vk) (m e:Nat) (s:VS) (hs:xt (bi s)):
  ad Z 12 (.o (.call (.ref 78) ⟨[.ref v],[]⟩)) (fK Z v vd la a dd K m e s) (aj s.2.2.1)
   (X:=VS) (λx=>bi x=eO (bi s)) (λξ=>.ok (.ret .none)) (λx=>fK Z v vd la a dd K m e x) (λx=>aj x.2.2.1):=by
 obtain ⟨ls,el,ps,ea,k,i,ti,de⟩:=s
 obtain ⟨f1,f2,f3,f4,f5⟩:=hs
 unfold bi at f1 f2 f3 f4 f5
 dsimp only at f1 f2 f3 f4 f5
 rw [kz] at f1
 rw [iV] at f5
 have hsz:=ab
 have hpl:(dT ps).length=ps.length:=by unfold dT;rw [C2]
 rw [hpl] at f2
 rw [C2] at f3
 obtain ⟨ps',f,q0,qr,e4⟩:=f4
 obtain ⟨ps0,x,rfl⟩:∃ps0 x,ps=ps0++[x]:=by
  rcases FU ps with h | ⟨l,x,h⟩
  ·subst h;cases ps' <;> cases e4
  ·exact ⟨l,x,by rw [h,FV]⟩
 rw [gh] at e4
 obtain ⟨e5,e6⟩:=List.append_inj' e4 rfl
 injection e6 with e6 _
 injection e6 with e6 e7
 obtain ⟨xp,xf,xtf,xq,xtq⟩:=x
 have e6:xf=f:=e6
 have e7:xq=q0::qr:=e7
 subst e6;subst e7
 rw [gy] at f1
 have f1:i+(aT ps0+(xf.length+(q0::qr).length)) < 16000000:=f1
 rw [CY] at f2
 have f2:ps0.length+1 < 900000:=f2
 have hpost:∀x:Tok×Nat×Tok×Tok×Nat,bi ((ls++[(bh ps0++(xf++q0::qr),x.1)],el+1,([]:List Pt),x.2.1,x.2.2.1,0,x.2.2.2.1,x.2.2.2.2):VS)=eO (bi (ls,el,ps0++[⟨xp,xf,xtf,q0::qr,xtq⟩],ea,k,i,ti,de)):=λx=>by
  unfold bi eO
  simp only [Da,iV,ft]
  rfl
 have hneq:(!(xf == [32] && (q0::qr) == []))=true:=by
  have:((q0::qr) == ([]:List Nat))=false:=rfl
  rw [this,F2];rfl
 obtain ⟨n0,hn0⟩:∃n0,i+(aT ps0+(xf.length+(q0::qr).length))=n0+1:=⟨i+(aT ps0+(xf.length+qr.length)),by simp only [C5];lia⟩
 have hperm:(fK Z v vd la a dd K m e (ls,el,ps0++[⟨xp,xf,xtf,q0::qr,xtq⟩],ea,k,i,ti,de)++aj (ps0++[⟨xp,xf,xtf,q0::qr,xtq⟩])).Perm
   ([(v,fB vd),(vd,fI Z K m la a e),(la,aa (al ls) el),(a,aw dd (ah ps0++[.ref xp]) ea),(dd,dO Z k i ti de),(xp,an xf xtf (q0::qr) xtq)]++aj ps0):=by
  unfold fK
  simp only [dc,c8]
  exact (pT [[_],[_],[_],[_],[_],_,[_]] [2,3,4,5,6,0,0,0,0,7,8,0,0] [2,3,4,5,6,8,0,0,0,0,0,7,0] rfl)
 have hpost2:∀x:Tok×Nat×Tok×Tok×Nat,([(v,fB vd),(vd,fI Z K m la a e),(la,aa (al ls++[CX.str (S (bh ps0++(xf++q0::qr))) x.1]) (el+1)),(a,aw dd [] x.2.1),(dd,dO Z x.2.2.1 0 x.2.2.2.1 x.2.2.2.2)]++[]).Perm
   ([]++(fK Z v vd la a dd K m e (ls++[(bh ps0++(xf++q0::qr),x.1)],el+1,[],x.2.1,x.2.2.1,0,x.2.2.2.1,x.2.2.2.2)++aj [])):=λx=>by
  unfold fK
  dsimp only
  rw [gt]
  exact C8 _
 cases i with
 | zero=>
  exact ad.to (sS v vd la a dd K m e el ea k ti de ls (by lia) ps0 xp xf xtf q0 qr xtq hneq n0 hn0 (by lia) (by exact lC ‹_› rfl) (by
   rw [ft] at f5
   have:(S (bh ps0++(xf++q0::qr))).cps.all Unicode.isSpace=false:=by
    show (⟨bh ps0++(xf++q0::qr)⟩:Array Nat).all Unicode.isSpace=false
    rw [←List.all_toArray] at f5
    exact f5
   rw [this,F2])) hperm
   (λx=>(ls++[(bh ps0++(xf++q0::qr),x.1)],el+1,[],x.2.1,x.2.2.1,0,x.2.2.2.1,x.2.2.2.2)) (λξ=>[]) λx ξ=>⟨hpost x,rfl,hpost2 x⟩
 | succ i=>
  exact ad.to (vM v vd la a dd K m e el ea k i ti de ls (by lia) ps0 xp xf xtf q0 qr xtq hneq n0 hn0 (by lia) (by exact lC ‹_› rfl)) hperm
   (λx=>(ls++[(bh ps0++(xf++q0::qr),x.1)],el+1,[],x.2.1,x.2.2.1,0,x.2.2.2.1,x.2.2.2.2)) (λξ=>[]) λx ξ=>⟨hpost x,rfl,hpost2 x⟩
theorem uj (v vd la a dd:C1) (K:Vk) (m e:Nat) (s:VS) (tl:Tok) (hs:xt (bi s)) (hj:∀x:VS,bi x=eO (bi s)→((x.1.map (·.1)).map (·.length)).sum+x.1.length * [13,10].length≤CZ):
  ad Z 14 (.o (.call (.ref 64) ⟨[.ref v,.str (S [13,10]) tl],[]⟩)) (fK Z v vd la a dd K m e s) (aj s.2.2.1)
   (X:=VS×Tok) (λx=>bi x.1=eO (bi s)) (λx=>.ok (.ret (.str (S (ap [13,10] (x.1.1.map (·.1)))) x.2))) (λx=>fK Z v vd la a dd K m e x.1) (λx=>aj x.1.2.2.1):=by
 exists 1,ad.of_defB
 exists 1,dx,(sJ v vd la a dd K m e s ‹_›).up rfl,0x132111121112111271167671,69905
 exists 2,dt [13,10] tl la x1.1 x1.2.1 (by apply_assumption <;> assumption),0x1312211121111277,3
 exists az,((x1.1,x1.2.1,x1.2.2.1,x1.2.2.2.1,x1.2.2.2.2.1,x1.2.2.2.2.2.1,x1.2.2.2.2.2.2.1,x1.2.2.2.2.2.2.2),x2),(by rfl),0,69922
theorem xx (v vd la a dd:C1) (K:Vk) (m e:Nat) (s:VS) (tl:Tok) (hs:xt (bi s)) (hj:(((eO (bi s)).2.2).map (·.length)).sum+(eO (bi s)).2.2.length * 2≤CZ):
  ad Z 14 (.o (.call (.ref 64) ⟨[.ref v,.str (S [13,10]) tl],[]⟩)) (fK Z v vd la a dd K m e s) (aj s.2.2.1)
   (X:=VS×Tok) (λξ=>True) (λx=>.ok (.ret (.str (S (ap [13,10] (eO (bi s)).2.2)) x.2))) (λx=>fK Z v vd la a dd K m e x.1) (λx=>aj x.1.2.2.1):=
 ad.to (uj v vd la a dd K m e s tl hs (λx hx=>by
  have e1:x.1.map (·.1)=(eO (bi s)).2.2:=congrArg (·.2.2) hx
  have e2:=congrArg C9 e1
  rw [C2] at e2
  rw [e1,e2];exact hj)) (.refl _) id (λξ=>[]) λx hx=>⟨trivial,by
  have e1:x.1.1.map (·.1)=(eO (bi s)).2.2:=congrArg (·.2.2) hx
  rw [e1];rfl,C8 _⟩
section
theorem gz {F:Fx} {k:Nat} (a:Nat) (t:Tok) (r:Int) (u:Tok) (c:Bool) (h:decide (C4 a > r)=c):af F k (.b 455126529904428302298986 ⟨[.int (.ofNat a) t,.int r u],[]⟩) [] (X:=Unit) (λξ=>True) (λξ=>.ok (.ret (.bool c))) (λξ=>[]) (λξ=>[]):=by
 have:=jg (F:=F) (k:=k) (C4 a) t r u
 rw [h] at this;exact this
noncomputable abbrev Tk:=Tok×Nat×Tok×Tok×Tok
noncomputable abbrev xI (F:Fx) (K:Wk) (x:List Nat) (hd wd:Nat) (pc:C1) (J:Tk) (rw:C1) (r:Int) (tr:Tok) (e:Nat):Obj:=
 bY [en F jk K.1 (.str (S x) K.2.1),en F rc K.2.2.1 (.int (.ofNat hd) K.2.2.2.1),en F iO K.2.2.2.2.1 (.int (.ofNat wd) K.2.2.2.2.2.1),en F jB K.2.2.2.2.2.2 (.ref pc),en F qp J.1 (.int (.ofNat J.2.1) J.2.2.1),en F ym J.2.2.2.1 (.ref rw),en F yo J.2.2.2.2 (.int r tr)] e
noncomputable abbrev kK (F:Fx) (K:Wk) (x:List Nat) (hd wd:Nat) (pc:C1) (J:Tk) (rw:C1) (r:Int) (tr:Tok) (kq:Tok) (q:List Nat) (tq:Tok) (e:Nat):Obj:=
 bY [en F jk K.1 (.str (S x) K.2.1),en F rc K.2.2.1 (.int (.ofNat hd) K.2.2.2.1),en F iO K.2.2.2.2.1 (.int (.ofNat wd) K.2.2.2.2.2.1),en F jB K.2.2.2.2.2.2 (.ref pc),en F qp J.1 (.int (.ofNat J.2.1) J.2.2.1),en F ym J.2.2.2.1 (.ref rw),en F yo J.2.2.2.2 (.int r tr),en F zQ kq (.str (S q) tq)] e
noncomputable abbrev B1:=Int×Tok×Tok×List Nat×Tok×Nat
noncomputable abbrev X2:=B1×Obj×Nat×List (List Nat×Tok)×List Nat×Tok
noncomputable abbrev xu (F:Fx) (K:Wk) (x:List Nat) (hd wd:Nat) (pc:C1) (J:Tk) (rw:C1) (y:B1):Obj:=kK F K x hd wd pc J rw y.1 y.2.1 y.2.2.1 y.2.2.2.1 y.2.2.2.2.1 y.2.2.2.2.2
noncomputable abbrev iE (F:Fx) (L it:C1):CV:=.o (hH (fH F 388 L) (.ref it) (gF F 388 [5]))
noncomputable abbrev mU (F:Fx) (K:Wk) (x:List Nat) (hd wd:Nat) (pc:C1) (J:Tk) (rw:C1) (ps:List CX) (e0:Nat) (y:X2):List Obj:=
 [xu F K x hd wd pc J rw y.1,y.2.1,aa ps e0,aa (al y.2.2.2.1++[.str (S y.2.2.2.2.1) y.2.2.2.2.2]) y.2.2.1]
section
variable (L it pc rw:C1) (K:Wk) (J:Tk) (x:List Nat) (hd wd:Nat) (ps:List CX) (e0:Nat)
theorem wj (r:Int) (tr kq:Tok) (q:List Nat) (tq:Tok) (ef e:Nat) (i:Nat) (hv:ps.length≤i) (ys:List (List Nat×Tok)) (l:List Nat) (tl:Tok):
  af Z 6 (iE Z L it) [(L,kK Z K x hd wd pc J rw r tr kq q tq ef),(it,aS pc i),(pc,aa ps e0),(rw,aa (al ys++[.str (S l) tl]) e)]
   (X:=Nat×Obj) (λξ=>True) (λξ=>.ok .next) (λy=>[kK Z K x hd wd pc J rw r tr kq q tq y.1,y.2,aa ps e0,aa (al ys++[.str (S l) tl]) e]) (λξ=>[]):=by
 exists 0,af.of_codeB
 exists 1,iX it pc i ps e0 ‹_›,787,34
 exists ar,(ef,eS i),21,12565
theorem sG (r:Int) (tr:Tok) (ef e:Nat) (i:Nat) (q:List Nat) (tq:Tok) (hq:ps[i]?=some (.str (S q) tq)) (l:List Nat) (tl:Tok) (ys:List (List Nat×Tok)) (hyl:(al ys).length+1 < 16777216) (hne:(l != [])=false) (hll:l.length+q.length≤CZ) (P:X2→Prop)
  (ih:∀(kq:Tok) (ef e:Nat) (t':Tok),af Z 6 (iE Z L it) [(L,kK Z K x hd wd pc J rw r tr kq q tq ef),(it,aS pc (i+1)),(pc,aa ps e0),(rw,aa (al ys++[.str (S (l++q)) t']) e)] P (λξ=>.ok .next) (mU Z K x hd wd pc J rw ps e0) (λξ=>[])):
  af Z 6 (iE Z L it) [(L,xI Z K x hd wd pc J rw r tr ef),(it,aS pc i),(pc,aa ps e0),(rw,aa (al ys++[.str (S l) tl]) e)] P (λξ=>.ok .next) (mU Z K x hd wd pc J rw ps e0) (λξ=>[]):=by
 have hyl1:(al ys).length < 16777216:=by exact DK ‹_›
 have hcc:([]:List Nat).length+q.length≤CZ:=by show 0+q.length≤CZ;lia
 have hq1:q.length≤CZ:=by lia
 have hyl2:(al ys++[CX.str (S l) tl]).length < 16777216:=by rw [CY];exact hyl
 have hyl3:(al ys++[CX.str (S l) tl]).length≤CZ:=by have:=ab;exact lD ‹_› rfl
 have hl1:l.length≤CZ:=by lia
 exists 0,af.of_codeB
 exists 1,bb it pc i ps e0 (.str (S q) tq) hq,787,34
 exists 2,iu (rw) (al ys) (.str (S l) tl) e (t1+1+1) ‹_›,0x5155511434,4
 exists 3,bv l tl [] t2 _ hne,1,0
 exists 4,iu (rw) (al ys) (.str (S l) tl) e (t3+1) ‹_›,555884821,1
 exists 5,ak l tl q tq ‹_›,21,0
 exists 6,bM (rw) (.type "list") none #[] (al ys) (.str (S l) tl) (.str (S (l++q)) x5) e (t5+1) ‹_›,34742549,1
 exists 7,cy,ih t1 (ef+1) x6 x5,0,4644
 exists ar,((x7.1.1,x7.1.2.1,x7.1.2.2.1,x7.1.2.2.2.1,x7.1.2.2.2.2.1,x7.1.2.2.2.2.2),x7.2.1,x7.2.2.1,x7.2.2.2.1,x7.2.2.2.2.1,x7.2.2.2.2.2),0,4369
theorem AV (r:Int) (tr:Tok) (kq:Tok) (q0:List Nat) (tq0:Tok) (ef e:Nat) (i:Nat) (q:List Nat) (tq:Tok) (hq:ps[i]?=some (.str (S q) tq)) (l:List Nat) (tl:Tok) (ys:List (List Nat×Tok)) (hyl:(al ys).length+1 < 16777216) (hne:(l != [])=false) (hll:l.length+q.length≤CZ) (P:X2→Prop)
  (ih:∀(kq:Tok) (ef e:Nat) (t':Tok),af Z 6 (iE Z L it) [(L,kK Z K x hd wd pc J rw r tr kq q tq ef),(it,aS pc (i+1)),(pc,aa ps e0),(rw,aa (al ys++[.str (S (l++q)) t']) e)] P (λξ=>.ok .next) (mU Z K x hd wd pc J rw ps e0) (λξ=>[])):
  af Z 6 (iE Z L it) [(L,kK Z K x hd wd pc J rw r tr kq q0 tq0 ef),(it,aS pc i),(pc,aa ps e0),(rw,aa (al ys++[.str (S l) tl]) e)] P (λξ=>.ok .next) (mU Z K x hd wd pc J rw ps e0) (λξ=>[]):=by
 have hyl1:(al ys).length < 16777216:=by exact DK ‹_›
 have hcc:([]:List Nat).length+q.length≤CZ:=by show 0+q.length≤CZ;lia
 have hq1:q.length≤CZ:=by lia
 have hyl2:(al ys++[CX.str (S l) tl]).length < 16777216:=by rw [CY];exact hyl
 have hyl3:(al ys++[CX.str (S l) tl]).length≤CZ:=by have:=ab;exact lD ‹_› rfl
 have hl1:l.length≤CZ:=by lia
 exists 0,af.of_codeB
 exists 1,bb it pc i ps e0 (.str (S q) tq) hq,787,34
 exists 2,iu (rw) (al ys) (.str (S l) tl) e (t1+1+1) ‹_›,0x5155511434,4
 exists 3,bv l tl [] t2 _ hne,1,0
 exists 4,iu (rw) (al ys) (.str (S l) tl) e (t3+1) ‹_›,555884821,1
 exists 5,ak l tl q tq ‹_›,21,0
 exists 6,bM (rw) (.type "list") none #[] (al ys) (.str (S l) tl) (.str (S (l++q)) x5) e (t5+1) ‹_›,34742549,1
 exists 7,cy,ih kq ef x6 x5,0,4644
 exists ar,((x7.1.1,x7.1.2.1,x7.1.2.2.1,x7.1.2.2.2.1,x7.1.2.2.2.2.1,x7.1.2.2.2.2.2),x7.2.1,x7.2.2.1,x7.2.2.2.1,x7.2.2.2.2.1,x7.2.2.2.2.2),0,4369
theorem AY (r:Int) (tr:Tok) (kq:Tok) (q0:List Nat) (tq0:Tok) (ef e:Nat) (i:Nat) (q:List Nat) (tq:Tok) (hq:ps[i]?=some (.str (S q) tq)) (l:List Nat) (tl:Tok) (ys:List (List Nat×Tok)) (hyl:(al ys).length+1 < 16777216) (hne:(l != [])=true) (hgt:decide (C4 (l.length+q.length) > r)=false) (hll:l.length+q.length≤CZ) (P:X2→Prop)
  (ih:∀(kq:Tok) (ef e:Nat) (t':Tok),af Z 6 (iE Z L it) [(L,kK Z K x hd wd pc J rw r tr kq q tq ef),(it,aS pc (i+1)),(pc,aa ps e0),(rw,aa (al ys++[.str (S (l++q)) t']) e)] P (λξ=>.ok .next) (mU Z K x hd wd pc J rw ps e0) (λξ=>[])):
  af Z 6 (iE Z L it) [(L,kK Z K x hd wd pc J rw r tr kq q0 tq0 ef),(it,aS pc i),(pc,aa ps e0),(rw,aa (al ys++[.str (S l) tl]) e)] P (λξ=>.ok .next) (mU Z K x hd wd pc J rw ps e0) (λξ=>[]):=by
 have hl1:l.length≤CZ:=by lia
 have hyl1:(al ys).length < 16777216:=by exact DK ‹_›
 have hyl2:(al ys++[CX.str (S l) tl]).length < 16777216:=by rw [CY];exact hyl
 have hyl3:(al ys++[CX.str (S l) tl]).length≤CZ:=by have:=ab;exact lD ‹_› rfl
 have hq1:q.length≤CZ:=by lia
 have hcc:([]:List Nat).length+q.length≤CZ:=by show 0+q.length≤CZ;lia
 exists 0,af.of_codeB
 exists 1,bb it pc i ps e0 (.str (S q) tq) hq,787,34
 exists 2,iu (rw) (al ys) (.str (S l) tl) e (t1+1+1) ‹_›,0x5155511434,4
 exists 3,bv l tl [] t2 _ hne,1,0
 exists 4,iu (rw) (al ys) (.str (S l) tl) e (t3+1) ‹_›,0x2122211511,1
 exists 5,aG l tl ‹_›,1,0
 exists 6,aG q tq ‹_›,5393,0
 exists 7,ba (C9 l) x5 (C9 q) x6,1,0
 exists 8,gz (C9 l+C9 q) x7 r tr _ hgt,21,0
 exists 9,iu (rw) (al ys) (.str (S l) tl) e (t8+1) ‹_›,555884821,1
 exists 10,ak l tl q tq ‹_›,21,0
 exists 11,bM (rw) (.type "list") none #[] (al ys) (.str (S l) tl) (.str (S (l++q)) x10) e (t10+1) ‹_›,34742549,1
 exists 12,cy,ih kq ef x11 x10,0,4644
 exists ar,((x12.1.1,x12.1.2.1,x12.1.2.2.1,x12.1.2.2.2.1,x12.1.2.2.2.2.1,x12.1.2.2.2.2.2),x12.2.1,x12.2.2.1,x12.2.2.2.1,x12.2.2.2.2.1,x12.2.2.2.2.2),0,4369
theorem Aw (r:Int) (tr:Tok) (kq:Tok) (q0:List Nat) (tq0:Tok) (ef e:Nat) (i:Nat) (q:List Nat) (tq:Tok) (hq:ps[i]?=some (.str (S q) tq)) (l:List Nat) (tl:Tok) (ys:List (List Nat×Tok)) (hyl:(al ys).length+1 < 16777216) (hne:(l != [])=true) (hgt:decide (C4 (l.length+q.length) > r)=true) (hll:l.length+q.length≤CZ) (P:X2→Prop)
  (ih:∀(kq tr:Tok) (ef e:Nat) (t':Tok),af Z 6 (iE Z L it) [(L,kK Z K x hd wd pc J rw (C4 wd) tr kq q tq ef),(it,aS pc (i+1)),(pc,aa ps e0),(rw,aa ((al ys++[.str (S l) tl])++[.str (S ([]++q)) t']) e)] P (λξ=>.ok .next) (mU Z K x hd wd pc J rw ps e0) (λξ=>[])):
  af Z 6 (iE Z L it) [(L,kK Z K x hd wd pc J rw r tr kq q0 tq0 ef),(it,aS pc i),(pc,aa ps e0),(rw,aa (al ys++[.str (S l) tl]) e)] P (λξ=>.ok .next) (mU Z K x hd wd pc J rw ps e0) (λξ=>[]):=by
 have hl1:l.length≤CZ:=by lia
 have hyl1:(al ys).length < 16777216:=by exact DK ‹_›
 have hyl2:(al ys++[CX.str (S l) tl]).length < 16777216:=by rw [CY];exact hyl
 have hyl3:(al ys++[CX.str (S l) tl]).length≤CZ:=by have:=ab;exact lD ‹_› rfl
 have hq1:q.length≤CZ:=by lia
 have hcc:([]:List Nat).length+q.length≤CZ:=by show 0+q.length≤CZ;lia
 exists 0,af.of_codeB
 exists 1,bb it pc i ps e0 (.str (S q) tq) hq,787,34
 exists 2,iu (rw) (al ys) (.str (S l) tl) e (t1+1+1) ‹_›,0x5155511434,4
 exists 3,bv l tl [] t2 _ hne,1,0
 exists 4,iu (rw) (al ys) (.str (S l) tl) e (t3+1) ‹_›,0x2122211511,1
 exists 5,aG l tl ‹_›,1,0
 exists 6,aG q tq ‹_›,5393,0
 exists 7,ba (C9 l) x5 (C9 q) x6,1,0
 exists 8,gz (C9 l+C9 q) x7 r tr _ hgt,21,0
 exists 9,dj (rw) (al ys++[.str (S l) tl]) e (.str (S []) t8) ‹_›,34742821,1
 exists 10,iu (rw) (al ys++[.str (S l) tl]) (.str (S []) t8) (e+1) (t9+1+1) ‹_›,0x21222115455,1
 exists 11,ak [] t8 q tq ‹_›,21,0
 exists 12,bM (rw) (.type "list") none #[] (al ys++[.str (S l) tl]) (.str (S []) t8) (.str (S ([]++q)) x11) (e+1) (t11+1) ‹_›,34742549,1
 exists 13,cy,ih kq K.2.2.2.2.2.1 ef x12 x11,0,4644
 exists ar,((x13.1.1,x13.1.2.1,x13.1.2.2.1,x13.1.2.2.2.1,x13.1.2.2.2.2.1,x13.1.2.2.2.2.2),x13.2.1,x13.2.2.1,x13.2.2.2.1,x13.2.2.2.2.1,x13.2.2.2.2.2),0,4369
end
end
section
noncomputable def cS:Nat→List (List Nat)→List Nat→List Nat→List (List Nat)×List Nat
 | _,ys,l,[]=>(ys,l)
 | c0,ys,l,c::r=>if c0=59∧c∈[32,9] then cS c (ys++[l]) [c] r else cS c ys (l++[c]) r
noncomputable def dU (wd:Int):Int→List (List Nat)→List Nat→List (List Nat)→List (List Nat)×List Nat
 | _,ys,l,[]=>(ys,l)
 | r,ys,l,q::qs=>if l≠[]∧C4 (l.length+q.length) > r then dU wd wd (ys++[l]) q qs else dU wd r ys (l++q) qs
section
variable (L it pc:C1) (K:Wk) (x:List Nat) (hd wd:Nat)
theorem h9 (hx:x.length < 8000000):∀(rem:List Nat) (i:Nat) (c0:Nat) (kp:Tok) (n0:Nat) (tp:Tok) (ef e:Nat) (l:List Nat) (tl:Tok) (ys:List (List Nat×Tok)),x.drop (i+1)=rem→x[i]?=some c0→ys.length≤i→l.length≤i+1→
  af Z 6 (kl Z L it) [(L,jw Z K x hd wd pc kp n0 tp ef),(it,aE "range_iterator" [.int (.ofNat (i+1)) 0,.int (.ofNat rem.length) 0,.int 1 0]),(pc,aa (al ys++[.str (S l) tl]) e)]
   (λy:X1=>(y.2.2.2.2.2.2.1.map (·.1),y.2.2.2.2.2.2.2.1)=cS c0 (ys.map (·.1)) l rem) (λξ=>.ok .next) (mr Z K x hd wd pc) (λξ=>[])
 | [],i,c0,kp,n0,tp,ef,e,l,tl,ys,_,_,_,_=>
  af.to (wF L it pc K x hd wd kp n0 tp ef e (i+1) ys l tl) (λy=>(kp,n0,tp,y.1,y.2,e,ys,l,tl)) λy ξ=>⟨rfl,rfl,rfl,rfl⟩
 | c::rem,i,c0,kp,n0,tp,ef,e,l,tl,ys,hd',hc0,hys,hll=>by
  have hs:=ab
  have hc:x[i+1]?=some c:=by
   have:=congrArg (λl=>l[0]?) hd'
   simpa using this
  have hlt:i+1 < x.length:=(Dg.mp hc).1
  have hlc:l.length+[c].length≤CZ:=by simp only [C5,De];lia
  have hd2:x.drop (i+1+1)=rem:=by
   have:=congrArg (DX 1) hd'
   rw [DE] at this
   exact this
  have hsl:(al ys).length+1 < 16777216:=by unfold al;rw [C2];lia
  by_cases h59:c0=59
  ·by_cases hin:c∈[32,9]
   ·refine AG L it pc K x hd wd kp n0 tp ef e i rem.length (by lia) l tl ys hsl c0 c hc0 hc (by rw [h59];rfl) (decide_eq_true hin) hlc _ λkp' tp' ef' e' t'=>?_
    have ih:=h9 hx rem (i+1) c kp' (i+1) tp' ef' e' ([]++[c]) t' (ys++[(l,tl)]) hd2 hc (by rw [CY];simp;lia) (by simp)
    have e1:cS c0 (ys.map (·.1)) l (c::rem)=cS c ((ys++[(l,tl)]).map (·.1)) ([]++[c]) rem:=by
     rw [cS,if_pos ⟨h59,hin⟩,Da];rfl
    rw [e1,bu]
    exact ih
   ·refine Bc L it pc K x hd wd kp n0 tp ef e i rem.length (by lia) l tl ys hsl c0 c hc0 hc (by rw [h59];rfl) (decide_eq_false hin) hlc _ λkp' tp' ef' e' t'=>?_
    have ih:=h9 hx rem (i+1) c kp' (i+1) tp' ef' e' (l++[c]) t' ys hd2 hc (by exact D0 ‹_›) (by rw [CY];simp;lia)
    have e1:cS c0 (ys.map (·.1)) l (c::rem)=cS c (ys.map (·.1)) (l++[c]) rem:=by
     rw [cS,if_neg (λh=>hin h.2)]
    rw [e1]
    exact ih
  ·refine Ae L it pc K x hd wd kp n0 tp ef e i rem.length (by lia) l tl ys hsl c0 c hc0 hc (by simp [h59]) hlc _ λkp' tp' ef' e' t'=>?_
   have ih:=h9 hx rem (i+1) c kp' (i+1) tp' ef' e' (l++[c]) t' ys hd2 hc (by exact D0 ‹_›) (by rw [CY];simp;lia)
   have e1:cS c0 (ys.map (·.1)) l (c::rem)=cS c (ys.map (·.1)) (l++[c]) rem:=by
    rw [cS,if_neg (λh=>h59 h.1)]
   refine e1▸?_
   exact ih
noncomputable def av:List Nat→List (List Nat)
 | []=>[[]]
 | q0::r=>(cS q0 [] [q0] r).1++[(cS q0 [] [q0] r).2]
noncomputable abbrev Y1:=Tok×Nat×Tok×Nat×Obj×Nat×Tok×List (List Nat×Tok)
theorem rm (q0:Nat) (xr:List Nat) (hx:(q0::xr).length < 8000000) (tl:Tok) (ef e:Nat):
  af Z 6 (kl Z L it) [(L,AD Z K (q0::xr) hd wd pc ef),(it,aE "range_iterator" [.int (.ofNat 0) 0,.int (.ofNat (xr.length+1)) 0,.int 1 0]),(pc,aa [.str (S []) tl] e)]
   (λy:Y1=>y.2.2.2.2.2.2.2.map (·.1)=(av (q0::xr)).tail) (λξ=>.ok .next)
   (λy=>[jw Z K (q0::xr) hd wd pc y.1 y.2.1 y.2.2.1 y.2.2.2.1,y.2.2.2.2.1,aa (.str (S ((av (q0::xr)).headD [])) y.2.2.2.2.2.2.1::al y.2.2.2.2.2.2.2) y.2.2.2.2.2.1]) (λξ=>[]):=by
 have hs:=ab
 have S1:=uh L it pc K (q0::xr) hd wd ef e xr.length [] tl [] (by show 0 < _;exact DD _) q0 rfl (by show 0+1≤_;lia) _ λkp tp ef e t'=>
  h9 L it pc K (q0::xr) hd wd hx xr 0 q0 kp 0 tp ef e ([]++[q0]) t' [] rfl rfl (Dh _) (Dh _)
 refine af.to S1 (λy=>(y.1,y.2.1,y.2.2.1,y.2.2.2.1,y.2.2.2.2.1,y.2.2.2.2.2.1,((y.2.2.2.2.2.2.1++[(y.2.2.2.2.2.2.2.1,y.2.2.2.2.2.2.2.2)]).headD ([],0)).2,(y.2.2.2.2.2.2.1++[(y.2.2.2.2.2.2.2.1,y.2.2.2.2.2.2.2.2)]).tail)) λy hy=>?_
 obtain ⟨kp,n,tp,ef,o,e,ys,l,t⟩:=y
 have hy:(ys.map (·.1),l)=cS q0 [] ([]++[q0]) xr:=hy
 have e1:(ys++[(l,t)]).map (·.1)=av (q0::xr):=by
  show _=(cS q0 [] [q0] xr).1++[(cS q0 [] [q0] xr).2]
  rw [←(show (ys.map (·.1),l)=cS q0 [] [q0] xr from hy),Da]
  rfl
 refine ⟨?_,rfl,?_,rfl⟩
 ·simp only [List.map_tail,e1]
 ·show [_,_,aa (.str (S ((av (q0::xr)).headD [])) ((ys++[(l,t)]).headD ([],0)).2::al (ys++[(l,t)]).tail) e]=[_,_,aa (al ys++[.str (S l) t]) e]
  simp only [←e1,bu]
  cases ys with
  | nil=>rfl
  | cons z zs=>rfl
end
section
variable (L it pc rw:C1) (K:Wk) (J:Tk) (x:List Nat) (hd wd:Nat) (e0:Nat)
theorem iv (all:List (List Nat×Tok)) (ps:List CX) (hps:ps=al all) (N:Nat) (hN:(all.map (·.1.length)).sum≤N) (hN2:2 * N+all.length < 8000000):∀(rem:List (List Nat×Tok)) (i:Nat) (r:Int) (tr kq:Tok) (q:List Nat) (tq:Tok) (ef e:Nat) (l:List Nat) (tl:Tok) (ys:List (List Nat×Tok)),
  all.drop i=rem→ys.length≤i+1→l.length+(rem.map (·.1.length)).sum≤N→
  af Z 6 (iE Z L it) [(L,kK Z K x hd wd pc J rw r tr kq q tq ef),(it,aS pc i),(pc,aa ps e0),(rw,aa (al ys++[.str (S l) tl]) e)]
   (λy:X2=>(y.2.2.2.1.map (·.1),y.2.2.2.2.1)=dU (C4 wd) r (ys.map (·.1)) l (rem.map (·.1))) (λξ=>.ok .next) (mU Z K x hd wd pc J rw ps e0) (λξ=>[])
 | [],i,r,tr,kq,q,tq,ef,e,l,tl,ys,hdr,_,_=>by
  have hv:ps.length≤i:=by rw [hps];unfold al;rw [C2];exact Dx.mp hdr
  exact af.to (wj L it pc rw K J x hd wd ps e0 r tr kq q tq ef e i hv ys l tl) (λy=>((r,tr,kq,q,tq,y.1),y.2,e,ys,l,tl)) λy ξ=>⟨rfl,rfl,rfl,rfl⟩
 | (p,tp)::rem,i,r,tr,kq,q,tq,ef,e,l,tl,ys,hdr,hys,hsum=>by
  have hs:=ab
  have hi:all[i]?=some (p,tp):=by
   have:=congrArg (λl=>l[0]?) hdr
   simpa using this
  have hlt:i < all.length:=(Dg.mp hi).1
  have hsl:(al ys).length+1 < 16777216:=by unfold al;rw [C2];lia
  have hd2:all.drop (i+1)=rem:=by
   have:=congrArg (DX 1) hdr
   rw [DE] at this
   exact this
  have hq:ps[i]?=some (.str (S p) tp):=by rw [hps];unfold al;rw [Dv,hi];rfl
  simp only [Dd,DC] at hsum
  have hsum:l.length+(p.length+(rem.map (·.1.length)).sum)≤N:=hsum
  have hlq:l.length+p.length≤CZ:=by lia
  by_cases hne:l=[]
  ·refine AV L it pc rw K J x hd wd ps e0 r tr kq q tq ef e i p tp hq l tl ys hsl (by subst hne;rfl) hlq _ λkq' ef' e' t'=>?_
   have ih:=iv all ps hps N hN hN2 rem (i+1) r tr kq' p tp ef' e' (l++p) t' ys hd2 (by exact D0 ‹_›) (by rw [CY];lia)
   have e1:dU (C4 wd) r (ys.map (·.1)) l (((p,tp)::rem).map (·.1))=dU (C4 wd) r (ys.map (·.1)) (l++p) (rem.map (·.1)):=by
    rw [Dd,dU,if_neg (λh=>h.1 hne)]
   refine e1▸?_
   exact ih
  ·have hne':(l != [])=true:=by simp [hne]
   by_cases hgt:C4 (l.length+p.length) > r
   ·refine Aw L it pc rw K J x hd wd ps e0 r tr kq q tq ef e i p tp hq l tl ys hsl hne' (decide_eq_true hgt) hlq _ λkq' tr' ef' e' t'=>?_
    have ih:=iv all ps hps N hN hN2 rem (i+1) (C4 wd) tr' kq' p tp ef' e' ([]++p) t' (ys++[(l,tl)]) hd2 (by rw [CY];simp;lia) (by simp only [DF];lia)
    have e1:dU (C4 wd) r (ys.map (·.1)) l (((p,tp)::rem).map (·.1))=dU (C4 wd) (C4 wd) ((ys++[(l,tl)]).map (·.1)) ([]++p) (rem.map (·.1)):=by
     rw [Dd,dU,if_pos ⟨hne,hgt⟩,Da];rfl
    rw [e1,bu]
    exact ih
   ·refine AY L it pc rw K J x hd wd ps e0 r tr kq q tq ef e i p tp hq l tl ys hsl hne' (decide_eq_false hgt) hlq _ λkq' ef' e' t'=>?_
    have ih:=iv all ps hps N hN hN2 rem (i+1) r tr kq' p tp ef' e' (l++p) t' ys hd2 (by exact D0 ‹_›) (by rw [CY];lia)
    have e1:dU (C4 wd) r (ys.map (·.1)) l (((p,tp)::rem).map (·.1))=dU (C4 wd) r (ys.map (·.1)) (l++p) (rem.map (·.1)):=by
     rw [Dd,dU,if_neg (λh=>hgt h.2)]
    refine e1▸?_
    exact ih
noncomputable abbrev Y2:=B1×Obj×Nat×List (List Nat×Tok)
theorem rM (p0:List Nat) (t0:Tok) (rest:List (List Nat×Tok)) (ys:List (List Nat×Tok)) (hys:ys.length≤1) (N:Nat) (hN:(((p0,t0)::rest).map (·.1.length)).sum≤N) (hN2:2 * N+(rest.length+1) < 8000000) (r:Int) (tr:Tok) (ef e:Nat) (tl:Tok):
  af Z 6 (iE Z L it) [(L,xI Z K x hd wd pc J rw r tr ef),(it,aS pc 0),(pc,aa (.str (S p0) t0::al rest) e0),(rw,aa (al ys++[.str (S []) tl]) e)]
   (λy:Y2=>y.2.2.2.map (·.1)=(dU (C4 wd) r (ys.map (·.1)) p0 (rest.map (·.1))).1++[(dU (C4 wd) r (ys.map (·.1)) p0 (rest.map (·.1))).2]) (λξ=>.ok .next) (λy=>[xu Z K x hd wd pc J rw y.1,y.2.1,aa (.str (S p0) t0::al rest) e0,aa (al y.2.2.2) y.2.2.1]) (λξ=>[]):=by
 have hs:=ab
 have hN':=hN
 simp only [Dd,DC] at hN'
 have hN':p0.length+(rest.map (·.1.length)).sum≤N:=hN'
 have S1:=sG L it pc rw K J x hd wd (.str (S p0) t0::al rest) e0 r tr ef e 0 p0 t0 rfl [] tl ys (by unfold al;rw [C2];lia) rfl (by show 0+p0.length≤_;lia) _ λkq' ef' e' t'=>
  iv L it pc rw K J x hd wd e0 ((p0,t0)::rest) (.str (S p0) t0::al rest) rfl N hN hN2 rest (0+1) r tr kq' p0 t0 ef' e' ([]++p0) t' ys rfl (by exact lB ‹_› rfl) hN'
 refine af.to S1 (λy=>(y.1,y.2.1,y.2.2.1,y.2.2.2.1++[(y.2.2.2.2.1,y.2.2.2.2.2)])) λy hy=>?_
 obtain ⟨o1,o2,e,zs,l,t⟩:=y
 have hy:(zs.map (·.1),l)=dU (C4 wd) r (ys.map (·.1)) p0 (rest.map (·.1)):=hy
 refine ⟨?_,rfl,?_,rfl⟩
 ·show (zs++[(l,t)]).map (·.1)=_
  rw [←hy,Da];rfl
 ·show [_,_,_,aa (al (zs++[(l,t)])) e]=[_,_,_,aa (al zs++[.str (S l) t]) e]
  simp only [bu]
noncomputable def aL (wd:Nat) (r:Int) (ys:List (List Nat)) (p0:List Nat) (qs:List (List Nat)):List (List Nat):=
 (dU (C4 wd) r ys p0 qs).1++[(dU (C4 wd) r ys p0 qs).2]
theorem vI (p0:List Nat) (t0:Tok) (rest:List (List Nat×Tok)) (qs:List (List Nat)) (hr:rest.map (·.1)=qs) (hN:p0.length+(qs.map C9).sum≤2000000) (hq:qs.length≤2000000) (r:Int) (tr:Tok) (ef e:Nat) (tl:Tok):
  af Z 6 (iE Z L it) [(L,xI Z K x hd wd pc J rw r tr ef),(it,aS pc 0),(pc,aa (.str (S p0) t0::al rest) e0),(rw,aa [.str (S []) tl] e)]
   (λy:Y2=>y.2.2.2.map (·.1)=aL wd r [] p0 qs) (λξ=>.ok .next) (λy=>[xu Z K x hd wd pc J rw y.1,y.2.1,aa (.str (S p0) t0::al rest) e0,aa (al y.2.2.2) y.2.2.1]) (λξ=>[]):=by
 subst hr
 have hl:(rest.map (·.1)).map C9=rest.map (·.1.length):=by simp only [DV];rfl
 rw [hl] at hN
 simp only [C2] at hq
 exact rM L it pc rw K J x hd wd e0 p0 t0 rest [] (Du _) 2000000 (by simp only [Dd,DC];exact hN) (by lia) r tr ef e tl
theorem uq (p0:List Nat) (t0:Tok) (rest:List (List Nat×Tok)) (qs:List (List Nat)) (hr:rest.map (·.1)=qs) (hN:p0.length+(qs.map C9).sum≤2000000) (hq:qs.length≤2000000) (r:Int) (tr:Tok) (ef e:Nat) (ta tl:Tok):
  af Z 6 (iE Z L it) [(L,xI Z K x hd wd pc J rw r tr ef),(it,aS pc 0),(pc,aa (.str (S p0) t0::al rest) e0),(rw,aa [.str (S []) ta,.str (S []) tl] e)]
   (λy:Y2=>y.2.2.2.map (·.1)=aL wd r [[]] p0 qs) (λξ=>.ok .next) (λy=>[xu Z K x hd wd pc J rw y.1,y.2.1,aa (.str (S p0) t0::al rest) e0,aa (al y.2.2.2) y.2.2.1]) (λξ=>[]):=by
 subst hr
 have hl:(rest.map (·.1)).map C9=rest.map (·.1.length):=by simp only [DV];rfl
 rw [hl] at hN
 simp only [C2] at hq
 exact rM L it pc rw K J x hd wd e0 p0 t0 rest [([],ta)] (Dh _) 2000000 (by simp only [Dd,DC];exact hN) (by lia) r tr ef e tl
end
end
end
section
open PySem
noncomputable abbrev e8:=List Nat×List Nat
noncomputable def dZ (x:List Nat):Bool:=x.getLast? == some 59
noncomputable def cO:List e8→e8→List e8→List (List e8)
 | p,z,[]=>[p++[z]]
 | p,z,c::cs=>if dZ z.2=true then (p++[z])::cO [] c cs else cO (p++[z]) c cs
noncomputable def tQ (x:e8):Prop:=x.2≠[]∧∀a∈x.2,Unicode.isSpace a=false
theorem d4 (a b:List e8):aD (a++b)=aD a++aD b:=by unfold aD;rw [Eb]
theorem di (z:e8):aD [z]=z.1++z.2:=by unfold aD;simp
theorem d7 (z:e8) (l:List e8):aD (z::l)=(z.1++z.2)++aD l:=by unfold aD;simp
theorem be (a b:List e8):bS (a++b)=bS a+bS b:=by unfold bS;simp only [Da,EQ]
theorem bc (z:e8):bS [z]=z.1.length+z.2.length:=by unfold bS;simp
theorem dh (z:e8) (l:List e8):bS (z::l)=(z.1.length+z.2.length)+bS l:=by unfold bS;simp
theorem br:∀l:List e8,(aD l).length=bS l
 | []=>rfl
 | z::l=>by simp only [d7,dh,CY,CY,br l]
theorem mf:∀l:List e8,(∀x∈l,tQ x)→l.length≤bS l
 | [],_=>Du _
 | z::l,h=>by
  have h1:=mf l (λx hx=>h x (.tail _ hx))
  have h2:=Em.mpr (h z (.head _)).1
  simp only [dh,C5];lia
theorem l3 (l r:List e8):∀j,j≤l.length→ck (l++r) j=ck l j
 | 0,_=>rfl
 | j+1,h=>by
  unfold ck
  rw [EZ (by lia),l3 l r j (by exact FE ‹_›)]
theorem jR (l p:List e8) (hp:∀x∈p,dZ x.2=false):∀j,j≤p.length→ck (l++p) (l.length+j)=ck l l.length
 | 0,_=>l3 l p _ (Dh _)
 | j+1,h=>by
  have ih:=jR l p hp j (by exact FE ‹_›)
  have hj:j < p.length:=by exact EK (Nat.lt_succ_self _) ‹_›
  have he:=hp _ (Fg hj)
  rw [←ER]
  unfold ck
  rw [FB (by exact Gm _ _),E5,DB hj]
  unfold dZ at he
  dsimp only
  rw [he,if_neg (by simp),ih]
  cases l with
  | nil=>rfl
  | cons a l=>rfl
theorem gT (l:List e8) (z:e8) (h:dZ z.2=true):ck (l++[z]) (l++[z]).length=(l++[z]).length:=by
 rw [CY]
 show ck (l++[z]) (l.length+1)=l.length+1
 unfold ck
 rw [FB (by exact Dh _),GM]
 unfold dZ at h
 show (if (z.2.getLast? == some 59)=true then _ else _)=_
 rw [if_pos h]
theorem kc:∀(cs:List e8) (p:List e8) (z:e8),∃more rest,cO p z cs=(p++[z]++more)::rest
 | [],p,z=>⟨[],[],by simp only [cO,Dm]⟩
 | c::cs,p,z=>by
  unfold cO
  by_cases h:dZ z.2=true
  ·rw [if_pos h];exact ⟨[],_,by rw [Dm]⟩
  ·rw [if_neg h]
   obtain ⟨more,rest,e⟩:=kc cs (p++[z]) c
   exact ⟨[c]++more,rest,by rw [e,C6 (p++[z])]⟩
theorem lv (m:Nat) (r:Int) (ls:List (List Nat)) (T P:List Nat) (rest:List (List Nat)) (hT:T≠[]) (hl:C4 (T.length+P.length) > r):
  dU (C4 m) r ls T (P::rest)=dU (C4 m) (C4 m) (ls++[T]) [] (P::rest):=by
 rw [dU,if_pos ⟨hT,hl⟩,dU,if_neg (λh=>h.1 rfl),DF]
theorem fL (m:Nat) (r:Int) (ls:List (List Nat)) (T P:List Nat) (rest:List (List Nat)) (h:T=[]∨¬C4 (T.length+P.length) > r):
  dU (C4 m) r ls T (P::rest)=dU (C4 m) r ls (T++P) rest:=by
 rw [dU,if_neg (λhh=>h.elim (λe=>hh.1 e) λe=>e hh.2)]
structure sp (m:Nat) (s:PS) (cs:List e8) (rows:List (List Nat)):Prop where
 ok:z2 m s cs
 fin:xt (jt m s cs)
 rows:(eO (jt m s cs)).2.2=rows
theorem sp.step {m:Nat} {s s':PS} {c:e8} {cs:List e8} {rows:List (List Nat)} (h1:oO m s c) (h2:qf s c) (h3:b5 m s c=s') (h:sp m s' cs rows):sp m s (c::cs) rows:=by
 subst h3
 exact ⟨⟨h1,h2,h.ok⟩,h.fin,h.rows⟩
theorem no (R:List e8) (y:e8) (h:y.2≠[]):aD (R++[y])≠[]:=by
 simp only [d4,di]
 intro e
 have:=congrArg C9 e
 simp at this
 exact h this.2.2
theorem zE (m N:Nat) (hN:N≤800000):∀(cs R p:List e8) (z:e8) (i:Nat) (ls:List (List Nat)),
  (∀x∈cs,tQ x)→(∀x∈R,tQ x)→(∀x∈p,tQ x)→tQ z→(∀x∈p,dZ x.2=false)→(R=[]∨∃R' y,R=R'++[y]∧dZ y.2=true)→
  (i+bS (R++(p++[z]))≤m∨(R=[]∧i=0))→(i=0∨R≠[]∨dZ z.2=true∨cs=[])→
  i+(bS (R++(p++[z]))+bS cs)≤N→ls.length+cs.length≤N→
  sp m (i,R++(p++[z]),ls) cs (aL m (C4 m - C4 i) ls (aD R) ((cO p z cs).map aD))
 | [],R,p,z,i,ls,_,hR,hp,hz,_,_,hfit,_,hn1,hn2=>by
  have hall:∀x∈R++(p++[z]),tQ x:=by
   intro x hx
   rcases DA.mp hx with h | h
   ·exact hR x h
   rcases DA.mp h with h | h
   ·exact hp x h
   ·rw [Dl.mp h];exact hz
  refine ⟨trivial,⟨?_,?_,?_,?_,?_⟩,?_⟩
  ·show i+bS (R++(p++[z])) < _
   lia
  ·show (R++(p++[z])).length < 900000
   have:=mf _ hall
   lia
  ·show ls.length < _
   simp only [De] at hn2
   lia
  ·obtain ⟨q0,qr,e⟩:=Di hz.1
   refine ⟨R++p,z.1,q0,qr,?_⟩
   show R++(p++[z])=_
   rw [←e,C6]
  ·show (aD (R++(p++[z]))).all Unicode.isSpace=false
   rw [←C6,d4,di,Gx,Gx]
   obtain ⟨q0,qr,e⟩:=Di hz.1
   have h0:=hz.2 q0 (by rw [e];exact .head _)
   simp only [e,List.all_cons,h0]
   simp
  ·show ls++[aD (R++(p++[z]))]=aL _ _ _ _ [aD (p++[z])]
   unfold aL
   rw [fL _ _ _ _ _ _ ?_,dU,d4]
   rcases hfit with h | h
   ·right
    simp only [br,br]
    rw [be] at h
    simp only [Dz]
    lia
   ·left;rw [h.1];rfl
 | c::cs,R,p,z,i,ls,hcs,hR,hp,hz,hpe,hRe,hfit,hone,hn1,hn2=>by
  have hc:=hcs c (.head _)
  have hcs':∀x∈cs,tQ x:=λx hx=>hcs x (.tail _ hx)
  have hpz:∀x∈p++[z],tQ x:=by
   intro x h
   rcases DA.mp h with h | h
   ·exact hp x h
   ·rw [Dl.mp h];exact hz
  have hall:∀x∈R++(p++[z]),tQ x:=by
   intro x hx
   rcases DA.mp hx with h | h
   ·exact hR x h
   ·exact hpz x h
  rw [dh] at hn1
  simp only [C5] at hn2
  have hlen:=mf _ hall
  have hfitA:qf (i,R++(p++[z]),ls) c:=by
   refine ⟨?_,?_,?_,λx hx=>(hall x hx).1,hc.1⟩
   ·show i+(bS (R++(p++[z]))+(c.1.length+c.2.length)) < _
    lia
   ·show (R++(p++[z])).length < _
    lia
   ·show ls.length < _
    lia
  have hcan:¬(dZ z.2=true)→R=[]→i=0:=λh1 h2=>by
   rcases hone with h | h | h | h
   ·exact h
   ·exact absurd h2 h
   ·exact absurd h h1
   ·cases h
  have hfz:∀x∈p++[z],¬(dZ z.2=true)→dZ x.2=false:=by
   intro x h he
   rcases DA.mp h with h | h
   ·exact hpe x h
   ·rw [Dl.mp h]
    cases hq:dZ z.2 with
    | true=>exact absurd hq he
    | false=>rfl
  have hskip:¬(dZ z.2=true)→ck (R++(p++[z])) (R++(p++[z])).length=ck R R.length:=λh=>by
   rw [CY]
   exact jR R (p++[z]) (λx hx=>hfz x hx h) _ (Dh _)
  have hRf:R≠[]→ck R R.length=R.length∧0 < R.length∧aD R≠[]:=λh=>by
   rcases hRe with e | ⟨R',y,e,he⟩
   ·exact absurd e h
   ·subst e
    refine ⟨gT R' y he,by simp,no R' y ?_⟩
    exact (hR y (by simp)).1
  have hCan:oO m (i,R++(p++[z]),ls) c:=by
   intro _ h2 h3
   have h2:ck (R++(p++[z])) (R++(p++[z])).length=0:=h2
   have h3:i≠0:=h3
   exfalso
   by_cases he:dZ z.2=true
   ·rw [←C6,gT _ _ he] at h2
    simp at h2
   ·rw [hskip he] at h2
    by_cases hr:R=[]
    ·exact h3 (hcan he hr)
    ·have:=hRf hr
     lia
  by_cases hex:i+(bS (R++(p++[z]))+(c.1.length+c.2.length)) > m
  ·by_cases he:dZ z.2=true
   ·
    have hst:b5 m (i,R++(p++[z]),ls) c=(0,[]++([]++[c]),ls++[aD (R++(p++[z]))]):=by
     have hf:ck (R++(p++[z])) (R++(p++[z])).length=(R++(p++[z])).length:=by
      have:=gT (R++p) z he
      rw [C6] at this
      exact this
     unfold b5
     rw [if_pos hex,hf,if_neg (by simp),List.drop_length,List.take_length]
     rfl
    refine sp.step hCan hfitA hst ?_
    have ih:=zE m N hN cs [] [] c 0 (ls++[aD (R++(p++[z]))]) hcs' (λξ h=>by cases h) (λξ h=>by cases h) hc (λξ h=>by cases h) (.inl rfl) (.inr ⟨rfl,rfl⟩) (.inl rfl)
     (by show 0+(bS [c]+_)≤_;rw [bc];lia) (by rw [CY];show _+1+_≤_;lia)
    have e:aL m (C4 m - C4 i) ls (aD R) ((cO p z (c::cs)).map aD)=aL m (C4 m - C4 0) (ls++[aD (R++(p++[z]))]) (aD []) ((cO [] c cs).map aD):=by
     obtain ⟨more,rest,hg⟩:=kc cs [] c
     unfold aL
     rw [cO,if_pos he,hg,Dd,fL _ _ _ _ _ _ ?_,←d4,Dd,lv _ _ _ _ _ _ ?_ ?_]
     ·rw [show C4 m - C4 0=C4 m from Gh _];rfl
     ·rw [←C6];exact no _ _ hz.1
     ·simp only [br,br,be ([]++[c])]
      show C4 (_+(bS [c]+_)) > _
      rw [bc]
      simp only [Dz]
      lia
     ·rcases hfit with h | h
      ·right
       simp only [br,br]
       rw [be] at h
       simp only [Dz]
       lia
      ·left;rw [h.1];rfl
    simp only [e]
    exact ih
   ·by_cases hr:R=[]
    ·
     have hi:=hcan he hr
     subst hr;subst hi
     have hst:b5 m (0,[]++(p++[z]),ls) c=(0,[]++((p++[z])++[c]),ls):=by
      have hf:=hskip he
      unfold b5
      rw [if_pos hex,hf,if_pos (by rfl),if_pos rfl]
      simp
     refine sp.step hCan hfitA hst ?_
     have ih:=zE m N hN cs [] (p++[z]) c 0 ls hcs' hR hpz hc (λx hx=>hfz x hx he) (.inl rfl) (.inr ⟨rfl,rfl⟩) (.inl rfl)
      (by rw [DF,be,bc];simp only [DF] at hn1;lia) (by lia)
     rw [cO,if_neg he]
     exact ih
    ·
     obtain ⟨h1,h2,h3⟩:=hRf hr
     have hst:b5 m (i,R++(p++[z]),ls) c=(0,[]++((p++[z])++[c]),ls++[aD R]):=by
      have hf:=hskip he
      unfold b5
      rw [if_pos hex,hf,h1,if_neg (by exact Gd ‹_›),List.drop_left,List.take_left]
      simp
     refine sp.step hCan hfitA hst ?_
     have ih:=zE m N hN cs [] (p++[z]) c 0 (ls++[aD R]) hcs' (λξ h=>by cases h) hpz hc (λx hx=>hfz x hx he) (.inl rfl) (.inr ⟨rfl,rfl⟩) (.inl rfl)
      (by rw [DF,be,bc];rw [be] at hn1;lia) (by rw [CY];show _+1+_≤_;lia)
     have e:aL m (C4 m - C4 i) ls (aD R) ((cO p z (c::cs)).map aD)=aL m (C4 m - C4 0) (ls++[aD R]) (aD []) ((cO (p++[z]) c cs).map aD):=by
      obtain ⟨more,rest,hg⟩:=kc cs (p++[z]) c
      unfold aL
      rw [cO,if_neg he,hg,Dd,lv _ _ _ _ _ _ h3 ?_]
      ·rw [show C4 m - C4 0=C4 m from Gh _];rfl
      ·simp only [br,br,be (p++[z]++[c]),be (p++[z]),bc]
       rw [be] at hex
       simp only [Dz]
       lia
     simp only [e]
     exact ih
  ·by_cases he:dZ z.2=true
   ·have hst:b5 m (i,R++(p++[z]),ls) c=(i,(R++(p++[z]))++([]++[c]),ls):=by
     unfold b5
     rw [if_neg hex,DF]
    refine sp.step hCan hfitA hst ?_
    have ih:=zE m N hN cs (R++(p++[z])) [] c i ls hcs' hall (λξ h=>by cases h) hc (λξ h=>by cases h) (.inr ⟨R++p,z,(C6 _ _ _).symm,he⟩) (.inl ?_) (.inr (.inl (by simp)))
     (by rw [DF,be (R++(p++[z])),bc];lia) (by lia)
    ·have e:aL m (C4 m - C4 i) ls (aD R) ((cO p z (c::cs)).map aD)=aL m (C4 m - C4 i) ls (aD (R++(p++[z]))) ((cO [] c cs).map aD):=by
      unfold aL
      rw [cO,if_pos he,Dd,fL _ _ _ _ _ _ ?_,←d4]
      rcases hfit with h | h
      ·right
       rw [br,br]
       rw [be] at h
       simp only [Dz]
       lia
      ·left;rw [h.1];rfl
     rw [e]
     exact ih
    ·rw [DF,be (R++(p++[z])),bc];exact Gn ‹_›
   ·have hst:b5 m (i,R++(p++[z]),ls) c=(i,R++((p++[z])++[c]),ls):=by
     unfold b5
     rw [if_neg hex,C6 R]
    refine sp.step hCan hfitA hst ?_
    have ih:=zE m N hN cs R (p++[z]) c i ls hcs' hR hpz hc (λx hx=>hfz x hx he) hRe (.inl ?_) ?_
     (by rw [←C6 R,be (R++(p++[z])),bc];lia) (by lia)
    ·rw [cO,if_neg he]
     exact ih
    ·rw [←C6 R,be (R++(p++[z])),bc];exact Gn ‹_›
    ·by_cases hr:R=[]
     ·exact .inl (hcan he hr)
     ·exact .inr (.inl hr)
noncomputable def Bp (c:e8):Prop:=c.1≠[]∧(∀a∈c.1,aA a=true)∧c.2≠[]∧∀a∈c.2,aA a=false
theorem lI {a:Nat}:a∈[32,9]↔aA a=true:=by unfold aA;simp
theorem kW:∀(u:List Nat) (d:Nat) (ys:List (List Nat)) (l r:List Nat),(∀a∈u,aA a=false)→cS d ys l (u++r)=cS (u.getLast?.getD d) ys (l++u) r
 | [],d,ys,l,r,_=>by simp only [DF,Dm];rfl
 | a::u,d,ys,l,r,h=>by
  have ha:=h a (.head _)
  rw [Ff,cS,if_neg (λhh=>by rw [lI,ha] at hh;cases hh.2),kW u a ys (l++[a]) r (λx hx=>h x (.tail _ hx)),C6]
  congr 1
  cases u with
  | nil=>rfl
  | cons b u=>rw [FL];simp [DS]
theorem m5 {a:Nat} (h:aA a=true):a≠59:=by
 intro e;rw [e] at h;revert h;decide
theorem lP:∀(u:List Nat) (d:Nat) (ys:List (List Nat)) (l r:List Nat),d≠59→(∀a∈u,aA a=true)→∃d',cS d ys l (u++r)=cS d' ys (l++u) r
 | [],d,ys,l,r,_,_=>⟨d,by simp only [DF,Dm]⟩
 | a::u,d,ys,l,r,hd,h=>by
  have ha:=h a (.head _)
  obtain ⟨d',e⟩:=lP u a ys (l++[a]) r (m5 ha) (λx hx=>h x (.tail _ hx))
  exact ⟨d',by rw [Ff,cS,if_neg (λhh=>hd hh.1),e,C6];rfl⟩
theorem l4 {u:List Nat} (h:u≠[]) (d:Nat):dZ u=true↔u.getLast?.getD d=59:=by
 unfold dZ
 rw [DS h];simp
theorem mF:∀(cs p:List e8) (z:e8) (d:Nat) (ys:List (List Nat)),(∀c∈cs,Bp c)→z.2≠[]→
  (cS (z.2.getLast?.getD d) ys (aD (p++[z])) (aD cs)).1++[(cS (z.2.getLast?.getD d) ys (aD (p++[z])) (aD cs)).2]=ys++(cO p z cs).map aD
 | [],p,z,d,ys,_,_=>rfl
 | c::cs,p,z,d,ys,hcs,hz=>by
  refine gg λG hG=>?_;obtain ⟨h1,h2,h3,h4⟩:=hcs c (.head _);refine hG ?_
  have hcs':∀x∈cs,Bp x:=λx hx=>hcs x (.tail _ hx)
  obtain ⟨b,bs,eb⟩:=Di h1
  have hb:aA b=true:=h2 b (by rw [eb];exact .head _)
  have hbs:∀a∈bs,aA a=true:=λa ha=>h2 a (by rw [eb];exact .tail _ ha)
  have key:∀ys l,∃d',cS b ys (l++[b]) (bs++(c.2++aD cs))=cS (c.2.getLast?.getD d') ys (l++(c.1++c.2)) (aD cs):=λys l=>by
   obtain ⟨d',e⟩:=lP bs b ys (l++[b]) (c.2++aD cs) (m5 hb) hbs
   refine ⟨d',?_⟩
   rw [e,kW _ _ _ _ _ h4,eb]
   simp
  have et:aD (c::cs)=b::(bs++(c.2++aD cs)):=by
   rw [d7,eb];simp
  refine et▸?_
  by_cases he:dZ z.2=true
  ·have e59:=(l4 hz d).mp he
   rw [e59,cS,if_pos ⟨rfl,lI.mpr hb⟩]
   obtain ⟨d',e⟩:=key (ys++[aD (p++[z])]) []
   simp only [DF,DF] at e
   rw [e]
   have ih:=mF cs [] c d' (ys++[aD (p++[z])]) hcs' h3
   rw [DF,di] at ih
   rw [ih,cO,if_pos he,C6]
   rfl
  ·have e59:z.2.getLast?.getD d≠59:=λh=>he ((l4 hz d).mpr h)
   rw [cS,if_neg (λhh=>e59 hh.1)]
   obtain ⟨d',e⟩:=key ys (aD (p++[z]))
   rw [e]
   have ih:=mF cs (p++[z]) c d' ys hcs' h3
   rw [d4 (p++[z]),di] at ih
   rw [ih,cO,if_neg he]
theorem kL (w0:List Nat) (cs:List e8) (h0:w0≠[]) (hb:∀a∈w0,aA a=false) (hcs:∀c∈cs,Bp c):av (w0++aD cs)=(cO [] ([],w0) cs).map aD:=by
 obtain ⟨q0,r,rfl⟩:=Di h0
 have ih:=mF cs [] ([],q0::r) q0 [] hcs (by simp)
 have hr:∀a∈r,aA a=false:=λa ha=>hb a (.tail _ ha)
 simp only [DF,di,DF] at ih
 show (cS q0 [] [q0] (r++aD cs)).1++[(cS q0 [] [q0] (r++aD cs)).2]=_
 rw [kW r q0 [] [q0] (aD cs) hr]
 have:(q0::r).getLast?.getD q0=r.getLast?.getD q0:=by
  cases r with
  | nil=>rfl
  | cons b u=>simp only [FL]
 rw [this] at ih
 exact ih
theorem iq:∀(n:Nat) (f l:List Nat),l.length≤n→(∀c∈l.head?,aA c=false)→(∀c∈l.getLast?,aA c=false)→l≠[]→
  ∃w cs,ku (f::bz n l)=(f,w)::cs∧w≠[]∧(∀a∈w,aA a=false)∧(∀c∈cs,Bp c)∧l=w++aD cs
 | 0,f,l,hl,_,_,hne=>absurd (EG.mp (GO.mp hl)) hne
 | n+1,f,l,hl,hh,ht,hne=>by
  by_cases h:l.all (λc=>!aA c)=true
  ·refine ⟨l,[],?_,hne,λa ha=>?_,λc hc=>(by cases hc),?_⟩
   ·unfold bz;rw [if_pos h];rfl
   ·have:=EW.mp h a ha
    simpa using this
   ·show l=l++[];rw [Dm]
  ·refine gg λG hG=>?_;obtain ⟨w,bl,rest,e1,e2,e3,el,h1,h2,h3,h4⟩:=lE l h;refine hG ?_
   have hw:w≠[]:=by
    intro e
    refine gg λG hG=>?_;obtain ⟨b,bs,eb⟩:=Di h1;refine hG ?_
    have:=hh b (by simp only [el,e,eb];rfl)
    have this:=(h2 b (by rw [eb];exact .head _))▸this
    cases this
   have hr:rest≠[]:=by
    intro e
    have hlb:=DS h1
    have:=ht (bl.getLast h1) (by
     simp only [el,e,Dm,Fl,hlb];rfl)
    have this:=(h2 _ (List.getLast_mem h1))▸this
    cases this
   have hlr:rest.length≤n:=by
    have:=congrArg C9 el
    simp only [CY] at this
    have:=Em.mpr h1
    lia
   refine gg λG hG=>?_;obtain ⟨w',cs,g1,g2,g3,g4,g5⟩:=iq n bl rest hlr h3 (λc hc=>ht c (by
    rw [el,Fl,DS hr]
    rw [DS hr] at hc
    exact hc)) hr;refine hG ?_
   refine ⟨w,(bl,w')::cs,?_,hw,h4,λc hc=>?_,?_⟩
   ·unfold bz
    rw [if_neg h,e1,e2,e3]
    show (f,w)::ku (bl::bz n rest)=_
    rw [g1]
   ·rcases Ei.mp hc with rfl | hc
    ·exact ⟨h1,h2,g2,g3⟩
    ·exact g4 c hc
   ·rw [d7]
    show l=w++((bl++w')++aD cs)
    rw [C6 bl,←g5,←C6]
    exact el
noncomputable def bE (x:List Nat) (hd m:Nat):List (List Nat):=
 if ((av x).headD []).length > m - hd∨m < hd then aL m (C4 m) [[]] (32::(av x).headD []) (av x).tail
 else aL m (C4 m - C4 hd) [] ((av x).headD []) (av x).tail
theorem nK:∀c:Nat,aO c=true→aA c=false→Unicode.isSpace c=false:=by
 have:∀c:Fin 128,aO c.1=true→aA c.1=false→Unicode.isSpace c.1=false:=by decide+kernel
 intro c h1 h2
 by_cases hc:c < 128
 ·exact this ⟨c,hc⟩ h1 h2
 ·exfalso
  unfold aO bH at h1
  simp at h1
  lia
theorem uV (x:List Nat) (hd m:Nat) (hhd:0 < hd) (hx:∀c∈x,aO c=true) (hne:x≠[]) (hh:∀c∈x.head?,aA c=false) (ht:∀c∈x.getLast?,aA c=false) (hlen:hd+x.length≤700000)
  (h1:(∀a∈x,aA a=false)∨∃o r,x=o++[59]++r∧(∀a∈o,aA a=false)∧∀c∈r.head?,aA c=true):
  sp m (hd,[],[]) (bj x) (bE x hd m):=by
 refine gg λG hG=>?_;obtain ⟨w,cs,e1,e2,e3,e4,e5⟩:=iq x.length [] x (Dh _) hh ht hne;refine hG ?_
 have hsingle:dZ w=true∨cs=[]:=by
  cases cs with
  | nil=>exact .inr rfl
  | cons c cs=>
   refine gg λG hG=>?_;obtain ⟨g1,g2,g3,g4⟩:=e4 c (.head _)
   obtain ⟨b,bs,eb⟩:=Di g1;refine hG ?_
   have hb:=g2 b (by rw [eb];exact .head _)
   rw [d7,eb] at e5
   left
   rcases h1 with h1 | ⟨o,r,er,ho,hr⟩
   ·have:=h1 b (by rw [e5];simp)
    have this:=hb▸this;cases this
   ·
    have t1:x.takeWhile (λc=>!aA c)=w:=by
     rw [e5,Fr (by intro a ha;rw [e3 a ha];rfl)]
     simp [GE,hb]
    have t2:x.takeWhile (λc=>!aA c)=o++[59]:=by
     rw [er,Fr (by
      intro a ha
      rcases DA.mp ha with ha | ha
      ·rw [ho a ha];rfl
      ·rw [Dl.mp ha];rfl)]
     cases r with
     | nil=>simp
     | cons a r=>
      have:=hr a rfl
      simp [GE,this]
    simp only [←t1,t2]
    unfold dZ
    simp
 have hwok:∀u:List Nat,(∀a∈u,aA a=false)→(∀a∈u,a∈x)→∀a∈u,Unicode.isSpace a=false:=λu hu hm a ha=>nK a (hx a (hm a ha)) (hu a ha)
 have hmem:∀c∈cs,∀a∈c.2,a∈x:=λc hc a ha=>by
  rw [e5]
  refine Dp _ ?_
  unfold aD
  exact FM.mpr ⟨c,hc,Dp _ ha⟩
 have hcs:∀c∈cs,tQ c:=λc hc=>⟨(e4 c hc).2.2.1,hwok c.2 (e4 c hc).2.2.2 (hmem c hc)⟩
 have hw:tQ ([],w):=⟨e2,hwok w e3 (λa ha=>by rw [e5];exact C3 _ ha)⟩
 have hl:x.length=w.length+bS cs:=by
  rw [←br,←CY,←e5]
 have hcl:=mf cs hcs
 have hch:bj x=([],w)::cs:=e1
 have hp:av x=(cO [] ([],w) cs).map aD:=by
  have:=kL w cs e2 e3 e4
  rw [←e5] at this;exact this
 have hg1:∀f:List Nat,∃rest,cO [] (f,w) cs=[(f,w)]::rest∧∀f',cO [] (f',w) cs=[(f',w)]::rest:=λf=>by
  cases cs with
  | nil=>exact ⟨[],rfl,λξ=>rfl⟩
  | cons c cs=>
   have he:dZ w=true:=by
    rcases hsingle with h | h
    ·exact h
    ·cases h
   refine ⟨cO [] c cs,?_,λf'=>?_⟩
   ·rw [cO,if_pos he];rfl
   ·rw [cO,if_pos he];rfl
 refine gg λG hG=>?_;obtain ⟨rest,hg,hg'⟩:=hg1 [];refine hG ?_
 have hh0:(av x).headD []=w:=by simp only [hp,hg,Dd,di];rfl
 have ht0:(av x).tail=rest.map aD:=by rw [hp,hg];rfl
 refine hch▸?_
 have hfit:qf (hd,[],[]) ([],w):=⟨by show hd+(0+(0+w.length)) < _;lia,by show 0 < _;lia,by show 0 < _;exact DD _,(λξ h=>by cases h),e2⟩
 have hcan:oO m (hd,[],[]) ([],w):=λξ ξ ξ=>⟨rfl,rfl⟩
 unfold bE
 rw [hh0,ht0]
 by_cases hex:hd+(0+(0+w.length)) > m
 ·rw [if_pos (by lia)]
  have hst:b5 m (hd,[],[]) ([],w)=(0,[]++([]++[([32],w)]),[[]]):=by
   show (if hd+(0+(0+w.length)) > m then (if ck [] 0=0 then (if hd=0 then _ else _) else _) else _)=_
   rw [if_pos hex,if_pos (show ck [] 0=0 from rfl),if_neg (by exact Gd ‹_›)]
   rfl
  refine sp.step hcan hfit hst ?_
  have ih:=zE m 700001 (by exact FT _ _) cs [] [] ([32],w) 0 [[]] hcs (λξ h=>by cases h) (λξ h=>by cases h) ⟨hw.1,hw.2⟩ (λξ h=>by cases h) (.inl rfl) (.inr ⟨rfl,rfl⟩) (.inl rfl)
   (by show 0+(bS [_]+_)≤_;rw [bc];show 0+(1+w.length+_)≤_;lia) (by show 1+_≤_;lia)
  have e:aL m (C4 m) [[]] (32::w) (rest.map aD)=aL m (C4 m - C4 0) [[]] (aD []) ((cO [] ([32],w) cs).map aD):=by
   simp only [hg' [32],Dd]
   unfold aL
   rw [show aD ([]:List e8)=[] from rfl,fL _ _ _ _ _ _ (.inl rfl),show C4 m - C4 0=C4 m from Gh _,di]
   rfl
  simp only [e]
  exact ih
 ·rw [if_neg (by lia)]
  have hst:b5 m (hd,[],[]) ([],w)=(hd,[]++([]++[([],w)]),[]):=by
   show (if hd+(0+(0+w.length)) > m then _ else _)=_
   rw [if_neg hex];rfl
  refine sp.step hcan hfit hst ?_
  have ih:=zE m 700001 (by exact FT _ _) cs [] [] ([],w) hd [] hcs (λξ h=>by cases h) (λξ h=>by cases h) hw (λξ h=>by cases h) (.inl rfl) (.inl ?_) (by
    rcases hsingle with h | h
    ·exact .inr (.inr (.inl h))
    ·exact .inr (.inr (.inr h)))
   (by show hd+(bS [_]+_)≤_;rw [bc];show hd+(0+w.length+_)≤_;lia) (by show 0+_≤_;lia)
  ·have e:aL m (C4 m - C4 hd) [] w (rest.map aD)=aL m (C4 m - C4 hd) [] (aD []) ((cO [] ([],w) cs).map aD):=by
    simp only [hg,Dd]
    unfold aL
    rw [show aD ([]:List e8)=[] from rfl,fL _ _ _ _ _ _ (.inl rfl),di]
    rfl
   simp only [e]
   exact ih
  ·show hd+bS [([],w)]≤m
   rw [bc]
   show hd+(0+w.length)≤m
   lia
end
section
open PyProof.Rows PySem PySem.Calls PySem.Spec PySem.W PySem.W.X
structure m2 (hd:Nat) (x:List Nat):Prop where
 plain:∀c∈x,aO c=true
 ne:x≠[]
 first:∀c∈x.head?,aA c=false
 last:∀c∈x.getLast?,aA c=false
 len:hd+x.length≤700000
 word:(∀a∈x,aA a=false)∨∃o r,x=o++[59]++r∧(∀a∈o,aA a=false)∧∀c∈r.head?,aA c=true
theorem m2.sim {hd m:Nat} {x:List Nat} (h:m2 hd x) (h0:0 < hd):sp m (hd,[],[]) (bj x) (bE x hd m):=
 uV x hd m h0 h.plain h.ne h.first h.last h.len h.word
theorem Bm (v vd la a dd:C1) (K:Vk) (m e el ea:Nat) (k:Tok) (hd:Nat) (ti:Tok) (de:Nat) (x:List Nat) (tf tq tc:Tok) (hx:m2 hd x) (hhd:0 < hd):
  ad Z 20 (.o (.call (.ref 106) ⟨[.ref v,.str (S []) tf,.str (S x) tq,.str (S [59]) tc],[]⟩)) [(v,fB vd),(vd,fI Z K m la a e),(la,aa [] el),(a,aw dd [] ea),(dd,dO Z k hd ti de)] []
   (X:=VS) (λy=>bi y=jt m (hd,[],[]) (bj x)) (λξ=>.ok (.ret .none)) (λy=>fK Z v vd la a dd K m e y) (λy=>aj y.2.2.1):=by
 have hs:=ab
 have hl:=hx.len
 obtain ⟨q0,qr,e1⟩:=Di hx.ne
 have hb:aA q0=false:=hx.first q0 (by rw [e1];rfl)
 have hok:=(hx.sim (m:=m) hhd).ok
 rw [e1] at hok hl ⊢
 exact ad.to (xU v vd la a dd K m e ([],el,[],ea,k,hd,ti,de) q0 qr tf tq tc hb hok (by lia)) (C8 _) (λy=>y.1) (λξ=>[]) λy hy=>⟨hy,rfl,C8 _⟩
theorem iB:∀(ls:List (List Nat)) (sep:List Nat),(ap sep ls).length≤(ls.map (·.length)).sum+ls.length * sep.length
 | [],_=>Du _
 | [x],sep=>by show x.length≤_;simp
 | x::y::r,sep=>by
  have ih:=iB (y::r) sep
  show (x++sep++ap sep (y::r)).length≤_
  rw [CY,CY,Dd,DC,C5,Nat.add_mul]
  lia
noncomputable def z7 (s:PS):Nat:=(s.2.2.map C9).sum+bS s.2.1
theorem ve (m:Nat) (s:PS) (c:e8):z7 (b5 m s c)≤z7 s+(c.1.length+c.2.length)+1∧(b5 m s c).2.2.length≤s.2.2.length+1:=by
 delta b5 z7
 split
 ·split
  ·split
   ·simp only [be,bc];lia
   ·simp only [Da,EQ,bc,CY]
    simp only [Dd,EO,DC,Gi,C5,De]
    lia
  ·have e:bS s.2.1=bS (s.2.1.take (ck s.2.1 s.2.1.length))+bS (s.2.1.drop (ck s.2.1 s.2.1.length)):=by rw [←be,Eo]
   simp only [Da,EQ,be,bc,CY]
   simp only [Dd,EO,DC,Gi,C5,De]
   simp only [br]
   lia
 ·simp only [be,bc];lia
theorem qP (m:Nat):∀(cs:List e8) (s:PS),z7 (jt m s cs)≤z7 s+bS cs+cs.length∧(jt m s cs).2.2.length≤s.2.2.length+cs.length
 | [],s=>⟨Dh _,Dh _⟩
 | c::cs,s=>by
  have e:jt m s (c::cs)=jt m (b5 m s c) cs:=rfl
  have h1:=ve m s c
  have h2:=qP m cs (b5 m s c)
  simp only [dh,C5]
  rw [e]
  lia
theorem jl {hd:Nat} {x:List Nat} (h:m2 hd x):bS (bj x)=x.length∧(bj x).length≤x.length:=by
 refine gg λG hG=>?_;obtain ⟨w,cs,e1,e2,e3,e4,e5⟩:=iq x.length [] x (Dh _) h.first h.last h.ne;refine hG ?_
 have e1:bj x=([],w)::cs:=e1
 have e6:bS (bj x)=x.length:=by
  simp only [←br,e1,d7,DF,←e5]
 refine ⟨e6,?_⟩
 have key:∀l:List e8,(∀c∈l,c.2≠[])→l.length≤bS l:=by
  intro l
  induction l with
  | nil=>intro _;exact Du _
  | cons z l ih=>
   intro h
   have h1:=ih (λc hc=>h c (.tail _ hc))
   have h2:=Em.mpr (h z (.head _))
   simp only [dh,C5];lia
 have:=key (bj x) (by
  rw [e1]
  intro c hc
  rcases Ei.mp hc with rfl | hc
  ·exact e2
  ·exact (e4 c hc).2.2.1)
 lia
theorem iz {hd m:Nat} {x:List Nat} (h:m2 hd x) (h0:0 < hd):((bE x hd m).map C9).sum≤2 * x.length∧(bE x hd m).length≤x.length+1:=by
 have hs:=(h.sim (m:=m) h0).rows
 obtain ⟨h1,h2⟩:=jl h
 obtain ⟨g1,g2⟩:=qP m (bj x) (hd,[],[])
 rw [←hs]
 unfold eO
 unfold z7 at g1
 simp only [Da,EQ,CY]
 simp only [Dd,EO,DC,Gi,C5,De]
 rw [br]
 have e0:(([]:List (List Nat)).map C9).sum=0:=rfl
 have e1:bS []=0:=rfl
 have e2:([]:List (List Nat)).length=0:=rfl
 dsimp only at g1 g2
 simp only [e0,e1] at g1
 rw [e2] at g2
 lia
theorem Bb (v vd la a dd:C1) (K:Vk) (m e:Nat) (s:VS) (tl:Tok) (x:List Nat) (hd:Nat) (hx:m2 hd x) (hhd:0 < hd) (hs:bi s=jt m (hd,[],[]) (bj x)):
  ad Z 14 (.o (.call (.ref 64) ⟨[.ref v,.str (S [13,10]) tl],[]⟩)) (fK Z v vd la a dd K m e s) (aj s.2.2.1)
   (X:=VS×Tok) (λξ=>True) (λy=>.ok (.ret (.str (S (ap [13,10] (bE x hd m))) y.2))) (λy=>fK Z v vd la a dd K m e y.1) (λy=>aj y.1.2.2.1):=by
 have hl:=hx.len
 have hsim:=hx.sim (m:=m) hhd
 have hsz:=iz (m:=m) hx hhd
 have hs':=ab
 have hr:(eO (bi s)).2.2=bE x hd m:=by rw [hs];exact hsim.rows
 have S1:=xx v vd la a dd K m e s tl (by rw [hs];exact hsim.fin) (by rw [hr];show ((bE x hd m).map C9).sum+_≤_;lia)
 rw [hr] at S1
 exact S1
end
section
open PySem
noncomputable abbrev wx:=List Nat×Option (List Nat)
noncomputable def r4 (ow:List Nat) (ps:List wx):List Nat:=ps.foldl io ow
noncomputable def jo (f:PF):List Nat×List Nat:=(f.nm,r4 f.ow f.ps)
noncomputable def eP (acc:List (List Nat×List Nat)) (f:PF):List (List Nat×List Nat):=
 (if f.g then acc.filter (λy=>bN y.1 != bN f.nm) else acc)++[jo f]
noncomputable def uf (l:List PF):List (List Nat×List Nat):=l.foldl eP []
noncomputable def cU:List PF→List PF→List PF
 | st,[]=>st
 | st,f::r=>cU ((if f.g then st.filter (λx=>x.kd != f.kd) else st)++[f]) r
theorem zF (l:List Fp):l.foldl b7 []=uf (l.map Fp.pf):=by
 unfold uf
 rw [List.foldl_map]
 rfl
noncomputable def z4 (f:PF):Prop:=f.kd < 3∧f.nm∈kb.getD f.kd []
theorem vN:∀k j:Fin 3,∀x∈kb.getD k.1 [],∀y∈kb.getD j.1 [],(bN x != bN y)=(k.1 != j.1):=by decide
theorem wq {f g:PF} (hf:z4 f) (hg:z4 g):(bN f.nm != bN g.nm)=(f.kd != g.kd):=vN ⟨f.kd,hf.1⟩ ⟨g.kd,hg.1⟩ f.nm hf.2 g.nm hg.2
theorem yx {f:PF} (hf:z4 f):f.nm∈a8:=by
 have:∀k:Fin 3,∀x∈kb.getD k.1 [],x∈a8:=by decide
 exact this ⟨f.kd,hf.1⟩ f.nm hf.2
theorem lh:∀(l st:List PF),(∀f∈l,z4 f)→(∀f∈st,z4 f)→(cU st l).map jo=l.foldl eP (st.map jo)
 | [],st,_,_=>rfl
 | f::l,st,hl,hst=>by
  have hf:=hl f (.head _)
  simp only [cU,Ew]
  have e:eP (st.map jo) f=((if f.g then st.filter (λx=>x.kd != f.kd) else st)++[f]).map jo:=by
   unfold eP
   simp only [Da]
   congr 1
   split
   ·simp only [Fq]
    congr 1
    refine List.filter_congr λx hx=>?_
    exact wq (hst x hx) hf
   ·rfl
  simp only [e]
  refine lh l _ (λg hg=>hl g (.tail _ hg)) (λg hg=>?_)
  rcases DA.mp hg with h | h
  ·split at h
   ·exact hst g (E3.mp h).1
   ·exact hst g h
  ·simp only [Dl.mp h];exact hf
theorem ll:∀(l st:List PF),(cU st l).length≤st.length+l.length
 | [],st=>Dh _
 | f::l,st=>by
  simp only [cU]
  have h:=ll l ((if f.g then st.filter (λx=>x.kd != f.kd) else st)++[f])
  have h2:(if f.g then st.filter (λx=>x.kd != f.kd) else st).length≤st.length:=by
   split
   ·exact Ed _ _
   ·exact Dh _
  simp only [CY] at h
  simp only [C5]
  have h3:[f].length=1:=rfl
  omega
theorem nW:∀(l st:List PF),l≠[]∨st≠[]→cU st l≠[]
 | [],st,h=>by
  rcases h with h | h
  ·exact absurd rfl h
  ·exact h
 | f::l,st,_=>by
  simp only [cU]
  exact nW l _ (.inr (by simp))
theorem om:∀(k m:Nat),m < 8 ^ k→(cz m).length≤k∧∀c∈cz m,c∈lG
 | 0,m,h=>by
  have h0:m=0:=by simpa using h
  subst h0
  have e:cz 0=[]:=by unfold cz;rfl
  rw [e]
  exact ⟨Dh _,λc hc=>by cases hc⟩
 | k+1,m,h=>by
  by_cases h0:m=0
  ·subst h0
   have e:cz 0=[]:=by unfold cz;rfl
   rw [e]
   exact ⟨Du _,λc hc=>by cases hc⟩
  ·have e:cz m=lG.getD (m % 8) 0::cz (m / 8):=by rw [cz,dif_neg h0]
   refine e▸?_
   obtain ⟨h1,h2⟩:=om k (m / 8) (by simp only [Nat.pow_succ] at h;lia)
   refine ⟨by simp only [C5];lia,λc hc=>?_⟩
   rcases Ei.mp hc with rfl | hc
   ·have:∀i:Fin 8,lG.getD i.1 0∈lG:=by decide
    exact this ⟨m % 8,DN _ (by decide)⟩
   ·exact h2 c hc
noncomputable def zb:List Nat:=[97,120,32,59,34,92,9,61,98,99,100]
noncomputable def yd (j:Nat) (p:wx):Prop:=((p.1=l9∧j=0)∨∃u,u < 3∧p.1=([107]++DI u 95)++[48+j])∧∀v,p.2=some v→(∀c∈v,c∈zb)∧v.length≤10
structure gW (n:Nat) (f:PF):Prop where
 nm:z4 f
 ow:f.ow=rD∨f.ow∈uC
 ps:∀j p,f.ps[j]?=some p→yd j p
 len:f.ps.length≤n
theorem AO:gW 1 z6:=by
 refine ⟨⟨by decide,by decide⟩,.inl rfl,λj p hp=>?_,Dh _⟩
 cases j with
 | zero=>
  have hp:(l9,some ot)=p:=by simpa [z6] using hp
  subst hp
  refine ⟨.inl ⟨rfl,rfl⟩,λv hv=>?_⟩
  have hv:ot=v:=by simpa using hv
  subst hv
  exact ⟨by decide,by decide⟩
 | succ j=>simp [z6] at hp
theorem Bd (x n:Nat):gW n (gK x):=by
 have h1:x / 5 % 3 < 3:=DN _ (by decide)
 have h2:x / 5 / 3 % 2 < 2:=DN _ (by decide)
 have h3:x / 5 / 12 % 3 < 3:=DN _ (by decide)
 refine ⟨⟨h1,?_⟩,.inr ?_,λj p hp=>by simp [gK] at hp,Du _⟩
 ·have:∀k:Fin 3,∀j:Fin 2,(kb.getD k.1 []).getD j.1 []∈kb.getD k.1 []:=by decide
  exact this ⟨_,h1⟩ ⟨_,h2⟩
 ·have:∀k:Fin 3,uC.getD k.1 []∈uC:=by decide
  exact this ⟨_,h3⟩
theorem At (x n:Nat) (f:PF) (h:gW n f) (h5:¬x % 5=0):gW (n+1) (rY x f):=by
 refine ⟨h.nm,h.ow,λj p hp=>?_,by show (f.ps++[_]).length≤_;rw [CY];have:=h.len;show _+1≤_;lia⟩
 have hp:(f.ps++[iy x f.ps.length])[j]?=some p:=hp
 rw [List.getElem?_append] at hp
 split at hp
 ·exact h.ps j p hp
 ·rename_i hj
  have hj2:j=f.ps.length:=by
   have h1:[iy x f.ps.length].length=1:=rfl
   have:=(Dg.mp hp).1
   lia
  subst hj2
  rw [GM] at hp
  have hp:iy x f.ps.length=p:=by simpa using hp
  subst hp
  unfold iy
  split
  ·exact ⟨.inr ⟨1,by decide,rfl⟩,λv hv=>by cases hv⟩
  ·refine ⟨.inr ⟨x % 5 - 2,by lia,rfl⟩,λv hv=>?_⟩
   have hv:cz (x / 5 % 262144)=v:=by simpa using hv
   subst hv
   obtain ⟨h1,h2⟩:=om 6 (x / 5 % 262144) (Nat.lt_of_lt_of_eq (DN _ (by decide)) (by decide))
   exact ⟨λc hc=>by
    have:∀c∈lG,c∈zb:=by decide
    exact this c (h2 c hc),by exact lB ‹_› rfl⟩
theorem cJ {n m:Nat} (h:n≤m) {f:PF} (x:gW n f):gW m f:=⟨x.nm,x.ow,x.ps,Ex x.len h⟩
theorem iR:∀(vals:List Nat) (ini:List PF) (la:PF) (n:Nat),(∀f∈ini,gW n f)→gW n la→
  ∃ini' la',vals.foldl eB (ini++[la])=ini'++[la']∧(∀f∈ini',gW (n+vals.length) f)∧gW (n+vals.length) la'∧ini'.length≤ini.length+vals.length∧(ini'++[la']).head?.map (·.g)=(ini++[la]).head?.map (·.g)∧((ini++[la]).head?.map (·.ps)≠some []→(ini'++[la']).head?.map (·.ps)≠some [])
 | [],ini,la,n,h1,h2=>⟨ini,la,rfl,h1,h2,Dh _,rfl,λh=>h⟩
 | x::vals,ini,la,n,h1,h2=>by
  simp only [Ew]
  by_cases h5:x % 5=0
  ·rw [lF _ _ h5]
   obtain ⟨ini',la',e,g1,g2,g3,g4,g5⟩:=iR vals (ini++[la]) (gK x) (n+1) (λf hf=>by
    rcases DA.mp hf with hf | hf
    ·exact cJ (E6 _) (h1 f hf)
    ·rw [Dl.mp hf];exact cJ (E6 _) h2) (Bd x _)
   have eh:((ini++[la])++[gK x]).head?=(ini++[la]).head?:=by cases ini <;> rfl
   rw [eh] at g4 g5
   refine ⟨ini',la',e,λf hf=>cJ (by rw [C5];lia) (g1 f hf),cJ (by rw [C5];lia) g2,?_,g4,g5⟩
   rw [CY] at g3
   rw [C5]
   have h1:[la].length=1:=rfl
   lia
  ·rw [lK _ _ _ h5]
   obtain ⟨ini',la',e,g1,g2,g3,g4,g5⟩:=iR vals ini (rY x la) (n+1) (λf hf=>cJ (E6 _) (h1 f hf)) (At x n la h2 h5)
   have eg:(ini++[rY x la]).head?.map (·.g)=(ini++[la]).head?.map (·.g):=by cases ini <;> rfl
   rw [eg] at g4
   refine ⟨ini',la',e,λf hf=>cJ (by rw [C5];lia) (g1 f hf),cJ (by rw [C5];lia) g2,by rw [C5];lia,g4,λh=>g5 ?_⟩
   cases ini with
   | nil=>
    intro e
    have e:some (la.ps++[iy x la.ps.length])=some []:=e
    injection e with e
    simp at e
   | cons a l=>exact h
end
section
open PyProof.Rows PySem PySem.Calls PySem.Spec PySem.W PySem.W.X
section
noncomputable abbrev yu:List Nat:=[115,101,110,116]
noncomputable abbrev xZ:List Nat:=[108,105,110,101,115]
noncomputable abbrev w8 (F:Fx) (L ca it:C1):CV:=.o (hH (yw F 393 L [(S iO,ca)]) (.ref it) (gF F 393 [4]))
noncomputable abbrev xG (F:Fx) (K1 K2 K3 K4:Tok) (sl fl tb st:C1) (e:Nat):Obj:=bY [en F gp K1 (.ref sl),en F dk K2 (.ref fl),en F kO K3 (.ref tb),en F yu K4 (.ref st)] e
noncomputable abbrev m9 (F:Fx) (K1 K2 K3 K4:Tok) (sl fl tb st:C1) (k1:Tok) (v1:CX) (k2:Tok) (v2:CX) (k3:Tok) (v3:CX) (e:Nat):Obj:=
 bY [en F gp K1 (.ref sl),en F dk K2 (.ref fl),en F kO K3 (.ref tb),en F yu K4 (.ref st),en F ji k1 v1,en F cN k2 v2,en F xZ k3 v3] e
noncomputable abbrev Xl:=Tok×CX×Tok×CX×Tok×CX×Nat×List Pt×Nat
noncomputable abbrev yj (F:Fx) (L ca:C1) (K1 K2 K3 K4:Tok) (sl fl tb st:C1) (m:Nat) (tm:Tok) (x:Xl):ao:=
 [(L,m9 F K1 K2 K3 K4 sl fl tb st x.1 x.2.1 x.2.2.1 x.2.2.2.1 x.2.2.2.2.1 x.2.2.2.2.2.1 x.2.2.2.2.2.2.1),(ca,aY (.int (.ofNat m) tm)),(st,aa (ah x.2.2.2.2.2.2.2.1) x.2.2.2.2.2.2.2.2)]
noncomputable abbrev wl (it ca ql st:C1) (m:Nat) (tm:Tok) (i:Nat) (qv:List CX) (qe:Nat) (ss:List CX) (se:Nat):ao:=
 [(ca,aY (.int (.ofNat m) tm)),(it,aS ql i),(ql,aa qv qe),(st,aa ss se)]
section
variable (L ca it:C1) (K1 K2 K3 K4:Tok) (sl fl tb st ql:C1) (m:Nat) (tm:Tok) (qv:List CX) (qe:Nat)
theorem wI (k1:Tok) (v1:CX) (k2:Tok) (v2:CX) (k3:Tok) (v3:CX) (ef i:Nat) (hv:qv.length≤i) (ss:List CX) (se:Nat):
  ae Z 24 (w8 Z L ca it) ((L,m9 Z K1 K2 K3 K4 sl fl tb st k1 v1 k2 v2 k3 v3 ef)::wl it ca ql st m tm i qv qe ss se) [] (X:=Nat×Obj) (λξ=>True) (λξ=>.ok .next)
   (λx=>[m9 Z K1 K2 K3 K4 sl fl tb st k1 v1 k2 v2 k3 v3 x.1,aY (.int (.ofNat m) tm),x.2,aa qv qe,aa ss se]) (λξ=>[]):=by
 exists 0,ae.of_codeB
 exists 1,iX it ql i qv qe ‹_›,1044,51
 exists ar,(ef,eS i),21,201045
theorem BZ (ef i:Nat) (p:C1) (hi:qv[i]?=some (.ref p)) (nm:List Nat) (ta:Tok) (x:List Nat) (tb2:Tok) (hx:m2 (nm.length+2) x) (hnm:nm.length≤1000) (ss:List CX) (hss:ss.length≤1000) (se:Nat) (M:ao) (P:Xl→Prop) (pm:Xl→ao)
  (ih:∀(c1 c2 c3 u1 u2:Tok) (vb:C1) (ef se:Nat) (a:C1),ad Z 24 (w8 Z L ca it) ((L,m9 Z K1 K2 K3 K4 sl fl tb st c1 (.str (S nm) ta) c2 (.str (S x) tb2) c3 (.ref vb) ef)::wl it ca ql st m tm (i+1) qv qe (ss++[.ref a]) se++[(p,an nm ta x tb2),(a,an nm u1 (ap [13,10] (bE x (nm.length+2) m)) u2)]) M P (λξ=>.ok .next) (yj Z L ca K1 K2 K3 K4 sl fl tb st m tm) pm):
  ad Z 24 (w8 Z L ca it) ((L,xG Z K1 K2 K3 K4 sl fl tb st ef)::wl it ca ql st m tm i qv qe ss se++[(p,an nm ta x tb2)]) M P (λξ=>.ok .next) (yj Z L ca K1 K2 K3 K4 sl fl tb st m tm) pm:=by
 have hs:=ab
 have hnz:nm.length≤CZ:=by exact lB ‹_› rfl
 have hss2:ss.length≤CZ:=by exact lB ‹_› rfl
 exists 0,ad.of_codeB
 exists 1,bb it ql i qv qe (.ref p) hi,1044,51
 exists 2,aG nm ta ‹_›,0x141113434a78788181878788181878788181881717772,0
 exists 3,ba (C9 nm) x2 2 t2,1,0
 exists 4,(ka (n3+1) n3 0 (C9 nm+2) x3 m tm t3 (t3+1)).up rfl,0x1111c1c1111111111111111111111111111111115,171
 exists 5,cM,((Bm (n3+1) n3 x4.2.2.1 x4.2.2.2.1 x4.2.2.2.2.1 x4.1 m x4.2.1 0 x4.2.2.2.2.2.1 x4.2.2.2.2.2.2.1 (C9 nm+2) x3 x4.2.2.2.2.2.2.2.1 x (t4+1) tb2 (t4+1+1) ‹_› (DD _)).up rfl),0x19321111211121112989,69905,M++rest,.refl _
 exists 6,dx,(Bb (n3+1) n3 x4.2.2.1 x4.2.2.2.1 x4.2.2.2.2.1 x4.1 m x4.2.1 x5 t5 x (C9 nm+2) hx (DD _) ‹_›).up rfl,0x132111121112111299bbbb9,69905
 exists 7,dj st ss se (.ref n6) ‹_›,177,10
 exists 8,fZ,ih t1 (t1+1) t4 ta x6.2 (n3+1) (ef+1+1+1) (se+1) n6,0,0x9617799,aj x6.1.2.2.1++rest,(pT [_,_,_] [2,3,4,0,0] [3,2,4,0,0] rfl)
 exact fR hroom hR (x8.1,x8.2.1,x8.2.2.1,x8.2.2.2.1,x8.2.2.2.2.1,x8.2.2.2.2.2.1,x8.2.2.2.2.2.2.1,x8.2.2.2.2.2.2.2.1,x8.2.2.2.2.2.2.2.2) (Md:=aj x6.1.2.2.1) [] [0,0,0] (by kernel_rfl) (by trivial) (.refl _)
theorem BV (k1:Tok) (v1:CX) (k2:Tok) (v2:CX) (k3:Tok) (v3:CX) (ef i:Nat) (p:C1) (hi:qv[i]?=some (.ref p)) (nm:List Nat) (ta:Tok) (x:List Nat) (tb2:Tok) (hx:m2 (nm.length+2) x) (hnm:nm.length≤1000) (ss:List CX) (hss:ss.length≤1000) (se:Nat) (M:ao) (P:Xl→Prop) (pm:Xl→ao)
  (ih:∀(c1 c2 c3 u1 u2:Tok) (vb:C1) (ef se:Nat) (a:C1),ad Z 24 (w8 Z L ca it) ((L,m9 Z K1 K2 K3 K4 sl fl tb st c1 (.str (S nm) ta) c2 (.str (S x) tb2) c3 (.ref vb) ef)::wl it ca ql st m tm (i+1) qv qe (ss++[.ref a]) se++[(p,an nm ta x tb2),(a,an nm u1 (ap [13,10] (bE x (nm.length+2) m)) u2)]) M P (λξ=>.ok .next) (yj Z L ca K1 K2 K3 K4 sl fl tb st m tm) pm):
  ad Z 24 (w8 Z L ca it) ((L,m9 Z K1 K2 K3 K4 sl fl tb st k1 v1 k2 v2 k3 v3 ef)::wl it ca ql st m tm i qv qe ss se++[(p,an nm ta x tb2)]) M P (λξ=>.ok .next) (yj Z L ca K1 K2 K3 K4 sl fl tb st m tm) pm:=by
 have hs:=ab
 have hnz:nm.length≤CZ:=by exact lB ‹_› rfl
 have hss2:ss.length≤CZ:=by exact lB ‹_› rfl
 exists 0,ad.of_codeB
 exists 1,bb it ql i qv qe (.ref p) hi,1044,51
 exists 2,aG nm ta ‹_›,0x141113434a78788181878788181878788181881717772,0
 exists 3,ba (C9 nm) x2 2 t2,1,0
 exists 4,(ka (n3+1) n3 0 (C9 nm+2) x3 m tm t3 (t3+1)).up rfl,0x1111c1c1111111111111111111111111111111115,171
 exists 5,cM,((Bm (n3+1) n3 x4.2.2.1 x4.2.2.2.1 x4.2.2.2.2.1 x4.1 m x4.2.1 0 x4.2.2.2.2.2.1 x4.2.2.2.2.2.2.1 (C9 nm+2) x3 x4.2.2.2.2.2.2.2.1 x (t4+1) tb2 (t4+1+1) ‹_› (DD _)).up rfl),0x19321111211121112989,69905,M++rest,.refl _
 exists 6,dx,(Bb (n3+1) n3 x4.2.2.1 x4.2.2.2.1 x4.2.2.2.2.1 x4.1 m x4.2.1 x5 t5 x (C9 nm+2) hx (DD _) ‹_›).up rfl,0x132111121112111299bbbb9,69905
 exists 7,dj st ss se (.ref n6) ‹_›,177,10
 exists 8,fZ,ih k1 k2 k3 ta x6.2 (n3+1) ef (se+1) n6,0,0x9617799,aj x6.1.2.2.1++rest,(pT [_,_,_] [2,3,4,0,0] [3,2,4,0,0] rfl)
 exact fR hroom hR (x8.1,x8.2.1,x8.2.2.1,x8.2.2.2.1,x8.2.2.2.2.1,x8.2.2.2.2.2.1,x8.2.2.2.2.2.2.1,x8.2.2.2.2.2.2.2.1,x8.2.2.2.2.2.2.2.2) (Md:=aj x6.1.2.2.1) [] [0,0,0] (by kernel_rfl) (by trivial) (.refl _)
end
end
section
noncomputable def fD (m:Nat) (x:Pt):List Nat×List Nat:=(x.f,ap [13,10] (bE x.q (x.f.length+2) m))
set_option genCtorIdx true in
inductive Cq where
 | s4
 | s7 (k1:Tok) (v1:CX) (k2:Tok) (v2:CX) (k3:Tok) (v3:CX)
noncomputable def CU (F:Fx) (K1 K2 K3 K4:Tok) (sl fl tb st:C1) (e:Nat):Cq→Obj
 | .s4=>xG F K1 K2 K3 K4 sl fl tb st e
 | .s7 k1 v1 k2 v2 k3 v3=>m9 F K1 K2 K3 K4 sl fl tb st k1 v1 k2 v2 k3 v3 e
section
variable (L ca it:C1) (K1 K2 K3 K4:Tok) (sl fl tb st ql:C1) (m:Nat) (tm:Tok) (qs:List Pt) (qe:Nat)
theorem ri (hok:∀x∈qs,m2 (x.f.length+2) x.q∧x.f.length≤1000):∀(rem:List Pt) (i:Nat) (z:Cq) (ss:List Pt) (ef se:Nat),qs.drop i=rem→ss.length+rem.length≤1000→(z=.s4→rem≠[])→
  ad Z 24 (w8 Z L ca it) ((L,CU Z K1 K2 K3 K4 sl fl tb st ef z)::wl it ca ql st m tm i (ah qs) qe (ah ss) se) (aj qs++aj ss)
   (λx:Xl=>x.2.2.2.2.2.2.2.1.map d3=ss.map d3++rem.map (fD m)) (λξ=>.ok .next) (yj Z L ca K1 K2 K3 K4 sl fl tb st m tm) (λx=>aj qs++aj x.2.2.2.2.2.2.2.1)
 | [],i,.s4,ss,ef,se,hd,_,hz=>absurd rfl (hz rfl)
 | [],i,.s7 k1 v1 k2 v2 k3 v3,ss,ef,se,hd,_,_=>by
  have hv:(ah qs).length≤i:=by unfold ah;simp only [C2];exact Dx.mp hd
  refine ad.to (ae.toM (bG.toR (ae.toT (wI L ca it K1 K2 K3 K4 sl fl tb st ql m tm (ah qs) qe k1 v1 k2 v2 k3 v3 ef i hv (ah ss) se)) (aj qs++aj ss))) (C8 _) (λx=>(k1,v1,k2,v2,k3,v3,x.1,ss,se)) (λx=>[(it,x.2),(ql,aa (ah qs) qe)]) λx ξ=>⟨by simp,rfl,?_⟩
  exact (pT [[_],[_],[_],[_],[_],_,_] [2,3,4,5,6,0,0,0,0,7,8,0,0] [4,5,0,2,3,6,0,0,7,8,0,0,0] rfl)
 | y::rem,i,z,ss,ef,se,hd,hsz,_=>by
  have hss:(ah ss).length≤1000:=by unfold ah;simp only [C2];lia
  have hi:qs[i]?=some y:=by
   have:=congrArg (λl=>l[0]?) hd
   simpa using this
  have hd':qs.drop (i+1)=rem:=by
   have:=congrArg (DX 1) hd
   simp only [DE] at this
   exact this
  obtain ⟨o1,o2⟩:=hok y (Dw hi)
  obtain ⟨M,hM⟩:=d9 hi
  simp only [C5] at hsz
  have ih:=λ(c1 c2 c3 u1 u2:Tok) (vb:C1) (ef se:Nat) (a:C1)=>ri hok rem (i+1) (.s7 c1 (.str (S y.f) y.tf) c2 (.str (S y.q) y.tq) c3 (.ref vb)) (ss++[(⟨a,y.f,u1,ap [13,10] (bE y.q (y.f.length+2) m),u2⟩:Pt)]) ef se hd' (by rw [CY];show _+1+_≤_;lia) (λh=>by cases h)
  have et:∀(a:C1) (u1 u2:Tok),(ss++[(⟨a,y.f,u1,ap [13,10] (bE y.q (y.f.length+2) m),u2⟩:Pt)]).map d3++rem.map (fD m)=ss.map d3++(y::rem).map (fD m):=λa u1 u2=>by
   simp only [Da,C6];rfl
  have go:∀(c1 c2 c3 u1 u2:Tok) (vb:C1) (ef se:Nat) (a:C1),ad Z 24 (w8 Z L ca it) ((L,m9 Z K1 K2 K3 K4 sl fl tb st c1 (.str (S y.f) y.tf) c2 (.str (S y.q) y.tq) c3 (.ref vb) ef)::wl it ca ql st m tm (i+1) (ah qs) qe (ah ss++[.ref a]) se++[(y.p,an y.f y.tf y.q y.tq),(a,an y.f u1 (ap [13,10] (bE y.q (y.f.length+2) m)) u2)]) (M++aj ss)
    (λx:Xl=>x.2.2.2.2.2.2.2.1.map d3=ss.map d3++(y::rem).map (fD m)) (λξ=>.ok .next) (yj Z L ca K1 K2 K3 K4 sl fl tb st m tm) (λx=>aj qs++aj x.2.2.2.2.2.2.2.1):=λc1 c2 c3 u1 u2 vb ef se a=>by
   refine ad.to (ih c1 c2 c3 u1 u2 vb ef se a) ?_ id (λξ=>[]) (λx hx=>⟨?_,rfl,C8 _⟩)
   ·refine DW ?_ (C7 _ (hM.append_right _).symm)
    simp only [←cY,fv]
    unfold Pt.e
    exact (pT [[_],[_],[_],[_],[_],[_],[_],_,_] [2,3,4,5,6,0,0,0,0,7,8,0,0,9,10,0,0] [2,3,4,5,6,0,0,0,0,9,7,0,10,8,0,0,0] rfl)
   ·simp only [←et a u1 u2];exact hx
  have hp:∀A0:ao,(A0++(aj qs++aj ss)).Perm ((A0++[(y.p,an y.f y.tf y.q y.tq)])++(M++aj ss)):=λA0=>by
   refine DW (C7 _ (hM.append_right _)) ?_
   unfold Pt.e
   exact (pT [_,_,[_],_] [2,3,4,0,5,0,0] [2,4,0,3,5,0,0] rfl)
  cases z with
  | s4=>exact ad.to (BZ L ca it K1 K2 K3 K4 sl fl tb st ql m tm (ah qs) qe ef i y.p (cm hi) y.f y.tf y.q y.tq o1 o2 (ah ss) hss se (M++aj ss) _ (λx=>aj qs++aj x.2.2.2.2.2.2.2.1) go) (hp _) id (λξ=>[]) (λx hx=>⟨hx,rfl,C8 _⟩)
  | s7 k1 v1 k2 v2 k3 v3=>exact ad.to (BV L ca it K1 K2 K3 K4 sl fl tb st ql m tm (ah qs) qe k1 v1 k2 v2 k3 v3 ef i y.p (cm hi) y.f y.tf y.q y.tq o1 o2 (ah ss) hss se (M++aj ss) _ (λx=>aj qs++aj x.2.2.2.2.2.2.2.1) go) (hp _) id (λξ=>[]) (λx hx=>⟨hx,rfl,C8 _⟩)
theorem za (hok:∀x∈qs,m2 (x.f.length+2) x.q∧x.f.length≤1000) (hl:qs.length≤1000) (hne:qs≠[]) (ef se:Nat):
  ad Z 24 (w8 Z L ca it) ((L,xG Z K1 K2 K3 K4 sl fl tb st ef)::wl it ca ql st m tm 0 (ah qs) qe [] se) (aj qs)
   (λx:Xl=>x.2.2.2.2.2.2.2.1.map d3=qs.map (fD m)) (λξ=>.ok .next) (yj Z L ca K1 K2 K3 K4 sl fl tb st m tm) (λx=>aj qs++aj x.2.2.2.2.2.2.2.1):=by
 refine ad.to (ri L ca it K1 K2 K3 K4 sl fl tb st ql m tm qs qe hok qs 0 .s4 [] ef se rfl (by show 0+_≤_;lia) (λξ=>hne)) ?_ id (λξ=>[]) (λx hx=>⟨hx,rfl,C8 _⟩)
 show F3 _ (_++(aj qs++[]))
 simp only [Dm]
 exact C8 _
end
end
theorem pQ (o:List Nat) (to:Tok) (pa:C1) (ps:List Pm) (ex:Nat) (hok:∀p∈ps,sy p.pl) (hsz:o.length+4000 * ps.length≤1000000):
  ae Z 10 (.o (.call (.ref 381) ⟨[.str (S o) to,.ref pa],[]⟩)) [(pa,aa (aB ps) ex)] (cI ps) (X:=List Nat×Tok) (λx=>x.1=bt o ps) (λx=>.ok (.ret (.str (S x.1) x.2))) (λξ=>[aa (aB ps) ex]) (λξ=>[]):=by
 exists 1,ae.of_defB
 exists 1,cT,(y4 n (n+1) pa ((t,to,t+1,t+1+1)) o ps ex ‹_› ‹_› to (0+1+1+1)).up rfl,0x41212232331123231,290
 exists ar,((x1.2.2).1,x1.2.2.2.1),2,3
theorem l7 (o:List Nat) (to:Tok) (pa:C1) (ps:List Pm) (ex:Nat) (hok:∀p∈ps,sy p.pl) (hsz:o.length+4000 * ps.length≤1000000):
  ae Z 10 (.o (.call (.ref 381) ⟨[.str (S o) to,.ref pa],[]⟩)) [(pa,aa (aB ps) ex)] (cI ps) (X:=Tok) (λξ=>True) (λt=>.ok (.ret (.str (S (bt o ps)) t))) (λξ=>[aa (aB ps) ex]) (λξ=>[]):=
 ae.to (pQ o to pa ps ex hok hsz) (λx=>x.2) λx hx=>⟨trivial,by
  have hx:x.1=bt o ps:=hx
  rw [hx],rfl,rfl⟩
section
noncomputable abbrev CM (F:Fx):Expr:=gb F 393 [5] 0
noncomputable abbrev xv (F:Fx) (L C ca it acc:C1):CV:=fV F 393 L C (CM F) [] it acc
noncomputable abbrev w9 (C it zl acc:C1) (xs:List CX) (ze:Nat) (o:Obj) (i:Nat) (ys:List CX) (ea:Nat):ao:=
 [(C,o),(it,aS zl i),(zl,aa xs ze),(acc,aa ys ea)]
noncomputable abbrev Xu:=Tok×C1×Nat×Obj×Nat×List Pt
noncomputable abbrev yC (F:Fx) (C it zl acc:C1) (xs:List CX) (ze:Nat) (x:Xu):ao:=
 [(C,ai [en F eJ x.1 (.ref x.2.1)] x.2.2.1),(it,x.2.2.2.1),(zl,aa xs ze),(acc,aa (ah x.2.2.2.2.2) x.2.2.2.2.1)]
section
variable (L C ca it zl acc:C1) (xs:List CX) (ze:Nat)
theorem yK (k0:Tok) (p0:C1) (i:Nat) (hv:xs.length≤i) (ys:List CX) (ea ec:Nat):
  ae Z 12 (xv Z L C ca it acc) (w9 C it zl acc xs ze (ai [en Z eJ k0 (.ref p0)] ec) i ys ea) []
   (X:=Obj) (λξ=>True) (λξ=>.ok .next) (λy=>[(ai [en Z eJ k0 (.ref p0)] ec),y,aa xs ze,aa ys ea]) (λξ=>[]):=by
 exists 0,ae.of_codeB
 exists 1,iX it zl i xs ze ‹_›,787,34
 exists ar,eS i,5,12565
theorem B5 (k0:Tok) (p0:C1) (ec i:Nat) (fa:C1) (hi:xs[i]?=some (.ref fa)) (g:Bool) (kd:Nat) (tk:Tok) (nm:List Nat) (tn:Tok) (ow:List Nat) (to:Tok) (pa:C1) (fe:Nat) (ps:List Pm) (pe:Nat) (hok:∀p∈ps,sy p.pl) (hsz:ow.length+4000 * ps.length≤1000000) (ys:List CX) (hyl:ys.length≤CZ) (ea:Nat) (N:ao) (P:Xu→Prop) (pm:Xu→ao)
  (ih:∀(k0 u2:Tok) (ec ea:Nat) (a:C1),ad Z 12 (xv Z L C ca it acc) (w9 C it zl acc xs ze (ai [en Z eJ k0 (.ref fa)] ec) (i+1) (ys++[.ref a]) ea++[(fa,bF g kd tk nm tn ow to pa fe),(pa,aa (aB ps) pe),(a,an nm tn (bt ow ps) u2)]) (cI ps++N) P (λξ=>.ok .next) (yC Z C it zl acc xs ze) pm):
  ad Z 12 (xv Z L C ca it acc) (w9 C it zl acc xs ze (ai [en Z eJ k0 (.ref p0)] ec) i ys ea++[(fa,bF g kd tk nm tn ow to pa fe),(pa,aa (aB ps) pe)]) (cI ps++N) P (λξ=>.ok .next) (yC Z C it zl acc xs ze) pm:=by
 exists 0,ad.of_codeB
 exists 1,bb it zl i xs ze (.ref fa) hi,787,34
 exists 2,em fa [.bool g,.int (.ofNat kd) tk,.str (S nm) tn,.str (S ow) to,.ref pa] fe 2 (t1+1) _ rfl (by decide),0x61666434,5
 exists 3,em fa [.bool g,.int (.ofNat kd) tk,.str (S nm) tn,.str (S ow) to,.ref pa] fe 3 t2 _ rfl (by decide),34742865,1
 exists 4,em fa [.bool g,.int (.ofNat kd) tk,.str (S nm) tn,.str (S ow) to,.ref pa] fe 4 t3 _ rfl (by decide),2171429,1
 exists 5,gS,(l7 ow to pa ps pe ‹_› ‹_›).up rfl,1,6,N++rest,(pT [_,_,_] [2,3,0,4,0] [2,3,4,0,0] rfl)
 exists 6,dj acc ys ea (.ref n5) ‹_›,113,6
 exists 7,aX,ih k0 x5 ec (ea+1) n5,0,17962054
 exists az,(x7.1,x7.2.1,x7.2.2.1,x7.2.2.2.1,x7.2.2.2.2.1,x7.2.2.2.2.2),(by rfl),0,4369
theorem B6 (ec i:Nat) (fa:C1) (hi:xs[i]?=some (.ref fa)) (g:Bool) (kd:Nat) (tk:Tok) (nm:List Nat) (tn:Tok) (ow:List Nat) (to:Tok) (pa:C1) (fe:Nat) (ps:List Pm) (pe:Nat) (hok:∀p∈ps,sy p.pl) (hsz:ow.length+4000 * ps.length≤1000000) (ys:List CX) (hyl:ys.length≤CZ) (ea:Nat) (N:ao) (P:Xu→Prop) (pm:Xu→ao)
  (ih:∀(k0 u2:Tok) (ec ea:Nat) (a:C1),ad Z 12 (xv Z L C ca it acc) (w9 C it zl acc xs ze (ai [en Z eJ k0 (.ref fa)] ec) (i+1) (ys++[.ref a]) ea++[(fa,bF g kd tk nm tn ow to pa fe),(pa,aa (aB ps) pe),(a,an nm tn (bt ow ps) u2)]) (cI ps++N) P (λξ=>.ok .next) (yC Z C it zl acc xs ze) pm):
  ad Z 12 (xv Z L C ca it acc) (w9 C it zl acc xs ze (ai [] ec) i ys ea++[(fa,bF g kd tk nm tn ow to pa fe),(pa,aa (aB ps) pe)]) (cI ps++N) P (λξ=>.ok .next) (yC Z C it zl acc xs ze) pm:=by
 exists 0,ad.of_codeB
 exists 1,bb it zl i xs ze (.ref fa) hi,787,34
 exists 2,em fa [.bool g,.int (.ofNat kd) tk,.str (S nm) tn,.str (S ow) to,.ref pa] fe 2 (t1+1) _ rfl (by decide),0x61666434,5
 exists 3,em fa [.bool g,.int (.ofNat kd) tk,.str (S nm) tn,.str (S ow) to,.ref pa] fe 3 t2 _ rfl (by decide),34742865,1
 exists 4,em fa [.bool g,.int (.ofNat kd) tk,.str (S nm) tn,.str (S ow) to,.ref pa] fe 4 t3 _ rfl (by decide),2171429,1
 exists 5,gS,(l7 ow to pa ps pe ‹_› ‹_›).up rfl,1,6,N++rest,(pT [_,_,_] [2,3,0,4,0] [2,3,4,0,0] rfl)
 exists 6,dj acc ys ea (.ref n5) ‹_›,113,6
 exists 7,aX,ih t1 x5 (ec+1) (ea+1) n5,0,17962054
 exists az,(x7.1,x7.2.1,x7.2.2.1,x7.2.2.2.1,x7.2.2.2.2.1,x7.2.2.2.2.2),(by rfl),0,4369
end
end
set_option hygiene false in
theorem zn (q0:Nat) (xr:List Nat) (tx:Tok) (hd:Nat) (th:Tok) (wd:Nat) (tw:Tok) (hx:(q0::xr).length < 1000000) (hp:((av (q0::xr)).map C9).sum≤1000000) (hp2:(av (q0::xr)).length≤1000000) (hgt:decide (C4 ((av (q0::xr)).headD []).length > C4 wd - C4 hd)=false):
  af Z 9 (.o (.call (.ref 388) ⟨[.str (S (q0::xr)) tx,.int (.ofNat hd) th,.int (.ofNat wd) tw],[]⟩)) [] (X:=C1×Nat×List (List Nat×Tok)) (λx=>x.2.2.map (·.1)=aL wd (C4 wd - C4 hd) [] ((av (q0::xr)).headD []) (av (q0::xr)).tail) (λx=>.ok (.ret (.ref x.1))) (λx=>[]) (λx=>[(x.1,aa (al x.2.2) x.2.1)]):=by
 have hx2:(q0::xr).length < 16777216:=by exact lC ‹_› rfl
 have hs:=ab
 have hx1:(q0::xr).length≤CZ:=by exact lD ‹_› rfl
 have hx3:(q0::xr).length < 8000000:=by lia
 have hhd:((av (q0::xr)).headD []).length≤1000000:=by
  cases h:av (q0::xr) with
  | nil=>exact Du _
  | cons a l=>simp only [h,Dd,DC] at hp;show a.length≤_;lia
 have hhd1:((av (q0::xr)).headD []).length≤CZ:=by exact lB ‹_› rfl
 have hpt:((av (q0::xr)).headD []).length+((av (q0::xr)).tail.map C9).sum≤2000000:=by
  cases h:av (q0::xr) with
  | nil=>exact Du _
  | cons a l=>simp only [h,Dd,DC] at hp;show a.length+(l.map C9).sum≤_;exact lB ‹_› rfl
 have hptl:(av (q0::xr)).tail.length≤2000000:=by simp only [Gp];lia
 exists 1,af.of_defB
 exists 1,aG (q0::xr) tx ‹_›,0x12111112111212121,0
 exists 2,gL n1 (C9 (q0::xr)) t1 x1 (t1+1) ‹_›,0x41444141441111,3
 exists 3,(rm n x2 (n+1) ((t,tx,t+1,th,t+1+1,tw,t+1+1+1+1)) hd wd q0 xr ‹_› (t+1+1+1) (0+1+1+1+1) 0).up rfl,3,547
 exists 4,d1 (C4 wd) ((((((t,tx,t+1,th,t+1+1,tw,t+1+1+1+1).2).2).2).2).2).1 (C4 hd) ((((t,tx,t+1,th,t+1+1,tw,t+1+1+1+1).2).2).2).1,74258,0
 exists 5,em (n+1) (.str (S (EA (av (q0::xr)) [])) x3.2.2.2.2.2.2.1::al x3.2.2.2.2.2.2.2) x3.2.2.2.2.2.1 0 (t4+1) _ rfl (DD _),0x4144421112,3
 exists 6,aG (EA (av (q0::xr)) []) x3.2.2.2.2.2.2.1 ‹_›,1,0
 exists 7,gz (C9 (EA (av (q0::xr)) [])) x6 (C4 wd - C4 hd) x4 _ hgt,19,0
 exists 8,(vI n n7 (n+1) n3 ((t,tx,t+1,th,t+1+1,tw,t+1+1+1+1)) ((x3.1,x3.2.1,x3.2.2.1,t3+1,t4)) (q0::xr) hd wd x3.2.2.2.2.2.1 (EA (av (q0::xr)) []) x3.2.2.2.2.2.2.1 x3.2.2.2.2.2.2.2 (GQ (av (q0::xr))) p3 ‹_› ‹_› (C4 wd - C4 hd) x4 (x3.2.2.2.1+1+1) 0 t3).up rfl,0x7121223,12626
 exists ar,(n3,x8.2.2.1,x8.2.2.2),2,4
theorem yR (q0:Nat) (xr:List Nat) (tx:Tok) (hd:Nat) (th:Tok) (wd:Nat) (tw:Tok) (hx:(q0::xr).length < 1000000) (hp:((av (q0::xr)).map C9).sum≤1000000) (hp2:(av (q0::xr)).length≤1000000) (hgt:decide (C4 ((av (q0::xr)).headD []).length > C4 wd - C4 hd)=true):
  af Z 9 (.o (.call (.ref 388) ⟨[.str (S (q0::xr)) tx,.int (.ofNat hd) th,.int (.ofNat wd) tw],[]⟩)) [] (X:=C1×Nat×List (List Nat×Tok)) (λx=>x.2.2.map (·.1)=aL wd (C4 wd) [[]] ([32]++(av (q0::xr)).headD []) (av (q0::xr)).tail) (λx=>.ok (.ret (.ref x.1))) (λx=>[]) (λx=>[(x.1,aa (al x.2.2) x.2.1)]):=by
 have hx2:(q0::xr).length < 16777216:=by exact lC ‹_› rfl
 have hs:=ab
 have hx1:(q0::xr).length≤CZ:=by exact lD ‹_› rfl
 have hx3:(q0::xr).length < 8000000:=by lia
 have hhd:((av (q0::xr)).headD []).length≤1000000:=by
  cases h:av (q0::xr) with
  | nil=>exact Du _
  | cons a l=>simp only [h,Dd,DC] at hp;show a.length≤_;lia
 have hhd1:((av (q0::xr)).headD []).length≤CZ:=by exact lB ‹_› rfl
 have hpt:((av (q0::xr)).headD []).length+((av (q0::xr)).tail.map C9).sum≤2000000:=by
  cases h:av (q0::xr) with
  | nil=>exact Du _
  | cons a l=>simp only [h,Dd,DC] at hp;show a.length+(l.map C9).sum≤_;exact lB ‹_› rfl
 have hptl:(av (q0::xr)).tail.length≤2000000:=by simp only [Gp];lia
 have hpt1:([32]++(av (q0::xr)).headD []).length+((av (q0::xr)).tail.map C9).sum≤2000000:=by
  cases h:av (q0::xr) with
  | nil=>show 1+0≤_;lia
  | cons a l=>simp only [h,Dd,DC] at hp;show ([32]++a).length+(l.map C9).sum≤_;rw [CY];show 1+a.length+_≤_;lia
 have h32:[32].length+((av (q0::xr)).headD []).length≤CZ:=by show 1+_≤_;lia
 exists 1,af.of_defB
 exists 1,aG (q0::xr) tx ‹_›,0x12111112111212121,0
 exists 2,gL n1 (C9 (q0::xr)) t1 x1 (t1+1) ‹_›,0x41444141441111,3
 exists 3,(rm n x2 (n+1) ((t,tx,t+1,th,t+1+1,tw,t+1+1+1+1)) hd wd q0 xr ‹_› (t+1+1+1) (0+1+1+1+1) 0).up rfl,3,547
 exists 4,d1 (C4 wd) ((((((t,tx,t+1,th,t+1+1,tw,t+1+1+1+1).2).2).2).2).2).1 (C4 hd) ((((t,tx,t+1,th,t+1+1,tw,t+1+1+1+1).2).2).2).1,74258,0
 exists 5,em (n+1) (.str (S (EA (av (q0::xr)) [])) x3.2.2.2.2.2.2.1::al x3.2.2.2.2.2.2.2) x3.2.2.2.2.2.1 0 (t4+1) _ rfl (DD _),0x4144421112,3
 exists 6,aG (EA (av (q0::xr)) []) x3.2.2.2.2.2.2.1 ‹_›,1,0
 exists 7,gz (C9 (EA (av (q0::xr)) [])) x6 (C4 wd - C4 hd) x4 _ hgt,19,0
 exists 8,dj n3 [.str (S []) t3] 0 (.str (S []) t7) (DD _),0x6166663,5
 exists 9,em (n+1) (.str (S (EA (av (q0::xr)) [])) x3.2.2.2.2.2.2.1::al x3.2.2.2.2.2.2.2) x3.2.2.2.2.2.1 0 (t8+1+1) _ rfl (DD _),0x313334344,2
 exists 10,ak [32] (t8+1) (EA (av (q0::xr)) []) x3.2.2.2.2.2.2.1 ‹_›,1,0
 exists 11,r5 (n+1) (.type "list") none #[] (.str (S (EA (av (q0::xr)) [])) x3.2.2.2.2.2.2.1) (.str (S ([32]++EA (av (q0::xr)) [])) x10) (al x3.2.2.2.2.2.2.2) x3.2.2.2.2.2.1 t10,135716,1
 exists 12,(uq n n11 (n+1) n3 ((t,tx,t+1,th,t+1+1,tw,t+1+1+1+1)) ((x3.1,x3.2.1,x3.2.2.1,t3+1,t4)) (q0::xr) hd wd x11 ([32]++EA (av (q0::xr)) []) x10 x3.2.2.2.2.2.2.2 (GQ (av (q0::xr))) p3 ‹_› ‹_› (C4 wd) ((((((t,tx,t+1,th,t+1+1,tw,t+1+1+1+1).2).2).2).2).2).1 (x3.2.2.2.1+1+1) (0+1) t3 t7).up rfl,0x7121224,4435
 exists ar,(n3,x12.2.2.1,x12.2.2.2),2,4
theorem j5:∀(cs p:List e8) (z:e8),(((cO p z cs).map aD).map C9).sum=bS (p++[z])+bS cs∧(cO p z cs).length≤cs.length+1
 | [],p,z=>by
  simp only [cO]
  refine ⟨?_,Dh _⟩
  show (aD (p++[z])).length+0=_+0
  rw [br]
 | c::cs,p,z=>by
  unfold cO
  by_cases h:dZ z.2=true
  ·rw [if_pos h]
   obtain ⟨h1,h2⟩:=j5 cs [] c
   refine ⟨?_,by simp only [C5,C5];lia⟩
   rw [Dd,Dd,DC,h1,br,dh,DF,bc]
  ·rw [if_neg h]
   obtain ⟨h1,h2⟩:=j5 cs (p++[z]) c
   refine ⟨?_,by simp only [C5];exact D0 ‹_›⟩
   rw [h1,be (p++[z]),bc,dh]
   lia
theorem nk {hd:Nat} {x:List Nat} (h:m2 hd x):((av x).map C9).sum=x.length∧(av x).length≤x.length:=by
 refine gg λG hG=>?_;obtain ⟨w,cs,e1,e2,e3,e4,e5⟩:=iq x.length [] x (Dh _) h.first h.last h.ne;refine hG ?_
 have hp:=kL w cs e2 e3 e4
 simp only [←e5] at hp
 refine gg λG hG=>?_;obtain ⟨h1,h2⟩:=j5 cs [] ([],w);refine hG ?_
 have hc:=jl h
 have e1:bj x=([],w)::cs:=e1
 have hc:=e1▸hc
 simp only [dh,C5] at hc
 simp only [hp,C2,h1]
 refine ⟨?_,by lia⟩
 show bS [([],w)]+bS cs=_
 simp only [bc]
 exact hc.1
theorem nJ (x:List Nat) (tx:Tok) (hd:Nat) (th:Tok) (wd:Nat) (tw:Tok) (hx:m2 hd x):
  af Z 9 (.o (.call (.ref 388) ⟨[.str (S x) tx,.int (.ofNat hd) th,.int (.ofNat wd) tw],[]⟩)) [] (X:=C1×Nat×List (List Nat×Tok)) (λy=>y.2.2.map (·.1)=bE x hd wd) (λy=>.ok (.ret (.ref y.1))) (λξ=>[]) (λy=>[(y.1,aa (al y.2.2) y.2.1)]):=by
 have hl:=hx.len
 obtain ⟨p1,p2⟩:=nk hx
 obtain ⟨q0,xr,e⟩:=Di hx.ne
 cases hgt:decide (C4 ((av x).headD []).length > C4 wd - C4 hd) with
 | false=>
  have hr:bE x hd wd=aL wd (C4 wd - C4 hd) [] ((av x).headD []) (av x).tail:=by
   unfold bE
   rw [if_neg]
   have:=of_decide_eq_false hgt
   simp only [Dz] at this
   lia
  rw [hr]
  rw [e] at p1 p2 hgt hl ⊢
  exact zn q0 xr tx hd th wd tw (by lia) (by lia) (by lia) hgt
 | true=>
  have hr:bE x hd wd=aL wd (C4 wd) [[]] (32::(av x).headD []) (av x).tail:=by
   unfold bE
   rw [if_pos]
   have:=of_decide_eq_true hgt
   simp only [Dz] at this
   lia
  rw [hr]
  rw [e] at p1 p2 hgt hl ⊢
  exact yR q0 xr tx hd th wd tw (by lia) (by lia) (by lia) hgt
section
noncomputable abbrev CH (F:Fx):Expr:=gb F 393 [6] 0
noncomputable abbrev xH (F:Fx) (L C ca it acc:C1):CV:=fV F 393 L C (CH F) [] it acc
noncomputable abbrev xX (C ca it dl acc:C1) (xs:List CX) (de:Nat) (o:Obj) (i:Nat) (ys:List CX) (ea:Nat):ao:=
 [(C,o),(it,aS dl i),(dl,aa xs de),(acc,aa ys ea)]
noncomputable abbrev Xj:=Tok×CX×Tok×CX×Nat×Obj×Nat×List (List Nat×Tok)
noncomputable abbrev yz (F:Fx) (C ca it dl acc:C1) (xs:List CX) (de:Nat) (x:Xj):ao:=
 [(C,ai [en F dK x.1 x.2.1,en F cn x.2.2.1 x.2.2.2.1] x.2.2.2.2.1),(it,x.2.2.2.2.2.1),(dl,aa xs de),(acc,aa (al x.2.2.2.2.2.2.2) x.2.2.2.2.2.2.1)]
section
variable (L C ca it dl acc:C1) (xs:List CX) (de:Nat)
theorem yL (k0:Tok) (v0:CX) (k1:Tok) (v1:CX) (i:Nat) (hv:xs.length≤i) (ys:List CX) (ea ec:Nat):
  ae Z 12 (xH Z L C ca it acc) (xX C ca it dl acc xs de (ai [en Z dK k0 v0,en Z cn k1 v1] ec) i ys ea) []
   (X:=Obj) (λξ=>True) (λξ=>.ok .next) (λy=>[(ai [en Z dK k0 v0,en Z cn k1 v1] ec),y,aa xs de,aa ys ea]) (λξ=>[]):=by
 exists 0,ae.of_codeB
 exists 1,iX it dl i xs de ‹_›,787,34
 exists ar,eS i,5,12565
theorem B4 (k0:Tok) (v0:CX) (k1:Tok) (v1:CX) (ec i:Nat) (p:C1) (hi:xs[i]?=some (.ref p)) (nm:List Nat) (tp:Tok) (x:List Nat) (tx:Tok) (hz:nm.length+x.length≤1000000) (ys:List CX) (hyl:ys.length≤CZ) (ea:Nat) (M:ao) (P:Xj→Prop) (pm:Xj→ao)
  (ih:∀(k0 k1 u:Tok) (ec ea:Nat),ad Z 12 (xH Z L C ca it acc) (xX C ca it dl acc xs de (ai [en Z dK k0 (.str (S nm) tp),en Z cn k1 (.str (S x) tx)] ec) (i+1) (ys++[.str (S (((nm++[58,32])++x)++[13,10])) u]) ea++[(p,an nm tp x tx)]) M P (λξ=>.ok .next) (yz Z C ca it dl acc xs de) pm):
  ad Z 12 (xH Z L C ca it acc) (xX C ca it dl acc xs de (ai [en Z dK k0 v0,en Z cn k1 v1] ec) i ys ea++[(p,an nm tp x tx)]) M P (λξ=>.ok .next) (yz Z C ca it dl acc xs de) pm:=by
 have hs:=ab
 have hz1:nm.length+[58,32].length≤CZ:=by show _+2≤_;lia
 have hz2:(nm++[58,32]).length+x.length≤CZ:=by rw [CY];show _+2+_≤_;lia
 have hz3:((nm++[58,32])++x).length+[13,10].length≤CZ:=by rw [CY,CY];show _+2+_+2≤_;lia
 exists 0,ad.of_codeB
 exists 1,bb it dl i xs de (.ref p) hi,787,34
 exists 2,ak nm tp [58,32] (t1+1+1) ‹_›,0x143434967677171767677171767677171771616662,0
 exists 3,ak (nm++[58,32]) x2 x tx ‹_›,20,0
 exists 4,ak (nm++[58,32]++x) x3 [13,10] t3 ‹_›,1,0
 exists 5,dj acc ys ea (.str (S (nm++[58,32]++x++[13,10])) x4) ‹_›,81,4
 exists 6,aX,ih k0 k1 x4 ec (ea+1),0,70180
 exists az,(x6.1,x6.2.1,x6.2.2.1,x6.2.2.2.1,x6.2.2.2.2.1,x6.2.2.2.2.2.1,x6.2.2.2.2.2.2.1,x6.2.2.2.2.2.2.2),(by rfl),0,4369
theorem BR (ec i:Nat) (p:C1) (hi:xs[i]?=some (.ref p)) (nm:List Nat) (tp:Tok) (x:List Nat) (tx:Tok) (hz:nm.length+x.length≤1000000) (ys:List CX) (hyl:ys.length≤CZ) (ea:Nat) (M:ao) (P:Xj→Prop) (pm:Xj→ao)
  (ih:∀(k0 k1 u:Tok) (ec ea:Nat),ad Z 12 (xH Z L C ca it acc) (xX C ca it dl acc xs de (ai [en Z dK k0 (.str (S nm) tp),en Z cn k1 (.str (S x) tx)] ec) (i+1) (ys++[.str (S (((nm++[58,32])++x)++[13,10])) u]) ea++[(p,an nm tp x tx)]) M P (λξ=>.ok .next) (yz Z C ca it dl acc xs de) pm):
  ad Z 12 (xH Z L C ca it acc) (xX C ca it dl acc xs de (ai [] ec) i ys ea++[(p,an nm tp x tx)]) M P (λξ=>.ok .next) (yz Z C ca it dl acc xs de) pm:=by
 have hs:=ab
 have hz1:nm.length+[58,32].length≤CZ:=by show _+2≤_;lia
 have hz2:(nm++[58,32]).length+x.length≤CZ:=by rw [CY];show _+2+_≤_;lia
 have hz3:((nm++[58,32])++x).length+[13,10].length≤CZ:=by rw [CY,CY];show _+2+_+2≤_;lia
 exists 0,ad.of_codeB
 exists 1,bb it dl i xs de (.ref p) hi,787,34
 exists 2,ak nm tp [58,32] (t1+1+1) ‹_›,0x143434967677171767677171767677171771616662,0
 exists 3,ak (nm++[58,32]) x2 x tx ‹_›,20,0
 exists 4,ak (nm++[58,32]++x) x3 [13,10] t3 ‹_›,1,0
 exists 5,dj acc ys ea (.str (S (nm++[58,32]++x++[13,10])) x4) ‹_›,81,4
 exists 6,aX,ih t1 (t1+1) x4 (ec+1+1) (ea+1),0,70180
 exists az,(x6.1,x6.2.1,x6.2.2.1,x6.2.2.2.1,x6.2.2.2.2.1,x6.2.2.2.2.2.1,x6.2.2.2.2.2.2.1,x6.2.2.2.2.2.2.2),(by rfl),0,4369
end
end
section
noncomputable abbrev CS (F:Fx):Expr:=gb F 393 [7] 0
noncomputable abbrev wZ (F:Fx) (L C ca it acc:C1):CV:=fV F 393 L C (CS F) [(S iO,ca)] it acc
noncomputable abbrev wL (C ca it dl acc:C1) (m:Nat) (tm:Tok) (xs:List CX) (de:Nat) (o:Obj) (i:Nat) (ys:List CX) (ea:Nat):ao:=
 [(C,o),(it,aS dl i),(dl,aa xs de),(acc,aa ys ea),(ca,aY (.int (.ofNat m) tm))]
noncomputable abbrev Xq:=Tok×CX×Tok×CX×Nat×Obj×Nat×List Pt
noncomputable abbrev yl (F:Fx) (C ca it dl acc:C1) (m:Nat) (tm:Tok) (xs:List CX) (de:Nat) (x:Xq):ao:=
 [(C,ai [en F dK x.1 x.2.1,en F cn x.2.2.1 x.2.2.2.1] x.2.2.2.2.1),(it,x.2.2.2.2.2.1),(dl,aa xs de),(acc,aa (ah x.2.2.2.2.2.2.2) x.2.2.2.2.2.2.1),(ca,aY (.int (.ofNat m) tm))]
section
variable (L C ca it dl acc:C1) (xs:List CX) (de:Nat)
theorem zk (m:Nat) (tm:Tok) (k0:Tok) (v0:CX) (k1:Tok) (v1:CX) (i:Nat) (hv:xs.length≤i) (ys:List CX) (ea ec:Nat):
  ae Z 12 (wZ Z L C ca it acc) (wL C ca it dl acc m tm xs de (ai [en Z dK k0 v0,en Z cn k1 v1] ec) i ys ea) []
   (X:=Obj) (λξ=>True) (λξ=>.ok .next) (λy=>[(ai [en Z dK k0 v0,en Z cn k1 v1] ec),y,aa xs de,aa ys ea,aY (.int (.ofNat m) tm)]) (λξ=>[]):=by
 exists 0,ae.of_codeB
 exists 1,iX it dl i xs de ‹_›,787,34
 exists ar,eS i,5,209173
theorem BX (m:Nat) (tm:Tok) (k0:Tok) (v0:CX) (k1:Tok) (v1:CX) (ec i:Nat) (p:C1) (hi:xs[i]?=some (.ref p)) (nm:List Nat) (tp:Tok) (x:List Nat) (tx:Tok) (hx:m2 (nm.length+2) x) (hnm:nm.length≤1000) (ys:List CX) (hyl:ys.length≤CZ) (ea:Nat) (M:ao) (P:Xq→Prop) (pm:Xq→ao)
  (ih:∀(k0 k1 u:Tok) (ec ea:Nat) (a:C1),ad Z 12 (wZ Z L C ca it acc) (wL C ca it dl acc m tm xs de (ai [en Z dK k0 (.str (S nm) tp),en Z cn k1 (.str (S x) tx)] ec) (i+1) (ys++[.ref a]) ea++[(p,an nm tp x tx),(a,an nm tp (ap [13,10] (bE x (nm.length+2) m)) u)]) M P (λξ=>.ok .next) (yl Z C ca it dl acc m tm xs de) pm):
  ad Z 12 (wZ Z L C ca it acc) (wL C ca it dl acc m tm xs de (ai [en Z dK k0 v0,en Z cn k1 v1] ec) i ys ea++[(p,an nm tp x tx)]) M P (λξ=>.ok .next) (yl Z C ca it dl acc m tm xs de) pm:=by
 have hxl:=hx.len
 have hs:=ab
 have hnz:nm.length≤CZ:=by exact lB ‹_› rfl
 have hsz:=iz (m:=m) hx (DD _)
 have hjj:((bE x (nm.length+2) m).map C9).sum+(bE x (nm.length+2) m).length * [13,10].length≤CZ:=by show _+_ * 2≤_;lia
 exists 0,ad.of_codeB
 exists 1,bb it dl i xs de (.ref p) hi,787,34
 exists 2,aG nm tp ‹_›,0x14114143434a78788181878788181878788181881717772,0
 exists 3,ba (C9 nm) x2 2 t2,1,0
 exists 4,(nJ x tx (C9 nm+2) x3 m tm ‹_›).up rfl,22,0
 exists 5,aV [13,10] (t1+1+1) x4.1 x4.2.2 (bE x (C9 nm+2) m) p4 x4.2.1 ‹_›,1,1
 exists 6,dj acc ys ea (.ref n5) ‹_›,97,5
 exists 7,aX,ih k0 k1 x5 ec (ea+1) n5,0,86119221
 exists az,(x7.1,x7.2.1,x7.2.2.1,x7.2.2.2.1,x7.2.2.2.2.1,x7.2.2.2.2.2.1,x7.2.2.2.2.2.2.1,x7.2.2.2.2.2.2.2),(by rfl),0,69905
theorem BG (m:Nat) (tm:Tok) (ec i:Nat) (p:C1) (hi:xs[i]?=some (.ref p)) (nm:List Nat) (tp:Tok) (x:List Nat) (tx:Tok) (hx:m2 (nm.length+2) x) (hnm:nm.length≤1000) (ys:List CX) (hyl:ys.length≤CZ) (ea:Nat) (M:ao) (P:Xq→Prop) (pm:Xq→ao)
  (ih:∀(k0 k1 u:Tok) (ec ea:Nat) (a:C1),ad Z 12 (wZ Z L C ca it acc) (wL C ca it dl acc m tm xs de (ai [en Z dK k0 (.str (S nm) tp),en Z cn k1 (.str (S x) tx)] ec) (i+1) (ys++[.ref a]) ea++[(p,an nm tp x tx),(a,an nm tp (ap [13,10] (bE x (nm.length+2) m)) u)]) M P (λξ=>.ok .next) (yl Z C ca it dl acc m tm xs de) pm):
  ad Z 12 (wZ Z L C ca it acc) (wL C ca it dl acc m tm xs de (ai [] ec) i ys ea++[(p,an nm tp x tx)]) M P (λξ=>.ok .next) (yl Z C ca it dl acc m tm xs de) pm:=by
 have hxl:=hx.len
 have hsz:=iz (m:=m) hx (DD _)
 have hs:=ab
 have hnz:nm.length≤CZ:=by exact lB ‹_› rfl
 have hjj:((bE x (nm.length+2) m).map C9).sum+(bE x (nm.length+2) m).length * [13,10].length≤CZ:=by show _+_ * 2≤_;lia
 exists 0,ad.of_codeB
 exists 1,bb it dl i xs de (.ref p) hi,787,34
 exists 2,aG nm tp ‹_›,0x14114143434a78788181878788181878788181881717772,0
 exists 3,ba (C9 nm) x2 2 t2,1,0
 exists 4,(nJ x tx (C9 nm+2) x3 m tm ‹_›).up rfl,22,0
 exists 5,aV [13,10] (t1+1+1) x4.1 x4.2.2 (bE x (C9 nm+2) m) p4 x4.2.1 ‹_›,1,1
 exists 6,dj acc ys ea (.ref n5) ‹_›,97,5
 exists 7,aX,ih t1 (t1+1) x5 (ec+1+1) (ea+1) n5,0,86119221
 exists az,(x7.1,x7.2.1,x7.2.2.1,x7.2.2.2.1,x7.2.2.2.2.1,x7.2.2.2.2.2.1,x7.2.2.2.2.2.2.1,x7.2.2.2.2.2.2.2),(by rfl),0,69905
end
end
section
theorem mS {α:Type} {l:List α} {i:Nat} {y:α} {rem:List α} (hd:l.drop i=y::rem):l[i]?=some y∧l.drop (i+1)=rem:=by
 refine ⟨?_,?_⟩
 ·have:=congrArg (λl=>l[0]?) hd
  simpa using this
 ·have:=congrArg (DX 1) hd
  rw [DE] at this
  exact this
structure Bw (y:Fp):Prop where
 ps:∀p∈y.ps,sy p.pl
 len:y.f.ow.length+4000 * y.ps.length≤1000000
section
variable (L C ca it zl acc:C1) (ze:Nat) (l ds:List Fp)
theorem rA (hl:ds.length≤1000) (hsub:∀y∈ds,y∈l) (hok:∀y∈ds,Bw y):∀(rem:List Fp) (i:Nat) (z:Option (Tok×C1)) (ys:List Pt) (ec ea:Nat),ds.drop i=rem→ys.length≤i→(z=none→rem≠[])→
  ad Z 12 (xv Z L C ca it acc) (w9 C it zl acc (au ds) ze (match z with | none=>ai [] ec | some (k0,p0)=>ai [en Z eJ k0 (.ref p0)] ec) i (ah ys) ea) (bf l++aj ys)
   (λx:Xu=>x.2.2.2.2.2.map d3=ys.map d3++rem.map Fp.row) (λξ=>.ok .next) (yC Z C it zl acc (au ds) ze) (λx=>bf l++aj x.2.2.2.2.2)
 | [],i,none,ys,ec,ea,hd,_,hz=>absurd rfl (hz rfl)
 | [],i,some (k0,p0),ys,ec,ea,hd,_,_=>by
  have hv:(au ds).length≤i:=by delta au;simp only [C2];exact Dx.mp hd
  exact ad.to (ae.toM (bG.toR (ae.toT (yK L C ca it zl acc (au ds) ze k0 p0 i hv (ah ys) ea ec)) (bf l++aj ys))) (C8 _) (λx=>(k0,p0,ec,x,ea,ys)) (λξ=>[]) λx ξ=>⟨by simp,rfl,C8 _⟩
 | y::rem,i,z,ys,ec,ea,hd,hys,_=>by
  have hs:=ab
  obtain ⟨hi,hd'⟩:=mS hd
  have hmem:y∈ds:=Dw hi
  have hri:(au ds)[i]?=some (.ref y.f.a):=by delta au;simp only [Dv,hi];rfl
  have hlt:i < ds.length:=(Dg.mp hi).1
  obtain ⟨j,hj⟩:=Fc.mp (hsub y hmem)
  have hat:=qg l j y hj
  obtain ⟨o1,o2⟩:=hok y hmem
  have hyl:(ah ys).length≤CZ:=by delta ah;simp only [C2];lia
  have et:∀(a:C1) (u2:Tok),(ys++[(⟨a,y.f.nm,y.f.tn,bt y.f.ow y.ps,u2⟩:Pt)]).map d3++rem.map Fp.row=ys.map d3++(y::rem).map Fp.row:=λa u2=>by
   simp only [Da,C6];rfl
  have go:∀(k0 u2:Tok) (ec ea:Nat) (a:C1),ad Z 12 (xv Z L C ca it acc) (w9 C it zl acc (au ds) ze (ai [en Z eJ k0 (.ref y.f.a)] ec) (i+1) (ah ys++[.ref a]) ea++[(y.f.a,bF y.f.g y.f.kd y.f.tk y.f.nm y.f.tn y.f.ow y.f.to y.f.pa y.f.e),(y.f.pa,aa (aB y.ps) y.pe),(a,an y.f.nm y.f.tn (bt y.f.ow y.ps) u2)]) (cI y.ps++(bf (l.take j++l.drop (j+1))++aj ys))
    (λx:Xu=>x.2.2.2.2.2.map d3=ys.map d3++(y::rem).map Fp.row) (λξ=>.ok .next) (yC Z C it zl acc (au ds) ze) (λx=>bf l++aj x.2.2.2.2.2):=λk0 u2 ec ea a=>by
   refine ad.to (rA hl hsub hok rem (i+1) (some (k0,y.f.a)) (ys++[(⟨a,y.f.nm,y.f.tn,bt y.f.ow y.ps,u2⟩:Pt)]) ec ea hd' (by simp only [CY];show _+1≤_;lia) (λh=>by cases h)) ?_ id (λξ=>[]) (λx hx=>⟨?_,rfl,C8 _⟩)
   ·refine DW ?_ (C7 _ (hat.append_right _).symm)
    simp only [←cY,fv]
    delta Pt.e Fp.led
    exact (pT [[_],[_],[_],[_],[_],[_],[_],_,_,_] [2,3,4,5,0,0,0,6,7,8,0,0,0,9,10,11,0,0,0] [2,3,4,5,0,0,0,10,6,7,0,9,0,0,11,8,0,0,0] rfl)
   ·simp only [←et a u2];exact hx
  have hp:∀A0:ao,(A0++(bf l++aj ys)).Perm ((A0++[(y.f.a,bF y.f.g y.f.kd y.f.tk y.f.nm y.f.tn y.f.ow y.f.to y.f.pa y.f.e),(y.f.pa,aa (aB y.ps) y.pe)])++(cI y.ps++(bf (l.take j++l.drop (j+1))++aj ys))):=λA0=>by
   refine DW (C7 _ (hat.append_right _)) ?_
   delta Fp.led
   exact (pT [_,_,[_],[_],_,_] [2,3,4,5,0,6,0,0,7,0,0] [2,4,5,0,0,6,3,7,0,0,0] rfl)
  cases z with
  | none=>exact ad.to (B6 L C ca it zl acc (au ds) ze ec i y.f.a hri y.f.g y.f.kd y.f.tk y.f.nm y.f.tn y.f.ow y.f.to y.f.pa y.f.e y.ps y.pe o1 o2 (ah ys) hyl ea (bf (l.take j++l.drop (j+1))++aj ys) _ (λx=>bf l++aj x.2.2.2.2.2) go) (hp _) id (λξ=>[]) (λx hx=>⟨hx,rfl,C8 _⟩)
  | some kp=>exact ad.to (B5 L C ca it zl acc (au ds) ze kp.1 kp.2 ec i y.f.a hri y.f.g y.f.kd y.f.tk y.f.nm y.f.tn y.f.ow y.f.to y.f.pa y.f.e y.ps y.pe o1 o2 (ah ys) hyl ea (bf (l.take j++l.drop (j+1))++aj ys) _ (λx=>bf l++aj x.2.2.2.2.2) go) (hp _) id (λξ=>[]) (λx hx=>⟨hx,rfl,C8 _⟩)
theorem zD (hl:ds.length≤1000) (hsub:∀y∈ds,y∈l) (hok:∀y∈ds,Bw y) (hne:ds≠[]) (ec ea:Nat):
  ad Z 12 (xv Z L C ca it acc) (w9 C it zl acc (au ds) ze (ai [] ec) 0 [] ea) (bf l)
   (λx:Xu=>x.2.2.2.2.2.map d3=ds.map Fp.row) (λξ=>.ok .next) (yC Z C it zl acc (au ds) ze) (λx=>bf l++aj x.2.2.2.2.2):=by
 refine ad.to (rA L C ca it zl acc ze l ds hl hsub hok ds 0 none [] ec ea rfl (Du _) (λξ=>hne)) ?_ id (λξ=>[]) (λx hx=>⟨hx,rfl,C8 _⟩)
 show F3 _ (_++(bf l++[]))
 simp only [Dm]
 exact C8 _
end
noncomputable def lr (x:Pt):List Nat:=((x.f++[58,32])++x.q)++[13,10]
section
variable (L C ca it dl acc:C1) (de:Nat) (qs:List Pt)
theorem rO (hl:qs.length≤1000) (hok:∀x∈qs,x.f.length+x.q.length≤1000000):∀(rem:List Pt) (i:Nat) (z:Option (Tok×CX×Tok×CX)) (ys:List (List Nat×Tok)) (ec ea:Nat),qs.drop i=rem→ys.length≤i→(z=none→rem≠[])→
  ad Z 12 (xH Z L C ca it acc) (xX C ca it dl acc (ah qs) de (match z with | none=>ai [] ec | some (k0,v0,k1,v1)=>ai [en Z dK k0 v0,en Z cn k1 v1] ec) i (al ys) ea) (aj qs)
   (λx:Xj=>x.2.2.2.2.2.2.2.map (·.1)=ys.map (·.1)++rem.map lr) (λξ=>.ok .next) (yz Z C ca it dl acc (ah qs) de) (λξ=>aj qs)
 | [],i,none,ys,ec,ea,hd,_,hz=>absurd rfl (hz rfl)
 | [],i,some (k0,v0,k1,v1),ys,ec,ea,hd,_,_=>by
  have hv:(ah qs).length≤i:=by unfold ah;rw [C2];exact Dx.mp hd
  exact ad.to (ae.toM (bG.toR (ae.toT (yL L C ca it dl acc (ah qs) de k0 v0 k1 v1 i hv (al ys) ea ec)) (aj qs))) (C8 _) (λx=>(k0,v0,k1,v1,ec,x,ea,ys)) (λξ=>[]) λx ξ=>⟨by simp,rfl,C8 _⟩
 | y::rem,i,z,ys,ec,ea,hd,hys,_=>by
  have hs:=ab
  obtain ⟨hi,hd'⟩:=mS hd
  have hlt:i < qs.length:=(Dg.mp hi).1
  obtain ⟨M,hM⟩:=d9 hi
  have o1:=hok y (Dw hi)
  have hyl:(al ys).length≤CZ:=by unfold al;rw [C2];lia
  have et:∀u:Tok,(ys++[((((y.f++[58,32])++y.q)++[13,10],u):List Nat×Tok)]).map (·.1)++rem.map lr=ys.map (·.1)++(y::rem).map lr:=λu=>by
   rw [Da,C6];rfl
  have go:∀(k0 k1 u:Tok) (ec ea:Nat),ad Z 12 (xH Z L C ca it acc) (xX C ca it dl acc (ah qs) de (ai [en Z dK k0 (.str (S y.f) y.tf),en Z cn k1 (.str (S y.q) y.tq)] ec) (i+1) (al ys++[.str (S (((y.f++[58,32])++y.q)++[13,10])) u]) ea++[(y.p,an y.f y.tf y.q y.tq)]) M
    (λx:Xj=>x.2.2.2.2.2.2.2.map (·.1)=ys.map (·.1)++(y::rem).map lr) (λξ=>.ok .next) (yz Z C ca it dl acc (ah qs) de) (λξ=>aj qs):=λk0 k1 u ec ea=>by
   refine ad.to (rO hl hok rem (i+1) (some (k0,.str (S y.f) y.tf,k1,.str (S y.q) y.tq)) (ys++[(((y.f++[58,32])++y.q)++[13,10],u)]) ec ea hd' (by rw [CY];show _+1≤_;lia) (λh=>by cases h)) ?_ id (λξ=>[]) (λx hx=>⟨?_,rfl,C8 _⟩)
   ·refine DW ?_ (C7 _ hM.symm)
    rw [←bu]
    unfold Pt.e
    exact (pT [[_],[_],[_],[_],[_],_] [2,3,4,5,0,0,0,6,0,7,0] [2,3,4,5,0,0,0,7,6,0,0] rfl)
   ·simp only [←et u];exact hx
  have hp:∀A0:ao,(A0++aj qs).Perm ((A0++[(y.p,an y.f y.tf y.q y.tq)])++M):=λA0=>by
   refine DW (C7 _ hM) ?_
   unfold Pt.e
   exact (pT [_,_,[_]] [2,3,4,0,0] [2,4,0,3,0] rfl)
  cases z with
  | none=>exact ad.to (BR L C ca it dl acc (ah qs) de ec i y.p (cm hi) y.f y.tf y.q y.tq o1 (al ys) hyl ea M _ (λξ=>aj qs) go) (hp _) id (λξ=>[]) (λx hx=>⟨hx,rfl,C8 _⟩)
  | some kp=>exact ad.to (B4 L C ca it dl acc (ah qs) de kp.1 kp.2.1 kp.2.2.1 kp.2.2.2 ec i y.p (cm hi) y.f y.tf y.q y.tq o1 (al ys) hyl ea M _ (λξ=>aj qs) go) (hp _) id (λξ=>[]) (λx hx=>⟨hx,rfl,C8 _⟩)
theorem yS (hl:qs.length≤1000) (hok:∀x∈qs,x.f.length+x.q.length≤1000000) (hne:qs≠[]) (ec ea:Nat):
  ad Z 12 (xH Z L C ca it acc) (xX C ca it dl acc (ah qs) de (ai [] ec) 0 [] ea) (aj qs)
   (λx:Xj=>x.2.2.2.2.2.2.2.map (·.1)=qs.map lr) (λξ=>.ok .next) (yz Z C ca it dl acc (ah qs) de) (λξ=>aj qs):=
 rO L C ca it dl acc de qs hl hok qs 0 none [] ec ea rfl (Du _) (λξ=>hne)
theorem rF (m:Nat) (tm:Tok) (hl:qs.length≤1000) (hok:∀x∈qs,m2 (x.f.length+2) x.q∧x.f.length≤1000):∀(rem:List Pt) (i:Nat) (z:Option (Tok×CX×Tok×CX)) (ys:List Pt) (ec ea:Nat),qs.drop i=rem→ys.length≤i→(z=none→rem≠[])→
  ad Z 12 (wZ Z L C ca it acc) (wL C ca it dl acc m tm (ah qs) de (match z with | none=>ai [] ec | some (k0,v0,k1,v1)=>ai [en Z dK k0 v0,en Z cn k1 v1] ec) i (ah ys) ea) (aj qs++aj ys)
   (λx:Xq=>x.2.2.2.2.2.2.2.map d3=ys.map d3++rem.map (fD m)) (λξ=>.ok .next) (yl Z C ca it dl acc m tm (ah qs) de) (λx=>aj qs++aj x.2.2.2.2.2.2.2)
 | [],i,none,ys,ec,ea,hd,_,hz=>absurd rfl (hz rfl)
 | [],i,some (k0,v0,k1,v1),ys,ec,ea,hd,_,_=>by
  have hv:(ah qs).length≤i:=by unfold ah;simp only [C2];exact Dx.mp hd
  exact ad.to (ae.toM (bG.toR (ae.toT (zk L C ca it dl acc (ah qs) de m tm k0 v0 k1 v1 i hv (ah ys) ea ec)) (aj qs++aj ys))) (C8 _) (λx=>(k0,v0,k1,v1,ec,x,ea,ys)) (λξ=>[]) λx ξ=>⟨by simp,rfl,C8 _⟩
 | y::rem,i,z,ys,ec,ea,hd,hys,_=>by
  have hs:=ab
  obtain ⟨hi,hd'⟩:=mS hd
  have hlt:i < qs.length:=(Dg.mp hi).1
  obtain ⟨M,hM⟩:=d9 hi
  obtain ⟨o1,o2⟩:=hok y (Dw hi)
  have hyl:(ah ys).length≤CZ:=by unfold ah;simp only [C2];lia
  have et:∀(a:C1) (u:Tok),(ys++[(⟨a,y.f,y.tf,ap [13,10] (bE y.q (y.f.length+2) m),u⟩:Pt)]).map d3++rem.map (fD m)=ys.map d3++(y::rem).map (fD m):=λa u=>by
   simp only [Da,C6];rfl
  have go:∀(k0 k1 u:Tok) (ec ea:Nat) (a:C1),ad Z 12 (wZ Z L C ca it acc) (wL C ca it dl acc m tm (ah qs) de (ai [en Z dK k0 (.str (S y.f) y.tf),en Z cn k1 (.str (S y.q) y.tq)] ec) (i+1) (ah ys++[.ref a]) ea++[(y.p,an y.f y.tf y.q y.tq),(a,an y.f y.tf (ap [13,10] (bE y.q (y.f.length+2) m)) u)]) (M++aj ys)
    (λx:Xq=>x.2.2.2.2.2.2.2.map d3=ys.map d3++(y::rem).map (fD m)) (λξ=>.ok .next) (yl Z C ca it dl acc m tm (ah qs) de) (λx=>aj qs++aj x.2.2.2.2.2.2.2):=λk0 k1 u ec ea a=>by
   refine ad.to (rF m tm hl hok rem (i+1) (some (k0,.str (S y.f) y.tf,k1,.str (S y.q) y.tq)) (ys++[(⟨a,y.f,y.tf,ap [13,10] (bE y.q (y.f.length+2) m),u⟩:Pt)]) ec ea hd' (by simp only [CY];show _+1≤_;lia) (λh=>by cases h)) ?_ id (λξ=>[]) (λx hx=>⟨?_,rfl,C8 _⟩)
   ·refine DW ?_ (C7 _ (hM.append_right _).symm)
    simp only [←cY,fv]
    unfold Pt.e
    exact (pT [[_],[_],[_],[_],[_],[_],[_],_,_] [2,3,4,5,6,0,0,0,0,7,8,0,0,9,10,0,0] [2,3,4,5,6,0,0,0,0,9,7,0,10,8,0,0,0] rfl)
   ·simp only [←et a u];exact hx
  have hp:∀A0:ao,(A0++(aj qs++aj ys)).Perm ((A0++[(y.p,an y.f y.tf y.q y.tq)])++(M++aj ys)):=λA0=>by
   refine DW (C7 _ (hM.append_right _)) ?_
   unfold Pt.e
   exact (pT [_,_,[_],_] [2,3,4,0,5,0,0] [2,4,0,3,5,0,0] rfl)
  cases z with
  | none=>exact ad.to (BG L C ca it dl acc (ah qs) de m tm ec i y.p (cm hi) y.f y.tf y.q y.tq o1 o2 (ah ys) hyl ea (M++aj ys) _ (λx=>aj qs++aj x.2.2.2.2.2.2.2) go) (hp _) id (λξ=>[]) (λx hx=>⟨hx,rfl,C8 _⟩)
  | some kp=>exact ad.to (BX L C ca it dl acc (ah qs) de m tm kp.1 kp.2.1 kp.2.2.1 kp.2.2.2 ec i y.p (cm hi) y.f y.tf y.q y.tq o1 o2 (ah ys) hyl ea (M++aj ys) _ (λx=>aj qs++aj x.2.2.2.2.2.2.2) go) (hp _) id (λξ=>[]) (λx hx=>⟨hx,rfl,C8 _⟩)
theorem zx (m:Nat) (tm:Tok) (hl:qs.length≤1000) (hok:∀x∈qs,m2 (x.f.length+2) x.q∧x.f.length≤1000) (hne:qs≠[]) (ec ea:Nat):
  ad Z 12 (wZ Z L C ca it acc) (wL C ca it dl acc m tm (ah qs) de (ai [] ec) 0 [] ea) (aj qs)
   (λx:Xq=>x.2.2.2.2.2.2.2.map d3=qs.map (fD m)) (λξ=>.ok .next) (yl Z C ca it dl acc m tm (ah qs) de) (λx=>aj qs++aj x.2.2.2.2.2.2.2):=by
 refine ad.to (rF L C ca it dl acc de qs m tm hl hok qs 0 none [] ec ea rfl (Du _) (λξ=>hne)) ?_ id (λξ=>[]) (λx hx=>⟨hx,rfl,C8 _⟩)
 show F3 _ (_++(aj qs++[]))
 simp only [Dm]
 exact C8 _
end
end
end
section
open PySem
structure CP (l:List PF):Prop where
 all:∀f∈l,gW 9 f
 len:l.length≤9
 first:∃f r,l=f::r∧f.g=false∧f.ps≠[]
theorem fz (vals:List Nat) (h:vals.length≤8):CP (bL vals):=by
 obtain ⟨ini',la',e,g1,g2,g3,g4,g5⟩:=iR vals [] z6 1 (λf hf=>by cases hf) AO
 have e:bL vals=ini'++[la']:=e
 rw [e]
 refine ⟨λf hf=>?_,?_,?_⟩
 ·rcases DA.mp hf with hf | hf
  ·exact cJ (by lia) (g1 f hf)
  ·rw [Dl.mp hf];exact cJ (by lia) g2
 ·rw [CY]
  have h1:[la'].length=1:=rfl
  have h0:([]:List PF).length=0:=rfl
  lia
 ·have g5:=g5 (by intro e;cases e)
  cases ini' with
  | nil=>
   refine ⟨la',[],rfl,?_,λe=>g5 ?_⟩
   ·have g4:some la'.g=some false:=g4
    injection g4
   ·show some la'.ps=some []
    rw [e]
  | cons a r=>
   refine ⟨a,r++[la'],rfl,?_,λe=>g5 ?_⟩
   ·have g4:some a.g=some false:=g4
    injection g4
   ·show some a.ps=some []
    rw [e]
theorem eW {j:Nat} (hj:j < 9) {p:wx} (h:yd j p):p.1≠[]∧p.1.length≤10∧(∀c∈p.1,bH c=true∧aA c=false)∧(p.1.head?=some 102∨p.1.head?=some 107):=by
 rcases h.1 with ⟨h1,h2⟩ | ⟨u,hu,h1⟩
 ·refine h1▸?_;exact ⟨by decide,by decide,by decide,.inl rfl⟩
 ·refine h1▸?_
  have key:∀u:Fin 3,∀j:Fin 9,(([107]++DI u.1 95)++[48+j.1]).length≤10∧(∀c∈([107]++DI u.1 95)++[48+j.1],bH c=true∧aA c=false):=by decide+kernel
  obtain ⟨k1,k2⟩:=key ⟨u,hu⟩ ⟨j,hj⟩
  exact ⟨by simp,k1,k2,.inr rfl⟩
theorem gr {j:Nat} {p:wx} (h:yd j p):∀v,p.2=some v→(∀c∈v,aO c=true)∧v.length≤10:=λv hv=>by
 obtain ⟨h1,h2⟩:=h.2 v hv
 refine ⟨λc hc=>?_,h2⟩
 have:∀c∈zb,aO c=true:=by decide
 exact this c (h1 c hc)
theorem iI {c:Nat} (h:bH c=true):c < 128:=by unfold bH at h;simp at h;lia
theorem lp {c:Nat} (h:aO c=true):c < 128:=by
 unfold aO at h
 rw [Bool.or_eq_true] at h
 rcases h with h | h
 ·exact iI h
 ·have:c=9:=by simpa using h
  lia
theorem vz {α:Type} {l:List α} {x:α} (h:x∈l):∃j:Nat,l[j]?=some x:=Fc.mp h
theorem pS (ps:List wx) (h:∀j p,ps[j]?=some p→yd j p) (hl:ps.length≤9):(ps.map (·.1)).Nodup:=by
 rw [List.nodup_iff_pairwise_ne,List.pairwise_iff_getElem]
 intro i j hi hj hij
 simp only [C2] at hi hj
 simp only [Gq,Gq]
 have pi:=h i _ (DB hi)
 have pj:=h j _ (DB hj)
 intro e
 rcases pj.1 with ⟨_,h2⟩ | ⟨u,hu,h1⟩
 ·lia
 ·rcases pi.1 with ⟨g1,g2⟩ | ⟨v,hv,g1⟩
  ·simp only [g1,h1] at e
   have:=congrArg List.head? e
   simp [l9] at this
  ·simp only [g1,h1] at e
   have:=congrArg List.getLast? e
   simp only [EV,EV] at this
   injection this with this
   lia
theorem AF (ps:List Pm) (h:∀j p,(ps.map Pm.pl)[j]?=some p→yd j p) (hl:ps.length≤9):kR ps:=by
 have hg:∀p∈ps,∃j,j < 9∧yd j p.pl:=λp hp=>by
  obtain ⟨j,hj⟩:=vz hp
  have hlt:=(Dg.mp hj).1
  exact ⟨j,by exact EK ‹_› ‹_›,h j p.pl (by rw [Dv,hj];rfl)⟩
 refine ⟨?_,by exact lB ‹_› rfl,λp hp=>?_,λp hp=>?_,λp hp=>?_⟩
 ·have:=pS (ps.map Pm.pl) h (by rw [C2];exact hl)
  rw [DV] at this
  exact this
 ·obtain ⟨j,hj,hk⟩:=hg p hp
  obtain ⟨k1,k2,k3,_⟩:=eW hj hk
  refine ⟨k1,λc hc=>iI (k3 c hc).1,by exact lB ‹_› rfl,λx hx=>?_⟩
  obtain ⟨v1,v2⟩:=gr hk x hx
  exact ⟨λc hc=>lp (v1 c hc),by exact lB ‹_› rfl⟩
 ·obtain ⟨j,hj,hk⟩:=hg p hp
  obtain ⟨k1,k2,k3,_⟩:=eW hj hk
  refine ⟨λc hc=>(k3 c hc).1,by exact lB ‹_› rfl,λx hx=>?_⟩
  obtain ⟨v1,v2⟩:=gr hk x hx
  exact ⟨v1,by exact lB ‹_› rfl⟩
 ·obtain ⟨j,hj,hk⟩:=hg p hp
  obtain ⟨_,_,_,k4⟩:=eW hj hk
  have hne:∀y:List Nat,y.head?≠some 102→y.head?≠some 107→(S p.k == S y)=false:=λy y1 y2=>AA (λe=>by
   have k4:p.k.head?=some 102∨p.k.head?=some 107:=k4
   rw [e] at k4
   rcases k4 with k4 | k4
   ·exact y1 k4
   ·exact y2 k4)
  simp only [List.contains,List.elem,hne [115,101,108,102] (by decide) (by decide),hne [95,110,97,109,101] (by decide) (by decide),hne [95,118,97,108,117,101] (by decide) (by decide)]
theorem yn {n:Nat} {f:PF} (h:gW n f):(∀c∈f.ow,aO c=true∧aA c=false)∧f.ow.length≤10∧f.ow≠[]:=by
 rcases h.ow with e | e
 ·rw [e];exact ⟨by decide,by decide,by decide⟩
 ·have:∀o∈uC,(∀c∈o,aO c=true∧aA c=false)∧o.length≤10∧o≠[]:=by decide
  exact this _ e
theorem u6 {x:Fp} (h:gW 9 x.pf):zZ x∧Bw x:=by
 have hp:=AF x.ps h.ps (by have:=h.len;rw [show x.pf.ps=x.ps.map Pm.pl from rfl,C2] at this;exact this)
 have hl:=h.len
 rw [show x.pf.ps=x.ps.map Pm.pl from rfl,C2] at hl
 obtain ⟨o1,o2,o3⟩:=yn h
 have o2:x.f.ow.length≤10:=o2
 exact ⟨⟨yx h.nm,λc hc=>(o1 c hc).1,by exact lB ‹_› rfl,hp⟩,⟨hp.okp,by lia⟩⟩
end
section
open PyProof.Rows PySem PySem.Calls PySem.Spec PySem.W PySem.W.X
theorem pA (o od hl:C1) (k:Tok) (e el:Nat) (ps:List Pt) (hz:ps.length≤1000) (hn:∀x∈ps,x.f.length≤1000000∧x.q.length≤1000000) (x0:Pt) (rem:List Pt) (hps:ps=x0::rem) (hj:((ps.map eV).map (·.length)).sum+(ps.length+2) * 2≤CZ):
  ae Z 9 (.o (.call (.ref 326) ⟨[.ref o],[]⟩)) [(o,gG od),(od,ig Z k hl e),(hl,aa (ah ps) el)] (aj ps) (X:=List (List Nat×Tok)×Tok) (λy=>y.1.map (·.1)=ps.map eV) (λx=>.ok (.ret (.str (S (ap [13,10] (x.1.map (·.1)++[[],[]]))) x.2)))
   (λx=>[gG od,ig Z k hl e,aa (ah ps) el]) (λx=>[]):=by
 have hs:=ab
 have hz1:ps.length≤CZ:=by exact lB ‹_› rfl
 have hlen:∀y:List (List Nat×Tok),y.map (·.1)=ps.map eV→y.length=ps.length:=λy hy=>by
  have:=congrArg C9 hy
  simp only [C2,C2] at this;exact this
 have hfl:∀(y:List (List Nat×Tok)),y.map (·.1)=ps.map eV→∀(a b:CX),(al y).length+[a,b].length≤CZ:=λy hy a b=>by
  unfold al;simp only [C2,hlen y hy];simp;lia
 have hjn:∀(y:List (List Nat×Tok)),y.map (·.1)=ps.map eV→((y.map (·.1)).map (·.length)).sum+(y.length+2) * [13,10].length≤CZ:=λy hy=>by
  simp only [hy,hlen y hy];exact hj
 exists 1,ae.of_defB
 exists 1,cT,(xM n (n+1+1+1) (n+1) hl (n+1+1) el ps ‹_› ‹_› x0 rem hps 0 0).up rfl,0x61616616141443122111211112511451,17239
 exists 2,kZ (n+1+1) n1 (al x1.2.2.2.2.2) [.str (S []) t1,.str (S []) (t1+1)] x1.2.2.2.2.1 0 (by apply_assumption <;> assumption),0x51595122,116
 exists 3,tF [13,10] (t+1) x2 x1.2.2.2.2.2 t1 (t1+1) 0 (by apply_assumption <;> assumption),1,3
 exists ar,((x1.2.2.2.2).2,x3),0,1655
theorem sZ (o od hl:C1) (k:Tok) (e el:Nat) (ps:List Pt) (hz:ps.length≤1000) (hn:∀x∈ps,x.f.length≤1000000∧x.q.length≤1000000) (x0:Pt) (rem:List Pt) (hps:ps=x0::rem) (hj:((ps.map eV).map (·.length)).sum+(ps.length+2) * 2≤CZ):
  ae Z 9 (.o (.call (.ref 326) ⟨[.ref o],[]⟩)) [(o,gG od),(od,ig Z k hl e),(hl,aa (ah ps) el)] (aj ps) (X:=Tok) (λξ=>True) (λt=>.ok (.ret (.str (S (ap [13,10] (ps.map eV++[[],[]]))) t)))
   (λx=>[gG od,ig Z k hl e,aa (ah ps) el]) (λx=>[]):=
 ae.to (pA o od hl k e el ps hz hn x0 rem hps hj) (λx=>x.2) λx hx=>⟨trivial,by
  have hx:x.1.map (·.1)=ps.map eV:=hx
  rw [hx],rfl,rfl⟩
theorem pU:mroOf (.type "object")=pure [.type "object"]:=by kernel_rfl
theorem yf:Z.kt.get 350=some (excClassObj "Headers" "Headers" 350 349 [.type "object"] [.type "object"] true [] [] false none none none none (some (.str "Headers" 635)) (some (.str "Headers" 643)) (some (.bool true)) "object.__new__"):=by kernel_rfl
theorem yQ:wE (Z.kt.get 349) "__str__" 326=true:=by kernel_rfl
theorem zY:xa (Z.kt.get 326)=true:=by kernel_rfl
theorem mV:Z.tab 350=false∧Z.tab 349=false∧Z.tab 326=false:=⟨by kernel_rfl,by kernel_rfl,by kernel_rfl⟩
theorem wX {h:Heap} {q:List C1} {L:ao} (D:bq Z q h L) {a dd:C1} (ha:h.get? a=some (gG dd)):h.OwnSpecial a 350 326 "object" "__str__":=by
 have hcls:=D.look yf mV.1
 obtain ⟨m,hn,hm⟩:=mq (h:=h) (a:=349) yQ λx hx=>D.look hx mV.2.1
 obtain ⟨of,hof,hfc⟩:=mI zY
 have hy:typeLookup (.type "object") "__str__"=pure (some (.builtin "object.__str__")):=by rw [typeLookup_type,builtinLookup_eq_fast];kernel_rfl
 exact ⟨gG dd,of,_,_,349,_,_,_,_,_,_,_,_,_,_,_,_,_,_,m,_,ha,rfl,hcls,hn,hm,D.look hof mV.2.2,hfc,pU,hy⟩
noncomputable def jX (ps:List Pt):List Nat:=ap [13,10] (ps.map eV++[[],[]])
theorem sq (o od hl:C1) (k:Tok) (e el:Nat) (ps:List Pt) (hz:ps.length≤1000) (hn:∀x∈ps,x.f.length≤1000000∧x.q.length≤1000000) (hne:ps≠[]) (hj:((ps.map eV).map (·.length)).sum+(ps.length+2) * 2≤CZ):
  a7 Z 10 (.b 116512446855873012371256692 ⟨[.type "str",.ref o],[]⟩) [(o,gG od),(od,ig Z k hl e),(hl,aa (ah ps) el)] (aj ps) (X:=Tok) (λξ=>True) (λt=>.ok (.ret (.str (S (jX ps)) t)))
   (λξ=>[(o,gG od),(od,ig Z k hl e),(hl,aa (ah ps) el)]):=by
 refine gg λG hG=>?_;obtain ⟨x0,rem,hps⟩:=Di hne;refine hG ?_
 exact kQ (tx:=λξ=>jX ps) (tk:=λt=>t) (λh L' D=>wX D (D.own (o,gG od) (.head _)))
  (ae.toP (sZ o od hl k e el ps hz hn x0 rem hps hj))
theorem yG (o od hl:C1) (k:Tok) (e el:Nat) (ps:List Pt) (hz:ps.length≤1000) (hn:∀x∈ps,x.f.length≤1000000∧x.q.length≤1000000) (hne:ps≠[]) (hj:((ps.map eV).map (·.length)).sum+(ps.length+2) * 2≤CZ):
  ad Z 10 (.b 116512446855873012371256692 ⟨[.type "str",.ref o],[]⟩) [(o,gG od),(od,ig Z k hl e),(hl,aa (ah ps) el)] (aj ps) (X:=Tok) (λξ=>True) (λt=>.ok (.ret (.str (S (jX ps)) t)))
   (λξ=>[(o,gG od),(od,ig Z k hl e),(hl,aa (ah ps) el)]) (λξ=>aj ps):=
 a7.toM (sq o od hl k e el ps hz hn hne hj)
theorem vt {F:Fx} {k:Nat} (l b:C1) (ss tt:List Pt) (e e2:Nat) (hst:ss.map d3=tt.map d3):
  ad F (k+1) (.b 116512336171186236184357485 ⟨[.ref l,.ref b],[]⟩) [(l,aa (ah ss) e),(b,aa (ah tt) e2)] (aj ss++aj tt) (X:=Unit) (λξ=>True) (λξ=>.ok (.ret (.bool true)))
   (λξ=>[(l,aa (ah ss) e),(b,aa (ah tt) e2)]) (λξ=>aj ss++aj tt):=by
 refine ⟨λc ⟨id',hc,hk⟩ rest A R d os hr hR h g t hg D=>?_⟩
 have e':id'="list.__eq__":=PySem.code_inj _ _ (hk.trans (by kernel_rfl))
 subst e'
 refine hc▸?_
 have htt2:∀x∈tt,h.get? x.p=some (an x.f x.tf x.q x.tq):=λx hx=>D.own x.e (Dp _ (C3 _ (Dp _ (DM hx))))
 have htt:∀x∈ss,h.get? x.p=some (an x.f x.tf x.q x.tq):=λx hx=>D.own x.e (Dp _ (C3 _ (C3 _ (DM hx))))
 refine DP (b:=Builtin.«list.__eq__») (Db (by kernel_rfl)) ?_
 refine (Dk.under_plainId (by decide+kernel:plainId "list.__eq__"=true) _)▸?_
 have hl:=D.own (l,_) (C3 _ (.head _))
 have hb:=D.own (b,_) (C3 _ (.tail _ (.head _)))
 have hlen:=congrArg C9 hst
 simp only [C2,C2] at hlen
 have hu:A.in1.units < cLine:=by
  have:=hr.units
  show A.units+1 < 9900
  lia
 refine PySem.SeqAt.list_eqAt l b ⟨ah ss⟩ ⟨ah tt⟩ e e2 none none #[] #[] (by show (ah ss).length=(ah tt).length;unfold ah;simp only [C2,C2,hlen]) (λξ=>true) F.prog F.w A R ⟨h,g,d.d,t,os⟩ ⟨hl,hb,λj h1 h2=>?_,?_⟩
 ·have h1:j < (ah ss).length:=h1
  have h2:j < (ah tt).length:=h2
  have j1:j < ss.length:=by unfold ah at h1;rwa [C2] at h1
  have j2:j < tt.length:=by unfold ah at h2;rwa [C2] at h2
  have e1:(ah ss)[j]=.ref ss[j].p:=by simp [ah]
  have e2:(ah tt)[j]=.ref tt[j].p:=by simp [ah]
  show PySem.SeqAt.EqAt A.in1 ⟨h,g,d.d,t,os⟩ (ah ss)[j] (ah tt)[j] true
  simp only [e1,e2]
  by_cases hp:ss[j].p=tt[j].p
  ·simp only [hp];exact PySem.SeqAt.EqAt.same _
  ·have ha:=htt ss[j] (Fg j1)
   have hb:=htt2 tt[j] (Fg j2)
   have hpt:d3 ss[j]=d3 tt[j]:=by
    have:=congrArg (λl=>l[j]?) hst
    simp only [Dv,DB j1,DB j2,Fo,Option.some.injEq] at this
    exact this
   have hf:ss[j].f=tt[j].f:=congrArg Prod.fst hpt
   have hq:ss[j].q=tt[j].q:=congrArg Prod.snd hpt
   have key:=PySem.SeqAt.RcAt.tuples (A:=A.in1) (s:=⟨h,g,d.d,t,os⟩) (items:=⟨[.str (S ss[j].f) ss[j].tf,.str (S ss[j].q) ss[j].tq]⟩) (items2:=⟨[.str (S tt[j].f) tt[j].tf,.str (S tt[j].q) tt[j].tq]⟩) (e:=λξ=>true) ⟨_,ha,rfl,_,rfl⟩ ⟨_,hb,rfl,_,rfl⟩ hu λi i1 i2=>by
    match i,i1,i2 with
    | 0,_,_=>
     have:=PySem.SeqAt.EqAt.str_str (A:=A.in1.in1) (s:=⟨h,g,d.d,t,os⟩) (S ss[j].f) ss[j].tf (S tt[j].f) tt[j].tf
     simp only [show ((S ss[j].f:Str) == S tt[j].f)=true by simp only [nx,hf,beq_self_eq_true]] at this
     exact this
    | 1,_,_=>
     have:=PySem.SeqAt.EqAt.str_str (A:=A.in1.in1) (s:=⟨h,g,d.d,t,os⟩) (S ss[j].q) ss[j].tq (S tt[j].q) tt[j].tq
     simp only [show ((S ss[j].q:Str) == S tt[j].q)=true by simp only [nx,hq,beq_self_eq_true]] at this
     exact this
    | i+2,i1,_=>exact absurd (show i+2 < 2 from i1) (by lia)
   exact PySem.SeqAt.EqAt.of_refs hp key
 ·have e3:(FR (⟨ah ss⟩:Array CX).size).all (λξ=>true)=true:=by simp
  rw [e3]
  exact hR () h g t trivial hg D
end
section
open PySem
theorem oC:∀(ps:List wx) (ow:List Nat),r4 ow ps=ow++ps.flatMap (λp=>[59,32]++gn p)
 | [],ow=>by show ow=ow++[];rw [Dm]
 | p::ps,ow=>by
  show r4 (io ow p) ps=_
  rw [oC ps (io ow p),jM,D8,C6]
theorem jT {a:Nat} {z l:List Nat} {c:Nat} (h:c∈aI a z l):c∈z∨c∈l:=by
 unfold aI at h
 obtain ⟨d,hd,hc⟩:=FM.mp h
 split at hc
 ·exact .inl hc
 ·rw [Dl.mp hc];exact .inr hd
theorem qN {a b:Nat} {l:List Nat} (h:l≠[]):aI a [b] l≠[]:=λe=>h (EG.mp (by rw [←gj a b l,e];rfl))
theorem y5 {j:Nat} (hj:j < 9) {p:wx} (h:yd j p):sy p:=by
 obtain ⟨k1,k2,k3,_⟩:=eW hj h
 refine ⟨k1,λc hc=>iI (k3 c hc).1,by exact lB ‹_› rfl,λx hx=>?_⟩
 obtain ⟨v1,v2⟩:=gr h x hx
 exact ⟨λc hc=>lp (v1 c hc),by exact lB ‹_› rfl⟩
theorem yD {j:Nat} (hj:j < 9) {p:wx} (h:yd j p):(∀c∈gn p,aO c=true)∧gn p≠[]∧∀c∈(gn p).getLast?,aA c=false:=by
 obtain ⟨k1,k2,k3,_⟩:=eW hj h
 have hk:∀c∈aI 95 [45] p.1,aO c=true∧aA c=false:=λc hc=>by
  refine Or.elim (jT hc) (λhc=>?_) (λhc=>?_)
  ·rw [Dl.mp hc];decide
  ·obtain ⟨q1,q2⟩:=k3 c hc
   exact ⟨by unfold aO;rw [q1];rfl,q2⟩
 have hkl:∀c∈(aI 95 [45] p.1).getLast?,aA c=false:=λc hc=>(hk c (FI hc)).2
 obtain ⟨k,v⟩:=p
 cases v with
 | none=>exact ⟨λc hc=>(hk c hc).1,qN k1,hkl⟩
 | some v=>
  cases v with
  | nil=>exact ⟨λc hc=>(hk c hc).1,qN k1,hkl⟩
  | cons v0 vr=>
   obtain ⟨v1,_⟩:=gr h (v0::vr) rfl
   show (∀c∈(((aI 95 [45] k)++[61,34])++hO (v0::vr))++[34],aO c=true)∧(((aI 95 [45] k)++[61,34])++hO (v0::vr))++[34]≠[]∧∀c∈((((aI 95 [45] k)++[61,34])++hO (v0::vr))++[34]).getLast?,aA c=false
   refine ⟨λc hc=>?_,by simp,λc hc=>?_⟩
   ·refine Or.elim (DA.mp hc) (λhc=>?_) (λhc=>?_)
    ·refine Or.elim (DA.mp hc) (λhc=>?_) (λhc=>?_)
     ·refine Or.elim (DA.mp hc) (λhc=>?_) (λhc=>?_)
      ·exact (hk c hc).1
      ·have:∀c∈([61,34]:List Nat),aO c=true:=by decide
       exact this c hc
     ·unfold hO at hc
      refine Or.elim (jT hc) (λhc=>?_) (λhc=>?_)
      ·have:∀c∈([92,34]:List Nat),aO c=true:=by decide
       exact this c hc
      ·refine Or.elim (jT hc) (λhc=>?_) (λhc=>?_)
       ·have:∀c∈([92,92]:List Nat),aO c=true:=by decide
        exact this c hc
       ·exact v1 c hc
    ·rw [Dl.mp hc];decide
   ·rw [EV] at hc
    injection hc with hc
    rw [←hc];decide
theorem nV:∀(ps:List wx) (o:List Nat),(∀p∈ps,sy p)→(r4 o ps).length≤o.length+4000 * ps.length
 | [],o,_=>Dh _
 | p::ps,o,h=>by
  have h1:=nV ps (io o p) (λq hq=>h q (.tail _ hq))
  have h2:=kB o p (h p (.head _))
  show (r4 (io o p) ps).length≤_
  simp only [C5]
  lia
noncomputable def Bq (r:List Nat×List Nat):Prop:=m2 (r.1.length+2) r.2∧r.1∈a8∧r.2.length≤40000
theorem yV {f:PF} (h:gW 9 f):Bq (jo f):=by
 obtain ⟨o1,o2,o3⟩:=yn h
 have hg:∀p∈f.ps,∃j,j < 9∧yd j p:=λp hp=>by
  obtain ⟨j,hj⟩:=vz hp
  have hlt:=(Dg.mp hj).1
  have:=h.len
  exact ⟨j,by exact EK ‹_› ‹_›,h.ps j p hj⟩
 have hlen:=nV f.ps f.ow (λp hp=>by obtain ⟨j,hj,hk⟩:=hg p hp;exact y5 hj hk)
 have hl9:=h.len
 have hn6:=yx h.nm
 have hnl:f.nm.length≤11:=by
  have:∀x∈a8,x.length≤11:=by decide
  exact this _ hn6
 have hv:(jo f).2=f.ow++f.ps.flatMap (λp=>[59,32]++gn p):=oC f.ps f.ow
 have hvl:(jo f).2.length≤40000:=by show (r4 f.ow f.ps).length≤_;lia
 refine ⟨⟨λc hc=>?_,?_,λc hc=>?_,λc hc=>?_,?_,?_⟩,hn6,hvl⟩
 ·rw [hv] at hc
  rcases DA.mp hc with hc | hc
  ·exact (o1 c hc).1
  ·obtain ⟨p,hp,hc⟩:=FM.mp hc
   obtain ⟨j,hj,hk⟩:=hg p hp
   rcases DA.mp hc with hc | hc
   ·have:∀c∈([59,32]:List Nat),aO c=true:=by decide
    exact this c hc
   ·exact (yD hj hk).1 c hc
 ·rw [hv]
  intro e
  exact o3 (List.append_eq_nil_iff.mp e).1
 ·rw [hv] at hc
  obtain ⟨a,l,e⟩:=Di o3
  rw [e] at hc
  have hc:some a=some c:=hc
  injection hc with hc
  refine hc▸?_
  exact (o1 a (by rw [e];exact .head _)).2
 ·rw [hv] at hc
  rcases FU f.ps with e | ⟨l,p,e⟩
  ·rw [e,FN,Dm] at hc
   exact (o1 c (FI hc)).2
  ·simp only [FV] at e
   obtain ⟨j,hj,hk⟩:=hg p (by rw [e];simp)
   obtain ⟨_,a2,a3⟩:=yD hj hk
   refine a3 c ?_
   rw [e,Eb,D8,FN,Dm,←C6,←C6,Fl] at hc
   rw [DS a2] at hc ⊢
   exact hc
 ·show f.nm.length+2+(jo f).2.length≤700000
  lia
 ·refine hv▸?_
  cases hps:f.ps with
  | nil=>
   left
   rw [FN,Dm]
   exact λa ha=>(o1 a ha).2
  | cons p r=>
   right
   refine ⟨f.ow,32::(gn p++r.flatMap (λp=>[59,32]++gn p)),?_,λa ha=>(o1 a ha).2,λc hc=>?_⟩
   ·rw [D8];simp
   ·have hc:some 32=some c:=hc
    injection hc with hc
    refine hc▸?_;decide
theorem lf:∀(l:List PF) (acc:List (List Nat×List Nat)) (r:List Nat×List Nat),r∈l.foldl eP acc→r∈acc∨∃f∈l,r=jo f
 | [],acc,r,h=>.inl h
 | f::l,acc,r,h=>by
  simp only [Ew] at h
  rcases lf l _ r h with h | ⟨g,hg,e⟩
  ·unfold eP at h
   rcases DA.mp h with h | h
   ·left
    split at h
    ·exact (E3.mp h).1
    ·exact h
   ·right;exact ⟨f,.head _,Dl.mp h⟩
  ·exact .inr ⟨g,.tail _ hg,e⟩
noncomputable def a0 (vals:List Nat):List (List Nat×List Nat):=uf (bL vals)
structure mz (rows:List (List Nat×List Nat)):Prop where
 all:∀r∈rows,Bq r
 len:rows.length≤9
 ne:rows≠[]
theorem fU (vals:List Nat) (h:vals.length≤8):mz (a0 vals)∧(cU [] (bL vals)).map jo=a0 vals:=by
 have hl:=fz vals h
 have e:=lh (bL vals) [] (λf hf=>(hl.all f hf).nm) (λf hf=>by cases hf)
 have e:(cU [] (bL vals)).map jo=a0 vals:=e
 refine ⟨⟨λr hr=>?_,?_,?_⟩,e⟩
 ·rcases lf (bL vals) [] r hr with h | ⟨f,hf,e⟩
  ·cases h
  ·rw [e];exact yV (hl.all f hf)
 ·rw [←e,C2]
  have h2:=hl.len
  have h1:=ll (bL vals) []
  have h3:([]:List PF).length=0:=rfl
  lia
 ·rw [←e]
  intro e0
  have:=nW (bL vals) [] (.inl (by obtain ⟨f,r,e,_⟩:=hl.first;rw [e];simp))
  exact this (F5.mp e0)
noncomputable def bV (r:List Nat×List Nat):List Nat:=((r.1++[58,32])++r.2)++[13,10]
noncomputable def sw (m:Nat) (r:List Nat×List Nat):List Nat×List Nat:=(r.1,ap [13,10] (bE r.2 (r.1.length+2) m))
theorem oi:∀rows:List (List Nat×List Nat),ap [13,10] (rows.map (λr=>r.1++([58,32]++r.2))++[[],[]])=ap [] (rows.map bV)++[13,10]
 | []=>rfl
 | r::rows=>by
  have ih:=oi rows
  rw [aR] at ih ⊢
  rw [Dd,Dd,Ff,List.flatten_cons,C6,←ih]
  obtain ⟨y,l,e⟩:∃y l,rows.map (λr=>r.1++([58,32]++r.2))++[[],[]]=y::l:=by cases rows <;> exact ⟨_,_,rfl⟩
  rw [e]
  show (r.1++([58,32]++r.2))++[13,10]++ap [13,10] (y::l)=bV r++ap [13,10] (y::l)
  unfold bV
  simp only [C6]
end
section
open PyProof.Rows PySem PySem.Calls PySem.Spec PySem.W PySem.W.X
theorem mn (fl:C1) (fs:List Fd) (ex:Nat) (hz:fs.length≤900) (f:Fd) (rem:List Fd) (hfs:fs=f::rem):
  ad Z 10 (.o (.call (.ref 376) ⟨[.ref fl],[]⟩)) [(fl,aa (aF fs) ex)] (ey fs) (X:=Xz) (λx=>x.2.2.2=aF (dn [] fs)) (λx=>.ok (.ret (.ref x.2.1))) (λx=>[(fl,aa (aF fs) ex),(x.2.1,aa x.2.2.2 x.2.2.1)]) (λξ=>ey fs):=by
 exists 1,ad.of_defB
 exists 1,dx,(zB n (n+1) (n+1+1+1) t (t+1) fl fs ex ‹_› f rem hfs (n+1+1) (0+1+1) 0).up rfl,0x61212232311231,70434
 exists az,(x1.1,x1.2.1,x1.2.2.1,x1.2.2.2),(by rfl),2,34
theorem w2 (it l:C1) (i:Nat) (xs:List CX) (e:Nat) (a:Nat) (ta:Tok) (hv:xs[i]?=some (.int (.ofNat a) ta)):
  ae Z 5 (.cb 36058839055461744822429329989390181918337346850548333 ⟨[.ref it],[]⟩) [(it,aS l i),(l,aa xs e)] [] (X:=Unit) (λξ=>True) (λξ=>.ok (.ret (.int (.ofNat a) ta)))
   (λξ=>[aS l (i+1),aa xs e]) (λξ=>[]):=by
 refine ae.of_ccB (id:="list_iterator.__next__") (by kernel_rfl) λrest A R d os hroom hR n t=>?_
 exists 1,cy,bb it l i xs e (.int (.ofNat a) ta) hv,2,17
 exists ar,(),0,17
theorem zO (it l:C1) (i:Nat) (xs:List CX) (e:Nat) (hv:xs.length≤i):
  ae Z 5 (.cb 36058839055461744822429329989390181918337346850548333 ⟨[.ref it],[]⟩) [(it,aS l i),(l,aa xs e)] [] (X:=C1×C1) (λξ=>True) (λy=>.error (.ref y.2))
   (λξ=>[eS i,aa xs e]) (λy=>[(y.1,⟨.type "tuple",none,.seq ⟨[]⟩ 0,#[]⟩),(y.2,bx y.1)]):=by
 refine ae.of_ccB (id:="list_iterator.__next__") (by kernel_rfl) λrest A R d os hroom hR n t=>?_
 exists 1,cy,iX it l i xs e ‹_›,2,17
 exists ar,(x1.1,x1.2),0,4369
theorem il (it l st:C1) (ys:List (Nat×Tok)) (e:Nat):∀(rem:List (Nat×Tok)) (i:Nat) (tot:Nat) (tt:Tok) (es:Nat),ys.drop i=rem→tot+(rem.map (·.1)).sum < CZ→
  a7 Z 6 (.b 8174156937926964852 ⟨[.ref it,.ref st,rawInt 0,rawInt 0],[]⟩)
   ([(it,aS l i),(l,aa (aJ ys) e)]++[(st,aa [.int (.ofNat tot) tt] es)]) []
   (X:=Tok) (λξ=>True) (λy=>.ok (.ret (.int (.ofNat (tot+(rem.map (·.1)).sum)) y))) (λξ=>[(l,aa (aJ ys) e)])
 | [],i,tot,tt,es,hd,_=>by
  have hx:(aJ ys).length≤i:=by unfold aJ;simp only [C2];exact Dx.mp hd
  have S:=md (st:=st) (tot:=tot) (tt:=tt) (es:=es) (post':=λξ=>[(l,aa (aJ ys) e)]) (DL (a:=(it,aS l i))) rfl (by kernel_rfl) slot_listiter_next (zO it l i (aJ ys) e hx).toP (oe:=λx=>bx x.1) (λx ξ=>⟨Dp _ (.tail _ (.head _)),rfl⟩) (λx=>⟨[(it,_),(x.1,_),(x.2,_)],by
   refine (Ee _ ?_)
   exact DH (l₁:=[(l,aa (aJ ys) e)]) (l₂:=[(x.1,_),(x.2,_)])⟩)
  exact ⟨λc hc rest A R d os hr hR h g t hg D=>S.go c hc rest A R d os hr (λx h2 g2 t2 hp hg2 D2=>hR tt h2 g2 t2 trivial hg2 D2) h g t hg D⟩
 | (a,ta)::rem,i,tot,tt,es,hd,ht=>by
  have ht:tot+(a+(rem.map (·.1)).sum) < CZ:=ht
  have hi:ys[i]?=some (a,ta):=by
   have:=congrArg (λl=>l[0]?) hd
   simpa using this
  have hd':ys.drop (i+1)=rem:=by
   have:=congrArg (DX 1) hd
   simp only [DE] at this
   exact this
  simp only [Dd,DC] at ht ⊢
  refine jP (DL (a:=(it,aS l i))) rfl (by kernel_rfl) slot_listiter_next (by lia) (w2 it l i (aJ ys) e a ta (qH hi)).toP (tk:=λξ=>ta) λy tk2 e2 ξ=>?_
  have:=il it l st ys e rem (i+1) (tot+a) tk2 e2 hd' (by lia)
  simp only [ER] at this
  exact this
theorem vW (l:C1) (ys:List (Nat×Tok)) (e:Nat) (vals:List Nat) (hv:ys.map (·.1)=vals) (hz:vals.sum < CZ):
  a7 Z 6 (.b 7239284 ⟨[.ref l],[]⟩) [(l,aa (aJ ys) e)] [] (X:=Tok) (λξ=>True) (λt=>.ok (.ret (.int (.ofNat vals.sum) t))) (λξ=>[(l,aa (aJ ys) e)]):=by
 subst hv
 refine ⟨λc ⟨id',hc,hk⟩ rest A R d os hr hR h g t hg D=>?_⟩
 have e':id'="sum":=PySem.code_inj _ _ (hk.trans oF.symm)
 subst e'
 rw [hc]
 have hl:h.IsList l ⟨aJ ys⟩:=⟨_,D.own (l,_) (C3 _ (.head _)),rfl,_,rfl⟩
 have D1:=D.alloc (o:=aS l 0) rfl
 refine DP PySem.F.entry_sum ?_
 rw [Dk.under_plainId PySem.F.plain_sum _]
 unfold Builtin.«sum»
 simp only [C5,De]
 rw [if_neg (by decide)]
 refine C0 (Es (show Builtin.Builtins.bindParams "sum" ["start"] 0 {}=pure [none] from rfl) ?_)
 refine C0 (wpAny_pyIter_list hl ?_)
 refine C0 (FY ?_)
 refine C0 (Dc ?_)
 simp only [Ev,EF]
 refine C0 (C0 (C0 (Eh (T:="int") (b:=false) (typeIs_int _ _ _) PySem.sub_int_str ?_)))
 simp only [Eg,if_false]
 refine Dc (C0 (C0 (Eh (T:="int") (b:=false) (typeIs_int _ _ _) PySem.sub_int_bytes ?_)))
 simp only [Eg,if_false]
 refine Dc (C0 (C0 (Eh (T:="int") (b:=false) (typeIs_int _ _ _) PySem.sub_int_bytearray ?_)))
 simp only [Eg,if_false]
 refine Dc (Dc ?_)
 refine C0 (DU ?_)
 have D2:=D1.alloc (o:=aa [.int (.ofNat 0) t] 0) rfl
 have S:=il h.objs.size l (h.push (aS l 0)).objs.size ys e ys 0 0 t 0 rfl (by rw [EN];exact hz)
 refine Dc ⟨plainId_quiet PySem.F.plain_sum_loop _,S.go _ ⟨"sum.loop",rfl,cR⟩ rest A R d os hr (λx h2 g2 t2 hp hg2 D3=>?_) _ g _ hg (D2.perm ?_)⟩
 ·have:=hR x h2 g2 t2 trivial hg2 D3
  rw [EN]
  exact this
 ·refine (Ee _ (C8 _)).trans ?_
  exact (Dn (l₁:=[(h.objs.size,_),(l,_)])).symm
theorem mo {l:List Fp} {vals:List Nat} (h8:vals.length≤8) (hpf:l.map Fp.pf=bL vals):(∀x∈l,zZ x)∧(∀x∈l,Bw x)∧l.length≤9:=by
 have hl:=fz vals h8
 have hx:∀x∈l,gW 9 x.pf:=λx hx=>hl.all x.pf (by rw [←hpf];exact DM hx)
 refine ⟨λx h=>(u6 (hx x h)).1,λx h=>(u6 (hx x h)).2,?_⟩
 have:=hl.len
 rw [←hpf,C2] at this
 exact this
theorem lL (fl:C1) (ex:Nat) (l:List Fp) (vals:List Nat) (h8:vals.length≤8) (hpf:l.map Fp.pf=bL vals):
  ad Z 18 (.o (.call (.ref 371) ⟨[.ref fl],[]⟩)) [(fl,aa (au l) ex)] (bf l)
   (X:=Ci) (λx=>x.2.2.2.2.2.1.map d3=a0 vals) (λx=>.ok (.ret (.ref x.1))) (λx=>[(fl,aa (au l) ex),(x.1,gG x.2.1),(x.2.1,ig Z x.2.2.2.1 x.2.2.1 x.2.2.2.2.1),(x.2.2.1,aa (ah x.2.2.2.2.2.1) x.2.2.2.2.2.2)]) (λx=>bf l++aj x.2.2.2.2.2.1):=by
 refine gg λG hG=>?_;obtain ⟨o1,o2,o3⟩:=mo h8 hpf
 obtain ⟨f,r,e,e1,e2⟩:=(fz vals h8).first;refine hG ?_
 simp only [e] at hpf
 cases l with
 | nil=>cases hpf
 | cons y rem=>
  rw [Dd] at hpf
  injection hpf with hy hrem
  have hg:y.f.g=false:=by simp only [←e1,←hy];rfl
  have hps:y.ps≠[]:=λh=>e2 (by rw [←hy];show y.ps.map Pm.pl=[];rw [h];rfl)
  refine gg λG hG=>?_;obtain ⟨p0,pr,hp⟩:=Di hps;refine hG ?_
  have S1:=sO fl ex (y::rem) o1 (by exact lB ‹_› rfl) y rem rfl hg p0 pr hp
  have et:(y::rem).foldl b7 []=a0 vals:=by
   simp only [zF,Dd,hy,hrem,←e]
   rfl
  rw [et] at S1
  exact S1
theorem kM {qs:List Pt} {rows:List (List Nat×List Nat)} (hq:qs.map d3=rows) (hrows:mz rows):(∀x∈qs,m2 (x.f.length+2) x.q∧x.f.length≤1000)∧(∀x∈qs,x.f.length≤11∧x.q.length≤40000)∧qs.length≤9∧qs≠[]:=by
 have hm:∀x∈qs,Bq (d3 x):=λx hx=>hrows.all _ (by rw [←hq];exact DM hx)
 have hn:∀x∈a8,x.length≤11:=by decide
 refine ⟨λx hx=>?_,λx hx=>?_,?_,λe=>hrows.ne (by rw [←hq,e];rfl)⟩
 ·obtain ⟨h1,h2,h3⟩:=hm x hx
  have h2:x.f.length≤11:=hn x.f h2
  exact ⟨h1,by exact lB ‹_› rfl⟩
 ·obtain ⟨h1,h2,h3⟩:=hm x hx
  exact ⟨hn x.f h2,h3⟩
 ·have:=hrows.len
  rw [←hq,C2] at this
  exact this
theorem ly (o od hl:C1) (k:Tok) (e el:Nat) (qs:List Pt) (rows:List (List Nat×List Nat)) (hq:qs.map d3=rows) (hrows:mz rows):
  af Z 6 (.o (.call (.ref 314) ⟨[.ref o],[]⟩)) [(o,gG od),(od,ig Z k hl e),(hl,aa (ah qs) el)] (X:=C1) (λξ=>True) (λx=>.ok (.ret (.ref x)))
   (λx=>[gG od,ig Z k hl e,aa (ah qs) el]) (λx=>[(x,aa (ah qs) 0)]):=by
 refine gg λG hG=>?_;obtain ⟨_,_,h3,_⟩:=kM hq hrows;refine hG ?_
 have hs:=ab
 exact qd o od hl k e el (ah qs) (by unfold ah;rw [C2];exact lB ‹_› rfl)
theorem ul (L ca it:C1) (K1 K2 K3 K4:Tok) (sl fl tb st ql:C1) (m:Nat) (tm:Tok) (qs:List Pt) (qe:Nat) (rows:List (List Nat×List Nat)) (hq:qs.map d3=rows) (hrows:mz rows) (ef se:Nat):
  ad Z 24 (w8 Z L ca it) ((L,xG Z K1 K2 K3 K4 sl fl tb st ef)::wl it ca ql st m tm 0 (ah qs) qe [] se) (aj qs)
   (λx:Xl=>x.2.2.2.2.2.2.2.1.map d3=rows.map (sw m)) (λξ=>.ok .next) (yj Z L ca K1 K2 K3 K4 sl fl tb st m tm) (λx=>aj qs++aj x.2.2.2.2.2.2.2.1):=by
 refine gg λG hG=>?_;obtain ⟨h1,_,h3,h4⟩:=kM hq hrows;refine hG ?_
 have S1:=za L ca it K1 K2 K3 K4 sl fl tb st ql m tm qs qe h1 (by exact lB ‹_› rfl) h4 ef se
 have e:qs.map (fD m)=rows.map (sw m):=by simp only [←hq,DV];rfl
 rw [e] at S1
 exact S1
noncomputable def b9:List Fp→List Fp→List Fp
 | st,[]=>st
 | st,f::r=>b9 ((if f.f.g then st.filter (λx=>ch f.f.kd x.f) else st)++[f]) r
theorem rj:∀(l st:List Fp),(b9 st l).map (·.f)=dn (st.map (·.f)) (l.map (·.f))
 | [],st=>rfl
 | f::l,st=>by
  simp only [b9,rj l,Dd,dn,Da]
  congr 2
  split
  ·simp only [Fq];rfl
  ·rfl
theorem oy:∀(l st:List Fp),(b9 st l).map Fp.pf=cU (st.map Fp.pf) (l.map Fp.pf)
 | [],st=>rfl
 | f::l,st=>by
  simp only [b9,oy l,Dd,cU,Da]
  congr 2
  show (if f.f.g=true then _ else _:List Fp).map Fp.pf=if f.f.g=true then _ else _
  split
  ·simp only [Fq];rfl
  ·rfl
theorem lY:∀(l st:List Fp) (x:Fp),x∈b9 st l→x∈st∨x∈l
 | [],st,x,h=>.inl h
 | f::l,st,x,h=>by
  simp only [b9] at h
  refine Or.elim (lY l _ x h) (λh=>?_) (λh=>?_)
  ·refine Or.elim (DA.mp h) (λh=>?_) (λh=>?_)
   ·left
    split at h
    ·exact (E3.mp h).1
    ·exact h
   ·right;simp only [Dl.mp h];exact .head _
  ·exact .inr (.tail _ h)
noncomputable def oP (l:List Fp):ao:=l.flatMap λx=>(x.f.pa,aa (aB x.ps) x.pe)::cI x.ps
theorem iS:∀l:List Fp,(bf l).Perm (ey (l.map (·.f))++oP l)
 | []=>.refl _
 | x::l=>by
  have ih:=iS l
  have e1:bf (x::l)=x.led++bf l:=by delta bf;simp only [D8]
  have e2:ey ((x::l).map (·.f))=x.f.ob::ey (l.map (·.f)):=rfl
  have e3:oP (x::l)=((x.f.pa,aa (aB x.ps) x.pe)::cI x.ps)++oP l:=by delta oP;simp only [D8]
  simp only [e1,e2,e3]
  refine (C7 _ ih).trans ?_
  delta Fp.led Fd.ob
  exact (pT [[_],[_],_,_,_] [2,3,0,4,0,5,6,0,0] [2,5,0,3,4,0,6,0,0] rfl)
theorem lb (fl:C1) (ex:Nat) (l:List Fp) (vals:List Nat) (h8:vals.length≤8) (hpf:l.map Fp.pf=bL vals):
  ad Z 10 (.o (.call (.ref 376) ⟨[.ref fl],[]⟩)) [(fl,aa (au l) ex)] (bf l) (X:=C1×Nat×List CX) (λx=>x.2.2=aF (dn [] (l.map (·.f)))) (λx=>.ok (.ret (.ref x.1))) (λx=>[(fl,aa (au l) ex),(x.1,aa x.2.2 x.2.1)]) (λξ=>bf l):=by
 refine gg λG hG=>?_;obtain ⟨_,_,o3⟩:=mo h8 hpf
 obtain ⟨f,r,e,_,_⟩:=(fz vals h8).first;refine hG ?_
 simp only [e] at hpf
 have hne:l.map (·.f)≠[]:=by
  intro h
  have hpf:=(F5.mp h)▸hpf
  cases hpf
 refine gg λG hG=>?_;obtain ⟨f0,rem,hfs⟩:=Di hne;refine hG ?_
 have ee:aF (l.map (·.f))=au l:=by unfold aF au;rw [DV];rfl
 have S1:=mn fl (l.map (·.f)) ex (by rw [C2];exact lB ‹_› rfl) f0 rem hfs
 rw [ee] at S1
 refine ⟨λc hc rest A R d os hr hR h g t hg D=>S1.go c hc (oP l++rest) A R d os hr (λx h2 g2 t2 hp hg2 D2=>?_) h g t hg (D.perm ?_)⟩
 ·refine hR (x.2.1,x.2.2.1,x.2.2.2) h2 g2 t2 hp hg2 (D2.perm ?_)
  refine C7 _ ?_
  rw [←C6]
  exact (iS l).symm.append_right rest
 ·refine C7 _ ?_
  rw [←C6]
  exact (iS l).append_right rest
theorem u5 (L C it zl acc:C1) (xs:List CX) (ze:Nat) (l:List Fp) (hxs:xs=aF (dn [] (l.map (·.f)))) (vals:List Nat) (h8:vals.length≤8) (hpf:l.map Fp.pf=bL vals) (ec ea:Nat):
  ad Z 12 (xv Z L C 0 it acc) (w9 C it zl acc xs ze (ai [] ec) 0 [] ea) (bf l)
   (λx:Xu=>x.2.2.2.2.2.map d3=a0 vals) (λξ=>.ok .next) (yC Z C it zl acc xs ze) (λx=>bf l++aj x.2.2.2.2.2):=by
 obtain ⟨_,o2,o3⟩:=mo h8 hpf
 obtain ⟨r1,r2⟩:=fU vals h8
 have ef:=rj l []
 have ep:=oy l []
 rw [hpf] at ep
 have ep:(b9 [] l).map Fp.pf=cU [] (bL vals):=ep
 have ef:(b9 [] l).map (·.f)=dn [] (l.map (·.f)):=ef
 have ex:xs=au (b9 [] l):=by
  rw [hxs,←ef]
  unfold aF au
  rw [DV];rfl
 have er:(b9 [] l).map Fp.row=a0 vals:=by
  simp only [←r2,←ep,DV];rfl
 have hsub:∀y∈b9 [] l,y∈l:=λy hy=>by
  rcases lY l [] y hy with h | h
  ·cases h
  ·exact h
 have hlen:(b9 [] l).length≤9:=by
  have:=r1.len
  rw [←er,C2] at this
  exact this
 have hne:b9 [] l≠[]:=λe=>r1.ne (by rw [←er,e];rfl)
 subst ex
 have S1:=zD L C 0 it zl acc ze l (b9 [] l) (by exact lB ‹_› rfl) hsub (λy hy=>o2 y (hsub y hy)) hne ec ea
 rw [er] at S1
 exact S1
noncomputable def iW (rows:List (List Nat×List Nat)):List Nat:=ap [] (rows.map bV)++[13,10]
theorem ng:∀qs:List Pt,(∀x∈qs,x.f.length≤11∧x.q.length≤40000)→((qs.map eV).map (·.length)).sum≤40020 * qs.length
 | [],_=>Dh _
 | x::qs,h=>by
  have h1:=ng qs (λy hy=>h y (.tail _ hy))
  have e:(eV x).length=x.f.length+(2+x.q.length):=by unfold eV;simp only [CY,CY];rfl
  obtain ⟨h2,h3⟩:=h x (.head _)
  simp only [Dd,Dd,DC,C5]
  rw [e]
  lia
theorem qG (o od hl:C1) (k:Tok) (e el:Nat) (qs:List Pt) (rows:List (List Nat×List Nat)) (hq:qs.map d3=rows) (hrows:mz rows):
  ad Z 10 (.b 116512446855873012371256692 ⟨[.type "str",.ref o],[]⟩) [(o,gG od),(od,ig Z k hl e),(hl,aa (ah qs) el)] (aj qs) (X:=Tok) (λξ=>True) (λt=>.ok (.ret (.str (S (iW rows)) t)))
   (λξ=>[(o,gG od),(od,ig Z k hl e),(hl,aa (ah qs) el)]) (λξ=>aj qs):=by
 refine gg λG hG=>?_;obtain ⟨_,h2,h3,h4⟩:=kM hq hrows;refine hG ?_
 have hs:=ab
 have hsum:=ng qs h2
 have S1:=yG o od hl k e el qs (by exact lB ‹_› rfl) (λx hx=>by have:=h2 x hx;lia) h4 (by lia)
 have e:jX qs=iW rows:=by
  unfold jX iW
  rw [←oi rows,←hq,DV]
  rfl
 rw [e] at S1
 exact S1
theorem vj (L C it dl acc:C1) (de:Nat) (qs:List Pt) (rows:List (List Nat×List Nat)) (hq:qs.map d3=rows) (hrows:mz rows) (ec ea:Nat):
  ad Z 12 (xH Z L C 0 it acc) (xX C 0 it dl acc (ah qs) de (ai [] ec) 0 [] ea) (aj qs)
   (λx:Xj=>x.2.2.2.2.2.2.2.map (·.1)=rows.map bV) (λξ=>.ok .next) (yz Z C 0 it dl acc (ah qs) de) (λξ=>aj qs):=by
 refine gg λG hG=>?_;obtain ⟨_,h2,h3,h4⟩:=kM hq hrows;refine hG ?_
 have S1:=yS L C 0 it dl acc de qs (by exact lB ‹_› rfl) (λx hx=>by have:=h2 x hx;lia) h4 ec ea
 have e:qs.map lr=rows.map bV:=by simp only [←hq,DV];rfl
 rw [e] at S1
 exact S1
theorem v6 (L C ca it dl acc:C1) (de:Nat) (qs:List Pt) (m:Nat) (tm:Tok) (rows:List (List Nat×List Nat)) (hq:qs.map d3=rows) (hrows:mz rows) (ec ea:Nat):
  ad Z 12 (wZ Z L C ca it acc) (wL C ca it dl acc m tm (ah qs) de (ai [] ec) 0 [] ea) (aj qs)
   (λx:Xq=>x.2.2.2.2.2.2.2.map d3=rows.map (sw m)) (λξ=>.ok .next) (yl Z C ca it dl acc m tm (ah qs) de) (λx=>aj qs++aj x.2.2.2.2.2.2.2):=by
 refine gg λG hG=>?_;obtain ⟨h1,_,h3,h4⟩:=kM hq hrows;refine hG ?_
 have S1:=zx L C ca it dl acc de qs m tm (by exact lB ‹_› rfl) h1 h4 ec ea
 have e:qs.map (fD m)=rows.map (sw m):=by simp only [←hq,DV];rfl
 rw [e] at S1
 exact S1
theorem ln {F:Fx} (l b:C1) (ss tt:List Pt) (e e2:Nat) (R:List (List Nat×List Nat)) (hs:ss.map d3=R) (ht:tt.map d3=R):
  ad F 3 (.b 116512336171186236184357485 ⟨[.ref l,.ref b],[]⟩) [(l,aa (ah ss) e),(b,aa (ah tt) e2)] (aj ss++aj tt) (X:=Unit) (λξ=>True) (λξ=>.ok (.ret (.bool true)))
   (λξ=>[(l,aa (ah ss) e),(b,aa (ah tt) e2)]) (λξ=>aj ss++aj tt):=
 vt l b ss tt e e2 (hs.trans ht.symm)
theorem iD:∀rows:List (List Nat×List Nat),(∀r∈rows,Bq r)→((rows.map bV).map C9).sum≤40020 * rows.length
 | [],_=>Dh _
 | r::rows,h=>by
  have h1:=iD rows (λy hy=>h y (.tail _ hy))
  have hn:∀x∈a8,x.length≤11:=by decide
  have e:(bV r).length=r.1.length+2+r.2.length+2:=by unfold bV;simp only [CY,CY,CY];rfl
  obtain ⟨_,h2,h3⟩:=h r (.head _)
  have h2:=hn _ h2
  simp only [Dd,Dd,DC,C5]
  simp only [e]
  lia
theorem Bf (l:C1) (ys:List (Nat×Tok)) (e:Nat) (vals:List Nat) (hv:ys.map (·.1)=vals) (hz:vals.sum < CZ):
  ad Z 6 (.b 7239284 ⟨[.ref l],[]⟩) [(l,aa (aJ ys) e)] [] (X:=Tok) (λξ=>True) (λt=>.ok (.ret (.int (.ofNat vals.sum) t))) (λξ=>[(l,aa (aJ ys) e)]) (λξ=>[]):=
 a7.toM (vW l ys e vals hv hz)
theorem tO (m:Nat) (hm:0 < m):∀zt:List (Int×Tok),(zt.map λp=>aU m p.1).sum≤m * zt.length
 | []=>Dh _
 | z::zt=>by
  have h:=tO m hm zt
  have:=xA m hm z.1
  simp only [Dd,DC,C5,Nat.mul_add]
  lia
theorem tX (sl:C1) (zs:List (Int×Tok)) (e:Nat) (hsz:zs.length≤1000) (zt:List (Int×Tok)) (hzt:zt=zs.take 8) (z:Int) (t0:Tok) (rem:List (Int×Tok)) (hzs:zt=(z,t0)::rem):
  ad Z 27 (.o (.call (.ref 393) ⟨[.ref sl],[]⟩)) [(sl,aa (zV zs) e)] [] (X:=Unit) (λξ=>True) (λξ=>.ok (.ret (.bool true))) (λξ=>[(sl,aa (zV zs) e)]) (λξ=>[]):=by
 have hs:=ab
 have h88:zt.length≤8:=by simp only [hzt,DY];lia
 have hz1:(zV zs).length≤CZ:=by unfold zV;simp only [C2];exact lB ‹_› rfl
 have hz8:zt.length≤100:=by simp only [hzt,DY];lia
 have h8:(zt.map λp=>aU 1000000000 p.1).length≤8:=by simp only [C2];exact h88
 have hsum:(zt.map λp=>aU 30 p.1).sum < CZ:=by have:=tO 30 (by decide) zt;lia
 have hrows:mz (a0 (zt.map λp=>aU 1000000000 p.1)):=(fU _ h8).1
 have hsr:=iD _ hrows.all
 have hrl:=hrows.len
 have hjz:((Ds bV (a0 (zt.map λp=>aU 1000000000 p.1))).map C9).sum+(Ds bV (a0 (zt.map λp=>aU 1000000000 p.1))).length * ([]:List Nat).length≤CZ:=by
  show _+_ * 0≤_;lia
 have hjl:=iB (Ds bV (a0 (zt.map λp=>aU 1000000000 p.1))) []
 have hjm:(ap [] (Ds bV (a0 (zt.map λp=>aU 1000000000 p.1)))).length+[13,10].length≤CZ:=by
  have e0:([]:List Nat).length=0:=rfl
  simp only [e0,GN] at hjl
  show _+2≤_
  have hjl:(ap [] (Ds bV (a0 (zt.map λp=>aU 1000000000 p.1)))).length≤((Ds bV (a0 (zt.map λp=>aU 1000000000 p.1))).map C9).sum+0:=hjl
  lia
 have hneq:(iW (a0 (zt.map λp=>aU 1000000000 p.1)) != (ap [] (Ds bV (a0 (zt.map λp=>aU 1000000000 p.1)))++[13,10]))=false:=by
  unfold iW
  simp
 exists 1,ad.of_defB
 exists 1,dx,(oq sl zs e ‹_› zt hzt z t0 rem hzs).up rfl,319885873,1
 exists 2,Bk sl n1 zs e (t1+1+1) zt hzt ‹_›,0x2122241134,65
 exists 3,(zy n (n2+1+1) n2 x2 (n2+1) zt 0 z t0 rem hzs ‹_› 0 0).up rfl,0x8181881814144,25465
 exists 4,cM,((Bf (n2+1) x3.2.2.2.2.2.2 x3.2.2.2.2.2.1 (Ds (λp=>aU 30 p.1) zt) p3 ‹_›).up rfl),4386,4,bf x1.2.2++rest,.refl _
 exists 5,aq (Gj (Ds (λp=>aU 30 p.1) zt)) x4 30 t4 rfl,1,0
 exists 6,ba 10 (t1+1) (Gj (Ds (λp=>aU 30 p.1) zt) % 30) x5,1,0
 exists 7,cM,((lL x1.1 x1.2.1 x1.2.2 (Ds (λp=>aU 1000000000 p.1) zt) h8 ‹_›).up rfl),102810,7,rest,.refl _
 exists 8,(ly x7.1 x7.2.1 x7.2.2.1 x7.2.2.2.1 x7.2.2.2.2.1 x7.2.2.2.2.2.2 x7.2.2.2.2.2.1 (a0 (Ds (λp=>aU 1000000000 p.1) zt)) p7 ‹_›).up rfl,0x1431111311131113cbcbc,546
 exists 9,cM,(ul n (n+1) n8 t t1 t7 (t7+1) sl x1.1 x7.1 n7 x8 (10+Gj (Ds (λp=>aU 30 p.1) zt) % 30) x6 x7.2.2.2.2.2.1 0 (a0 (Ds (λp=>aU 1000000000 p.1) zt)) p7 ‹_› (0+1+1+1+1) 0).up rfl,0xff15155,740812,bf x1.2.2++rest,(pT [_,_,_] [2,3,0,4,0] [3,2,4,0,0] rfl)
 exists 10,cM,(lb x1.1 x1.2.1 x1.2.2 (Ds (λp=>aU 1000000000 p.1) zt) h8 ‹_›).up rfl,289,7,aj x7.2.2.2.2.2.1++(aj x9.2.2.2.2.2.2.2.1++rest),(pT [_,_,_,_] [2,3,0,4,5,0,0] [4,2,3,5,0,0,0] rfl)
 exists 11,dx,(u5 n (n10+1+1) n10 x10.1 (n10+1) x10.2.2 x10.2.1 x1.2.2 p10 (Ds (λp=>aU 1000000000 p.1) zt) h8 ‹_› 0 0).up rfl,0xff10ff10ff0ff10ff13133,0xe20ef10f
 exists 12,cM,(qG x7.1 x7.2.1 x7.2.2.1 x7.2.2.2.1 x7.2.2.2.2.1 x7.2.2.2.2.2.2 x7.2.2.2.2.2.1 (a0 (Ds (λp=>aU 1000000000 p.1) zt)) p7 ‹_›).up rfl,0x11171112267,2457,bf x1.2.2++(aj x11.2.2.2.2.2++(aj x9.2.2.2.2.2.2.2.1++rest)),(pT [_,_,_,_,_] [2,3,0,4,5,6,0,0,0] [4,2,3,5,6,0,0,0,0] rfl)
 exists 13,cM,(vj n (n12+1+1) n12 (n10+1) (n12+1) x11.2.2.2.2.1 x11.2.2.2.2.2 (a0 (Ds (λp=>aU 1000000000 p.1) zt)) p11 ‹_› 0 0).up rfl,0x12f112f112f12f112f18188a11,72864624959,aj x7.2.2.2.2.2.1++(bf x1.2.2++(aj x9.2.2.2.2.2.2.2.1++rest)),(pT [_,_,_,_,_] [2,3,4,5,6,0,0,0,0] [4,2,3,5,6,0,0,0,0] rfl)
 exists 14,aV [] t12 (n12+1) x13.2.2.2.2.2.2.2 (Ds bV (a0 (Ds (λp=>aU 1000000000 p.1) zt))) p13 x13.2.2.2.2.2.2.1 ‹_›,17965346,4
 exists 15,ak (ap [] (Ds bV (a0 (Ds (λp=>aU 1000000000 p.1) zt)))) x14 [13,10] t14 ‹_›,1,0
 exists 16,bv (iW (a0 (Ds (λp=>aU 1000000000 p.1) zt))) x12 (ap [] (Ds bV (a0 (Ds (λp=>aU 1000000000 p.1) zt)))++[13,10]) x15 _ hneq,1,0
 exists 17,dx,(v6 n (n16+1+1) (n+1) n16 (n10+1) (n16+1) x11.2.2.2.2.1 x11.2.2.2.2.2 (10+Gj (Ds (λp=>aU 30 p.1) zt) % 30) x6 (a0 (Ds (λp=>aU 1000000000 p.1) zt)) p11 ‹_› 0 0).up rfl,0x15f115f115f15f115f15155dd,0xc13f414f16f
 exists 18,cM,(ln n7 (n16+1) x9.2.2.2.2.2.2.2.1 x17.2.2.2.2.2.2.2 x9.2.2.2.2.2.2.2.2 x17.2.2.2.2.2.2.1 (Ds (sw (10+Gj (Ds (λp=>aU 30 p.1) zt) % 30)) (a0 (Ds (λp=>aU 1000000000 p.1) zt))) p9 ‹_›).up rfl,0x11f111f511f122122,16655,aj x11.2.2.2.2.2++(aj x7.2.2.2.2.2.1++(bf x1.2.2++rest)),(pT [_,_,_,_,_,_] [2,3,0,4,5,6,7,0,0,0,0] [6,3,0,2,4,5,7,0,0,0,0] rfl)
 exact fR hroom hR () (Md:=aj x9.2.2.2.2.2.2.2.1++(aj x17.2.2.2.2.2.2.2++(aj x11.2.2.2.2.2++(aj x7.2.2.2.2.2.1++bf x1.2.2)))) [] [21] (by kernel_rfl) (by trivial) (by exact pT [_,_,_,_,_,_] (dec 0x11118765143) (dec 0x1181111765432) rfl)
theorem Ch (l:C1) (e:Nat):
  ad Z 6 (.b 7239284 ⟨[.ref l],[]⟩) [(l,aa [] e)] [] (X:=Tok) (λξ=>True) (λt=>.ok (.ret (.int (.ofNat 0) t))) (λξ=>[(l,aa [] e)]) (λξ=>[]):=
 Bf l [] e [] rfl (by rw [ab];decide)
theorem vK (sl:C1) (e:Nat):
  ad Z 27 (.o (.call (.ref 393) ⟨[.ref sl],[]⟩)) [(sl,aa [] e)] [] (X:=Unit) (λξ=>True) (λξ=>.ok (.ret (.bool true))) (λξ=>[(sl,aa [] e)]) (λξ=>[]):=by
 have hs:=ab
 have h8:([]:List Nat).length≤8:=Du _
 have hrows:mz (a0 ([]:List Nat)):=(fU _ h8).1
 have hsr:=iD _ hrows.all
 have hrl:=hrows.len
 have hjz:((Ds bV (a0 ([]:List Nat))).map C9).sum+(Ds bV (a0 ([]:List Nat))).length * ([]:List Nat).length≤CZ:=by
  show _+_ * 0≤_;lia
 have hjl:=iB (Ds bV (a0 ([]:List Nat))) []
 have hjm:(ap [] (Ds bV (a0 ([]:List Nat)))).length+[13,10].length≤CZ:=by
  have e0:([]:List Nat).length=0:=rfl
  simp only [e0,GN] at hjl
  show _+2≤_
  have hjl:(ap [] (Ds bV (a0 ([]:List Nat)))).length≤((Ds bV (a0 ([]:List Nat))).map C9).sum+0:=hjl
  lia
 have hneq:(iW (a0 ([]:List Nat)) != (ap [] (Ds bV (a0 ([]:List Nat)))++[13,10]))=false:=by
  unfold iW
  simp
 exists 1,ad.of_defB
 exists 1,dx,(oN sl e).up rfl,319885873,1
 exists 2,yB sl n1 e (t1+1+1),0x2122241134,65
 exists 3,(zm n (n2+1+1) n2 x2 (n2+1) 0 0 0).up rfl,0x8181881814144,25465
 exists 4,cM,((Ch (n2+1) 0).up rfl),18,4,bf x1.2.2++rest,.refl _
 exists 5,aq 0 x4 30 t4 ‹_›,1,0
 exists 6,ba 10 (t1+1) 0 x5,1,0
 exists 7,cM,((lL x1.1 x1.2.1 x1.2.2 [] h8 ‹_›).up rfl),102810,7,rest,.refl _
 exists 8,(ly x7.1 x7.2.1 x7.2.2.1 x7.2.2.2.1 x7.2.2.2.2.1 x7.2.2.2.2.2.2 x7.2.2.2.2.2.1 (a0 []) p7 ‹_›).up rfl,0x1431111311131113cbcbc,546
 exists 9,cM,(ul n (n+1) n8 t t1 t7 (t7+1) sl x1.1 x7.1 n7 x8 (10+0) x6 x7.2.2.2.2.2.1 0 (a0 []) p7 ‹_› (0+1+1+1+1) 0).up rfl,0xff15155,740812,bf x1.2.2++rest,(pT [_,_,_] [2,3,0,4,0] [3,2,4,0,0] rfl)
 exists 10,cM,(lb x1.1 x1.2.1 x1.2.2 [] h8 ‹_›).up rfl,289,7,aj x7.2.2.2.2.2.1++(aj x9.2.2.2.2.2.2.2.1++rest),(pT [_,_,_,_] [2,3,0,4,5,0,0] [4,2,3,5,0,0,0] rfl)
 exists 11,dx,(u5 n (n10+1+1) n10 x10.1 (n10+1) x10.2.2 x10.2.1 x1.2.2 p10 [] h8 ‹_› 0 0).up rfl,0xff10ff10ff0ff10ff13133,0xe20ef10f
 exists 12,cM,(qG x7.1 x7.2.1 x7.2.2.1 x7.2.2.2.1 x7.2.2.2.2.1 x7.2.2.2.2.2.2 x7.2.2.2.2.2.1 (a0 []) p7 ‹_›).up rfl,0x11171112267,2457,bf x1.2.2++(aj x11.2.2.2.2.2++(aj x9.2.2.2.2.2.2.2.1++rest)),(pT [_,_,_,_,_] [2,3,0,4,5,6,0,0,0] [4,2,3,5,6,0,0,0,0] rfl)
 exists 13,cM,(vj n (n12+1+1) n12 (n10+1) (n12+1) x11.2.2.2.2.1 x11.2.2.2.2.2 (a0 []) p11 ‹_› 0 0).up rfl,0x12f112f112f12f112f18188a11,72864624959,aj x7.2.2.2.2.2.1++(bf x1.2.2++(aj x9.2.2.2.2.2.2.2.1++rest)),(pT [_,_,_,_,_] [2,3,4,5,6,0,0,0,0] [4,2,3,5,6,0,0,0,0] rfl)
 exists 14,aV [] t12 (n12+1) x13.2.2.2.2.2.2.2 (Ds bV (a0 [])) p13 x13.2.2.2.2.2.2.1 ‹_›,17965346,4
 exists 15,ak [86,105,97,58,32,102,111,114,109,59,32,102,105,108,101,45,110,97,109,101,61,34,97,32,92,34,98,92,34,59,32,99,92,92,100,34,13,10] x14 [13,10] t14 ‹_›,1,0
 exists 16,bv [86,105,97,58,32,102,111,114,109,59,32,102,105,108,101,45,110,97,109,101,61,34,97,32,92,34,98,92,34,59,32,99,92,92,100,34,13,10,13,10] x12 [86,105,97,58,32,102,111,114,109,59,32,102,105,108,101,45,110,97,109,101,61,34,97,32,92,34,98,92,34,59,32,99,92,92,100,34,13,10,13,10] x15 _ hneq,1,0
 exists 17,dx,(v6 n (n16+1+1) (n+1) n16 (n10+1) (n16+1) x11.2.2.2.2.1 x11.2.2.2.2.2 (10+0) x6 (a0 []) p11 ‹_› 0 0).up rfl,0x15f115f115f15f115f15155dd,0xc13f414f16f
 exists 18,cM,(ln n7 (n16+1) x9.2.2.2.2.2.2.2.1 x17.2.2.2.2.2.2.2 x9.2.2.2.2.2.2.2.2 x17.2.2.2.2.2.2.1 (Ds (sw (10+0)) (a0 [])) p9 ‹_›).up rfl,0x11f111f511f122122,16655,aj x11.2.2.2.2.2++(aj x7.2.2.2.2.2.1++(bf x1.2.2++rest)),(pT [_,_,_,_,_,_] [2,3,0,4,5,6,7,0,0,0,0] [6,3,0,2,4,5,7,0,0,0,0] rfl)
 exact fR hroom hR () (Md:=aj x9.2.2.2.2.2.2.2.1++(aj x17.2.2.2.2.2.2.2++(aj x11.2.2.2.2.2++(aj x7.2.2.2.2.2.1++bf x1.2.2)))) [] [21] (by kernel_rfl) (by trivial) (by exact pT [_,_,_,_,_,_] (dec 0x11118765143) (dec 0x1181111765432) rfl)
theorem sb {R:WRecords} {w:Ek} {s₀ s₁:Df} {ns:List Int} {a:C1} {as:List C1} (L:Laid R w s₀ s₁ [ofPy (PyData.list (ns.map PyData.int))] [.ref a] as):∃o,s₁.heap=s₀.heap.push o:=by
 obtain ⟨ord,_,e⟩:=L.laid
 simp only [ofPy,layAllW,layW] at e
 cases q:layAllW R (classAt s₀.heap) w.params ord (ofPys (Ds PyData.int ns)) s₀ with
 | none=>have e:=q▸e;cases e
 | some r=>
  rw [q] at e
  have hh:=lay_ints ns s₀ r q
  simp only [Option.some.injEq,Prod.mk.injEq] at e
  exact ⟨_,by simp only [←e.2,←hh];rfl⟩
theorem zR {F:Fx} {h h₁:Heap} {L:ao} (D:bq F [] h L) {o1:Obj} (e1:h₁=F.h0.push o1) (hs:h.get? F.h0.objs.size=some o1):OldK h₁ h:=by
 have kp:∀b o,F.h0.get? b=some o→h₁.get? b=some o:=λb o e=>by rw [e1];exact Heap.get?_push_of_some _ e
 have key:∀b o,h₁.get? b=some o→asItWas h₁ h b o:=by
  intro b o e
  rw [e1] at e
  rcases Heap.get?_push_cases e with ⟨rfl,rfl⟩ | e
  ·exact .inl hs
  by_cases ht:F.tab b=true
  ·rcases D.olds b o e (λz=>nomatch z) with q | ⟨q1,q2⟩ | ⟨q1,_⟩
   ·exact .inl q
   ·obtain ⟨c,o',vs,a,r⟩:=q1
    exact .inr (.inl ⟨⟨c,o',vs,kp _ _ a,r⟩,q2⟩)
   ·obtain ⟨T,hT,e2⟩:=Fe.mp ht
    exact absurd ((DR e2).trans q1) (D.limT T hT)
  ·exact .inl (D.old b o e (by simpa using ht))
 exact ⟨key,λb o e=>gP (key b o e)⟩
theorem uc {h h₁:Heap} {o1:Obj} (e1:h₁=h.push o1) (hn:h.objs.size≠cStatics) (x:h₁.NoLimit):h.NoLimit:=by
 obtain ⟨mc,⟨o,es,ep,e,r⟩,q⟩:=x
 rw [e1] at e
 rcases Heap.get?_push_cases e with ⟨e2,_⟩ | e
 ·exact absurd e2.symm hn
 ·exact ⟨mc,⟨o,es,ep,e,r⟩,q⟩
noncomputable def sB (F:Fx) (f:C1):C1:=match (eu F f).code with | .ref a=>a | _=>0
theorem vX {h0:Heap} (K:Frag) (ZA:AllIn h0 K) (T:KT) (e:T=KT.of K):KT.Holds h0 1 0 T:=by
 subst e;exact holds_of ZA
theorem xn {w:Ek} {h0 h1:Heap} (ZA:AllIn h0 (k0.heap_1 w.params)) (ZN:h0.objs.size=394) (hlim:h1.NoLimit) {o1:Obj} (e1:h1=h0.push o1) (hlife:o1.isFreed=false):d5 (gI w h0) h1 [(394,o1)]:=by
 have kp:∀b o,h0.get? b=some o→h1.get? b=some o:=λb o e=>by rw [e1];exact Heap.get?_push_of_some _ e
 have H:KT.Holds h0 1 0 (ktop w.params):=vX _ ZA _ (by kernel_rfl)
 have ta1:h0.get? 162=some (tableObj #[]):=px H (by kernel_rfl)
 have tb1:h0.get? 169=some (tableObj #[]):=px H (by kernel_rfl)
 have ta:=And.intro ta1 (table_kt H (c:=sB (gI w h0) 167) (P:=162) (o:=cu (gI w h0) (sB (gI w h0) 167)) (vs:=fY (cu (gI w h0) (sB (gI w h0) 167))) (ps:=#[]) (by kernel_rfl) (by kernel_rfl) (by kernel_rfl) (by kernel_rfl))
 have tb:=And.intro tb1 (table_kt H (c:=sB (gI w h0) 174) (P:=169) (o:=cu (gI w h0) (sB (gI w h0) 174)) (vs:=fY (cu (gI w h0) (sB (gI w h0) 174))) (ps:=#[]) (by kernel_rfl) (by kernel_rfl) (by kernel_rfl) (by kernel_rfl))
 have hl:h1.get? 394=some o1:=by rw [e1];exact ZN ▸ Heap.get?_push_size _ hlife
 refine ⟨H,λb o e _=>kp b o e,?_,λp hp=>?_,λp hp=>.inl ?_,?_,λb o e _=>.inl (kp b o e),λT hT=>?_,?_,λa ha=>(nomatch ha),?_,?_,hlim,?_⟩
 ·show h0.objs.size≤h1.objs.size
  rw [e1,Heap.size_push];exact Gm _ _
 ·rw [Dl.mp hp];exact hl
 ·rw [Dl.mp hp];exact Ga ZN
 ·show [394].Nodup
  decide
 ·rcases Ei.mp hT with rfl | hT
  ·exact ⟨.inr (.inl (kp _ _ ta.1)),ta.2⟩
  ·refine (Dl.mp hT)▸?_
   exact ⟨.inr (.inl (kp _ _ tb.1)),tb.2⟩
 ·show ∀T∈[(162,101,19),(169,104,32)],∀T'∈[(162,101,19),(169,104,32)],T.1=T'.1→T=T'
  decide
 ·exact Ga ZN.symm
 ·exact uc e1 (show h0.objs.size≠cStatics by rw [ZN];decide) hlim
 ·show ∀T∈[(162,101,19),(169,104,32)],T.1≠cStatics
  decide
theorem ws {vs:List CX} {ns:List Int} (x:IntsAre vs ns):∃zs:List (Int×Tok),vs=zV zs∧zs.length=ns.length:=by
 induction x with
 | nil=>exact ⟨[],rfl,rfl⟩
 | cons n t _ ih=>
  obtain ⟨zs,e,l⟩:=ih
  exact ⟨(n,t)::zs,by simp only [e];rfl,by simp only [C5,C5,l]⟩
theorem xO (zs:List (Int×Tok)) (hsz:zs.length≤1000):
  ad Z 27 (.o (.call (.ref 393) ⟨[.ref 394],[]⟩)) [(394,aa (zV zs) 0)] [] (X:=Unit) (λξ=>True) (λξ=>.ok (.ret (.bool true))) (λξ=>[(394,aa (zV zs) 0)]) (λξ=>[]):=by
 cases zs with
 | nil=>exact vK 394 0
 | cons p r=>exact tX 394 (p::r) 0 hsz (p::r.take 7) rfl p.1 p.2 (r.take 7) rfl
theorem Aj:z3 worst:=by
 intro ZA ZN s1 zs hsz e1 hlim hg R hR
 have D:=xn ZA ZN hlim e1 rfl
 have S:=xO zs hsz
 have e:Z=gI worst.1 worst.2:=by unfold Z;rfl
 rw [e] at S
 obtain ⟨h,g,d,t,os⟩:=s1
 dsimp only at hg e1 D
 subst hg
 exact S.go _ rfl [] callerA R ⟨d,AllBare,λg hg=>hg.push rfl⟩ os ⟨⟨rfl,by decide,by decide⟩,by decide,by decide⟩ (λx h' g t ξ hg D'=>hR h' g t hg (zR D' e1 (by
  have q:=D'.own (394,_) (.head _)
  rw [←ZN] at q
  exact q))) h #[] t AllBare.empty D
theorem vP {q:Program} {loose:List Str} {XP:(Str→Option CX)→Heap→Prop} {d:DefRec} {kwd:List (Str×Expr)} (hdn:d.name=Str.ofString "law") {as0:List C1} {K':Params→Frag} (has:∀P,as0=(K' P).map (·.1)) (hK:∀P,K' P=k0.heap_1 P) {tk:Nat}:
  WalkX q loose XP (obsZ as0) (valZ K' 394 tk) PySem.Challenge.rw_pe0278_01.row.toRowW d kwd λf vs=>PySem.call f vs:=by
 intro w s₀ s₁ mg mb G y fa o pm cd doc dV kV ho hd hcd hD hmg hg args vals as L hpre hlay hrd hwl hlo
 obtain ⟨ZA,KX,ZN,ZT⟩:=z_facts has y
 have KX:Frag.In (k0.heap_1 w.params) s₁.heap:=by rw [←hK];exact InK.keeps w s₀.heap s₁.heap KX L.keeps
 rw [hK] at ZA
 rw [hdn] at hmg
 refine Ground.open G ?_
 intro T B D TE TW
 wrow_args hpre hlay hrd hwl hlo
 obtain ⟨hat,hsz⟩:=script_at L
 rw [ZN] at hat hsz
 subst hat
 x_fa T KX hmg
 all_lens
 rename IntsAre _ _=>hI
 obtain ⟨zs,ev,el⟩:=ws hI
 subst ev
 have hobj:=script_obj L (by assumption)
 obtain ⟨o1,e1⟩:=sb L
 have eo:o1=aa (zV zs) 0:=by
  rw [e1] at hobj
  rcases Heap.get?_push_cases hobj with ⟨_,e2⟩ | e2
  ·exact e2.symm
  ·exact absurd (Heap.lt_size e2) (by rw [ZN];exact FF _)
 subst eo
 refine F8 ?_
 refine qc Aj (w,s₀.heap) ZA ZN s₁ zs (by lia) e1 T.nolimit hg _ λh g t hb hk=>?_
 exact ⟨.inl ⟨_,_,[],rfl,λ_=>rfl,ReadsW.bool true,by first | rfl | wrow_post,λ_=>⟨GD,λ_ hm=>(nomatch hm)⟩⟩,hk,rfl,hb⟩
end
theorem hd.tw10066325740915139090:True:=⟨⟩
theorem hd.tw10080708462002912989:True:=⟨⟩
theorem hd.tw10142378343001408303:True:=⟨⟩
theorem hd.tw10266834256667246075:True:=⟨⟩
theorem hd.tw1041734066939551766:True:=⟨⟩
theorem hd.tw10478317699744915354:True:=⟨⟩
theorem hd.tw10483159309910767364:True:=⟨⟩
theorem hd.tw10521865142931584956:True:=⟨⟩
theorem hd.tw10796147989822787844:True:=⟨⟩
theorem hd.tw1086749501690163283:True:=⟨⟩
theorem hd.tw1092365185724088631:True:=⟨⟩
theorem hd.tw10935814377348622260:True:=⟨⟩
theorem hd.tw10953358419278093953:True:=⟨⟩
theorem hd.tw10961369148470160073:True:=⟨⟩
theorem hd.tw11094289645390684026:True:=⟨⟩
theorem hd.tw1122436896229213571:True:=⟨⟩
theorem hd.tw11226056209096007788:True:=⟨⟩
theorem hd.tw11266129037736892665:True:=⟨⟩
theorem hd.tw11307048654218664222:True:=⟨⟩
theorem hd.tw11314117055357068600:True:=⟨⟩
theorem hd.tw11321808089211409890:True:=⟨⟩
theorem hd.tw11403675791532753748:True:=⟨⟩
theorem hd.tw11432382262962725059:True:=⟨⟩
theorem hd.tw11445796338385990213:True:=⟨⟩
theorem hd.tw11546815026107062336:True:=⟨⟩
theorem hd.tw11615864803445427873:True:=⟨⟩
theorem hd.tw11796111409470358493:True:=⟨⟩
theorem hd.tw11875649815601129772:True:=⟨⟩
theorem hd.tw11959612452944106126:True:=⟨⟩
theorem hd.tw11980236560753437918:True:=⟨⟩
theorem hd.tw11990059301537373963:True:=⟨⟩
theorem hd.tw12040794473883224051:True:=⟨⟩
theorem hd.tw12093608987786060565:True:=⟨⟩
theorem hd.tw12135065554953047620:True:=⟨⟩
theorem hd.tw12176083173453557179:True:=⟨⟩
theorem hd.tw12377319408808081730:True:=⟨⟩
theorem hd.tw12392441046977651542:True:=⟨⟩
theorem hd.tw12402786825793880664:True:=⟨⟩
theorem hd.tw1243817115420203540:True:=⟨⟩
theorem hd.tw12446864333848703894:True:=⟨⟩
theorem hd.tw1262521818313538117:True:=⟨⟩
theorem hd.tw12632742169234008099:True:=⟨⟩
theorem hd.tw12714447562980176128:True:=⟨⟩
theorem hd.tw12785757555996779899:True:=⟨⟩
theorem hd.tw12806410881072968316:True:=⟨⟩
theorem hd.tw12927277143433365694:True:=⟨⟩
theorem hd.tw12961144429417063065:True:=⟨⟩
theorem hd.tw13012100217145684311:True:=⟨⟩
theorem hd.tw13016227033810113515:True:=⟨⟩
theorem hd.tw13060237787698756651:True:=⟨⟩
theorem hd.tw13152900647210115318:True:=⟨⟩
theorem hd.tw13185518256862622155:True:=⟨⟩
theorem hd.tw13229510803694398910:True:=⟨⟩
theorem hd.tw1323028282283239234:True:=⟨⟩
theorem hd.tw13292936899121948504:True:=⟨⟩
theorem hd.tw13309457129844289811:True:=⟨⟩
theorem hd.tw13433236359130419834:True:=⟨⟩
theorem hd.tw13470984354336587823:True:=⟨⟩
theorem hd.tw13637684649295473127:True:=⟨⟩
theorem hd.tw13641004847509316846:True:=⟨⟩
theorem hd.tw13695510738193669181:True:=⟨⟩
theorem hd.tw1378153343294550077:True:=⟨⟩
theorem hd.tw13831593846471801795:True:=⟨⟩
theorem hd.tw13875821200728361853:True:=⟨⟩
theorem hd.tw13878465386051367416:True:=⟨⟩
theorem hd.tw13971359600739959757:True:=⟨⟩
theorem hd.tw14026952437868980204:True:=⟨⟩
theorem hd.tw14149618973664403197:True:=⟨⟩
theorem hd.tw14183143666670911114:True:=⟨⟩
theorem hd.tw1425572920642684092:True:=⟨⟩
theorem hd.tw14295902748450531312:True:=⟨⟩
theorem hd.tw14496288281795972469:True:=⟨⟩
theorem hd.tw14520819711834966260:True:=⟨⟩
theorem hd.tw14642527364979015918:True:=⟨⟩
theorem hd.tw14658465915341274893:True:=⟨⟩
theorem hd.tw14739706128910411235:True:=⟨⟩
theorem hd.tw14807073411836436904:True:=⟨⟩
theorem hd.tw1525885583670464380:True:=⟨⟩
theorem hd.tw15292561661927768003:True:=⟨⟩
theorem hd.tw15360700911483270650:True:=⟨⟩
theorem hd.tw15364902741380281815:True:=⟨⟩
theorem hd.tw15419413099817759249:True:=⟨⟩
theorem hd.tw15455116640653406654:True:=⟨⟩
theorem hd.tw15468373810177246615:True:=⟨⟩
theorem hd.tw15573792974875501539:True:=⟨⟩
theorem hd.tw15590289154827916315:True:=⟨⟩
theorem hd.tw15638330822065878545:True:=⟨⟩
theorem hd.tw15643034517356785631:True:=⟨⟩
theorem hd.tw15681598297672941335:True:=⟨⟩
theorem hd.tw15722331224553798755:True:=⟨⟩
theorem hd.tw15750715007001223803:True:=⟨⟩
theorem hd.tw15768255177571059533:True:=⟨⟩
theorem hd.tw15769674674836675847:True:=⟨⟩
theorem hd.tw15790491481555468591:True:=⟨⟩
theorem hd.tw15858063859152535700:True:=⟨⟩
theorem hd.tw15914279173456535478:True:=⟨⟩
theorem hd.tw15945647015417289575:True:=⟨⟩
theorem hd.tw15990409148406401000:True:=⟨⟩
theorem hd.tw1603383138076344820:True:=⟨⟩
theorem hd.tw16093596954561186164:True:=⟨⟩
theorem hd.tw16118823824875299653:True:=⟨⟩
theorem hd.tw16210493721406562244:True:=⟨⟩
theorem hd.tw16221998681652435002:True:=⟨⟩
theorem hd.tw16271221263835843588:True:=⟨⟩
theorem hd.tw16300260667763138969:True:=⟨⟩
theorem hd.tw16367322488064149640:True:=⟨⟩
theorem hd.tw16368629955692084229:True:=⟨⟩
theorem hd.tw16408791803549164065:True:=⟨⟩
theorem hd.tw16413547821465148756:True:=⟨⟩
theorem hd.tw16479881564531537609:True:=⟨⟩
theorem hd.tw16520977018256573966:True:=⟨⟩
theorem hd.tw16560290962428233049:True:=⟨⟩
theorem hd.tw16582145984224169819:True:=⟨⟩
theorem hd.tw16607784696358226408:True:=⟨⟩
theorem hd.tw16655361398738801047:True:=⟨⟩
theorem hd.tw16706406908939067481:True:=⟨⟩
theorem hd.tw1672987069340362256:True:=⟨⟩
theorem hd.tw16753550483799774095:True:=⟨⟩
theorem hd.tw16869773528944115042:True:=⟨⟩
theorem hd.tw17015435336251040360:True:=⟨⟩
theorem hd.tw17133045824648328273:True:=⟨⟩
theorem hd.tw17259825775893236993:True:=⟨⟩
theorem hd.tw1728196956790604047:True:=⟨⟩
theorem hd.tw17295801982453579902:True:=⟨⟩
theorem hd.tw17309730176458506095:True:=⟨⟩
theorem hd.tw1737164910517545198:True:=⟨⟩
theorem hd.tw1739333284479847295:True:=⟨⟩
theorem hd.tw17419490979579898423:True:=⟨⟩
theorem hd.tw17433092633564068221:True:=⟨⟩
theorem hd.tw17475676430395871877:True:=⟨⟩
theorem hd.tw17480675751169399666:True:=⟨⟩
theorem hd.tw17573272137492337276:True:=⟨⟩
theorem hd.tw17581694313120579900:True:=⟨⟩
theorem hd.tw17597415741657687795:True:=⟨⟩
theorem hd.tw17630102493349999429:True:=⟨⟩
theorem hd.tw17666336772176347789:True:=⟨⟩
theorem hd.tw17687650187445244721:True:=⟨⟩
theorem hd.tw17746410852422831316:True:=⟨⟩
theorem hd.tw17764615713609121955:True:=⟨⟩
theorem hd.tw17776756044511651994:True:=⟨⟩
theorem hd.tw17792526076716820980:True:=⟨⟩
theorem hd.tw17821629586853470551:True:=⟨⟩
theorem hd.tw17825077915755302112:True:=⟨⟩
theorem hd.tw1794401647697937491:True:=⟨⟩
theorem hd.tw18029975075693748092:True:=⟨⟩
theorem hd.tw18045105196089033547:True:=⟨⟩
theorem hd.tw18061153546308781385:True:=⟨⟩
theorem hd.tw18123177586359814133:True:=⟨⟩
theorem hd.tw18254621711343407291:True:=⟨⟩
theorem hd.tw18342914789491032373:True:=⟨⟩
theorem hd.tw183478918671366464:True:=⟨⟩
theorem hd.tw18432477139146500567:True:=⟨⟩
theorem hd.tw1886097375651017517:True:=⟨⟩
theorem hd.tw1895951369120612711:True:=⟨⟩
theorem hd.tw1899478393449861924:True:=⟨⟩
theorem hd.tw1948366231462838307:True:=⟨⟩
theorem hd.tw195797228579154521:True:=⟨⟩
theorem hd.tw1979913288306733268:True:=⟨⟩
theorem hd.tw1995303238660393591:True:=⟨⟩
theorem hd.tw2140662293383983925:True:=⟨⟩
theorem hd.tw219480563031444581:True:=⟨⟩
theorem hd.tw226073816358300282:True:=⟨⟩
theorem hd.tw2277299923939199616:True:=⟨⟩
theorem hd.tw2366270029833321311:True:=⟨⟩
theorem hd.tw2386032343275876092:True:=⟨⟩
theorem hd.tw2394875097976081641:True:=⟨⟩
theorem hd.tw2540508547489348831:True:=⟨⟩
theorem hd.tw2560931123470285748:True:=⟨⟩
theorem hd.tw2620797684545610549:True:=⟨⟩
theorem hd.tw2678143867751452360:True:=⟨⟩
theorem hd.tw2766661427924329419:True:=⟨⟩
theorem hd.tw2776922457245515730:True:=⟨⟩
theorem hd.tw2780260501866471414:True:=⟨⟩
theorem hd.tw2811318038965151686:True:=⟨⟩
theorem hd.tw2857093527191813627:True:=⟨⟩
theorem hd.tw2945750046319874812:True:=⟨⟩
theorem hd.tw3025108057812911590:True:=⟨⟩
theorem hd.tw309218987962994604:True:=⟨⟩
theorem hd.tw3228372226667921670:True:=⟨⟩
theorem hd.tw3241225366106811912:True:=⟨⟩
theorem hd.tw3244803008217739608:True:=⟨⟩
theorem hd.tw3284363174483386244:True:=⟨⟩
theorem hd.tw3477474463364644245:True:=⟨⟩
theorem hd.tw3517015006915437578:True:=⟨⟩
theorem hd.tw3580206924867195457:True:=⟨⟩
theorem hd.tw3604189019820491887:True:=⟨⟩
theorem hd.tw3610406353763610313:True:=⟨⟩
theorem hd.tw3627271223889672653:True:=⟨⟩
theorem hd.tw3674186819540265957:True:=⟨⟩
theorem hd.tw3687686028191705147:True:=⟨⟩
theorem hd.tw3692537525332797038:True:=⟨⟩
theorem hd.tw3750811979167540357:True:=⟨⟩
theorem hd.tw3825937853902108583:True:=⟨⟩
theorem hd.tw4013227346040760583:True:=⟨⟩
theorem hd.tw4022063746063642947:True:=⟨⟩
theorem hd.tw4027570223873491336:True:=⟨⟩
theorem hd.tw4068178545649160379:True:=⟨⟩
theorem hd.tw4085355107048368183:True:=⟨⟩
theorem hd.tw4096336611382216148:True:=⟨⟩
theorem hd.tw41017763157688102:True:=⟨⟩
theorem hd.tw4115823564253892186:True:=⟨⟩
theorem hd.tw4139280733346450165:True:=⟨⟩
theorem hd.tw4143826401244880611:True:=⟨⟩
theorem hd.tw4203198539114469034:True:=⟨⟩
theorem hd.tw4234769180768666233:True:=⟨⟩
theorem hd.tw432312013788014763:True:=⟨⟩
theorem hd.tw4329327081025809573:True:=⟨⟩
theorem hd.tw4410416522831798223:True:=⟨⟩
theorem hd.tw4487749508097109478:True:=⟨⟩
theorem hd.tw4679175546195238436:True:=⟨⟩
theorem hd.tw477729914001885993:True:=⟨⟩
theorem hd.tw4812048042432436358:True:=⟨⟩
theorem hd.tw4854229051247803819:True:=⟨⟩
theorem hd.tw4950615714455853267:True:=⟨⟩
theorem hd.tw5027669282166582034:True:=⟨⟩
theorem hd.tw503780265075650398:True:=⟨⟩
theorem hd.tw5267257673517129457:True:=⟨⟩
theorem hd.tw5270485755897854155:True:=⟨⟩
theorem hd.tw5463311042859391544:True:=⟨⟩
theorem hd.tw546453376004863633:True:=⟨⟩
theorem hd.tw5489698587151705762:True:=⟨⟩
theorem hd.tw5499663076606008585:True:=⟨⟩
theorem hd.tw5504556581544584004:True:=⟨⟩
theorem hd.tw5509933267665162965:True:=⟨⟩
theorem hd.tw5667273915815168098:True:=⟨⟩
theorem hd.tw5725608563912678902:True:=⟨⟩
theorem hd.tw5765981979616339262:True:=⟨⟩
theorem hd.tw5791980126387539862:True:=⟨⟩
theorem hd.tw5914723586387771985:True:=⟨⟩
theorem hd.tw5932558218160036093:True:=⟨⟩
theorem hd.tw6038658630603023450:True:=⟨⟩
theorem hd.tw6107326974332579236:True:=⟨⟩
theorem hd.tw61191686967583403:True:=⟨⟩
theorem hd.tw622002401191872955:True:=⟨⟩
theorem hd.tw6229570014629185221:True:=⟨⟩
theorem hd.tw628478076801646101:True:=⟨⟩
theorem hd.tw6299529512197398807:True:=⟨⟩
theorem hd.tw6320518386173553733:True:=⟨⟩
theorem hd.tw6351698254187997254:True:=⟨⟩
theorem hd.tw6355507385629914005:True:=⟨⟩
theorem hd.tw6384089640036988262:True:=⟨⟩
theorem hd.tw6505221142404539620:True:=⟨⟩
theorem hd.tw6522067053726604020:True:=⟨⟩
theorem hd.tw6567288245983111171:True:=⟨⟩
theorem hd.tw6572323326076721097:True:=⟨⟩
theorem hd.tw6583578442109099172:True:=⟨⟩
theorem hd.tw6598610022634002709:True:=⟨⟩
theorem hd.tw6617676729689136394:True:=⟨⟩
theorem hd.tw6671535061982701834:True:=⟨⟩
theorem hd.tw670263645769261399:True:=⟨⟩
theorem hd.tw6712101261821760373:True:=⟨⟩
theorem hd.tw6721296464632655532:True:=⟨⟩
theorem hd.tw6729940628936871286:True:=⟨⟩
theorem hd.tw6734474459372280481:True:=⟨⟩
theorem hd.tw675554889913544426:True:=⟨⟩
theorem hd.tw6815161361294328400:True:=⟨⟩
theorem hd.tw6862454470318608369:True:=⟨⟩
theorem hd.tw6872526038962216167:True:=⟨⟩
theorem hd.tw6888037770979986429:True:=⟨⟩
theorem hd.tw6902259678686825763:True:=⟨⟩
theorem hd.tw70504467139266312:True:=⟨⟩
theorem hd.tw7167780255434881355:True:=⟨⟩
theorem hd.tw7230765955390993930:True:=⟨⟩
theorem hd.tw7273997582074884960:True:=⟨⟩
theorem hd.tw738775025143659625:True:=⟨⟩
theorem hd.tw7404191238989333517:True:=⟨⟩
theorem hd.tw7416751222084276281:True:=⟨⟩
theorem hd.tw747233835428456531:True:=⟨⟩
theorem hd.tw7535887658832202149:True:=⟨⟩
theorem hd.tw7608060696618008248:True:=⟨⟩
theorem hd.tw7684266224416042558:True:=⟨⟩
theorem hd.tw7694040772201074070:True:=⟨⟩
theorem hd.tw7746552458522460070:True:=⟨⟩
theorem hd.tw7760740165033458314:True:=⟨⟩
theorem hd.tw7828117762059506987:True:=⟨⟩
theorem hd.tw7882751426655431386:True:=⟨⟩
theorem hd.tw7913717863462653910:True:=⟨⟩
theorem hd.tw7931173958741972122:True:=⟨⟩
theorem hd.tw7966823312900173658:True:=⟨⟩
theorem hd.tw808681233213301776:True:=⟨⟩
theorem hd.tw8150992774993933158:True:=⟨⟩
theorem hd.tw8402618584194901558:True:=⟨⟩
theorem hd.tw846309678394256300:True:=⟨⟩
theorem hd.tw8480387041410936312:True:=⟨⟩
theorem hd.tw8498548277181722101:True:=⟨⟩
theorem hd.tw8549678576505192021:True:=⟨⟩
theorem hd.tw856468140157597299:True:=⟨⟩
theorem hd.tw8620915925392604993:True:=⟨⟩
theorem hd.tw8648422797122227755:True:=⟨⟩
theorem hd.tw8673665949694871306:True:=⟨⟩
theorem hd.tw8715333617671011236:True:=⟨⟩
theorem hd.tw8755810029303015932:True:=⟨⟩
theorem hd.tw8761934834357262393:True:=⟨⟩
theorem hd.tw8816488491593808883:True:=⟨⟩
theorem hd.tw8866890569696520983:True:=⟨⟩
theorem hd.tw8867138011813171871:True:=⟨⟩
theorem hd.tw8904193203061881282:True:=⟨⟩
theorem hd.tw893644547651322600:True:=⟨⟩
theorem hd.tw8943531899214615993:True:=⟨⟩
theorem hd.tw8980041911258296626:True:=⟨⟩
theorem hd.tw8993227998240613506:True:=⟨⟩
theorem hd.tw9048594486883216300:True:=⟨⟩
theorem hd.tw9167245089561082170:True:=⟨⟩
theorem hd.tw9192306302185186207:True:=⟨⟩
theorem hd.tw9208106234588509766:True:=⟨⟩
theorem hd.tw9309459007353498140:True:=⟨⟩
theorem hd.tw9321749180303621477:True:=⟨⟩
theorem hd.tw9334336573746576752:True:=⟨⟩
theorem hd.tw9340432698400089522:True:=⟨⟩
theorem hd.tw9433380107526252560:True:=⟨⟩
theorem hd.tw9572024549278143227:True:=⟨⟩
theorem hd.tw960524448959485159:True:=⟨⟩
theorem hd.tw9625954409417532054:True:=⟨⟩
theorem hd.tw9735997196182214540:True:=⟨⟩
theorem hd.tw977017194038806211:True:=⟨⟩
theorem hd.tw9980891921494542723:True:=⟨⟩
end
open PySem PySem.Spec PySem.Calls PyProof.Rows PySem.W PySem.W.X
set_option Elab.async true in
theorem hd : PySem.Challenge.rw_pe0278_01.Holds := by
  w_on; o_law; z_head; (case hw => w_witness2)
  exact vP (by rfl) (λ_ => by kernel_rfl) (λ_ => by kernel_rfl)
end Mine.Internal
theorem PySem.Challenge.cw_pe0278_01_holds : PySem.Challenge.rw_pe0278_01.Holds :=
  Mine.Internal.hd
