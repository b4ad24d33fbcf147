import PyProof.Rows.All
import Wide.All
import OpenK.AllK
import Wide.FinOn
import OpenK.ZHead
import Lean
import PySem.Challenge.RW_rw0121_02
set_option Elab.async false
set_option maxRecDepth 100000
set_option linter.all false
set_option maxHeartbeats 4000000
set_option compiler.extract_closed false
set_option genSizeOf false
set_option genInjectivity false
set_option genCtorIdx false
set_option bootstrap.genMatcherCode false
set_option tactic.hygienic false
noncomputable section
namespace Mine
theorem bc {p:Prop} (h:¬ ¬ p):p:=Classical.byContradiction h
end Mine
section
open PySem PySem.W PyProof.Rows PySem.Calls
set_option compiler.extract_closed false
namespace Mine
section
open Lean (Syntax Name mkIdent)
 def xA (s:String):Syntax:=.atom .none s
 def xK:List Syntax→Syntax
 | k :: c=>.node .none k.getId ⟨c⟩
 | []=>.missing
 def xW (a:List Syntax) (w:String):Syntax:=
 let r:=(w.drop 1).toString
 if w.startsWith "'" then xA r
 else if w.startsWith "%" then a.getD r.length .missing
 else mkIdent ((w.replace "T." "Lean.Parser.Tactic.").replace "S." "Lean.Parser.Term.").toName
 -- words to a tree: what a bracket closes is made by k, a word by t
 def xB (k:List Syntax→Syntax) (t:String→Syntax) (ws:List String):List Syntax:=
 (ws.foldl (fun (st:List (List Syntax)) w=>if w == "(" then [] :: st else
  let l:=st.headD []
  let r:=st.drop 1
  if w == ")" then (k l.reverse :: r.headD []) :: r.drop 1 else (t w :: l) :: r) [[]]).headD []
 def xM (s:String) (a:List Syntax):Syntax:=(xB xK (xW a) (s.splitOn " ")).headD .missing
 def xS (l:List Syntax):Syntax:=xM "( T.tacticSeq ( T.tacticSeq1Indented % ) )" [.node .none `null ⟨(l.flatMap fun a=>[a,xA ";"]).dropLast⟩]
 def xGo (k:String):Syntax:=xM "( PyProof.Rows.tacticWalk_at_ 'walk_at % )" [Syntax.mkStrLit k]
 def xT (n:Name) (w:String):Syntax:=
 let r:=(w.drop 1).toString
 if w == "_" then xM "( S.hole '_ )" []
 else if w == "?_" then xM "( S.syntheticHole '? '_ )" []
 else if w.startsWith "?" then xM "( S.syntheticHole '? % )" [mkIdent (.str n r)]
 else if w.startsWith "@" then xM "( S.byTactic 'by % )" [xS [xGo r]]
 else if w.startsWith "'" then Syntax.mkStrLit (r.dropEnd 1).toString
 else mkIdent w.toName
 def xApp:List Syntax→Syntax
 | [a]=>a
 | f :: r=>xM "( S.app % %% )" [f,.node .none `null ⟨r⟩]
 | []=>.missing
 def xP (n:Name) (ws:List String):Syntax:=xApp (xB xApp (xT n) ws).reverse
 def xStep (n:Name) (p:String):Syntax:=
 let l:=p.splitOn " "
 let k:=l.headD ""
 let ws:=l.drop 1
 let a:=ws.headD ""
 if k == "go" then xGo a
 else if p == "intros" then xM "( T.intros 'intros ( null ) )" []
 else if k == "rot" then xM (if a == "1" then "( T.rotateLeft 'rotate_left ( null ) )" else "( T.rotateLeft 'rotate_left ( null % ) )") [Syntax.mkNumLit a]
 else if k == "case" then xM "( T.case 'case ( null ( T.caseArg ( Lean.binderIdent % ) ( null ) ) ) '=> %% )" [mkIdent (.str n a),xS [xGo (ws.getD 1 "")]]
 else if k == "show" then xM "( T.failIfSuccess 'fail_if_success % )" [xS [xM "( T.failIfSuccess 'fail_if_success % )" [xS [xM "( T.withReducible 'with_reducible % )" [xS [xM "( T.show 'show % )" [xP n ws]]]]]]]
 else if k == "go1" then xM "( T.focus 'focus % )" [xS [xGo a]]
 else if k == "d" then xM "( T.refine 'refine % )" [xP n ws]
 else xM "( T.withReducible 'with_reducible % )" [xS [xM "( T.refine 'refine % )" [xP n l]]]
 def xRow (k:String) (ls:List String):Option String:=(ls.find? (·.startsWith k)).map fun l=>(l.drop k.length).toString
 def xAll (n:Name) (e:String):Syntax:=if e.startsWith "# " then xM (e.drop 2).toString [] else xM "( T.first 'first % )" [.node .none `null ⟨(e.splitOn " | ").map fun a=>xM "( group '| % )" [xS ((a.splitOn " ; ").map (xStep n))]⟩]
 def xRw (r:Syntax):Syntax:=
 let t:=r.getArg 1
 let h:=xM "( S.hole '_ )" []
 let f u:=xM "( group '| % )" [xS [xM "( T.withReducible 'with_reducible % )" [xS [xM "( T.refine 'refine ( S.app %% ( null % ( S.syntheticHole '? '_ ) ) ) )" [u,mkIdent (if (r.getArg 0).getNumArgs == 0 then `Mine.rw1 else `Mine.rw2)]]]]]
 xM "( T.first 'first ( null % %% %%% ( group '| ( T.tacticSeq ( T.tacticSeq1Indented ( null ( T.rewriteSeq 'rewrite ( T.optConfig ( null ) ) ( T.rwRuleSeq '[ ( null %%%% ) '] ) ( null ) ) ) ) ) ) ) )" [f t,f (xApp [t,h]),f (xApp [t,h,h]),r]
 def xRws (l:List Syntax):Syntax:=xM "( T.paren '( % ') )" [xS (l.map xRw++[xM "( T.tacticTry_ 'try ( T.tacticSeq ( T.tacticSeq1Indented ( null ( T.withReducible 'with_reducible ( T.tacticSeq ( T.tacticSeq1Indented ( null ( T.tacticRfl 'rfl ) ) ) ) ) ) ) ) )" []])]
 def aR:Lean.Syntax:=xS [xGo "R"]
 def aD:Lean.Syntax:=xS [xGo "D"]
 def aL:Lean.Syntax:=xS [xGo "l"]
 def aI:Lean.Syntax:=xS [xGo "I"]
 def aK:Lean.Syntax:=xS [xGo "DK"]
 def aW:Lean.Syntax:=xS [xGo "W"]
end
@[elab_as_elim] theorem rw1.{u} {α:Sort u} {a b:α} {P:α→Prop} (h:a=b) (k:P b):P a:=h ▸ k
@[elab_as_elim] theorem rw2.{u} {α:Sort u} {a b:α} {P:α→Prop} (h:b=a) (k:P b):P a:=h ▸ k
theorem subS {n i:Nat} (h:i < n):n - i=n - (i + 1) + 1:=(Nat.sub_add_cancel (Nat.sub_pos_of_lt h)).symm
theorem sub3 {L M R:Nat} (h1:L≤M) (h2:M≤R):M - L + (R - M)=R - L:=(Nat.add_comm _ _).trans (Nat.sub_add_sub_cancel h2 h1)
theorem min1 {r m:Nat} (h:r + 1≤m):min 1 r + (r - 1)≤m:=Nat.le_trans (Nat.add_le_add (Nat.min_le_left 1 r) (Nat.sub_le r 1)) (Nat.add_comm 1 r ▸ h)
theorem min2 {a r m:Nat} (h:a + (r + 1)≤m):a + min 1 r + (r - 1)≤m:=Nat.le_trans (Nat.add_assoc a (min 1 r) (r - 1) ▸ Nat.add_le_add_left (k:=a) (min1 (Nat.le_refl _))) h
theorem subLt {P:Nat} (h:0 < P):P - 1 < P:=Nat.sub_lt h (by decide)
theorem le2 {a b c:Nat} (h:b≤c) (k:a≤b):a≤c:=Nat.le_trans k h
theorem lt2 {a b c:Nat} (h:b≤c) (k:a < b):a < c:=Nat.lt_of_lt_of_le k h
theorem ne2 {a b:Nat} (h:a≤b) (k:0 < a):b≠0:=Nat.ne_of_gt (Nat.lt_of_lt_of_le k h)
theorem Ia.ifn {p q:Prop} {c:Prop} [Decidable c] (h:¬ c) (k:q):if c then p else q:=by rw [if_neg h];exact k
theorem Ia.ifp {p q:Prop} {c:Prop} [Decidable c] (h:c) (k:p):if c then p else q:=by rw [if_pos h];exact k
theorem Ib.ifn {M:Model} {A:Around} {α:Type} {x y:Sem α} {Q:α→Shared→Prop} {E:Value→Shared→Prop} {s:Shared} {c:Prop} [Decidable c] (h:¬ c) (k:wpAny M A y Q E s):wpAny M A (if c then x else y) Q E s:=by rw [if_neg h];exact k
theorem Ib.ifp {M:Model} {A:Around} {α:Type} {x y:Sem α} {Q:α→Shared→Prop} {E:Value→Shared→Prop} {s:Shared} {c:Prop} [Decidable c] (h:c) (k:wpAny M A x Q E s):wpAny M A (if c then x else y) Q E s:=by rw [if_pos h];exact k
 abbrev gaF (a:Str) (b:Bool):Value→Sem Value:=fun o=>getAttr o a b
end Mine
end
open Mine
/- the walker: a row of alternatives for each key, told as text; « | » parts alternatives, « ; » the steps of one; a step is a term to refine by (reducibly; «d» ahead: by default), or show T, go KEY, case TAG KEY, rot N -/
local macro_rules | `(tactic| walk_at $s:str)=>do
 let key:=s.getString
 let tab := "A : # ( T.assumption 'assumption )\n\
I : # ( T.paren '( ( T.tacticSeq ( T.tacticSeq1Indented ( null ( T.intros 'intros ( null ) ) '; ( T.tacticRfl 'rfl ) ) ) ) ') )\n\
E : # ( T.paren '( ( T.tacticSeq ( T.tacticSeq1Indented ( null ( T.intro 'intro ( null c e ) ) '; ( T.cases 'cases ( null ( T.elimTarget ( null ) e ) ) ( null ) ( null ) ) ) ) ) ') )\n\
R : # ( T.tacticRfl 'rfl )\n\
K : # ( tacticKernel_rfl 'kernel_rfl )\n\
K! : # ( PyProof.Rows.tacticKernel_rfl! 'kernel_rfl! )\n\
D : # ( T.decide 'decide ( T.optConfig ( null ) ) )\n\
DK : # ( T.decide 'decide ( T.optConfig ( null ( T.configItem ( T.posConfigItem '+ kernel ) ) ) ) )\n\
O : # ( T.paren '( ( T.tacticSeq ( T.tacticSeq1Indented ( null ( T.failIfSuccess 'fail_if_success ( T.tacticSeq ( T.tacticSeq1Indented ( null ( T.failIfSuccess 'fail_if_success ( T.tacticSeq ( T.tacticSeq1Indented ( null ( T.omega 'omega ( T.optConfig ( null ) ) ) ) ) ) ) ) ) ) ) '; ( PyProof.Rows.tacticWalk_at_ 'walk_at ( str '\"l\" ) ) ) ) ) ') )\n\
W : # ( T.withUnfoldingAll 'with_unfolding_all ( T.tacticSeq ( T.tacticSeq1Indented ( null ( T.tacticRfl 'rfl ) ) ) ) )\n\
sa : # ( T.paren '( ( T.tacticSeq ( T.tacticSeq1Indented ( null ( T.simp 'simp ( T.optConfig ( null ( T.configItem ( T.posConfigItem '+ arith ) ) ) ) ( null ) ( null 'only ) ( null '[ ( null ) '] ) ( null ) ) '; ( T.done 'done ) ) ) ) ') )\n\
L : # ( T.lia 'lia ( T.optConfig ( null ) ) )\n\
simp : # ( T.simp 'simp ( T.optConfig ( null ) ) ( null ) ( null ) ( null ) ( null ) )\n\
go : # ( T.tacticRepeat_ 'repeat ( T.tacticSeq ( T.tacticSeq1Indented ( null ( PyProof.Rows.tacticWalk_at_ 'walk_at ( str '\"s\" ) ) ) ) ) )\n\
start : # ( T.paren '( ( T.tacticSeq ( T.tacticSeq1Indented ( null ( T.Conv.conv 'conv ( null ) ( null ) '=> ( T.Conv.convSeq ( T.Conv.convSeq1Indented ( null ( T.Conv.arg 'arg ( T.Conv.argArg ( null ) ( null ) ( num '4 ) ) ) '; ( T.Conv.whnf 'whnf ) ) ) ) ) '; ( T.Conv.conv 'conv ( null ) ( null ) '=> ( T.Conv.convSeq ( T.Conv.convSeq1Indented ( null ( T.Conv.arg 'arg ( T.Conv.argArg ( null ) ( null ) ( num '2 ) ) ) '; ( T.Conv.simp 'simp ( T.optConfig ( null ) ) ( null ) ( null 'only ) ( null '[ ( null ( T.simpLemma ( null ) ( null ) pslots ) ', ( T.simpLemma ( null ) ( null ) List.map_cons ) ', ( T.simpLemma ( null ) ( null ) List.map_nil ) ', ( T.simpLemma ( null ) ( null ) List.cons_append ) ', ( T.simpLemma ( null ) ( null ) List.nil_append ) ', ( T.simpLemma ( null ) ( null ) List.append_nil ) ) '] ) ) ) ) ) ) ) ) ) ') )\n\
mem : List.mem_cons_self | mem1 | mem2 | mem3 | mem4 | mem5 | mem6 | mem7 | mem8 | List.mem_cons_of_mem _ ?_ ; go mem\n\
gdl : B.g__DIV_LIMIT\n\
gval : B.g__DIV_LIMIT | B.g__netrclex | B.g_b1_set | B.g_b3_exceptions | B.g_law | B.g__div2n1n | B.g__div3n2n | B.g__int2digits | B.g__digits2int | B.g__divmod_pos | B.g_int_divmod | B.g_in_table_b1 | B.g_map_table_b3 | B.g__law_grown | B.g__law_turned | B.g__law_ring | B.g__law_file | B.g__law_lexer | B.g__law_figures | B.g__law_number | B.g__law_divided | B.g__law_laps | B.g__law_pairs | B.g__law_down\n\
bval : B.b_len | B.b_range | B.b_divmod | B.b_list | B.b_sum | B.b_max | B.b_min | B.b_reversed | B.b_iter | B.b_ord | B.b_chr | B.b_str | B.b_ZeroDivisionError\n\
bnone : B.n_len | B.n_range | B.n_divmod | B.n_list | B.n_sum | B.n_max | B.n_min | B.n_reversed | B.n_iter | B.n_ord | B.n_chr | B.n_str | B.n_ZeroDivisionError\n\
keep : keep_builtin | keep_type | FnB.keep B.f__div2n1n | FnB.keep B.f__div3n2n | FnB.keep B.f__int2digits | FnB.keep B.f__digits2int | FnB.keep B.f__divmod_pos | FnB.keep B.f_int_divmod | FnB.keep B.f_in_table_b1 | FnB.keep B.f_map_table_b3 | FnB.keep B.f__law_grown | FnB.keep B.f__law_turned | FnB.keep B.f__law_ring | FnB.keep B.f__law_file | FnB.keep B.f__law_lexer | FnB.keep B.f__law_figures | FnB.keep B.f__law_number | FnB.keep B.f__law_divided | FnB.keep B.f__law_laps | FnB.keep B.f__law_pairs | FnB.keep B.f__law_down\n\
lv : LV.fr _ | LV.ow @A | go A\n\
has : d Has.nil | d Has.cons ?h ?t ; case h mem ; case t has\n\
swp : d swap_nil ?_ | d swap_cons ( stores_local @K! ) ( upd_mk ?_ ?_ ) ?_ ; rot 1 ; go rest ; go swp\n\
call : show CallV _ ( V.raw ( PySem.Value.builtin 'len' ) ) ( List.cons _ List.nil ) _ _ ; go len | bn_divmod ?_ ?_ ?_ ; rot 2 | bi_divmod ?_ ?_ ?_ ; rot 2 | bi_ord ?_ | bi_chr ?_ ?_ ; rot 1 | bi_range1 ?_ | bi_range2 ?_ | show CallV _ ( V.raw ( PySem.Value.builtin 'sum' ) ) ( List.cons _ List.nil ) _ _ ; bi_sum @lv ?_ | show CallV _ ( V.raw ( PySem.Value.builtin 'list.append' ) ) ( List.cons _ ( List.cons _ List.nil ) ) _ _ ; bi_append @A ?_ ?_ ; rot 1 | bi_find ?_ | bi_count ?_ | bi_lower ?_ ?_ ; rot 1 | bn_bitlen ?_ | bi_bitlen ?_\n\
len : bi_len_list @lv ?_ ?_ ; rot 1 | bi_len_str ?_ ?_ ; rot 1\n\
ev : show EvP _ _ _ ( PySem.Expr.Name _ _ ) _ ; go nam | show EvP _ _ _ ( PySem.Expr.Constant _ _ _ ) _ ; go con | ev_binQ ?_ | show EvP _ _ _ ( PySem.Expr.Compare _ ( List.cons _ List.nil ) ( List.cons _ List.nil ) _ ) _ ; ev_cmpQ ?_ | ev_unQ ?_ | ev_ifexpQ ?_ | ev_subQ ?_ | ev_slcQ ?_ | ev_callQ ?_ ?h1 ; case h1 I | ev_tupleQ ?_ ?h1 ; case h1 I | show EvP _ _ _ ( PySem.Expr.List ( List.cons _ _ ) _ ) _ ; ev_listQ ?_ ?h1 ; case h1 I | ev_attrQ ?_ ?h1 ; case h1 I | gm_read ?_ ; d ev_methF ?_ | ev_methQ meth_append ?_ ?h1 ?h2 ?h3 ?h4 ; case h1 I ; case h2 I ; case h3 R ; case h4 I | ev_methQ meth_bitlen ?_ ?h1 ?h2 ?h3 ?h4 ; case h1 I ; case h2 I ; case h3 R ; case h4 I | ev_methQ meth_find ?_ ?h1 ?h2 ?h3 ?h4 ; case h1 I ; case h2 I ; case h3 R ; case h4 I | ev_methQ meth_count ?_ ?h1 ?h2 ?h3 ?h4 ; case h1 I ; case h2 I ; case h3 R ; case h4 I | ev_methQ meth_lower ?_ ?h1 ?h2 ?h3 ?h4 ; case h1 I ; case h2 I ; case h3 R ; case h4 I | ev_methQ meth_lstrip ?_ ?h1 ?h2 ?h3 ?h4 ; case h1 I ; case h2 I ; case h3 R ; case h4 I | ev_methQ meth_pop ?_ ?h1 ?h2 ?h3 ?h4 ; case h1 I ; case h2 I ; case h3 R ; case h4 I | ev_methQ meth_reverse ?_ ?h1 ?h2 ?h3 ?h4 ; case h1 I ; case h2 I ; case h3 R ; case h4 I | ev_methQ meth_join ?_ ?h1 ?h2 ?h3 ?h4 ; case h1 I ; case h2 I ; case h3 R ; case h4 I\n\
nam : ev_name @mem ?_ | ev_nameC @mem @A ?_ | ev_globalI ( Ctx.Ok2.toOk B.ok2 ) @K @gdl ?_ | ev_global ( Ctx.Ok2.toOk B.ok2 ) @K @gval ?_ | ev_builtin ( Ctx.Ok2.toOk B.ok2 ) @K @bnone @bval ?_\n\
con : ev_int ?_ | ev_lit_e ?_ | ev_lit_bs ?_ | ev_lit_dq ?_ | ev_lit_nl ?_ | ev_lit_sp ?_ | ev_lit_h ?_ | ev_lit_p ?_ | ev_str ?_ | ev_bool ?_ | ev_none ?_\n\
st : st_ifQ ?_ | st_retQ ?_ | st_ret0 ?_ | st_brk ?_ | st_cont ?_ | show StP _ _ _ ( PySem.Stmt.Assign ( List.cons ( PySem.Expr.Name _ _ ) List.nil ) _ _ ) _ ; go sas | show StP _ _ _ ( PySem.Stmt.AugAssign ( PySem.Expr.Name _ _ ) _ _ _ ) _ ; st_augQ ( stores_local @K! ) @mem ?_ | st_exprQ ?_ ?h1 ; case h1 I | show StP _ _ _ ( PySem.Stmt.Assign ( List.cons _ List.nil ) _ _ ) _ ; go sa2\n\
sas : st_assignQ ?h1 ?_ ?h2 ; case h1 K! ; case h2 I\n\
sa2 : st_assign_swap ?_ ?h1 ?h2 ; case h1 I ; case h2 I | st_assignTQ ?_ ?h1 ?h2 ?h3 ; case h1 I ; case h2 I ; case h3 I\n\
ts : show TsP _ _ _ ( PySem.Expr.Compare _ ( List.cons _ List.nil ) ( List.cons _ List.nil ) _ ) _ ; ts_cmpQ ?_ | ts_notQ ?_ | ts_and_nil ?_ | ts_or_nil ?_ | ts_andQ ?_ | ts_orQ ?_ | ts_valQ ?_ ?h1 ; case h1 I\n\
m2 : bn_add _ _ ?_ | bn_addL _ _ ?_ | bn_addR _ _ ?_ | show M2 _ ( binaryOp PySem.Operator.Sub ) _ _ _ _ ; go m2s | bn_mul _ _ ?_ ?_ ; rot 1 | bn_mulR _ _ ?_ ?_ ; rot 1 | bn_fdivL _ _ @D @D ?_ | bn_modL _ _ @D @D ?_ | bn_fdiv _ _ ?_ ?_ ?_ ; rot 2 | bn_mod _ _ ?_ ?_ ?_ ; rot 2 | bn_and1 _ ?_ | bn_and _ _ ?_ | bn_xor _ _ ?_ | bn_or _ _ ?_ | bn_shr1 _ ?_ | in_shr1 _ ?_ | in_shl1 _ ?_ ?_ ; rot 1 | bn_shl _ _ ?_ ?_ ; rot 1 | bn_shlR _ _ ?_ ?_ ; rot 1 | bn_shr _ _ ?_ | bn_pow _ _ ?_ ?_ ; rot 1 | bn_powR _ _ ?_ ?_ ; rot 1 | in_add _ _ ?_ | in_addL _ _ ?_ | cn_eq _ _ ?_ | cn_eqL _ _ ?_ | cn_lt _ _ ?_ | cn_ltL _ _ ?_ | cn_gt _ _ ?_ | cn_gtL _ _ ?_ | cmp_ ( Cmp.eq _ _ ) ?_ | cmp_ ( Cmp.ne _ _ ) ?_ | cmp_ ( Cmp.lt _ _ ) ?_ | cmp_ ( Cmp.le _ _ ) ?_ | cmp_ ( Cmp.gt _ _ ) ?_ | cmp_ ( Cmp.ge _ _ ) ?_ | cmp_ ( Cmp.seq _ _ ) ?_ | cmp_ ( Cmp.sne _ _ ) ?_ | cmp_ ( Cmp.isB _ _ ) ?_ | cmp_ ( Cmp.isntN_str _ ) ?_ | cmp_ Cmp.isntN_none ?_ | bin_ ( Bin.cat _ _ ?_ ) ?_ ; rot 1 | bin_ ( Bin.rep _ _ ?_ ?_ ) ?_ ; rot 2 | ibin_ ( Ibin.cat _ _ ?_ ) ?_ ; rot 1 | bin_ ( Bin.add _ _ ) ?_ | bin_ ( Bin.sub _ _ ) ?_ | bin_ ( Bin.and _ _ ) ?_ | bin_ ( Bin.or _ _ ) ?_ | bin_ ( Bin.xor _ _ ) ?_ | bin_ ( Bin.mul _ _ ?_ ) ?_ ; rot 1 | bin_ ( Bin.fdiv _ _ ?_ ?_ ) ?_ ; rot 2 | bin_ ( Bin.mod _ _ ?_ ?_ ) ?_ ; rot 2 | bin_ ( Bin.shl _ _ ?_ ?_ ) ?_ ; rot 2 | bin_ ( Bin.shr _ _ ?_ ) ?_ ; rot 1 | bin_ ( Bin.pow _ _ ?_ ?_ ) ?_ ; rot 2 | ibin_ ( Ibin.add _ _ ) ?_ | ibin_ ( Ibin.sub _ _ ) ?_ | ibin_ ( Ibin.shl _ _ ?_ ?_ ) ?_ ; rot 2 | ibin_ ( Ibin.shr _ _ ?_ ) ?_ ; rot 1\n\
m2s : bn_sub _ _ @O ?_ | bn_subL _ _ @O ?_\n\
as : show AsP _ _ _ ( PySem.Expr.Name _ _ ) _ _ ; go asn | show AsP _ _ _ ( PySem.Expr.Tuple _ _ _ ) _ _ ; go ast | as_item ?_\n\
asn : as_name ( stores_local @K! ) ( upd_mkN @K! ) ?_ | as_name ( stores_local @K! ) ( upd_mk ?_ ?_ ) ?_ ; rot 1 ; go rest | as_nameF @K! @mem ( upd_mkN @K! ) ?_ | as_nameF @K! @mem ( upd_mk ?_ ?_ ) ?_ ; rot 1 ; go rest\n\
ast : d as_tuple ?_ rfl | d as_tuple ?_ @simp\n\
s : show EvP _ _ _ _ _ ; go ev | show M2 _ _ _ _ _ _ ; go m2 | show StP _ _ _ _ _ ; go st | show TsP _ _ _ _ _ ; go ts | show CallV _ _ _ _ _ ; go call | show AsP _ _ _ _ _ _ ; go as | show Cont _ _ _ _ _ _ ; go cont | show M1 _ _ _ _ _ ; go m1 | show M1B _ _ _ _ ; go m1b | show ExP _ _ _ _ _ ; go ex | show EvsP _ _ _ _ _ ; go evs | upd_asgN @K! ?_ | upd_asg ?_ ?_ ?_ ; rot 1 ; go rest | g_upd ?_ ; go upd | tbQ ?_ | tsb ?_ | q_sif ?_ | q_ife ?_ | q_and ?_ | q_or ?_ | retq_ret ?_ | retq_next ?_ | turnk_next ?_ | ass_consQ ?_ | ass_nil ?_ | ifs_nil' ?_ | ifs_cons' ?_ | evo_none ?_ | evo_some ?_ | ite_true' ?_ | ite_false' ?_ | show And ( KeepOk _ _ ) _ ; And.intro @keep ?_ | show And ( TyOf _ _ _ ) _ ; go ty | show And ( SubTy _ _ ) _ ; go sub | len_1 ?_ | len_2 ?_ | len_3 ?_ | len_4 ?_ | len_5 ?_ | len_7 ?_\n\
cont : cont_next ?_ | cont_ret ?_ | cont_brk ?_ | cont_cont ?_\n\
m1 : show M1 _ ( unaryOp _ ) _ _ _ ; go un | show M1 _ _ _ _ _ ; go lex\n\
un : un_ ( Un.neg _ ) ?_ | un_ ( Un.inv _ ) ?_ | un_ ( Un.notB _ ) ?_\n\
lex : lex_lineno @A ?_ | lex_instream @A ?_ | lex_whitespace @A ?_ | lex_pushback @A ?_\n\
m1b : tn_int ?_ | tb_int ?_ | tb_bool ?_ | tb_lst @lv ?_ ?_ ; rot 1\n\
ex : ex_cons ?_ | ex_nil ?_\n\
evs : evs_consQ ?_ | evs_nil ?_\n\
q : q_sif ?_ | q_ife ?_ | q_and ?_ | q_or ?_\n\
ty : And.intro ( TyOf.int _ ) ?_ | And.intro ( TyOf.str _ ) ?_ | And.intro ( TyOf.lstO @A ) ?_\n\
sub : And.intro sub_str ?_ | And.intro ( sub_lst @lv ) ?_\n\
binds : binds_1 @b | binds_2 @b | binds_3 @b | binds_4 @b | binds_6 @b\n\
b : intros ; go K\n\
capl : CapL.nil _ | capl_free ?c ?o ?m ?t ; case m mem ; case t capl | capl_other ?o ?n ?t ; case n D ; case t capl\n\
rest : Rest.nil | rest_keep ?r ?h ?n ; case n K! ; case h rest | rest_drop ?r ?h ; case h rest\n\
upd : d upd_exE ?_ ?_ ?_ ; rot 1 ; go rest\n\
l : go A | go D | Nat.le_trans @A @D | Nat.lt_of_le_of_lt @A @D | Nat.lt_of_lt_of_le @A @D | Nat.le_trans ( Nat.le_of_lt @A ) @D | Nat.lt_of_le_of_lt ( Nat.le_of_eq @A ) @D | Nat.le_trans ( Nat.le_of_eq @A ) @D | d Nat.pos_of_ne_zero @A | d Nat.ne_of_gt @A | Nat.le_of_lt @A | le2 @A @D | lt2 @A @D | ne2 @A @D | Int.natCast_nonneg _ | Int.not_lt.mpr ( Int.natCast_nonneg _ ) | Nat.lt_of_le_of_lt ( Nat.le_trans ( Nat.le_of_eq List.length_map ) @A ) @D | Nat.le_trans ( Nat.le_trans ( Nat.le_of_eq List.length_map ) @A ) @D | Nat.lt_of_le_of_lt ( Nat.le_trans @A @A ) @D | Nat.le_trans ( Nat.le_trans @A @A ) @D | Nat.le_trans ( Nat.min_le_left _ _ ) @D | Nat.min_le_left _ _ | Nat.min_le_right _ _ | Nat.le_trans ( Nat.min_le_right _ _ ) ( Nat.le_trans @A @D ) | Nat.lt_of_le_of_lt ( Nat.min_le_right _ _ ) ( Nat.lt_of_le_of_lt @A @D ) | Nat.lt_of_le_of_lt ( Nat.sub_le _ _ ) ( Nat.lt_of_le_of_lt @A @D ) | Nat.le_trans ( Nat.sub_le _ _ ) ( Nat.le_trans @A @D ) | Nat.le_trans ( Nat.div_le_self _ _ ) ( Nat.le_trans @A @D ) | Nat.ne_of_gt ( Nat.lt_of_le_of_lt ( Nat.zero_le _ ) @A ) | Nat.lt_of_le_of_lt ( Nat.zero_le _ ) @A | Nat.lt_of_le_of_lt ( Nat.le_of_eq @A ) ( Nat.lt_of_le_of_lt @A @D ) | Nat.le_trans ( Nat.le_of_eq @A ) ( Nat.le_trans @A @D ) | Nat.le_trans ( Nat.add_le_add @A @A ) @D | Nat.le_trans ( Nat.add_le_add_left @A _ ) @D | Nat.le_trans ( Nat.add_le_add_right @A _ ) @D | Nat.lt_of_le_of_lt ( Nat.add_le_add_right @A _ ) @D | Nat.le_trans ( Nat.mul_le_mul_left _ @A ) @D | Nat.sub_le _ _ | Int.ofNat_lt.mpr @l1 | absurd @A ( Nat.not_lt.mpr @A ) | go sa | go L\n\
l1 : go A | Nat.lt_of_le_of_lt @A @D | Nat.lt_of_lt_of_le @A @D | Nat.pos_of_ne_zero @A\n\
share : rot 2 ; go mem ; go1 K ; go rest\n\
share0 : rot 1 ; go mem ; go rest"
 let some e:=xRow (key ++ " : ") (tab.splitOn "\n") | Lean.Macro.throwUnsupported
 return xAll (← Lean.Macro.addMacroScope `h) e
local macro_rules | `(tactic| rw [$l,*])=>return xRws (l.getElems.toList.map (·.raw))
section
open PySem PySem.W PyProof.Rows
namespace Mine
noncomputable section
structure TE where
 p:Program
 w:World
 n₀:Nat
 ann:Option Value
 code:Code
 q:Pos
noncomputable def TE.run (e:TE) (N:Nat) (s:Shared) (cur:Sem Fin) (pos:Pos) (r:Shared):Prop:=topRun treeTable e.p e.w e.n₀ e.ann N s ⟨cur,e.code,pos,[topFrame e.q]⟩=some r
noncomputable def Op (e:TE) (B:Nat) {α:Type} (m:Sem α) (s:Shared) (a:α) (s':Shared):Prop:=
 ∀ (K:α→Sem Fin) (H:Value→Sem Fin) (gd:Bool→Bool) (lv:List Value→List Value) (pos:Pos),∃ (n:Nat) (pos':Pos),n≤B∧∀ (N:Nat) (r:Shared),
  e.run N s' (K a) pos' r→e.run (n + N) s (m.wrap K H gd lv) pos r
variable {e:TE} {α β:Type} {s s' s₁:Shared}
theorem Op.le {B B':Nat} {m:Sem α} {a:α} (pf:Op e B m s a s') (hle:B≤B'):Op e B' m s a s':=fun K H gd lv pos=>by
 refine bc fun hbc=>?_
 obtain ⟨n,pos',hn,h⟩:=pf K H gd lv pos
 refine hbc ?_
 clear hbc
 exact ⟨n,pos',Nat.le_trans hn hle,h⟩
theorem Ic.ifn {B:Nat} {x y:Sem α} {a:α} {c:Prop} [Decidable c] (h:¬ c) (k:Op e B y s a s'):Op e B (if c then x else y) s a s':=by rw [if_neg h];exact k
theorem Ic.ifp {B:Nat} {x y:Sem α} {a:α} {c:Prop} [Decidable c] (h:c) (k:Op e B x s a s'):Op e B (if c then x else y) s a s':=by rw [if_pos h];exact k
open Ia Ib Ic
theorem Op.pure {B:Nat} {a:α}:Op e B (Pure.pure a) s a s:=fun _ _ _ _ pos=>⟨0,pos,Nat.zero_le _,fun N r h=>by rw [Nat.zero_add];exact h⟩
theorem op_ret {a:α}:Op e 0 (Pure.pure a) s a s:=Op.pure
theorem Op.bind {B B':Nat} {m:Sem α} {f:α→Sem β} {a:α} {b:β} (h:Op e B' m s a s₁) (k:Op e (B - B') (f a) s₁ b s') (hle:autoParam (B'≤B) aL):Op e B (m >>= f) s b s':=fun K H gd lv pos=>by
 refine bc fun hbc=>?_
 obtain ⟨n,pos',hn,h⟩:=h (fun a=>(f a).wrap K H gd lv) H gd lv pos
 obtain ⟨n',pos'',hn',k⟩:=k K H gd lv pos'
 refine hbc ?_
 clear hbc
 refine ⟨n + n',pos'',by lia,fun N r x=>?_⟩
 rw [Sem.bind_eq_wrap',Sem.wrap_wrap,Nat.add_assoc]
 exact h _ _ (k _ _ x)
theorem Op.keep {B:Nat} {vs:List Value} {m:Sem α} {a:α} (h:Op e B m s a s'):Op e B (m.keep vs) s a s':=fun K H gd lv pos=>by
 refine bc fun hbc=>?_
 obtain ⟨n,pos',hn,h⟩:=h K H gd (fun l=>lv (vs++l)) pos
 refine hbc ?_
 clear hbc
 refine ⟨n,pos',hn,fun N r x=>?_⟩
 rw [Sem.keep_eq_wrap,Sem.wrap_wrap]
 exact h _ _ x
theorem Op.holding {B:Nat} {vs:List Value} {m:Sem α} {a:α} (h:Op e B m s a s'):Op e B (holding vs m) s a s':=by
 unfold PySem.holding;split
 ·exact h
 ·exact h.keep
theorem Op.onRaise {B:Nat} {m:Sem α} {f:Value→Sem Unit} {a:α} (h:Op e B m s a s'):Op e B (m.onRaise f) s a s':=fun K H gd lv pos=>by
 refine bc fun hbc=>?_
 obtain ⟨n,pos',hn,h⟩:=h K (fun x=>((f x).bind fun _=>(.raise x:Sem α)).wrap K H gd lv) gd lv pos
 refine hbc ?_
 clear hbc
 refine ⟨n,pos',hn,fun N r x=>?_⟩
 rw [Sem.onRaise_eq_wrap,Sem.wrap_wrap]
 exact h _ _ x
theorem Op.one {m:Sem α} {a:α} (h:∀ (K:α→Sem Fin) (H:Value→Sem Fin) (gd:Bool→Bool) (lv:List Value→List Value) (pos:Pos),∃ pos':Pos,
  stepOk e.n₀ e.ann ⟨m.wrap K H gd lv,e.code,pos,[topFrame e.q]⟩=true∧through ⟨m.wrap K H gd lv,e.code,pos,[topFrame e.q]⟩=false∧
  step (denote treeTable) e.p e.w s ⟨m.wrap K H gd lv,e.code,pos,[topFrame e.q]⟩=.go s' ⟨K a,e.code,pos',[topFrame e.q]⟩):Op e 1 m s a s':=fun K H gd lv pos=>by
 refine bc fun hbc=>?_
 obtain ⟨pos',h1,h2,h3⟩:=h K H gd lv pos
 refine hbc ?_
 clear hbc
 refine ⟨1,pos',Nat.le_refl _,fun N r x=>?_⟩
 unfold TE.run at *
 rw [Nat.add_comm]
 unfold topRun
 rw [h2,h1,h3]
 exact x
theorem Op.loadPart {a:Addr} {q:Option Value} {o:Obj} (ho:s.heap.get? a=some o):Op e 1 (PySem.loadPart a q) s o s:=Op.one fun K H gd lv pos=>by
 refine bc fun hbc=>?_
 obtain ⟨heap,gens,drawn,toks,os⟩:=s
 refine hbc ?_
 clear hbc
 refine ⟨pos,rfl,rfl,?_⟩
 simp only [PySem.loadPart,Sem.wrap,step]
 rw [show heap.get? a=some o from ho]
theorem Op.alloc {o:Obj}:Op e 1 (PySem.alloc o) s s.heap.objs.size { s with heap:=s.heap.push o }:=Op.one fun K H gd lv pos=>⟨pos,rfl,rfl,rfl⟩
theorem Op.fresh:Op e 1 PySem.fresh s s.toks { s with toks:=s.toks + 1 }:=Op.one fun K H gd lv pos=>⟨pos,rfl,rfl,rfl⟩
theorem Op.rule {t:String}:Op e 1 (PySem.rule t) s () s:=Op.one fun K H gd lv pos=>⟨pos,rfl,rfl,rfl⟩
theorem Op.standAt {t:Pos}:Op e 1 (PySem.standAt t) s () s:=Op.one fun K H gd lv pos=>⟨t,rfl,rfl,rfl⟩
theorem Op.updatePart {a:Addr} {q:Option Value} {o:Obj} {f:Obj→Obj} (ho:s.heap.get? a=some o) (ha:e.n₀≤a):Op e 1 (PySem.updatePart a q f) s () { s with heap:=s.heap.update a f }:=Op.one fun K H gd lv pos=>by
 refine bc fun hbc=>?_
 obtain ⟨heap,gens,drawn,toks,os⟩:=s
 refine hbc ?_
 clear hbc
 refine ⟨pos,?_,rfl,?_⟩
 ·show (true && (Nat.ble e.n₀ a || a == mainNs || a == cStatics || e.ann == some (.ref a)))=true
  rw [Nat.ble_eq_true_of_le ha];rfl
 ·simp only [PySem.updatePart,Sem.wrap,step]
  rw [show heap.get? a=some o from ho];rfl
theorem Op.of_seg {B:Nat} {m:Sem α} {a:α} {f:Flow} (res:α→Flow) (inj:∀ b,res b=f→b=a)
  (h:∀ (gd:Bool→Bool) (lv:List Value→List Value) (pos:Pos),∃ (n:Nat) (pos':Pos),n≤B∧segRun treeTable e.p e.w e.n₀ e.ann 1 n s ⟨m.wrap (fun a=>.pure (.done (res a))) deadEnd gd lv,e.code,pos,[topFrame e.q]⟩=some (f,s',e.code,pos')):
  Op e B m s a s':=fun K H gd lv pos=>by
 refine bc fun hbc=>?_
 obtain ⟨n,pos',hn,h⟩:=h gd lv pos
 obtain ⟨b,hb,k⟩:=seg_top (res:=res) (K':=K) (H':=H) (gd:=gd) (lv:=lv) (B:=[topFrame e.q]) rfl n s ⟨m.wrap (fun a=>.pure (.done (res a))) deadEnd gd lv,e.code,pos,[topFrame e.q]⟩ ⟨m.wrap K H gd lv,e.code,pos,[topFrame e.q]⟩ _ _ _ _ ⟨rfl,rfl,.inl ⟨rfl,rfl,m,rfl,rfl⟩⟩ h
 refine hbc ?_
 clear hbc
 obtain rfl:=inj b hb
 exact ⟨n,pos',hn,fun N r x=>k N r x⟩
theorem Op.forIn_nil {B:Nat} {γ:Type} {f:γ→β→Sem (ForInStep β)} {b:β}:Op e B (forIn ([]:List γ) b f) s b s:=Op.pure
theorem Op.forIn_cons {B B':Nat} {γ:Type} {f:γ→β→Sem (ForInStep β)} {x:γ} {l:List γ} {b b' b'':β} (h:Op e B' (f x b) s (.yield b') s₁) (k:Op e (B - B') (forIn l b' f) s₁ b'' s') (hle:autoParam (B'≤B) aL):Op e B (forIn (x :: l) b f) s b'' s':=by
 rw [List.forIn_cons];exact Op.bind h k hle
/- a dict's entries, its epoch, a key that is not in it -/
theorem Op.dictEntries {a:Addr} {q:Option Value} {o:Obj} {es n} (ho:s.heap.get? a=some o) (hd:o.data=.dict es n):Op e (1) (PySem.dictEntries a q) s es s:=by
 unfold PySem.dictEntries;refine Op.bind (Op.loadPart ho) ?_;rw [hd];exact Op.pure
theorem Op.dictEpoch {a:Addr} {q:Option Value} {o:Obj} {es n} (ho:s.heap.get? a=some o) (hd:o.data=.dict es n):Op e (1) (PySem.dictEpoch a q) s n s:=by
 unfold PySem.dictEpoch;refine Op.bind (Op.loadPart ho) ?_;rw [hd];exact Op.pure
theorem places_nil {es:Array DictEntry} {h:Int} (hn:∀ x∈es,x.hash≠h):placesWithHash es.size (fun i=>es[i]?.map (·.hash)) h=[]:=by
 unfold placesWithHash
 rw [List.filter_eq_nil_iff]
 intro i _
 rw [beq_iff_eq]
 intro hi
 refine bc fun hbc=>?_
 obtain ⟨x,hx,eq0⟩:=Option.map_eq_some_iff.mp hi
 refine hbc ?_
 clear hbc
 subst eq0
 exact hn x (Array.mem_of_getElem? hx) rfl
theorem Op.dictFind_none {a:Addr} {o:Obj} {es n} {k:Int} {t:Tok} {h:Int} (ho:s.heap.get? a=some o) (hd:o.data=.dict es n) (hn:∀ x∈es,x.hash≠h):
  Op e (1) (PySem.dictFind a (.int k t) h) s none s:=by
 unfold PySem.dictFind
 refine Op.holding (Op.bind (Op.dictEntries ho hd) ?_)
 simp only [places_nil hn]
 exact Op.pure
theorem Op.pushNew {a:Addr} {q:Option Value} {o:Obj} {es:Array DictEntry} {n:Nat} {x:DictEntry} (ho:s.heap.get? a=some o) (hd:o=⟨.type "dict", none,.dict es n,#[]⟩) (ha:e.n₀≤a) (hz:es.size≤100000):
  Op e (3) (PySem.updateDictKeys a (·.push x) q) s () { s with heap:=s.heap.update a (Obj.mapDictKeys (·.push x)) }:=by
 subst hd
 unfold PySem.updateDictKeys
 refine Op.bind (Op.loadPart ho) (Op.bind (Op.updatePart ho ha) ?_)
 unfold lookBehind
 refine Op.bind (Op.loadPart (o:=⟨.type "dict", none,.dict (es.push x) (n + 1),#[]⟩) (Heap.get?_update_self _ ho rfl)) ?_
 have hp:(Data.dict (es.push x) (n + 1)).pastItsLine=none:=pastItsLine_dict (by rw [Array.size_push];have:sizeLine=16777216:=rfl;walk_at "l")
 simp only [hp]
 exact Op.pure


noncomputable abbrev noHash (v:Value):Sem (Option Value):=callSpecialIfBoundUnlessNone? v "__hash__" (do rule "hash.unhashable"; raiseError "TypeError" s!"unhashable type: '{← typeNameOf v}'")
noncomputable def oRes:Option Value→Flow | some v=>.ret v | none=>.next
theorem hash_seg (p:Program) (n₀:Nat) (ann:Option Value) (q:Pos) (b:List Stmt) (env:Env) (heap:Heap) (gens:Array GenState) (drawn:Drawn) (toks:Nat) (os:OsState) (i:Int) (t:Tok) (gd:Bool→Bool) (lv:List Value→List Value) (pos:Pos):
  ∀ w:World,segRun treeTable p w n₀ ann 1 40 ⟨heap,gens,drawn,toks,os⟩ ⟨(noHash (.int i t)).wrap (fun a=>.pure (.done (oRes a))) deadEnd gd lv,.body b env,pos,[topFrame q]⟩=some (.ret (.int (rawHash i) toks),⟨heap,gens,drawn,toks + 1,os⟩,.body b env,pos):=by
 rw [show @segRun=@PySem.W.Fast.tw14374325043358763698 from PySem.W.Fast.te14374325043358763698,show @treeTable=@PySem.W.Fast.tw14364793385576792824 from PySem.W.Fast.te14364793385576792824]
 refine byRow2 "special-get-raises" ?_ ?_<;>(intro w;kernel_rfl)
theorem Op.pyHash {b:List Stmt} {env:Env} {k:Int} {t:Tok} (hc:e.code=.body b env):Op e (41) (PySem.pyHash (.int k t)) s (hashInt k) { s with toks:=s.toks + 1 }:=by
 have hr:=rawHash_range k
 unfold PySem.pyHash
 have hv:[Value.int k t].any Value.onHeap=false:=rfl
 refine Op.bind (a:=()) (s₁:=s) (B':=0) ?_ ?_
 ·rw [cRoomFor,if_neg (by rw [hv];exact Bool.false_ne_true)];exact Op.pure
 have sp:specialOf (.int k t) "__hash__" = Pure.pure (some (.builtin "int.__hash__")):=by
  show typeLookup (.type "int") "__hash__" = _
  exact slot_int_hash.lookup
 rw [sp]
 refine Op.bind op_ret ?_
 refine ifn (by rw [beq_builtin_none];exact Bool.false_ne_true) ?_
 refine Op.bind op_ret ?_
 refine Op.bind (B':=40) (m:=noHash (.int k t)) (a:=some (.int (rawHash k) s.toks)) (s₁:={ s with toks:=s.toks + 1 }) ?_ ?_
 ·refine Op.of_seg oRes (f:=.ret (.int (rawHash k) s.toks)) (fun x hx=>?_) (fun gd lv pos=>⟨40,pos,Nat.le_refl _,?_⟩)
  ·cases x<;>simp [oRes] at hx;rw [hx]
  ·refine bc fun hbc=>?_
   obtain ⟨heap,gens,drawn,toks,os⟩:=s
   refine hbc ?_
   clear hbc
   rw [hc];exact hash_seg _ _ _ _ _ _ _ _ _ _ _ _ _ _ _ _ _
 ·show Op e _ (if (decide (-(2:Int) ^ 63≤rawHash k) && decide (rawHash k < 2 ^ 63))=true then _ else _) _ _ _
  refine ifp (by rw [decide_eq_true hr.1,decide_eq_true hr.2];rfl) ?_
  exact Op.pure

/- heaps: one object put anew -/
noncomputable def hput (h:Heap) (d:Addr) (o:Obj):Heap:=h.update d fun _=>o
set_option tactic.hygienic true in
theorem hput_of {h:Heap} {d:Addr} {o:Obj} (f:Obj→Obj) (ho:h.get? d=some o):h.update d f=hput h d (f o):=by
 refine bc fun hbc=>?_
 obtain ⟨objs,life⟩:=h
 refine hbc ?_
 clear hbc
 have hx:objs[d]?=some o:=by
  unfold Heap.get? at ho
  split at ho
  ·cases ho
  ·exact ho
 show (⟨objs.modify d f,life⟩:Heap)=⟨objs.modify d fun _=>f o,life⟩
 congr 1
 apply Array.ext_getElem?
 intro i
 rw [Array.getElem?_modify,Array.getElem?_modify]
 split
 ·rename_i e;subst e;rw [hx];rfl
 ·rfl
theorem hput_put (h:Heap) (d:Addr) (o o':Obj):hput (hput h d o) d o'=hput h d o':=by
 refine bc fun hbc=>?_
 obtain ⟨objs,life⟩:=h
 refine hbc ?_
 clear hbc
 show (⟨(objs.modify d fun _=>o).modify d fun _=>o',life⟩:Heap)=⟨objs.modify d fun _=>o',life⟩
 congr 1
 apply Array.ext_getElem?
 intro i
 simp only [Array.getElem?_modify]
 split
 ·cases objs[i]?<;>rfl
 ·rfl
theorem hput_self {h:Heap} {d:Addr} {o o':Obj} (ho:h.get? d=some o) (hf:o'.isFreed=false):(hput h d o').get? d=some o':=Heap.get?_update_self (fun _=>o') ho hf
noncomputable abbrev dictO (es:List DictEntry) (n:Nat):Obj:=⟨.type "dict", none,.dict ⟨es⟩ n,#[]⟩
noncomputable def entsA:Nat→List (Int×Str)→List DictEntry
 | _,[]=>[]
 | t,(k,v) :: r=>⟨hashInt k,.int k t,.str v (t + 1)⟩ :: entsA (t + 3) r
noncomputable def entsB:Nat→List (Int×Str)→List DictEntry
 | _,[]=>[]
 | t,(k,v) :: r=>⟨hashInt k,.int k t,.str v (t + 1)⟩ :: entsB (t + 2) r
noncomputable def Fresh (es:List DictEntry) (c:List (Int×Str)):Prop:=∀ x∈es,∀ p∈c,x.hash≠hashInt p.1
theorem Op.setNew {d:Addr} {es:List DictEntry} {n:Nat} {k:Int} {t:Tok} {v:Value} {b:List Stmt} {env:Env} (hc:e.code=.body b env) (ho:s.heap.get? d=some (dictO es n)) (ha:e.n₀≤d) (hz:es.length≤100000) (hn:∀ x∈es,x.hash≠hashInt k):
  Op e (50) (dictSet d (.int k t) v) s () { s with heap:=hput s.heap d (dictO (es++[⟨hashInt k,.int k t,v⟩]) (n + 1)),toks:=s.toks + 1 }:=by
 unfold dictSet
 refine Op.holding (Op.bind (Op.pyHash hc) ?_)
 unfold dictSetHashed
 refine Op.holding (Op.bind (Op.dictFind_none (s:={ s with toks:=s.toks + 1 }) ho rfl (by simpa using hn)) (Op.bind Op.rule ?_))
 have:=Op.pushNew (e:=e) (q:=keyPart (.int k t)) (x:=⟨hashInt k,.int k t,v⟩) (s:={ s with toks:=s.toks + 1 }) ho rfl ha (by simpa using hz)
 rw [hput_of _ ho] at this
 refine Op.le ?_ (B:=3) (by walk_at "l")
 simpa [Obj.mapDictKeys] using this
theorem Op.putNew {d:Addr} {es:List DictEntry} {n:Nat} {k:Int} {t:Tok} {v:Value} (ho:s.heap.get? d=some (dictO es n)) (ha:e.n₀≤d) (hz:es.length≤100000) (hn:∀ x∈es,x.hash≠hashInt k):
  Op e (10) (dictPut d (hashInt k) (.int k t) v) s () { s with heap:=hput s.heap d (dictO (es++[⟨hashInt k,.int k t,v⟩]) (n + 1)) }:=by
 unfold dictPut
 refine Op.bind (Op.dictFind_none ho rfl (by simpa using hn)) ?_
 have:=Op.pushNew (e:=e) (q:=none) (x:=⟨hashInt k,.int k t,v⟩) ho rfl ha (by simpa using hz)
 rw [hput_of _ ho] at this
 refine Op.le ?_ (B:=3) (by walk_at "l")
 simpa [Obj.mapDictKeys] using this
noncomputable abbrev prK (k:Int):Sem Value:=mkInt k
noncomputable abbrev prV (dp:Pos) (v:Str):Sem Value:=do let x ← mkText v;standAt dp;pure x
theorem op_prK {k:Int}:Op e (1) (prK k) s (.int k s.toks) { s with toks:=s.toks + 1 }:=Op.bind Op.fresh Op.pure
theorem op_prV {dp:Pos} {v:Str}:Op e (2) (prV dp v) s (.str v s.toks) { s with toks:=s.toks + 1 }:=Op.bind (B':=1) (Op.bind Op.fresh Op.pure) (Op.bind Op.standAt Op.pure)
noncomputable abbrev prs (dp:Pos) (c:List (Int×Str)):List (Sem Value×Sem Value):=c.map fun p=>(prK p.1,prV dp p.2)
theorem entsA_hash {c:List (Int×Str)}:∀ {t:Nat} {x:DictEntry},x∈entsA t c→∃ p∈c,x.hash=hashInt p.1:=by
 induction c with
 | nil=>intro t x hx;cases hx
 | cons p c ih=>
  intro t x hx
  cases hx with
  | head=>exact ⟨p,.head _,rfl⟩
  | tail _ hx=>obtain ⟨q,hq,e⟩:=ih hx;exact ⟨q,.tail _ hq,e⟩
theorem entsA_form {c:List (Int×Str)}:∀ {t:Nat} {x:DictEntry},x∈entsA t c→∃ k t v,x=⟨hashInt k,.int k t,v⟩:=by
 induction c with
 | nil=>intro t x hx;cases hx
 | cons p c ih=>
  intro t x hx
  cases hx with
  | head=>exact ⟨_,_,_,rfl⟩
  | tail _ hx=>exact ih hx
theorem entsA_hashes {c:List (Int×Str)}:∀ {t:Nat},(entsA t c).map (·.hash)=c.map fun p=>hashInt p.1:=by
 induction c with
 | nil=>intro t;rfl
 | cons p c ih=>intro t;show hashInt p.1 :: (entsA (t + 3) c).map (·.hash)=_;rw [ih];rfl
theorem entsB_form {c:List (Int×Str)}:∀ {t:Nat} {x:DictEntry},x∈entsB t c→∃ k t v,x=⟨hashInt k,.int k t,v⟩:=by
 induction c with
 | nil=>intro t x hx;cases hx
 | cons p c ih=>
  intro t x hx
  cases hx with
  | head=>exact ⟨_,_,_,rfl⟩
  | tail _ hx=>exact ih hx
theorem entsB_hashes {c:List (Int×Str)}:∀ {t:Nat},(entsB t c).map (·.hash)=c.map fun p=>hashInt p.1:=by
 induction c with
 | nil=>intro t;rfl
 | cons p c ih=>intro t;show hashInt p.1 :: (entsB (t + 2) c).map (·.hash)=_;rw [ih];rfl
theorem entsA_length {c:List (Int×Str)}:∀ {t:Nat},(entsA t c).length=c.length:=by
 induction c with
 | nil=>intro t;rfl
 | cons p c ih=>intro t;show (entsA (t + 3) c).length + 1=_;rw [ih];rfl
theorem entsB_length {c:List (Int×Str)}:∀ {t:Nat},(entsB t c).length=c.length:=by
 induction c with
 | nil=>intro t;rfl
 | cons p c ih=>intro t;show (entsB (t + 2) c).length + 1=_;rw [ih];rfl
set_option tactic.hygienic true in
theorem Op.longLoop {f:Sem Value×Sem Value→PUnit→Sem (ForInStep PUnit)} {d:Addr} (hb:∀ k v u,f (k,v) u=(do
   let kv ← k
   let vv ← PySem.holding [kv] v
   PySem.holding [kv,vv] (dictSet d kv vv)
   Pure.pure (ForInStep.yield PUnit.unit))) {dp:Pos} {b:List Stmt} {env:Env} (hc:e.code=.body b env) (ha:e.n₀≤d):∀ (c:List (Int×Str)) (es:List DictEntry) (n:Nat) (s:Shared),s.heap.get? d=some (dictO es n)→es.length + c.length≤100000→Fresh es c→(c.map fun p=>hashInt p.1).Nodup→
  Op e (60 * c.length) (forIn (prs dp c) PUnit.unit f) s PUnit.unit { s with heap:=hput s.heap d (dictO (es++entsA s.toks c) (n + c.length)),toks:=s.toks + 3 * c.length }
 | [],es,n,s,ho,_,_,_=>by
  have e1:hput s.heap d (dictO (es++entsA s.toks []) (n + 0))=s.heap:=by
   refine bc fun hbc=>?_
   obtain ⟨⟨objs,life⟩,gens,drawn,toks,os⟩:=s
   refine hbc ?_
   clear hbc
   have hx:objs[d]?=some (dictO es n):=by
    unfold Heap.get? at ho
    split at ho
    ·cases ho
    ·exact ho
   show (⟨objs.modify d _,life⟩:Heap)=⟨objs,life⟩
   congr 1
   apply Array.ext_getElem?
   intro i
   rw [Array.getElem?_modify]
   split
   ·rename_i e';subst e';rw [hx];simp [entsA]
   ·rfl
  show Op e _ _ s PUnit.unit { s with heap:=hput s.heap d (dictO (es++entsA s.toks []) (n + 0)),toks:=s.toks + 3 * 0 }
  rw [e1]
  exact Op.forIn_nil
 | (k,v) :: c,es,n,s,ho,hz,hf,hnd=>by
  rw [List.map_cons,List.nodup_cons] at hnd
  have hz1:es.length≤100000:=by simp only [List.length_cons] at hz;lia
  have step:=Op.setNew (e:=e) (s:={ s with toks:=s.toks + 1 + 1 }) (t:=s.toks) (v:=.str v (s.toks + 1)) hc ho ha hz1 (fun x hx=>hf x hx (k,v) (.head _))
  have ih:=Op.longLoop hb (dp:=dp) hc ha c (es++[⟨hashInt k,.int k s.toks,.str v (s.toks + 1)⟩]) (n + 1) { s with heap:=hput s.heap d (dictO (es++[⟨hashInt k,.int k s.toks,.str v (s.toks + 1)⟩]) (n + 1)),toks:=s.toks + 1 + 1 + 1 }
   (hput_self ho rfl) (by simp only [List.length_append,List.length_cons,List.length_nil] at hz ⊢;lia) (fun x hx p hp=>by
    rcases List.mem_append.mp hx with hx | hx
    ·exact hf x hx p (.tail _ hp)
    ·rcases List.mem_singleton.mp hx with rfl
     intro q
     exact hnd.1 (List.mem_map.mpr ⟨p,hp,q.symm⟩)) hnd.2
  have hone:Op e 60 (f (prK k,prV dp v) PUnit.unit) s (ForInStep.yield PUnit.unit) { s with heap:=hput s.heap d (dictO (es++[⟨hashInt k,.int k s.toks,.str v (s.toks + 1)⟩]) (n + 1)),toks:=s.toks + 1 + 1 + 1 }:=by rw [hb];exact Op.bind op_prK (Op.bind (Op.holding op_prV) (Op.bind (Op.holding step) Op.pure))
  refine Op.forIn_cons hone (Op.le (B:=60 * c.length) ?_ (by rw [List.length_cons];lia)) (by rw [List.length_cons];walk_at "l")
  rw [hput_put] at ih
  have e2:es++[⟨hashInt k,.int k s.toks,.str v (s.toks + 1)⟩]++entsA (s.toks + 1 + 1 + 1) c=es++entsA s.toks ((k,v) :: c):=by rw [List.append_assoc];rfl
  rw [e2] at ih
  have e3:n + 1 + c.length=n + ((k,v) :: c).length:=by rw [List.length_cons];walk_at "l"
  have e4:s.toks + 1 + 1 + 1 + 3 * c.length=s.toks + 3 * ((k,v) :: c).length:=by rw [List.length_cons];walk_at "l"
  rw [e3,e4] at ih
  exact ih
theorem Op.subLong {dp:Pos} {b:List Stmt} {env:Env} {c:List (Int×Str)} (hc:e.code=.body b env) (hl:c.length=17) (ha:e.n₀≤s.heap.objs.size) (hnd:(c.map fun p=>hashInt p.1).Nodup):
  Op e (1100) (subDict (prs dp c)) s s.heap.objs.size { s with heap:=s.heap.push (dictO (entsA s.toks c) 17),toks:=s.toks + 51 }:=by
 unfold subDict
 refine Op.bind Op.alloc (Op.bind (B':=1098) (a:=PUnit.unit) (s₁:={ s with heap:=s.heap.push (dictO (entsA s.toks c) 17),toks:=s.toks + 51 }) (Op.holding ?_) Op.pure)
 refine ifn (by rw [List.length_map,hl];decide) ?_
 refine Op.bind Op.rule ?_
 have e1:hput (s.heap.push { cls:=.type "dict", data:=.dict #[] }) s.heap.objs.size (dictO ([]++entsA s.toks c) (0 + c.length))=s.heap.push (dictO (entsA s.toks c) 17):=by
  refine bc fun hbc=>?_
  obtain ⟨⟨objs,life⟩,gens,drawn,toks,os⟩:=s
  refine hbc ?_
  clear hbc
  show (⟨(objs.push _).modify objs.size _,life⟩:Heap)=⟨objs.push _,life⟩
  congr 1
  apply Array.ext_getElem?
  intro i
  rw [Array.getElem?_modify,Array.getElem?_push,Array.getElem?_push,hl]
  by_cases hi:i=objs.size
  ·subst hi;simp
  ·rw [if_neg (Ne.symm hi),if_neg hi,if_neg hi]
 have e2:({ s with heap:=hput (s.heap.push { cls:=.type "dict", data:=.dict #[] }) s.heap.objs.size (dictO ([]++entsA s.toks c) (0 + c.length)),toks:=s.toks + 3 * c.length }:Shared)={ s with heap:=s.heap.push (dictO (entsA s.toks c) 17),toks:=s.toks + 51 }:=by rw [e1,hl]
 rw [← e2]
 exact Op.bind (B':=60 * c.length) (Op.longLoop (d:=s.heap.objs.size) (s:={ s with heap:=s.heap.push { cls:=.type "dict", data:=.dict #[] } }) (fun k v u=>rfl) hc ha c [] 0 (Heap.get?_push_size _ rfl) (by rw [hl];decide) (fun _ hx=>nomatch hx) hnd) Op.pure (by rw [hl];decide)
theorem dict_lookups:typeLookup (.type "dict") "__iter__" = pure (some (.builtin "dict.__iter__"))∧isSubtype (.type "dict") (.type "dict")=pure true:=by
 constructor
 ·rw [typeLookup_type,builtinLookup_eq_fast];kernel_rfl
 ·rw [isSubtype_type];kernel_rfl

theorem Op.forIn_to {Bs:Nat} {γ:Type} {f:γ→β→Sem (ForInStep β)} (I:List γ→β→Shared→Prop) {b₀:β} {s₀:Shared}
  (step:∀ x rest b s,I (x :: rest) b s→∃ b' s',Op e Bs (f x b) s (.yield b') s'∧I rest b' s') (fin:∀ b s,I [] b s→b=b₀∧s=s₀):
  ∀ (l:List γ) (b:β) (s:Shared),I l b s→Op e (Bs * l.length) (forIn l b f) s b₀ s₀
 | [],b,s,h=>by obtain ⟨rfl,rfl⟩:=fin b s h;exact Op.forIn_nil
 | x :: l,b,s,h=>by
  refine bc fun hbc=>?_
  obtain ⟨b',s',h1,h2⟩:=step x l b s h
  refine hbc ?_
  clear hbc
  exact Op.forIn_cons h1 ((Op.forIn_to I step fin l b' s' h2).le (by rw [List.length_cons,Nat.mul_succ];lia)) (by rw [List.length_cons,Nat.mul_succ];walk_at "l")
set_option tactic.hygienic true in
theorem hput_id {h:Heap} {d:Addr} {o:Obj} (ho:h.get? d=some o):hput h d o=h:=by
 refine bc fun hbc=>?_
 obtain ⟨objs,life⟩:=h
 refine hbc ?_
 clear hbc
 have hx:objs[d]?=some o:=by
  unfold Heap.get? at ho
  split at ho
  ·cases ho
  ·exact ho
 show (⟨objs.modify d _,life⟩:Heap)=⟨objs,life⟩
 congr 1
 apply Array.ext_getElem?
 intro i
 rw [Array.getElem?_modify]
 split
 ·rename_i e';subst e';rw [hx];rfl
 ·rfl
theorem hput_ne {h:Heap} {d a:Addr} {o:Obj} (hda:d≠a):(hput h d o).get? a=h.get? a:=Heap.get?_update_ne _ _ _ _ (Ne.symm hda)
theorem Op.merge {d a:Addr} {es sub:List DictEntry} {n m:Nat} (ha:e.n₀≤d) (hda:d≠a) (hsys:a≠sysModules) (hd:s.heap.get? d=some (dictO es n)) (hs:s.heap.get? a=some (dictO sub m)) (hne:es≠[])
  (hz:es.length + sub.length≤100000) (hk:∀ x∈sub,∃ k t v,x=⟨hashInt k,.int k t,v⟩) (hf:∀ x∈es,∀ y∈sub,x.hash≠y.hash) (hnd:(sub.map (·.hash)).Nodup):
  Op e (20 + 20 * sub.length) (mergeMapping d (.ref a) false) s () { s with heap:=hput s.heap d (dictO (es++sub) (n + sub.length)) }:=by
 unfold mergeMapping
 have hty:Op e 1 (typeOf (.ref a)) s (.type "dict") s:=Op.bind (Op.loadPart hs) Op.pure
 refine Op.bind (B':=1) (a:=true) (s₁:=s) (by unfold isInstance;refine Op.bind hty ?_;rw [dict_lookups.2];exact Op.pure) ?_
 refine ifp rfl ?_
 refine Op.bind (B':=1) (a:=some (.builtin "dict.__iter__")) (s₁:=s) (by unfold specialOf;refine Op.bind hty ?_;rw [dict_lookups.1];exact Op.pure) (Op.bind op_ret ?_)
 have hit:((some (Value.builtin "dict.__iter__"):Option Value) == some (.builtin "dict.__iter__"))=true:=by decide
 rw [hit]
 dsimp only
 have hsysb:(a == sysModules)=false:=by simpa using hsys
 refine ifn (by rw [hsysb];exact Bool.false_ne_true) ?_
 refine Op.bind (Op.dictEntries hd rfl) ?_
 have hemp:(⟨es⟩:Array DictEntry).isEmpty=false:=by cases es with | nil=>exact absurd rfl hne | cons=>rfl
 refine ifn (by rw [hemp];exact Bool.false_ne_true) ?_
 refine Op.bind (Op.dictEntries hs rfl) (Op.bind (Op.dictEpoch hs rfl) ?_)
 refine Op.bind (B':=20 * (List.range sub.length).length) (a:=PUnit.unit) ?_ Op.pure (by rw [List.length_range];lia)
 refine Op.forIn_to (Bs:=20) (fun rest _ s'=>∃ i,rest=List.range' i (sub.length - i)∧i≤sub.length∧s'={ s with heap:=hput s.heap d (dictO (es++sub.take i) (n + i)) }) ?_ ?_ _ _ _ ⟨0,?_,Nat.zero_le _,?_⟩
 ·intro x rest _ s' hJ4
  refine bc fun hbc=>?_
  obtain ⟨i,hr,hi,eq0⟩:=hJ4
  refine hbc ?_
  clear hbc
  subst eq0
  have hlt:i < sub.length:=by
   rcases Nat.lt_or_ge i sub.length with h | h
   ·exact h
   ·(first | obtain rfl:=Option.some.inj ((show sub.length - i=0 from Nat.sub_eq_zero_of_le h).symm.trans hr) | exact absurd ((show sub.length - i=0 from Nat.sub_eq_zero_of_le h).symm.trans hr) (Option.some_ne_none _) | exact absurd ((show sub.length - i=0 from Nat.sub_eq_zero_of_le h).symm.trans hr).symm (Option.some_ne_none _) | exact (datN ((show sub.length - i=0 from Nat.sub_eq_zero_of_le h).symm.trans hr) rfl).elim | (rw [show sub.length - i=0 from Nat.sub_eq_zero_of_le h] at hr;cases hr))
  rw [show sub.length - i=(sub.length - (i + 1)) + 1 from subS hlt,List.range'_succ] at hr
  injection hr with hx hrest
  subst hx hrest
  have ha':(hput s.heap d (dictO (es++sub.take x) (n + x))).get? a=some (dictO sub m):=(hput_ne hda).trans hs
  refine bc fun hbc=>?_
  obtain ⟨k,t,v,hkx⟩:=hk _ (List.getElem_mem hlt)
  refine hbc ?_
  clear hbc
  have hgx:(⟨sub⟩:Array DictEntry)[x]?=some ⟨hashInt k,.int k t,v⟩:=by rw [← hkx];simpa using List.getElem?_eq_getElem hlt
  refine ⟨PUnit.unit,{ s with heap:=hput s.heap d (dictO (es++sub.take (x + 1)) (n + (x + 1))) },?_,x + 1,rfl,hlt,rfl⟩
  refine Op.bind (Op.dictEntries ha' rfl) ?_
  rw [hgx]
  dsimp only
  rw [if_neg Bool.false_ne_true]
  have hput2:=Op.putNew (e:=e) (d:=d) (es:=es++sub.take x) (n:=n + x) (k:=k) (t:=t) (v:=v) (s:={ s with heap:=hput s.heap d (dictO (es++sub.take x) (n + x)) }) (hput_self hd rfl) ha
   (by rw [List.length_append,List.length_take];lia) (fun y hy=>by
    rcases List.mem_append.mp hy with hy | hy
    ·have:=hf y hy _ (List.getElem_mem hlt);rw [hkx] at this;exact this
    ·refine bc fun hbc=>?_
     obtain ⟨j,hj,eq0⟩:=List.mem_take_iff_getElem.mp hy
     refine hbc ?_
     clear hbc
     subst eq0
     intro q
     have hj':j < x:=by lia
     have h1:(sub.map (·.hash))[j]'(by rw [List.length_map];lia)=(sub.map (·.hash))[x]'(by rw [List.length_map];lia):=by
      rw [List.getElem_map,List.getElem_map,q,hkx]
     exact (List.pairwise_iff_getElem.mp hnd) j x _ _ hj' h1)
  have e1:es++sub.take x++[⟨hashInt k,.int k t,v⟩]=es++sub.take (x + 1):=by
   rw [List.append_assoc,← hkx,List.take_append_getElem]
  rw [e1,hput_put] at hput2
  refine Op.bind (Op.holding hput2) (Op.bind (Op.dictEpoch (o:=dictO sub m) ((hput_ne hda).trans hs) rfl) ?_)
  refine ifn (by simp) ?_
  exact Op.pure
 ·intro b s' hJ2
  refine bc fun hbc=>?_
  obtain ⟨i,hr,hi,eq0⟩:=hJ2
  refine hbc ?_
  clear hbc
  subst eq0
  have hi':i=sub.length:=by
   rcases Nat.lt_or_ge i sub.length with h | h
   ·rw [show sub.length - i=(sub.length - (i + 1)) + 1 from subS h,List.range'_succ] at hr;cases hr
   ·lia
  subst hi'
  exact ⟨rfl,by rw [List.take_length]⟩
 ·show List.range sub.length=_
  rw [List.range_eq_range',Nat.sub_zero]
 ·rw [List.take_zero,List.append_nil,Nat.add_zero,hput_id hd]
noncomputable abbrev DIt:=Option (Sem Value)×Sem Value
noncomputable abbrev DSt:=Option Addr×List (Sem Value×Sem Value)
noncomputable def dparts:{ p:(DIt→DSt→Sem (ForInStep DSt))×(DSt→Sem Value) // ∀ l:List DIt,dictDisplay l=(forIn l ((none,[]):DSt) p.1) >>= p.2 }:=⟨(_,_),fun l=>rfl⟩
noncomputable abbrev dF:=dparts.1.1
theorem sem_assoc {α β γ:Type} (m:Sem α) (f:α→Sem β) (g:β→Sem γ):(m >>= f) >>= g=m >>= fun a=>f a >>= g:=by
 rw [Sem.bind_eq_wrap',Sem.bind_eq_wrap',Sem.bind_eq_wrap',Sem.wrap_wrap]
 exact Sem.wrap_congr _ _ _ (fun a=>(Sem.bind_eq_wrap' _ _).symm) (fun _=>rfl)
theorem forIn_app {α β:Type} (f:α→β→Sem (ForInStep β)):∀ (l r:List α) (b:β) (hy:∀ x∈l,∀ b,∃ m:Sem β,f x b=m >>= fun y=>pure (.yield y)),forIn (l++r) b f=(forIn l b f) >>= fun b'=>forIn r b' f
 | [],r,b,_=>rfl
 | x :: l,r,b,hy=>by
  refine bc fun hbc=>?_
  obtain ⟨m,hm⟩:=hy x (.head _) b
  refine hbc ?_
  clear hbc
  rw [List.cons_append,List.forIn_cons,List.forIn_cons,hm,sem_assoc,sem_assoc,sem_assoc]
  refine congrArg (m >>= ·) (funext fun y=>?_)
  show forIn (l++r) y f=forIn l y f >>= _
  exact forIn_app f l r y fun x hx b=>hy x (.tail _ hx) b
theorem dF_yields (k v:Sem Value) (b:DSt):∃ m:Sem DSt,dF (some k,v) b=m >>= fun y=>pure (.yield y):=by
 refine bc fun hbc=>?_
 obtain ⟨main,run⟩:=b
 refine hbc ?_
 clear hbc
 by_cases h:((run++[(k,v)]).length == 17)=true
 ·obtain ⟨X,e⟩:∃ X,dF (some k,v) (main,run)=X >>= fun (mn:Option Addr)=>pure (.yield ((mn,[]):DSt)):=by
   apply Exists.intro
   show (if ((run++[(k,v)]).length == 17)=true then _ else _)=_
   exact (if_pos h).trans rfl
  exact ⟨X >>= fun (mn:Option Addr)=>pure ((mn,[]):DSt),by rw [sem_assoc];exact e⟩
 ·refine ⟨pure (main,run++[(k,v)]),?_⟩
  show (if ((run++[(k,v)]).length == 17)=true then _ else _)=_
  rw [if_neg h]
  rfl
noncomputable abbrev item (dp:Pos) (p:Int×Str):DIt:=(some (prK p.1),prV dp p.2)
theorem items_app {dp:Pos} {c r:List (Int×Str)} {b:DSt}:forIn ((c++r).map (item dp)) b dF=(forIn (c.map (item dp)) b dF) >>= fun b'=>forIn (r.map (item dp)) b' dF:=by
 rw [List.map_append]
 refine forIn_app dF _ _ b fun x hx b=>?_
 refine bc fun hbc=>?_
 obtain ⟨p,_,eq0⟩:=List.mem_map.mp hx
 refine hbc ?_
 clear hbc
 subst eq0
 exact dF_yields _ _ b
theorem Op.accum {dp:Pos} {main:Option Addr}:∀ (c:List (Int×Str)) (run:List (Sem Value×Sem Value)),run.length + c.length≤16→Op e (0) (forIn (c.map (item dp)) ((main,run):DSt) dF) s (main,run++prs dp c) s
 | [],run,_=>by
  show Op e _ (forIn ([]:List DIt) ((main,run):DSt) dF) s (main,run++[]) s
  rw [List.append_nil];exact Op.forIn_nil
 | p :: c,run,h=>by
  have hl:¬ ((run++[(prK p.1,prV dp p.2)]).length == 17)=true:=by
   rw [List.length_append,beq_iff_eq];simp only [List.length_cons,List.length_nil] at h ⊢;lia
  refine Op.forIn_cons (B':=0) (b':=((main,run++[(prK p.1,prV dp p.2)]):DSt)) (s₁:=s) ?_ ?_
  ·show Op e _ (if ((run++[(prK p.1,prV dp p.2)]).length == 17)=true then _ else _) _ _ _
   refine ifn hl ?_
   exact Op.pure
  ·have:=Op.accum (main:=main) (dp:=dp) c (run++[(prK p.1,prV dp p.2)]) (by rw [List.length_append];simp only [List.length_cons,List.length_nil] at h ⊢;lia)
   rw [List.append_assoc] at this
   exact this
theorem split17 {c:List (Int×Str)} (hl:c.length=17):∃ a p,c=a++[p]∧a.length=16:=by
 refine ⟨c.take 16,c[16],?_,by rw [List.length_take];lia⟩
 rw [List.take_append_getElem,List.take_of_length_le (by walk_at "l")]
theorem Op.chunk0 {dp:Pos} {b:List Stmt} {env:Env} {c:List (Int×Str)} (hc:e.code=.body b env) (hl:c.length=17) (ha:e.n₀≤s.heap.objs.size) (hnd:(c.map fun p=>hashInt p.1).Nodup):
  Op e (1200) (forIn (c.map (item dp)) ((none,[]):DSt) dF) s (some s.heap.objs.size,[]) { s with heap:=s.heap.push (dictO (entsA s.toks c) 17),toks:=s.toks + 51 }:=by
 refine bc fun hbc=>?_
 obtain ⟨a,p,hx,h16⟩:=split17 hl
 refine hbc ?_
 clear hbc
 have hrun:prs dp a++[(prK p.1,prV dp p.2)]=prs dp c:=by rw [hx];simp [prs]
 have e0:forIn (c.map (item dp)) ((none,[]):DSt) dF=(forIn (a.map (item dp)) ((none,[]):DSt) dF) >>= fun b'=>forIn ([p].map (item dp)) b' dF:=by rw [hx];exact items_app
 rw [e0]
 refine Op.bind (Op.accum a [] (by rw [h16];decide)) (Op.forIn_cons (B':=1200) (b':=((some s.heap.objs.size,[]):DSt)) (s₁:={ s with heap:=s.heap.push (dictO (entsA s.toks c) 17),toks:=s.toks + 51 }) ?_ Op.forIn_nil)
 rw [List.nil_append]
 show Op e _ (if ((prs dp a++[(prK p.1,prV dp p.2)]).length == 17)=true then _ else _) _ _ _
 rw [hrun,if_pos (by rw [List.length_map,hl];rfl)]
 refine Op.bind (B':=1200) (a:=some s.heap.objs.size) ?_ Op.pure
 show Op e _ (if (prs dp c).isEmpty=true then _ else _) _ _ _
 refine ifn (by cases c with | nil=>cases hl | cons=>exact Bool.false_ne_true) ?_
 exact Op.bind (Op.subLong hc hl ha hnd) Op.pure
theorem Op.flushOn {Bs:Nat} {dp:Pos} {d:Addr} {c:List (Int×Str)} {es sub:List DictEntry} {n:Nat} {s₁:Shared}
  (hsub:Op e Bs (subDict (prs dp c)) s s.heap.objs.size s₁) (hd:s₁.heap.get? d=some (dictO es n)) (hs:s₁.heap.get? s.heap.objs.size=some (dictO sub sub.length)) (ha:e.n₀≤d) (hda:d≠s.heap.objs.size) (hsys:s.heap.objs.size≠sysModules)
  (hne:es≠[]) (hz:es.length + sub.length≤100000) (hk:∀ x∈sub,∃ k t v,x=⟨hashInt k,.int k t,v⟩) (hf:∀ x∈es,∀ y∈sub,x.hash≠y.hash) (hnd:(sub.map (·.hash)).Nodup):
  Op e (Bs + 20 + 20 * sub.length) (do
   let sub ← PySem.holding [.ref d] (subDict (prs dp c))
   (PySem.holding [.ref d,.ref sub] (mergeMapping d (.ref sub) false)).onRaise fun x=>do
    let _ ← PySem.holding [.ref d,x] (runValue (.builtin "proto.let_go" {}))
    Pure.pure ()
   Pure.pure (some d)) s (some d) { s₁ with heap:=hput s₁.heap d (dictO (es++sub) (n + sub.length)) }:=
 Op.bind (Op.holding hsub) (Op.bind (Op.onRaise (Op.holding (Op.merge ha hda hsys hd hs hne hz hk hf hnd))) Op.pure)
theorem Op.chunk {dp:Pos} {d:Addr} {b:List Stmt} {env:Env} {c:List (Int×Str)} {es:List DictEntry} {n:Nat} (hc:e.code=.body b env) (hl:c.length=17) (ha:e.n₀≤d) (hlt:d < s.heap.objs.size) (hsys:1 < s.heap.objs.size) (hnd:(c.map fun p=>hashInt p.1).Nodup)
  (hd:s.heap.get? d=some (dictO es n)) (hne:es≠[]) (hz:es.length≤90000) (hf:Fresh es c):
  Op e (1600) (forIn (c.map (item dp)) ((some d,[]):DSt) dF) s (some d,[]) { s with heap:=hput (s.heap.push (dictO (entsA s.toks c) 17)) d (dictO (es++entsA s.toks c) (n + 17)),toks:=s.toks + 51 }:=by
 refine bc fun hbc=>?_
 obtain ⟨a,p,hx,h16⟩:=split17 hl
 refine hbc ?_
 clear hbc
 have hrun:prs dp a++[(prK p.1,prV dp p.2)]=prs dp c:=by rw [hx];simp [prs]
 have e0:forIn (c.map (item dp)) ((some d,[]):DSt) dF=(forIn (a.map (item dp)) ((some d,[]):DSt) dF) >>= fun b'=>forIn ([p].map (item dp)) b' dF:=by rw [hx];exact items_app
 rw [e0]
 refine Op.bind (Op.accum a [] (by rw [h16];decide)) (Op.forIn_cons (B':=1600) (b':=((some d,[]):DSt)) (s₁:={ s with heap:=hput (s.heap.push (dictO (entsA s.toks c) 17)) d (dictO (es++entsA s.toks c) (n + 17)),toks:=s.toks + 51 }) ?_ Op.forIn_nil)
 rw [List.nil_append]
 show Op e _ (if ((prs dp a++[(prK p.1,prV dp p.2)]).length == 17)=true then _ else _) _ _ _
 rw [hrun,if_pos (by rw [List.length_map,hl];rfl)]
 refine Op.bind (B':=1600) (a:=some d) ?_ Op.pure
 show Op e _ (if (prs dp c).isEmpty=true then _ else _) _ _ _
 refine ifn (by cases c with | nil=>cases hl | cons=>exact Bool.false_ne_true) ?_
 have hlen:(entsA s.toks c).length=17:=by rw [entsA_length,hl]
 have:=Op.flushOn (e:=e) (dp:=dp) (d:=d) (c:=c) (s:=s) (es:=es) (n:=n) (sub:=entsA s.toks c) (Op.subLong hc hl (Nat.le_trans ha (Nat.le_of_lt hlt)) hnd) (Heap.get?_push_of_some _ hd) (by rw [hlen];exact Heap.get?_push_size _ rfl) ha (Nat.ne_of_lt hlt) (Nat.ne_of_gt hsys) hne (by rw [hlen];lia)
  (fun x hx=>entsA_form hx)
  (fun x hx y hy=>by obtain ⟨p,hp,e⟩:=entsA_hash hy;rw [e];exact hf x hx p hp)
  (by rw [entsA_hashes];exact hnd)
 rw [hlen] at this
 exact this.le (by decide)

/- the short way: first all pairs, then the stores -/
noncomputable def valsB:Nat→List (Int×Str)→List (Value×Value)
 | _,[]=>[]
 | t,(k,v) :: r=>(.int k t,.str v (t + 1)) :: valsB (t + 2) r
theorem Op.evalPairs {dp:Pos}:∀ (c:List (Int×Str)) (s:Shared),Op e (5 * c.length) (PySem.evalPairs (prs dp c)) s (valsB s.toks c) { s with toks:=s.toks + 2 * c.length }
 | [],s=>Op.pure
 | (k,v) :: c,s=>by
  have ih:=Op.evalPairs (dp:=dp) c { s with toks:=s.toks + 1 + 1 }
  have e4:s.toks + 1 + 1 + 2 * c.length=s.toks + 2 * ((k,v) :: c).length:=by rw [List.length_cons];walk_at "l"
  dsimp only at ih
  rw [e4] at ih
  show Op e _ (do let kv ← prK k;let vv ← PySem.holding [kv] (prV dp v);return (kv,vv) :: (← PySem.holding [kv,vv] (PySem.evalPairs (prs dp c)))) _ _ _
  exact Op.bind op_prK (Op.bind (Op.holding op_prV) (Op.bind (Op.holding ih) Op.pure (by rw [List.length_cons];lia)) (by rw [List.length_cons];lia)) (by rw [List.length_cons];walk_at "l")
theorem Op.shortLoop {f:Value×Value→PUnit→Sem (ForInStep PUnit)} {d:Addr} (hb:∀ k v u,f (k,v) u=(do
   dictSet d k v
   Pure.pure (ForInStep.yield PUnit.unit))) {b:List Stmt} {env:Env} (hc:e.code=.body b env) (ha:e.n₀≤d):∀ (c:List (Int×Str)) (t:Nat) (es:List DictEntry) (n:Nat) (s:Shared),s.heap.get? d=some (dictO es n)→es.length + c.length≤100000→Fresh es c→(c.map fun p=>hashInt p.1).Nodup→
  Op e (60 * c.length) (forIn (valsB t c) PUnit.unit f) s PUnit.unit { s with heap:=hput s.heap d (dictO (es++entsB t c) (n + c.length)),toks:=s.toks + c.length }
 | [],t,es,n,s,ho,_,_,_=>by
  have:hput s.heap d (dictO (es++entsB t []) (n + [].length (α:=Int×Str)))=s.heap:=by
   rw [show es++entsB t []=es from List.append_nil _];exact hput_id ho
  rw [this]
  exact Op.forIn_nil
 | (k,v) :: c,t,es,n,s,ho,hz,hf,hnd=>by
  rw [List.map_cons,List.nodup_cons] at hnd
  have hz1:es.length≤100000:=by simp only [List.length_cons] at hz;lia
  have step:=Op.setNew (e:=e) (s:=s) (t:=t) (v:=.str v (t + 1)) hc ho ha hz1 (fun x hx=>hf x hx (k,v) (.head _))
  have ih:=Op.shortLoop hb hc ha c (t + 2) (es++[⟨hashInt k,.int k t,.str v (t + 1)⟩]) (n + 1) { s with heap:=hput s.heap d (dictO (es++[⟨hashInt k,.int k t,.str v (t + 1)⟩]) (n + 1)),toks:=s.toks + 1 }
   (hput_self ho rfl) (by simp only [List.length_append,List.length_cons,List.length_nil] at hz ⊢;lia) (fun x hx p hp=>by
    rcases List.mem_append.mp hx with hx | hx
    ·exact hf x hx p (.tail _ hp)
    ·rcases List.mem_singleton.mp hx with rfl
     intro q
     exact hnd.1 (List.mem_map.mpr ⟨p,hp,q.symm⟩)) hnd.2
  have hone:Op e 60 (f (.int k t,.str v (t + 1)) PUnit.unit) s (ForInStep.yield PUnit.unit) { s with heap:=hput s.heap d (dictO (es++[⟨hashInt k,.int k t,.str v (t + 1)⟩]) (n + 1)),toks:=s.toks + 1 }:=by rw [hb];exact Op.bind step Op.pure
  refine Op.forIn_cons hone (Op.le (B:=60 * c.length) ?_ (by rw [List.length_cons];lia)) (by rw [List.length_cons];walk_at "l")
  rw [hput_put] at ih
  have e2:es++[⟨hashInt k,.int k t,.str v (t + 1)⟩]++entsB (t + 2) c=es++entsB t ((k,v) :: c):=by rw [List.append_assoc];rfl
  rw [e2] at ih
  have e3:n + 1 + c.length=n + ((k,v) :: c).length:=by rw [List.length_cons];walk_at "l"
  have e4:s.toks + 1 + c.length=s.toks + ((k,v) :: c).length:=by rw [List.length_cons];walk_at "l"
  rw [e3,e4] at ih
  exact ih
theorem push_put (h:Heap) (o o':Obj):hput (h.push o) h.objs.size o'=h.push o':=by
 refine bc fun hbc=>?_
 obtain ⟨objs,life⟩:=h
 refine hbc ?_
 clear hbc
 show (⟨(objs.push _).modify objs.size _,life⟩:Heap)=⟨objs.push _,life⟩
 congr 1
 apply Array.ext_getElem?
 intro i
 rw [Array.getElem?_modify,Array.getElem?_push,Array.getElem?_push]
 by_cases hi:i=objs.size
 ·subst hi;simp
 ·rw [if_neg (Ne.symm hi),if_neg hi,if_neg hi]
theorem Op.subShort {dp:Pos} {b:List Stmt} {env:Env} {c:List (Int×Str)} (hc:e.code=.body b env) (hl:c.length≤15) (ha:e.n₀≤s.heap.objs.size) (hnd:(c.map fun p=>hashInt p.1).Nodup):
  Op e (1100) (subDict (prs dp c)) s s.heap.objs.size { s with heap:=s.heap.push (dictO (entsB s.toks c) c.length),toks:=s.toks + 2 * c.length + c.length }:=by
 unfold subDict
 refine Op.bind Op.alloc (Op.bind (B':=1098) (a:=PUnit.unit) (s₁:={ s with heap:=s.heap.push (dictO (entsB s.toks c) c.length),toks:=s.toks + 2 * c.length + c.length }) (Op.holding ?_) Op.pure)
 refine ifp (by rw [List.length_map];exact hl) ?_
 have e1:hput (s.heap.push { cls:=.type "dict", data:=.dict #[] }) s.heap.objs.size (dictO ([]++entsB s.toks c) (0 + c.length))=s.heap.push (dictO (entsB s.toks c) c.length):=by
  rw [push_put,List.nil_append,Nat.zero_add]
 have e2:({ s with heap:=hput (s.heap.push { cls:=.type "dict", data:=.dict #[] }) s.heap.objs.size (dictO ([]++entsB s.toks c) (0 + c.length)),toks:=s.toks + 2 * c.length + c.length }:Shared)={ s with heap:=s.heap.push (dictO (entsB s.toks c) c.length),toks:=s.toks + 2 * c.length + c.length }:=by rw [e1]
 rw [← e2]
 exact Op.bind (Op.evalPairs c { s with heap:=s.heap.push { cls:=.type "dict", data:=.dict #[] } }) (Op.holding (Op.bind (B':=60 * c.length) (Op.shortLoop (d:=s.heap.objs.size) (s:={ s with heap:=s.heap.push { cls:=.type "dict", data:=.dict #[] },toks:=s.toks + 2 * c.length }) (fun k v u=>rfl) hc ha c s.toks [] 0 (Heap.get?_push_size _ rfl) (by simp only [List.length_nil];lia) (fun _ hx=>nomatch hx) hnd) Op.pure (by lia))) (by lia)
noncomputable def Hs (h:Heap) (m:Obj) (subs:List Obj):Heap:=⟨⟨h.objs.toList++m :: subs⟩,h.life⟩
theorem Hs_start (h:Heap) (m:Obj):h.push m=Hs h m []:=by
 refine bc fun hbc=>?_
 obtain ⟨⟨l⟩,life⟩:=h
 refine hbc ?_
 clear hbc
 show (⟨(⟨l⟩:Array Obj).push m,life⟩:Heap)=⟨⟨l++[m]⟩,life⟩
 rw [List.push_toArray]
theorem Hs_push (h:Heap) (m o:Obj) (subs:List Obj):(Hs h m subs).push o=Hs h m (subs++[o]):=by
 refine bc fun hbc=>?_
 obtain ⟨⟨l⟩,life⟩:=h
 refine hbc ?_
 clear hbc
 show (⟨(⟨l++m :: subs⟩:Array Obj).push o,life⟩:Heap)=⟨⟨l++m :: (subs++[o])⟩,life⟩
 rw [List.push_toArray,List.append_assoc];rfl
theorem Hs_put (h:Heap) (m m':Obj) (subs:List Obj):hput (Hs h m subs) h.objs.size m'=Hs h m' subs:=by
 refine bc fun hbc=>?_
 obtain ⟨⟨l⟩,life⟩:=h
 refine hbc ?_
 clear hbc
 show (⟨(⟨l++m :: subs⟩:Array Obj).modify l.length _,life⟩:Heap)=⟨⟨l++m' :: subs⟩,life⟩
 congr 1
 apply Array.ext_getElem?
 intro i
 rw [Array.getElem?_modify]
 simp only [List.getElem?_toArray]
 by_cases hi:l.length=i
 ·subst hi;simp
 ·rw [if_neg hi]
  by_cases hl:i < l.length
  ·rw [List.getElem?_append_left hl,List.getElem?_append_left hl]
  ·rw [List.getElem?_append_right (by lia),List.getElem?_append_right (by lia)]
   obtain ⟨k,hk⟩:∃ k,i - l.length=k + 1:=⟨i - l.length - 1,subS (i:=0) (Nat.sub_pos_of_lt (Nat.lt_of_le_of_ne (Nat.not_lt.mp hl) hi))⟩
   rw [hk];rfl
theorem Hs_get (h:Heap) (es:List DictEntry) (n:Nat) (subs:List Obj):(Hs h (dictO es n) subs).get? h.objs.size=some (dictO es n):=by
 refine bc fun hbc=>?_
 obtain ⟨⟨l⟩,life⟩:=h
 refine hbc ?_
 clear hbc
 have:(⟨l++dictO es n :: subs⟩:Array Obj)[l.length]?=some (dictO es n):=by simp
 show (match (⟨l++dictO es n :: subs⟩:Array Obj)[l.length]? with | some ⟨_,_,.freed,_⟩=>none | o=>o)=_
 rw [this]
theorem Hs_size (h:Heap) (m:Obj) (subs:List Obj):(Hs h m subs).objs.size=h.objs.size + 1 + subs.length:=by
 refine bc fun hbc=>?_
 obtain ⟨⟨l⟩,life⟩:=h
 refine hbc ?_
 clear hbc
 show (l++m :: subs).length=l.length + 1 + subs.length
 rw [List.length_append,List.length_cons];walk_at "l"
theorem entsA_append:∀ (c r:List (Int×Str)) (t:Nat),entsA t (c++r)=entsA t c++entsA (t + 3 * c.length) r
 | [],r,t=>rfl
 | (k,v) :: c,r,t=>by
  show _ :: entsA (t + 3) (c++r)=_ :: (entsA (t + 3) c++_)
  rw [entsA_append c r,List.length_cons,show t + 3 + 3 * c.length=t + 3 * (c.length + 1) by walk_at "l"]
noncomputable def subsA:Nat→List (List (Int×Str))→List Obj
 | _,[]=>[]
 | t,c :: cs=>dictO (entsA t c) 17 :: subsA (t + 51) cs
theorem subsA_length:∀ (cs:List (List (Int×Str))) (t:Nat),(subsA t cs).length=cs.length
 | [],_=>rfl
 | c :: cs,t=>by show (subsA (t + 51) cs).length + 1=_;rw [subsA_length cs];rfl
noncomputable abbrev hs (c:List (Int×Str)):List Int:=c.map fun p=>hashInt p.1
theorem Op.chunks {h₀:Heap} {dp:Pos} {b:List Stmt} {env:Env} (hc:e.code=.body b env) (ha:e.n₀≤h₀.objs.size) (h1:1 < h₀.objs.size):∀ (cs:List (List (Int×Str))) (es:List DictEntry) (n:Nat) (subs:List Obj) (s:Shared),s.heap=Hs h₀ (dictO es n) subs→(∀ c∈cs,c.length=17)→
  es≠[]→es.length + 17 * cs.length≤90000→Fresh es cs.flatten→(hs cs.flatten).Nodup→
  Op e (1600 * cs.length) (forIn (cs.flatten.map (item dp)) ((some h₀.objs.size,[]):DSt) dF) s (some h₀.objs.size,[]) { s with heap:=Hs h₀ (dictO (es++entsA s.toks cs.flatten) (n + 17 * cs.length)) (subs++subsA s.toks cs),toks:=s.toks + 51 * cs.length }
 | [],es,n,subs,s,hh,_,_,_,_,_=>by
  have:({ s with heap:=Hs h₀ (dictO (es++entsA s.toks []) (n + 17 * 0)) (subs++subsA s.toks []),toks:=s.toks + 51 * 0 }:Shared)=s:=by
   rw [show es++entsA s.toks []=es from List.append_nil _,show subs++subsA s.toks []=subs from List.append_nil _,← show s.heap=Hs h₀ (dictO es (n + 17 * 0)) subs from hh]
   rfl
  show Op e _ _ s _ { s with heap:=Hs h₀ (dictO (es++entsA s.toks []) (n + 17 * 0)) (subs++subsA s.toks []),toks:=s.toks + 51 * 0 }
  rw [this]
  exact Op.forIn_nil
 | c :: cs,es,n,subs,s,hh,hl,hne,hz,hf,hnd=>by
  have hlc:=hl c (.head _)
  rw [List.flatten_cons,show hs (c++cs.flatten)=hs c++hs cs.flatten from List.map_append,List.nodup_append] at hnd
  have hsz:h₀.objs.size < s.heap.objs.size:=by rw [hh,Hs_size];walk_at "l"
  have hd:s.heap.get? h₀.objs.size=some (dictO es n):=by rw [hh];exact Hs_get ..
  have step:=Op.chunk (e:=e) (dp:=dp) (s:=s) (c:=c) hc hlc ha hsz (Nat.lt_trans h1 hsz) hnd.1 hd hne (by lia) (fun x hx p hp=>hf x hx p (List.mem_flatten.mpr ⟨c,.head _,hp⟩))
  have hheap:hput (s.heap.push (dictO (entsA s.toks c) 17)) h₀.objs.size (dictO (es++entsA s.toks c) (n + 17))=Hs h₀ (dictO (es++entsA s.toks c) (n + 17)) (subs++[dictO (entsA s.toks c) 17]):=by
   rw [hh,Hs_push,Hs_put]
  rw [hheap] at step
  have ih:=Op.chunks (dp:=dp) hc ha h1 cs (es++entsA s.toks c) (n + 17) (subs++[dictO (entsA s.toks c) 17]) { s with heap:=Hs h₀ (dictO (es++entsA s.toks c) (n + 17)) (subs++[dictO (entsA s.toks c) 17]),toks:=s.toks + 51 } rfl
   (fun c hc=>hl c (.tail _ hc)) (by intro q;exact hne (List.append_eq_nil_iff.mp q).1) (by rw [List.length_append,entsA_length,hlc];rw [List.length_cons] at hz;lia)
   (fun x hx p hp=>by
    rcases List.mem_append.mp hx with hx | hx
    ·exact hf x hx p (by rw [List.flatten_cons];exact List.mem_append_right _ hp)
    ·refine bc fun hbc=>?_
     obtain ⟨q,hq,eq⟩:=entsA_hash hx
     refine hbc ?_
     clear hbc
     rw [eq]
     exact hnd.2.2 _ (List.mem_map.mpr ⟨q,hq,rfl⟩) _ (List.mem_map.mpr ⟨p,hp,rfl⟩)) hnd.2.1
  rw [List.flatten_cons,items_app]
  have e1:es++entsA s.toks c++entsA (s.toks + 51) cs.flatten=es++entsA s.toks (c++cs.flatten):=by
   rw [entsA_append,hlc,List.append_assoc]
  have e2:subs++[dictO (entsA s.toks c) 17]++subsA (s.toks + 51) cs=subs++subsA s.toks (c :: cs):=by rw [List.append_assoc];rfl
  have e3:n + 17 + 17 * cs.length=n + 17 * (c :: cs).length:=by rw [List.length_cons];walk_at "l"
  have e4:s.toks + 51 + 51 * cs.length=s.toks + 51 * (c :: cs).length:=by rw [List.length_cons];walk_at "l"
  dsimp only at ih
  rw [e1,e2,e3,e4] at ih
  exact Op.bind step (ih.le (by rw [List.length_cons];lia)) (by rw [List.length_cons];walk_at "l")
theorem flat_length:∀ (cs:List (List (Int×Str))),(∀ c∈cs,c.length=17)→cs.flatten.length=17 * cs.length
 | [],_=>rfl
 | c :: cs,h=>by rw [List.flatten_cons,List.length_append,h c (.head _),flat_length cs fun c hc=>h c (.tail _ hc),List.length_cons];walk_at "l"
theorem Op.display {dp:Pos} {b:List Stmt} {env:Env} {c₀ l:List (Int×Str)} {cs:List (List (Int×Str))} (hc:e.code=.body b env) (ha:e.n₀≤s.heap.objs.size) (h1:1 < s.heap.objs.size)
  (hl₀:c₀.length=17) (hl:∀ c∈cs,c.length=17) (hll:l.length≤15) (hlp:l≠[]) (hz:cs.length≤1000) (hnd:(hs (c₀++(cs.flatten++l))).Nodup):
  Op e (3200 + 1600 * cs.length) (dictDisplay ((c₀++(cs.flatten++l)).map (item dp))) s (.ref s.heap.objs.size) { s with
   heap:=Hs s.heap (dictO (entsA s.toks (c₀++cs.flatten)++entsB (s.toks + 51 + 51 * cs.length) l) (17 + 17 * cs.length + l.length)) (subsA (s.toks + 51) cs++[dictO (entsB (s.toks + 51 + 51 * cs.length) l) l.length]),
   toks:=s.toks + 51 + 51 * cs.length + 2 * l.length + l.length }:=by
 rw [dparts.2]
 rw [show hs (c₀++(cs.flatten++l))=hs c₀++(hs cs.flatten++hs l) by simp [hs],List.nodup_append,List.nodup_append] at hnd
 refine bc fun hbc=>?_
 obtain ⟨n1,⟨n2,n3,n4⟩,n5⟩:=hnd
 refine hbc ?_
 clear hbc
 have hlen0:(entsA s.toks c₀).length=17:=by rw [entsA_length,hl₀]
 have st0:=Op.chunk0 (e:=e) (dp:=dp) (s:=s) hc hl₀ ha n1
 rw [Hs_start] at st0
 have st1:=Op.chunks (e:=e) (dp:=dp) hc ha h1 cs (entsA s.toks c₀) 17 [] { s with heap:=Hs s.heap (dictO (entsA s.toks c₀) 17) [],toks:=s.toks + 51 } rfl hl (by intro q;(first | obtain rfl:=Option.some.inj (q.symm.trans hlen0) | exact absurd (q.symm.trans hlen0) (Option.some_ne_none _) | exact absurd (q.symm.trans hlen0).symm (Option.some_ne_none _) | exact (datN (q.symm.trans hlen0) rfl).elim | (rw [q] at hlen0;cases hlen0))) (by lia)
  (fun x hx p hp=>by
   refine bc fun hbc=>?_
   obtain ⟨q,hq,eq⟩:=entsA_hash hx
   refine hbc ?_
   clear hbc
   rw [eq]
   exact n5 _ (List.mem_map.mpr ⟨q,hq,rfl⟩) _ (List.mem_append_left _ (List.mem_map.mpr ⟨p,hp,rfl⟩))) n2
 dsimp only at st1
 have e1:entsA s.toks c₀++entsA (s.toks + 51) cs.flatten=entsA s.toks (c₀++cs.flatten):=by rw [entsA_append,hl₀]
 rw [e1,List.nil_append] at st1
 have hE:(entsA s.toks (c₀++cs.flatten)).length=17 + 17 * cs.length:=by
  rw [entsA_length,List.length_append,hl₀,flat_length cs hl]
 have hll':(entsB (s.toks + 51 + 51 * cs.length) l).length=l.length:=entsB_length
 have hsz:(Hs s.heap (dictO (entsA s.toks (c₀++cs.flatten)) (17 + 17 * cs.length)) (subsA (s.toks + 51) cs)).objs.size=s.heap.objs.size + 1 + cs.length:=by rw [Hs_size,subsA_length]
 have sub:=Op.subShort (e:=e) (dp:=dp) (c:=l) (s:={ s with heap:=Hs s.heap (dictO (entsA s.toks (c₀++cs.flatten)) (17 + 17 * cs.length)) (subsA (s.toks + 51) cs),toks:=s.toks + 51 + 51 * cs.length }) hc hll (by rw [hsz];lia) n3
 have fl:=Op.flushOn (e:=e) (dp:=dp) (d:=s.heap.objs.size) (c:=l) (es:=entsA s.toks (c₀++cs.flatten)) (n:=17 + 17 * cs.length) (sub:=entsB (s.toks + 51 + 51 * cs.length) l) sub
  (by dsimp only;rw [Hs_push];exact Hs_get ..) (by dsimp only;rw [hll'];exact Heap.get?_push_size _ rfl) ha (by dsimp only;rw [hsz];exact Nat.ne_of_lt (Nat.lt_of_lt_of_le (Nat.lt_succ_self _) (Nat.le_add_right _ _))) (by dsimp only;rw [hsz];exact Nat.ne_of_gt (Nat.lt_of_lt_of_le h1 (Nat.le_trans (Nat.le_succ _) (Nat.le_add_right _ _))))
  (by intro q;rw [q] at hE;simp at hE;lia) (by rw [hE,hll'];lia) (fun x hx=>entsB_form hx)
  (fun x hx y hy=>by
   refine bc fun hbc=>?_
   obtain ⟨p,hp,ep⟩:=entsA_hash hx
   refine hbc ?_
   clear hbc
   have hy':y.hash∈hs l:=by
    have:=List.mem_map_of_mem (f:=(·.hash)) hy
    rw [entsB_hashes] at this
    exact this
   rw [ep]
   rcases List.mem_append.mp hp with hp | hp
   ·exact n5 _ (List.mem_map.mpr ⟨p,hp,rfl⟩) _ (List.mem_append_right _ hy')
   ·exact n4 _ (List.mem_map.mpr ⟨p,hp,rfl⟩) _ hy') (by rw [entsB_hashes];exact n3)
 dsimp only at fl
 rw [Hs_push,Hs_put,hll'] at fl
 rw [items_app]
 refine Op.bind (B':=1200 + 1600 * cs.length) (Op.bind st0 ?_) ?_ (a:=(some s.heap.objs.size,prs dp l)) (s₁:={ s with heap:=Hs s.heap (dictO (entsA s.toks (c₀++cs.flatten)) (17 + 17 * cs.length)) (subsA (s.toks + 51) cs),toks:=s.toks + 51 + 51 * cs.length })
 ·rw [items_app]
  exact Op.bind (st1.le (B':=1600 * cs.length) (Nat.le_refl _)) (by have:=Op.accum (e:=e) (s:={ s with heap:=Hs s.heap (dictO (entsA s.toks (c₀++cs.flatten)) (17 + 17 * cs.length)) (subsA (s.toks + 51) cs),toks:=s.toks + 51 + 51 * cs.length }) (dp:=dp) (main:=some s.heap.objs.size) l [] (by rw [List.length_nil];walk_at "l");exact this.le (Nat.zero_le _))
 ·show Op e _ (do
   let x ← (if (prs dp l).isEmpty=true then Pure.pure (some s.heap.objs.size) else do
    let sub ← PySem.holding [.ref s.heap.objs.size] (subDict (prs dp l))
    (PySem.holding [.ref s.heap.objs.size,.ref sub] (mergeMapping s.heap.objs.size (.ref sub) false)).onRaise fun x=>do
     let _ ← PySem.holding [.ref s.heap.objs.size,x] (runValue (.builtin "proto.let_go" {}))
     Pure.pure ()
    Pure.pure (some s.heap.objs.size))
   match x with
   | some d=>Pure.pure (Value.ref d)
   | none=>newDict) _ _ _
  rewrite [if_neg (by cases l with | nil=>exact absurd rfl hlp | cons=>exact Bool.false_ne_true)]
  exact Op.bind (fl.le (B':=1500) (by lia)) Op.pure
end
end Mine
end
section
open PySem PySem.W PyProof.Rows
namespace Mine
noncomputable section
noncomputable abbrev PR:Program:=PySem.Challenge.pw_rw0121_02
noncomputable def nthS:List Stmt→Nat→Stmt
 | [],_=>.Pass default
 | s :: _,0=>s
 | _ :: r,n + 1=>nthS r n
noncomputable def stm (n:Nat):Stmt:=nthS PR.main.body n
noncomputable def sParams:Stmt→Arguments | .FunctionDef _ a _ _ _ _ _ _ _ _=>a | _=>default
noncomputable def sBody:Stmt→List Stmt | .FunctionDef _ _ b _ _ _ _ _ _ _=>b | .ClassDef _ _ _ b _ _ _ _ _ _ _=>b | _=>[]
noncomputable def sScope:Stmt→Scope | .FunctionDef _ _ _ _ _ _ sc _ _ _=>sc | _=>default
noncomputable def sMeth (n k:Nat):Stmt:=nthS (sBody (stm n)) k
/- the big table of the module's top -/
noncomputable def dKeys:Stmt→List (Option Expr) | .Assign _ (.Dict ks _ _) _=>ks | _=>[]
noncomputable def dVals:Stmt→List Expr | .Assign _ (.Dict _ vs _) _=>vs | _=>[]
noncomputable def intOf:Option Expr→Int | some (.Constant (.int i) _ _)=>i | _=>0
noncomputable def strOf:Expr→Str | .Constant (.str s) _ _=>s | _=>⟨⟨[]⟩⟩
noncomputable def mkPairs:List (Option Expr)→List Expr→List (Int×Str)
 | k :: ks,v :: vs=>(intOf k,strOf v) :: mkPairs ks vs
 | _,_=>[]
noncomputable def pairs:List (Int×Str):=mkPairs (dKeys (stm 3)) (dVals (stm 3))
noncomputable def pC0:List (Int×Str):=pairs.take 17
noncomputable def pCs:List (List (Int×Str)):=(List.range 37).map fun j=>(pairs.drop (17 * (j + 1))).take 17
noncomputable def pL:List (Int×Str):=pairs.drop 646
noncomputable def mainD:Obj:=dictO (entsA 256 (pC0++pCs.flatten)++entsB (256 + 51 + 51 * pCs.length) pL) (17 + 17 * pCs.length + pL.length)
noncomputable def subsD:List Obj:=subsA (256 + 51) pCs++[dictO (entsB (256 + 51 + 51 * pCs.length) pL) pL.length]
noncomputable def subD (k:Nat):Obj:=subsD.getD k default
noncomputable def insAll:BT→Nat→List Obj→BT
 | t,_,[]=>t
 | t,a,o :: os=>insAll (t.ins a o) (a + 1) os
noncomputable abbrev z0:Str:=⟨⟨[47,99,108,97,105,109,47,99,117,116,46,112,121]⟩⟩
noncomputable abbrev z1:Str:=⟨⟨[95,95,100,111,99,95,95]⟩⟩
noncomputable abbrev z2:Str:=⟨⟨[105,110,95,116,97,98,108,101,95,98,49]⟩⟩
noncomputable abbrev z3:Str:=⟨⟨[95,95,110,97,109,101,95,95]⟩⟩
noncomputable abbrev z4:Str:=⟨⟨[95,95,112,97,99,107,97,103,101,95,95]⟩⟩
noncomputable abbrev z5:Str:=⟨⟨[95,95,108,111,97,100,101,114,95,95]⟩⟩
noncomputable abbrev z6:Str:=⟨⟨[95,95,115,112,101,99,95,95]⟩⟩
noncomputable abbrev z7:Str:=⟨⟨[95,95,97,110,110,111,116,97,116,105,111,110,115,95,95]⟩⟩
noncomputable abbrev z8:Str:=⟨⟨[95,95,98,117,105,108,116,105,110,115,95,95]⟩⟩
noncomputable abbrev z9:Str:=⟨⟨[95,95,102,105,108,101,95,95]⟩⟩
noncomputable abbrev z10:Str:=⟨⟨[95,95,99,97,99,104,101,100,95,95]⟩⟩
noncomputable abbrev z11:Str:=⟨⟨[108,97,119,95,114,119,48,49,50,49,95,48,50]⟩⟩
noncomputable abbrev z12:Str:=⟨⟨[98,49,95,115,101,116]⟩⟩
noncomputable abbrev z13:Str:=⟨⟨[109,97,112,95,116,97,98,108,101,95,98,51]⟩⟩
noncomputable abbrev z14:Str:=⟨⟨[95,100,105,118,50,110,49,110]⟩⟩
noncomputable abbrev z15:Str:=⟨⟨[95,100,105,118,51,110,50,110]⟩⟩
noncomputable abbrev z16:Str:=⟨⟨[95,105,110,116,50,100,105,103,105,116,115]⟩⟩
noncomputable abbrev z17:Str:=⟨⟨[95,100,105,103,105,116,115,50,105,110,116]⟩⟩
noncomputable abbrev z18:Str:=⟨⟨[95,100,105,118,109,111,100,95,112,111,115]⟩⟩
noncomputable abbrev z19:Str:=⟨⟨[105,110,116,95,100,105,118,109,111,100]⟩⟩
noncomputable abbrev z20:Str:=⟨⟨[95,110,101,116,114,99,108,101,120]⟩⟩
noncomputable abbrev z21:Str:=⟨⟨[95,108,97,119,95,103,114,111,119,110]⟩⟩
noncomputable abbrev z22:Str:=⟨⟨[95,108,97,119,95,116,117,114,110,101,100]⟩⟩
noncomputable abbrev z23:Str:=⟨⟨[98,51,95,101,120,99,101,112,116,105,111,110,115]⟩⟩
noncomputable abbrev z24:Str:=⟨⟨[99,112,121,51,49,51,46,110,101,116,114,99]⟩⟩
noncomputable abbrev z25:Str:=⟨⟨[95,108,97,119,95,114,105,110,103]⟩⟩
noncomputable abbrev z26:Str:=⟨⟨[95,108,97,119,95,102,105,108,101]⟩⟩
noncomputable abbrev z27:Str:=⟨⟨[95,108,97,119,95,108,101,120,101,114]⟩⟩
noncomputable abbrev z28:Str:=⟨⟨[95,108,97,119,95,102,105,103,117,114,101,115]⟩⟩
noncomputable abbrev z29:Str:=⟨⟨[95,108,97,119,95,110,117,109,98,101,114]⟩⟩
noncomputable abbrev z30:Str:=⟨⟨[95,108,97,119,95,100,105,118,105,100,101,100]⟩⟩
noncomputable abbrev z31:Str:=⟨⟨[95,108,97,119,95,108,97,112,115]⟩⟩
noncomputable abbrev z32:Str:=⟨⟨[95,108,97,119,95,112,97,105,114,115]⟩⟩
noncomputable abbrev z33:Str:=⟨⟨[95,108,97,119,95,100,111,119,110]⟩⟩
noncomputable abbrev z34:Str:=⟨⟨[108,97,119]⟩⟩
noncomputable abbrev z36:Str:=⟨⟨[95,95,105,110,105,116,95,95]⟩⟩
noncomputable abbrev z37:Str:=⟨⟨[95,114,101,97,100,95,99,104,97,114]⟩⟩
noncomputable abbrev z38:Str:=⟨⟨[103,101,116,95,116,111,107,101,110]⟩⟩
noncomputable abbrev z39:Str:=⟨⟨[112,117,115,104,95,116,111,107,101,110]⟩⟩
noncomputable abbrev z40:Str:=⟨⟨[99,112,121,51,49,51,46,115,116,114,105,110,103,112,114,101,112]⟩⟩
noncomputable abbrev z41:Str:=⟨⟨[95,68,73,86,95,76,73,77,73,84]⟩⟩
noncomputable abbrev z42:Str:=⟨⟨[99,112,121,51,49,51,46,95,112,121,108,111,110,103]⟩⟩
noncomputable abbrev z46:Str:=⟨⟨[95,95,109,111,100,117,108,101,95,95]⟩⟩
noncomputable abbrev z47:Str:=⟨⟨[95,95,102,105,114,115,116,108,105,110,101,110,111,95,95]⟩⟩
noncomputable abbrev z48:Str:=⟨⟨[95,95,115,116,97,116,105,99,95,97,116,116,114,105,98,117,116,101,115,95,95]⟩⟩
noncomputable abbrev z49:Str:=⟨⟨[115,101,108,102]⟩⟩
noncomputable abbrev z51:Str:=⟨⟨[95,110,101,116,114,99,108,101,120,46,95,95,105,110,105,116,95,95]⟩⟩
noncomputable abbrev z52:Str:=⟨⟨[95,110,101,116,114,99,108,101,120,46,95,114,101,97,100,95,99,104,97,114]⟩⟩
noncomputable abbrev z53:Str:=⟨⟨[95,110,101,116,114,99,108,101,120,46,103,101,116,95,116,111,107,101,110]⟩⟩
noncomputable abbrev z54:Str:=⟨⟨[95,110,101,116,114,99,108,101,120,46,112,117,115,104,95,116,111,107,101,110]⟩⟩
noncomputable abbrev z55:Str:=⟨⟨[95,95,100,105,99,116,95,95]⟩⟩
noncomputable abbrev z56:Str:=⟨⟨[95,95,119,101,97,107,114,101,102,95,95]⟩⟩
noncomputable abbrev z57:Str:=⟨⟨[60,109,111,100,117,108,101,62]⟩⟩
noncomputable abbrev z58:Str:=⟨⟨[99,111,100,101]⟩⟩
noncomputable abbrev z61:Str:=⟨⟨[97,95,100,105,103,105,116,115]⟩⟩
noncomputable abbrev z62:Str:=⟨⟨[105,110,110,101,114]⟩⟩
noncomputable abbrev z63:Str:=⟨⟨[100,105,103,105,116,115]⟩⟩
noncomputable abbrev z64:Str:=⟨⟨[95,95,113,117,97,108,110,97,109,101,95,95]⟩⟩
noncomputable abbrev z66:Str:=⟨⟨[116,111,107,101,110]⟩⟩
noncomputable def o_11_a (P:Params):Obj:=⟨(.type "tuple"),none,(.seq ⟨[]⟩ 0),⟨[]⟩⟩
noncomputable def o_12_a (P:Params):Obj:=⟨.none,none,(.fields ⟨[]⟩),⟨[]⟩⟩
noncomputable def o_13_a (P:Params):Obj:=⟨(.type "code"),none,(.fields ⟨[(.str z57 182),(.str z57 183),(.str z0 184),(.int (.ofNat 1) 0),(.int (.ofNat 0) 0),(.int (.ofNat 0) 0),(.int (.ofNat 0) 0),(.int (.ofNat 0) 0),(.ref 11),(.bool false),(.int (.ofNat 181) 0),(.ref 12),.none,.none,.none,.none,(.int (.ofNat 185) 0),(.int (.ofNat 1) 0),(.str z0 186)]⟩),⟨[]⟩⟩
noncomputable def o_14_a (P:Params):Obj:=⟨(.type "frame"),none,.plain,⟨[(some (.ref 13)),(some (.ref 3)),(some (.ref 3)),none,(some (.str ⟨⟨[95,95,109,97,105,110,95,95]⟩⟩ 164)),none,(some (.ref 0))]⟩⟩
noncomputable def T_a (P:Params):BT:=(.node (boot_o_0 P) (.node (boot_o_1 P) (.node (boot_o_3 P) (.node (boot_o_7 P) .nil .nil) (.node (o_11_a P) .nil .nil)) (.node (boot_o_5 P) (.node (boot_o_9 P) .nil .nil) (.node (o_13_a P) .nil .nil))) (.node (boot_o_2 P) (.node (boot_o_4 P) (.node (boot_o_8 P) .nil .nil) (.node (o_12_a P) .nil .nil)) (.node (boot_o_6 P) (.node (boot_o_10 P) .nil .nil) (.node (o_14_a P) .nil .nil))))
noncomputable def o_3_1 (P:Params):Obj:=⟨(.type "dict"),none,(.dict ⟨[⟨PyData.keyHash P z3,(.str z3 165),(.str z40 187)⟩,⟨PyData.keyHash P z1,(.str z1 166),.none⟩,⟨PyData.keyHash P z4,(.str z4 167),.none⟩,⟨PyData.keyHash P z5,(.str z5 168),(.builtin "__main__.__loader__#opaque")⟩,⟨PyData.keyHash P z6,(.str z6 169),.none⟩,⟨PyData.keyHash P z7,(.str z7 170),(.ref 6)⟩,⟨PyData.keyHash P z8,(.str z8 171),(.ref 4)⟩,⟨PyData.keyHash P z9,(.str z9 173),(.str z0 172)⟩,⟨PyData.keyHash P z10,(.str z10 174),.none⟩]⟩ 9),⟨[]⟩⟩
noncomputable def T_1 (P:Params):BT:=(.node (boot_o_0 P) (.node (boot_o_1 P) (.node (o_3_1 P) (.node (boot_o_7 P) .nil .nil) (.node (o_11_a P) .nil .nil)) (.node (boot_o_5 P) (.node (boot_o_9 P) .nil .nil) (.node (o_13_a P) .nil .nil))) (.node (boot_o_2 P) (.node (boot_o_4 P) (.node (boot_o_8 P) .nil .nil) (.node (o_12_a P) .nil .nil)) (.node (boot_o_6 P) (.node (boot_o_10 P) .nil .nil) (.node (o_14_a P) .nil .nil))))
noncomputable def o_3_2 (P:Params):Obj:=⟨(.type "dict"),none,(.dict ⟨[⟨PyData.keyHash P z3,(.str z3 165),(.str z40 187)⟩,⟨PyData.keyHash P z1,(.str z1 166),.none⟩,⟨PyData.keyHash P z4,(.str z4 167),.none⟩,⟨PyData.keyHash P z5,(.str z5 168),(.builtin "__main__.__loader__#opaque")⟩,⟨PyData.keyHash P z6,(.str z6 169),.none⟩,⟨PyData.keyHash P z7,(.str z7 170),(.ref 6)⟩,⟨PyData.keyHash P z8,(.str z8 171),(.ref 4)⟩,⟨PyData.keyHash P z9,(.str z9 173),(.str z0 172)⟩,⟨PyData.keyHash P z10,(.str z10 174),.none⟩,⟨PyData.keyHash P z12,(.str z12 248),(.ref 22)⟩]⟩ 10),⟨[]⟩⟩
noncomputable def o_15_2 (P:Params):Obj:=⟨(.type "list"),none,(.seq ⟨[(.int (.ofNat 173) 189),(.int (.ofNat 847) 190),(.int (.ofNat 6150) 191),(.int (.ofNat 6155) 192),(.int (.ofNat 6156) 193),(.int (.ofNat 6157) 194),(.int (.ofNat 8203) 195),(.int (.ofNat 8204) 196),(.int (.ofNat 8205) 197),(.int (.ofNat 8288) 198),(.int (.ofNat 65279) 199)]⟩ 0),⟨[]⟩⟩
noncomputable def o_16_2 (P:Params):Obj:=⟨(.type "range"),none,(.fields ⟨[(.int (.ofNat 65024) 200),(.int (.ofNat 65040) 201),(.int (.ofNat 1) 202)]⟩),⟨[]⟩⟩
noncomputable def o_17_2 (P:Params):Obj:=⟨(.type "list"),none,(.seq ⟨[(.int (.ofNat 65024) 205),(.int (.ofNat 65025) 206),(.int (.ofNat 65026) 207),(.int (.ofNat 65027) 208),(.int (.ofNat 65028) 209),(.int (.ofNat 65029) 210),(.int (.ofNat 65030) 211),(.int (.ofNat 65031) 212),(.int (.ofNat 65032) 213),(.int (.ofNat 65033) 214),(.int (.ofNat 65034) 215),(.int (.ofNat 65035) 216),(.int (.ofNat 65036) 217),(.int (.ofNat 65037) 218),(.int (.ofNat 65038) 219),(.int (.ofNat 65039) 220)]⟩ 18),⟨[]⟩⟩
noncomputable def o_18_2 (P:Params):Obj:=⟨(.type "range_iterator"),none,(.fields ⟨[(.int (.ofNat 65040) 0),(.int (.ofNat 0) 0),(.int (.ofNat 1) 0)]⟩),⟨[]⟩⟩
noncomputable def o_19_2 (P:Params):Obj:=⟨(.type "tuple"),none,(.seq ⟨[]⟩ 0),⟨[]⟩⟩
noncomputable def o_20_2 (P:Params):Obj:=⟨(.type "StopIteration"),none,(.fields ⟨[(.ref 19),.none,.none,.none,(.bool false),.none]⟩),⟨[]⟩⟩
noncomputable def o_21_2 (P:Params):Obj:=⟨(.type "list"),none,(.seq ⟨[(.int (.ofNat 173) 189),(.int (.ofNat 847) 190),(.int (.ofNat 6150) 191),(.int (.ofNat 6155) 192),(.int (.ofNat 6156) 193),(.int (.ofNat 6157) 194),(.int (.ofNat 8203) 195),(.int (.ofNat 8204) 196),(.int (.ofNat 8205) 197),(.int (.ofNat 8288) 198),(.int (.ofNat 65279) 199),(.int (.ofNat 65024) 205),(.int (.ofNat 65025) 206),(.int (.ofNat 65026) 207),(.int (.ofNat 65027) 208),(.int (.ofNat 65028) 209),(.int (.ofNat 65029) 210),(.int (.ofNat 65030) 211),(.int (.ofNat 65031) 212),(.int (.ofNat 65032) 213),(.int (.ofNat 65033) 214),(.int (.ofNat 65034) 215),(.int (.ofNat 65035) 216),(.int (.ofNat 65036) 217),(.int (.ofNat 65037) 218),(.int (.ofNat 65038) 219),(.int (.ofNat 65039) 220)]⟩ 0),⟨[]⟩⟩
noncomputable def o_22_2 (P:Params):Obj:=⟨(.type "set"),none,(.set ⟨[((.ofNat 65024),(.int (.ofNat 65024) 205)),((.ofNat 65025),(.int (.ofNat 65025) 206)),((.ofNat 65026),(.int (.ofNat 65026) 207)),((.ofNat 65027),(.int (.ofNat 65027) 208)),((.ofNat 65028),(.int (.ofNat 65028) 209)),((.ofNat 65029),(.int (.ofNat 65029) 210)),((.ofNat 6150),(.int (.ofNat 6150) 191)),((.ofNat 65030),(.int (.ofNat 65030) 211)),((.ofNat 65031),(.int (.ofNat 65031) 212)),((.ofNat 65032),(.int (.ofNat 65032) 213)),((.ofNat 65033),(.int (.ofNat 65033) 214)),((.ofNat 6155),(.int (.ofNat 6155) 192)),((.ofNat 6156),(.int (.ofNat 6156) 193)),((.ofNat 6157),(.int (.ofNat 6157) 194)),((.ofNat 8203),(.int (.ofNat 8203) 195)),((.ofNat 8204),(.int (.ofNat 8204) 196)),((.ofNat 8205),(.int (.ofNat 8205) 197)),((.ofNat 65034),(.int (.ofNat 65034) 215)),((.ofNat 65035),(.int (.ofNat 65035) 216)),((.ofNat 65036),(.int (.ofNat 65036) 217)),((.ofNat 65037),(.int (.ofNat 65037) 218)),((.ofNat 65038),(.int (.ofNat 65038) 219)),((.ofNat 65039),(.int (.ofNat 65039) 220)),((.ofNat 173),(.int (.ofNat 173) 189)),((.ofNat 847),(.int (.ofNat 847) 190)),((.ofNat 8288),(.int (.ofNat 8288) 198)),((.ofNat 65279),(.int (.ofNat 65279) 199))]⟩ 29 { mask:=127,place:=⟨[0,1,2,3,4,5,6,7,8,9,10,11,12,13,14,15,16,17,18,19,20,21,22,45,79,96,127]⟩,dummies:=⟨[]⟩,finger:=0,led:=(!P.followText "set-order"),moves:=2,plain:=true }),⟨[]⟩⟩
noncomputable def o_23_2 (P:Params):Obj:=⟨(.type "list_iterator"),none,(.fields ⟨[.none,(.int (.ofNat 27) 0)]⟩),⟨[]⟩⟩
noncomputable def o_24_2 (P:Params):Obj:=⟨(.type "tuple"),none,(.seq ⟨[]⟩ 0),⟨[]⟩⟩
noncomputable def o_25_2 (P:Params):Obj:=⟨(.type "StopIteration"),none,(.fields ⟨[(.ref 24),.none,.none,.none,(.bool false),.none]⟩),⟨[]⟩⟩
noncomputable def T_2 (P:Params):BT:=(.node (boot_o_0 P) (.node (boot_o_1 P) (.node (o_3_2 P) (.node (boot_o_7 P) (.node (o_15_2 P) .nil .nil) (.node (o_23_2 P) .nil .nil)) (.node (o_11_a P) (.node (o_19_2 P) .nil .nil) .nil)) (.node (boot_o_5 P) (.node (boot_o_9 P) (.node (o_17_2 P) .nil .nil) (.node (o_25_2 P) .nil .nil)) (.node (o_13_a P) (.node (o_21_2 P) .nil .nil) .nil))) (.node (boot_o_2 P) (.node (boot_o_4 P) (.node (boot_o_8 P) (.node (o_16_2 P) .nil .nil) (.node (o_24_2 P) .nil .nil)) (.node (o_12_a P) (.node (o_20_2 P) .nil .nil) .nil)) (.node (boot_o_6 P) (.node (boot_o_10 P) (.node (o_18_2 P) .nil .nil) .nil) (.node (o_14_a P) (.node (o_22_2 P) .nil .nil) .nil))))
noncomputable def o_3_3 (P:Params):Obj:=⟨(.type "dict"),none,(.dict ⟨[⟨PyData.keyHash P z3,(.str z3 165),(.str z40 187)⟩,⟨PyData.keyHash P z1,(.str z1 166),.none⟩,⟨PyData.keyHash P z4,(.str z4 167),.none⟩,⟨PyData.keyHash P z5,(.str z5 168),(.builtin "__main__.__loader__#opaque")⟩,⟨PyData.keyHash P z6,(.str z6 169),.none⟩,⟨PyData.keyHash P z7,(.str z7 170),(.ref 6)⟩,⟨PyData.keyHash P z8,(.str z8 171),(.ref 4)⟩,⟨PyData.keyHash P z9,(.str z9 173),(.str z0 172)⟩,⟨PyData.keyHash P z10,(.str z10 174),.none⟩,⟨PyData.keyHash P z12,(.str z12 248),(.ref 22)⟩,⟨PyData.keyHash P z2,(.str z2 255),(.ref 32)⟩]⟩ 11),⟨[]⟩⟩
noncomputable def o_12_3 (P:Params):Obj:=⟨.none,none,(.fields ⟨[(.int (.ofNat 3) 0),(.int (.ofNat 0) 0),(.ref 31)]⟩),⟨[]⟩⟩
noncomputable def o_26_3 (P:Params):Obj:=⟨(.type "tuple"),none,(.seq ⟨[]⟩ 0),⟨[]⟩⟩
noncomputable def o_27_3 (P:Params):Obj:=⟨.none,none,(.fields ⟨[]⟩),⟨[]⟩⟩
noncomputable def o_28_3 (P:Params):Obj:=⟨(.type "tuple"),none,(.seq ⟨[(.str z58 252)]⟩ 0),⟨[]⟩⟩
noncomputable def o_29_3 (P:Params):Obj:=⟨(.type "tuple"),none,(.seq ⟨[]⟩ 0),⟨[]⟩⟩
noncomputable def o_30_3 (P:Params):Obj:=⟨.none,none,(.func ⟨z2,z2,sParams (stm 2),.stmts (sBody (stm 2)),sScope (stm 2),0,[],.none,.none,.none,.none,none,.none,.none,0⟩),⟨[]⟩⟩
noncomputable def o_31_3 (P:Params):Obj:=⟨(.type "code"),none,(.fields ⟨[(.str z2 249),(.str z2 250),(.str z0 251),(.int (.ofNat 3) 0),(.int (.ofNat 1) 0),(.int (.ofNat 0) 0),(.int (.ofNat 0) 0),(.int (.ofNat 3) 0),(.ref 26),(.bool true),(.int (.ofNat 181) 0),(.ref 27),.none,(.ref 28),(.ref 29),(.ref 30),(.int (.ofNat 253) 0),(.int (.ofNat 3) 0),(.str z0 254)]⟩),⟨[]⟩⟩
noncomputable def o_32_3 (P:Params):Obj:=⟨(.type "function"),none,(.func ⟨z2,z2,sParams (stm 2),.stmts (sBody (stm 2)),sScope (stm 2),3,[],.none,.none,.none,(.str z40 187),none,(.ref 31),.none,0⟩),⟨[]⟩⟩
noncomputable def T_3 (P:Params):BT:=(.node (boot_o_0 P) (.node (boot_o_1 P) (.node (o_3_3 P) (.node (boot_o_7 P) (.node (o_15_2 P) (.node (o_31_3 P) .nil .nil) .nil) (.node (o_23_2 P) .nil .nil)) (.node (o_11_a P) (.node (o_19_2 P) .nil .nil) (.node (o_27_3 P) .nil .nil))) (.node (boot_o_5 P) (.node (boot_o_9 P) (.node (o_17_2 P) .nil .nil) (.node (o_25_2 P) .nil .nil)) (.node (o_13_a P) (.node (o_21_2 P) .nil .nil) (.node (o_29_3 P) .nil .nil)))) (.node (boot_o_2 P) (.node (boot_o_4 P) (.node (boot_o_8 P) (.node (o_16_2 P) (.node (o_32_3 P) .nil .nil) .nil) (.node (o_24_2 P) .nil .nil)) (.node (o_12_3 P) (.node (o_20_2 P) .nil .nil) (.node (o_28_3 P) .nil .nil))) (.node (boot_o_6 P) (.node (boot_o_10 P) (.node (o_18_2 P) .nil .nil) (.node (o_26_3 P) .nil .nil)) (.node (o_14_a P) (.node (o_22_2 P) .nil .nil) (.node (o_30_3 P) .nil .nil)))))
noncomputable def o_3_4 (P:Params):Obj:=⟨(.type "dict"),none,(.dict ⟨[⟨PyData.keyHash P z3,(.str z3 165),(.str z40 187)⟩,⟨PyData.keyHash P z1,(.str z1 166),.none⟩,⟨PyData.keyHash P z4,(.str z4 167),.none⟩,⟨PyData.keyHash P z5,(.str z5 168),(.builtin "__main__.__loader__#opaque")⟩,⟨PyData.keyHash P z6,(.str z6 169),.none⟩,⟨PyData.keyHash P z7,(.str z7 170),(.ref 6)⟩,⟨PyData.keyHash P z8,(.str z8 171),(.ref 4)⟩,⟨PyData.keyHash P z9,(.str z9 173),(.str z0 172)⟩,⟨PyData.keyHash P z10,(.str z10 174),.none⟩,⟨PyData.keyHash P z12,(.str z12 248),(.ref 22)⟩,⟨PyData.keyHash P z2,(.str z2 255),(.ref 32)⟩,⟨PyData.keyHash P z23,(.str z23 2206),(.ref 33)⟩]⟩ 12),⟨[]⟩⟩
noncomputable def T_d (P:Params):BT:=insAll (T_3 P) 33 (mainD :: subsD)
noncomputable def T_4 (P:Params):BT:=(T_d P).set 3 (fun _=>o_3_4 P)
noncomputable def o_3_5 (P:Params):Obj:=⟨(.type "dict"),none,(.dict ⟨[⟨PyData.keyHash P z3,(.str z3 165),(.str z24 2297)⟩,⟨PyData.keyHash P z1,(.str z1 166),.none⟩,⟨PyData.keyHash P z4,(.str z4 167),.none⟩,⟨PyData.keyHash P z5,(.str z5 168),(.builtin "__main__.__loader__#opaque")⟩,⟨PyData.keyHash P z6,(.str z6 169),.none⟩,⟨PyData.keyHash P z7,(.str z7 170),(.ref 6)⟩,⟨PyData.keyHash P z8,(.str z8 171),(.ref 4)⟩,⟨PyData.keyHash P z9,(.str z9 173),(.str z0 172)⟩,⟨PyData.keyHash P z10,(.str z10 174),.none⟩,⟨PyData.keyHash P z12,(.str z12 248),(.ref 22)⟩,⟨PyData.keyHash P z2,(.str z2 255),(.ref 32)⟩,⟨PyData.keyHash P z23,(.str z23 2206),(.ref 33)⟩,⟨PyData.keyHash P z13,(.str z13 2214),(.ref 78)⟩,⟨PyData.keyHash P z41,(.str z41 2218),(.int (.ofNat 4000) 2217)⟩,⟨PyData.keyHash P z14,(.str z14 2235),(.ref 85)⟩,⟨PyData.keyHash P z15,(.str z15 2249),(.ref 92)⟩,⟨PyData.keyHash P z16,(.str z16 2260),(.ref 99)⟩,⟨PyData.keyHash P z17,(.str z17 2271),(.ref 106)⟩,⟨PyData.keyHash P z18,(.str z18 2286),(.ref 113)⟩,⟨PyData.keyHash P z19,(.str z19 2296),(.ref 120)⟩]⟩ 20),⟨[]⟩⟩
noncomputable def o_12_5 (P:Params):Obj:=⟨.none,none,(.fields ⟨[(.int (.ofNat 3) 0),(.int (.ofNat 0) 0),(.ref 31),(.int (.ofNat 6) 0),(.int (.ofNat 0) 0),(.ref 77),(.int (.ofNat 13) 0),(.int (.ofNat 0) 0),(.ref 84),(.int (.ofNat 29) 0),(.int (.ofNat 0) 0),(.ref 91),(.int (.ofNat 39) 0),(.int (.ofNat 0) 0),(.ref 98),(.int (.ofNat 55) 0),(.int (.ofNat 0) 0),(.ref 105),(.int (.ofNat 64) 0),(.int (.ofNat 0) 0),(.ref 112),(.int (.ofNat 75) 0),(.int (.ofNat 0) 0),(.ref 119)]⟩),⟨[]⟩⟩
noncomputable def o_72_5 (P:Params):Obj:=⟨(.type "tuple"),none,(.seq ⟨[]⟩ 0),⟨[]⟩⟩
noncomputable def o_73_5 (P:Params):Obj:=⟨.none,none,(.fields ⟨[]⟩),⟨[]⟩⟩
noncomputable def o_74_5 (P:Params):Obj:=⟨(.type "tuple"),none,(.seq ⟨[(.str z58 2210),(.str ⟨⟨[114]⟩⟩ 2211)]⟩ 0),⟨[]⟩⟩
noncomputable def o_75_5 (P:Params):Obj:=⟨(.type "tuple"),none,(.seq ⟨[]⟩ 0),⟨[]⟩⟩
noncomputable def o_76_5 (P:Params):Obj:=⟨.none,none,(.func ⟨z13,z13,sParams (stm 4),.stmts (sBody (stm 4)),sScope (stm 4),0,[],.none,.none,.none,.none,none,.none,.none,0⟩),⟨[]⟩⟩
noncomputable def o_77_5 (P:Params):Obj:=⟨(.type "code"),none,(.fields ⟨[(.str z13 2207),(.str z13 2208),(.str z0 2209),(.int (.ofNat 6) 0),(.int (.ofNat 1) 0),(.int (.ofNat 0) 0),(.int (.ofNat 0) 0),(.int (.ofNat 3) 0),(.ref 72),(.bool true),(.int (.ofNat 181) 0),(.ref 73),.none,(.ref 74),(.ref 75),(.ref 76),(.int (.ofNat 2212) 0),(.int (.ofNat 6) 0),(.str z0 2213)]⟩),⟨[]⟩⟩
noncomputable def o_78_5 (P:Params):Obj:=⟨(.type "function"),none,(.func ⟨z13,z13,sParams (stm 4),.stmts (sBody (stm 4)),sScope (stm 4),3,[],.none,.none,.none,(.str z40 187),none,(.ref 77),.none,0⟩),⟨[]⟩⟩
noncomputable def o_79_5 (P:Params):Obj:=⟨(.type "tuple"),none,(.seq ⟨[]⟩ 0),⟨[]⟩⟩
noncomputable def o_80_5 (P:Params):Obj:=⟨.none,none,(.fields ⟨[]⟩),⟨[]⟩⟩
noncomputable def o_81_5 (P:Params):Obj:=⟨(.type "tuple"),none,(.seq ⟨[(.str ⟨⟨[97]⟩⟩ 2222),(.str ⟨⟨[98]⟩⟩ 2223),(.str ⟨⟨[110]⟩⟩ 2224),(.str ⟨⟨[112,97,100]⟩⟩ 2225),(.str ⟨⟨[104,97,108,102,95,110]⟩⟩ 2226),(.str ⟨⟨[109,97,115,107]⟩⟩ 2227),(.str ⟨⟨[98,49]⟩⟩ 2228),(.str ⟨⟨[98,50]⟩⟩ 2229),(.str ⟨⟨[113,49]⟩⟩ 2230),(.str ⟨⟨[114]⟩⟩ 2231),(.str ⟨⟨[113,50]⟩⟩ 2232)]⟩ 0),⟨[]⟩⟩
noncomputable def o_82_5 (P:Params):Obj:=⟨(.type "tuple"),none,(.seq ⟨[]⟩ 0),⟨[]⟩⟩
noncomputable def o_83_5 (P:Params):Obj:=⟨.none,none,(.func ⟨z14,z14,sParams (stm 7),.stmts (sBody (stm 7)),sScope (stm 7),0,[],.none,.none,.none,.none,none,.none,.none,0⟩),⟨[]⟩⟩
noncomputable def o_84_5 (P:Params):Obj:=⟨(.type "code"),none,(.fields ⟨[(.str z14 2219),(.str z14 2220),(.str z0 2221),(.int (.ofNat 13) 0),(.int (.ofNat 3) 0),(.int (.ofNat 0) 0),(.int (.ofNat 0) 0),(.int (.ofNat 3) 0),(.ref 79),(.bool true),(.int (.ofNat 181) 0),(.ref 80),.none,(.ref 81),(.ref 82),(.ref 83),(.int (.ofNat 2233) 0),(.int (.ofNat 13) 0),(.str z0 2234)]⟩),⟨[]⟩⟩
noncomputable def o_85_5 (P:Params):Obj:=⟨(.type "function"),none,(.func ⟨z14,z14,sParams (stm 7),.stmts (sBody (stm 7)),sScope (stm 7),3,[],.none,.none,.none,(.str z42 2215),none,(.ref 84),.none,0⟩),⟨[]⟩⟩
noncomputable def o_86_5 (P:Params):Obj:=⟨(.type "tuple"),none,(.seq ⟨[]⟩ 0),⟨[]⟩⟩
noncomputable def o_87_5 (P:Params):Obj:=⟨.none,none,(.fields ⟨[]⟩),⟨[]⟩⟩
noncomputable def o_88_5 (P:Params):Obj:=⟨(.type "tuple"),none,(.seq ⟨[(.str ⟨⟨[97,49,50]⟩⟩ 2239),(.str ⟨⟨[97,51]⟩⟩ 2240),(.str ⟨⟨[98]⟩⟩ 2241),(.str ⟨⟨[98,49]⟩⟩ 2242),(.str ⟨⟨[98,50]⟩⟩ 2243),(.str ⟨⟨[110]⟩⟩ 2244),(.str ⟨⟨[113]⟩⟩ 2245),(.str ⟨⟨[114]⟩⟩ 2246)]⟩ 0),⟨[]⟩⟩
noncomputable def o_89_5 (P:Params):Obj:=⟨(.type "tuple"),none,(.seq ⟨[]⟩ 0),⟨[]⟩⟩
noncomputable def o_90_5 (P:Params):Obj:=⟨.none,none,(.func ⟨z15,z15,sParams (stm 8),.stmts (sBody (stm 8)),sScope (stm 8),0,[],.none,.none,.none,.none,none,.none,.none,0⟩),⟨[]⟩⟩
noncomputable def o_91_5 (P:Params):Obj:=⟨(.type "code"),none,(.fields ⟨[(.str z15 2236),(.str z15 2237),(.str z0 2238),(.int (.ofNat 29) 0),(.int (.ofNat 6) 0),(.int (.ofNat 0) 0),(.int (.ofNat 0) 0),(.int (.ofNat 3) 0),(.ref 86),(.bool true),(.int (.ofNat 181) 0),(.ref 87),.none,(.ref 88),(.ref 89),(.ref 90),(.int (.ofNat 2247) 0),(.int (.ofNat 29) 0),(.str z0 2248)]⟩),⟨[]⟩⟩
noncomputable def o_92_5 (P:Params):Obj:=⟨(.type "function"),none,(.func ⟨z15,z15,sParams (stm 8),.stmts (sBody (stm 8)),sScope (stm 8),3,[],.none,.none,.none,(.str z42 2215),none,(.ref 91),.none,0⟩),⟨[]⟩⟩
noncomputable def o_93_5 (P:Params):Obj:=⟨(.type "tuple"),none,(.seq ⟨[]⟩ 0),⟨[]⟩⟩
noncomputable def o_94_5 (P:Params):Obj:=⟨.none,none,(.fields ⟨[]⟩),⟨[]⟩⟩
noncomputable def o_95_5 (P:Params):Obj:=⟨(.type "tuple"),none,(.seq ⟨[(.str ⟨⟨[97]⟩⟩ 2253),(.str ⟨⟨[110]⟩⟩ 2254)]⟩ 0),⟨[]⟩⟩
noncomputable def o_96_5 (P:Params):Obj:=⟨(.type "tuple"),none,(.seq ⟨[(.str ⟨⟨[110]⟩⟩ 2255),(.str z61 2256),(.str z62 2257)]⟩ 0),⟨[]⟩⟩
noncomputable def o_97_5 (P:Params):Obj:=⟨.none,none,(.func ⟨z16,z16,sParams (stm 9),.stmts (sBody (stm 9)),sScope (stm 9),0,[],.none,.none,.none,.none,none,.none,.none,0⟩),⟨[]⟩⟩
noncomputable def o_98_5 (P:Params):Obj:=⟨(.type "code"),none,(.fields ⟨[(.str z16 2250),(.str z16 2251),(.str z0 2252),(.int (.ofNat 39) 0),(.int (.ofNat 2) 0),(.int (.ofNat 0) 0),(.int (.ofNat 0) 0),(.int (.ofNat 3) 0),(.ref 93),(.bool true),(.int (.ofNat 181) 0),(.ref 94),.none,(.ref 95),(.ref 96),(.ref 97),(.int (.ofNat 2258) 0),(.int (.ofNat 39) 0),(.str z0 2259)]⟩),⟨[]⟩⟩
noncomputable def o_99_5 (P:Params):Obj:=⟨(.type "function"),none,(.func ⟨z16,z16,sParams (stm 9),.stmts (sBody (stm 9)),sScope (stm 9),3,[],.none,.none,.none,(.str z42 2215),none,(.ref 98),.none,0⟩),⟨[]⟩⟩
noncomputable def o_100_5 (P:Params):Obj:=⟨(.type "tuple"),none,(.seq ⟨[]⟩ 0),⟨[]⟩⟩
noncomputable def o_101_5 (P:Params):Obj:=⟨.none,none,(.fields ⟨[]⟩),⟨[]⟩⟩
noncomputable def o_102_5 (P:Params):Obj:=⟨(.type "tuple"),none,(.seq ⟨[(.str z63 2264),(.str ⟨⟨[110]⟩⟩ 2265)]⟩ 0),⟨[]⟩⟩
noncomputable def o_103_5 (P:Params):Obj:=⟨(.type "tuple"),none,(.seq ⟨[(.str z63 2266),(.str ⟨⟨[110]⟩⟩ 2267),(.str z62 2268)]⟩ 0),⟨[]⟩⟩
noncomputable def o_104_5 (P:Params):Obj:=⟨.none,none,(.func ⟨z17,z17,sParams (stm 10),.stmts (sBody (stm 10)),sScope (stm 10),0,[],.none,.none,.none,.none,none,.none,.none,0⟩),⟨[]⟩⟩
noncomputable def o_105_5 (P:Params):Obj:=⟨(.type "code"),none,(.fields ⟨[(.str z17 2261),(.str z17 2262),(.str z0 2263),(.int (.ofNat 55) 0),(.int (.ofNat 2) 0),(.int (.ofNat 0) 0),(.int (.ofNat 0) 0),(.int (.ofNat 3) 0),(.ref 100),(.bool true),(.int (.ofNat 181) 0),(.ref 101),.none,(.ref 102),(.ref 103),(.ref 104),(.int (.ofNat 2269) 0),(.int (.ofNat 55) 0),(.str z0 2270)]⟩),⟨[]⟩⟩
noncomputable def o_106_5 (P:Params):Obj:=⟨(.type "function"),none,(.func ⟨z17,z17,sParams (stm 10),.stmts (sBody (stm 10)),sScope (stm 10),3,[],.none,.none,.none,(.str z42 2215),none,(.ref 105),.none,0⟩),⟨[]⟩⟩
noncomputable def o_107_5 (P:Params):Obj:=⟨(.type "tuple"),none,(.seq ⟨[]⟩ 0),⟨[]⟩⟩
noncomputable def o_108_5 (P:Params):Obj:=⟨.none,none,(.fields ⟨[]⟩),⟨[]⟩⟩
noncomputable def o_109_5 (P:Params):Obj:=⟨(.type "tuple"),none,(.seq ⟨[(.str ⟨⟨[97]⟩⟩ 2275),(.str ⟨⟨[98]⟩⟩ 2276),(.str ⟨⟨[110]⟩⟩ 2277),(.str z61 2278),(.str ⟨⟨[114]⟩⟩ 2279),(.str ⟨⟨[113,95,100,105,103,105,116,115]⟩⟩ 2280),(.str ⟨⟨[97,95,100,105,103,105,116]⟩⟩ 2281),(.str ⟨⟨[113,95,100,105,103,105,116]⟩⟩ 2282),(.str ⟨⟨[113]⟩⟩ 2283)]⟩ 0),⟨[]⟩⟩
noncomputable def o_110_5 (P:Params):Obj:=⟨(.type "tuple"),none,(.seq ⟨[]⟩ 0),⟨[]⟩⟩
noncomputable def o_111_5 (P:Params):Obj:=⟨.none,none,(.func ⟨z18,z18,sParams (stm 11),.stmts (sBody (stm 11)),sScope (stm 11),0,[],.none,.none,.none,.none,none,.none,.none,0⟩),⟨[]⟩⟩
noncomputable def o_112_5 (P:Params):Obj:=⟨(.type "code"),none,(.fields ⟨[(.str z18 2272),(.str z18 2273),(.str z0 2274),(.int (.ofNat 64) 0),(.int (.ofNat 2) 0),(.int (.ofNat 0) 0),(.int (.ofNat 0) 0),(.int (.ofNat 3) 0),(.ref 107),(.bool true),(.int (.ofNat 181) 0),(.ref 108),.none,(.ref 109),(.ref 110),(.ref 111),(.int (.ofNat 2284) 0),(.int (.ofNat 64) 0),(.str z0 2285)]⟩),⟨[]⟩⟩
noncomputable def o_113_5 (P:Params):Obj:=⟨(.type "function"),none,(.func ⟨z18,z18,sParams (stm 11),.stmts (sBody (stm 11)),sScope (stm 11),3,[],.none,.none,.none,(.str z42 2215),none,(.ref 112),.none,0⟩),⟨[]⟩⟩
noncomputable def o_114_5 (P:Params):Obj:=⟨(.type "tuple"),none,(.seq ⟨[]⟩ 0),⟨[]⟩⟩
noncomputable def o_115_5 (P:Params):Obj:=⟨.none,none,(.fields ⟨[]⟩),⟨[]⟩⟩
noncomputable def o_116_5 (P:Params):Obj:=⟨(.type "tuple"),none,(.seq ⟨[(.str ⟨⟨[97]⟩⟩ 2290),(.str ⟨⟨[98]⟩⟩ 2291),(.str ⟨⟨[113]⟩⟩ 2292),(.str ⟨⟨[114]⟩⟩ 2293)]⟩ 0),⟨[]⟩⟩
noncomputable def o_117_5 (P:Params):Obj:=⟨(.type "tuple"),none,(.seq ⟨[]⟩ 0),⟨[]⟩⟩
noncomputable def o_118_5 (P:Params):Obj:=⟨.none,none,(.func ⟨z19,z19,sParams (stm 12),.stmts (sBody (stm 12)),sScope (stm 12),0,[],.none,.none,.none,.none,none,.none,.none,0⟩),⟨[]⟩⟩
noncomputable def o_119_5 (P:Params):Obj:=⟨(.type "code"),none,(.fields ⟨[(.str z19 2287),(.str z19 2288),(.str z0 2289),(.int (.ofNat 75) 0),(.int (.ofNat 2) 0),(.int (.ofNat 0) 0),(.int (.ofNat 0) 0),(.int (.ofNat 3) 0),(.ref 114),(.bool true),(.int (.ofNat 181) 0),(.ref 115),.none,(.ref 116),(.ref 117),(.ref 118),(.int (.ofNat 2294) 0),(.int (.ofNat 75) 0),(.str z0 2295)]⟩),⟨[]⟩⟩
noncomputable def o_120_5 (P:Params):Obj:=⟨(.type "function"),none,(.func ⟨z19,z19,sParams (stm 12),.stmts (sBody (stm 12)),sScope (stm 12),3,[],.none,.none,.none,(.str z42 2215),none,(.ref 119),.none,0⟩),⟨[]⟩⟩
noncomputable def T_5 (P:Params):BT:=(.node (boot_o_0 P) (.node (boot_o_1 P) (.node (o_3_5 P) (.node (boot_o_7 P) (.node (o_15_2 P) (.node (o_31_3 P) (.node (subD 29) .nil .nil) (.node (o_95_5 P) .nil .nil)) (.node (subD 13) (.node (o_79_5 P) .nil .nil) (.node (o_111_5 P) .nil .nil))) (.node (o_23_2 P) (.node (subD 5) (.node (subD 37) .nil .nil) (.node (o_103_5 P) .nil .nil)) (.node (subD 21) (.node (o_87_5 P) .nil .nil) (.node (o_119_5 P) .nil .nil)))) (.node (o_11_a P) (.node (o_19_2 P) (.node (subD 1) (.node (subD 33) .nil .nil) (.node (o_99_5 P) .nil .nil)) (.node (subD 17) (.node (o_83_5 P) .nil .nil) (.node (o_115_5 P) .nil .nil))) (.node (o_27_3 P) (.node (subD 9) (.node (o_75_5 P) .nil .nil) (.node (o_107_5 P) .nil .nil)) (.node (subD 25) (.node (o_91_5 P) .nil .nil) .nil)))) (.node (boot_o_5 P) (.node (boot_o_9 P) (.node (o_17_2 P) (.node mainD (.node (subD 31) .nil .nil) (.node (o_97_5 P) .nil .nil)) (.node (subD 15) (.node (o_81_5 P) .nil .nil) (.node (o_113_5 P) .nil .nil))) (.node (o_25_2 P) (.node (subD 7) (.node (o_73_5 P) .nil .nil) (.node (o_105_5 P) .nil .nil)) (.node (subD 23) (.node (o_89_5 P) .nil .nil) .nil))) (.node (o_13_a P) (.node (o_21_2 P) (.node (subD 3) (.node (subD 35) .nil .nil) (.node (o_101_5 P) .nil .nil)) (.node (subD 19) (.node (o_85_5 P) .nil .nil) (.node (o_117_5 P) .nil .nil))) (.node (o_29_3 P) (.node (subD 11) (.node (o_77_5 P) .nil .nil) (.node (o_109_5 P) .nil .nil)) (.node (subD 27) (.node (o_93_5 P) .nil .nil) .nil))))) (.node (boot_o_2 P) (.node (boot_o_4 P) (.node (boot_o_8 P) (.node (o_16_2 P) (.node (o_32_3 P) (.node (subD 30) .nil .nil) (.node (o_96_5 P) .nil .nil)) (.node (subD 14) (.node (o_80_5 P) .nil .nil) (.node (o_112_5 P) .nil .nil))) (.node (o_24_2 P) (.node (subD 6) (.node (o_72_5 P) .nil .nil) (.node (o_104_5 P) .nil .nil)) (.node (subD 22) (.node (o_88_5 P) .nil .nil) (.node (o_120_5 P) .nil .nil)))) (.node (o_12_5 P) (.node (o_20_2 P) (.node (subD 2) (.node (subD 34) .nil .nil) (.node (o_100_5 P) .nil .nil)) (.node (subD 18) (.node (o_84_5 P) .nil .nil) (.node (o_116_5 P) .nil .nil))) (.node (o_28_3 P) (.node (subD 10) (.node (o_76_5 P) .nil .nil) (.node (o_108_5 P) .nil .nil)) (.node (subD 26) (.node (o_92_5 P) .nil .nil) .nil)))) (.node (boot_o_6 P) (.node (boot_o_10 P) (.node (o_18_2 P) (.node (subD 0) (.node (subD 32) .nil .nil) (.node (o_98_5 P) .nil .nil)) (.node (subD 16) (.node (o_82_5 P) .nil .nil) (.node (o_114_5 P) .nil .nil))) (.node (o_26_3 P) (.node (subD 8) (.node (o_74_5 P) .nil .nil) (.node (o_106_5 P) .nil .nil)) (.node (subD 24) (.node (o_90_5 P) .nil .nil) .nil))) (.node (o_14_a P) (.node (o_22_2 P) (.node (subD 4) (.node (subD 36) .nil .nil) (.node (o_102_5 P) .nil .nil)) (.node (subD 20) (.node (o_86_5 P) .nil .nil) (.node (o_118_5 P) .nil .nil))) (.node (o_30_3 P) (.node (subD 12) (.node (o_78_5 P) .nil .nil) (.node (o_110_5 P) .nil .nil)) (.node (subD 28) (.node (o_94_5 P) .nil .nil) .nil))))))
noncomputable def o_3_6 (P:Params):Obj:=⟨(.type "dict"),none,(.dict ⟨[⟨PyData.keyHash P z3,(.str z3 165),(.str z11 2357)⟩,⟨PyData.keyHash P z1,(.str z1 166),.none⟩,⟨PyData.keyHash P z4,(.str z4 167),.none⟩,⟨PyData.keyHash P z5,(.str z5 168),(.builtin "__main__.__loader__#opaque")⟩,⟨PyData.keyHash P z6,(.str z6 169),.none⟩,⟨PyData.keyHash P z7,(.str z7 170),(.ref 6)⟩,⟨PyData.keyHash P z8,(.str z8 171),(.ref 4)⟩,⟨PyData.keyHash P z9,(.str z9 173),(.str z0 172)⟩,⟨PyData.keyHash P z10,(.str z10 174),.none⟩,⟨PyData.keyHash P z12,(.str z12 248),(.ref 22)⟩,⟨PyData.keyHash P z2,(.str z2 255),(.ref 32)⟩,⟨PyData.keyHash P z23,(.str z23 2206),(.ref 33)⟩,⟨PyData.keyHash P z13,(.str z13 2214),(.ref 78)⟩,⟨PyData.keyHash P z41,(.str z41 2218),(.int (.ofNat 4000) 2217)⟩,⟨PyData.keyHash P z14,(.str z14 2235),(.ref 85)⟩,⟨PyData.keyHash P z15,(.str z15 2249),(.ref 92)⟩,⟨PyData.keyHash P z16,(.str z16 2260),(.ref 99)⟩,⟨PyData.keyHash P z17,(.str z17 2271),(.ref 106)⟩,⟨PyData.keyHash P z18,(.str z18 2286),(.ref 113)⟩,⟨PyData.keyHash P z19,(.str z19 2296),(.ref 120)⟩,⟨PyData.keyHash P z20,(.str z20 2356),(.ref 158)⟩,⟨PyData.keyHash P z21,(.str z21 2364),(.ref 167)⟩,⟨PyData.keyHash P z22,(.str z22 2372),(.ref 174)⟩]⟩ 23),⟨[]⟩⟩
noncomputable def o_12_6 (P:Params):Obj:=⟨.none,none,(.fields ⟨[(.int (.ofNat 3) 0),(.int (.ofNat 0) 0),(.ref 31),(.int (.ofNat 6) 0),(.int (.ofNat 0) 0),(.ref 77),(.int (.ofNat 13) 0),(.int (.ofNat 0) 0),(.ref 84),(.int (.ofNat 29) 0),(.int (.ofNat 0) 0),(.ref 91),(.int (.ofNat 39) 0),(.int (.ofNat 0) 0),(.ref 98),(.int (.ofNat 55) 0),(.int (.ofNat 0) 0),(.ref 105),(.int (.ofNat 64) 0),(.int (.ofNat 0) 0),(.ref 112),(.int (.ofNat 75) 0),(.int (.ofNat 0) 0),(.ref 119),(.int (.ofNat 87) 0),(.int (.ofNat 0) 0),(.ref 126),(.int (.ofNat 131) 0),(.int (.ofNat 0) 0),(.ref 166),(.int (.ofNat 135) 0),(.int (.ofNat 0) 0),(.ref 173)]⟩),⟨[]⟩⟩
noncomputable def o_121_6 (P:Params):Obj:=⟨(.type "tuple"),none,(.seq ⟨[]⟩ 0),⟨[]⟩⟩
noncomputable def o_122_6 (P:Params):Obj:=⟨(.type "builtin_function_or_method"),none,(.fields ⟨[(.builtin "type.__prepare__"),(.type "type")]⟩),⟨[]⟩⟩
noncomputable def o_123_6 (P:Params):Obj:=⟨(.type "dict"),none,(.dict ⟨[⟨PyData.keyHash P z46,(.str z46 2306),(.str z24 2297)⟩,⟨PyData.keyHash P z64,(.str z64 2308),(.str z20 2307)⟩,⟨PyData.keyHash P z47,(.str z47 2310),(.int (.ofNat 87) 2309)⟩,⟨PyData.keyHash P z36,(.str z36 2318),(.ref 134)⟩,⟨PyData.keyHash P z37,(.str z37 2326),(.ref 141)⟩,⟨PyData.keyHash P z38,(.str z38 2336),(.ref 148)⟩,⟨PyData.keyHash P z39,(.str z39 2344),(.ref 155)⟩,⟨PyData.keyHash P z48,(.str z48 2349),(.ref 156)⟩]⟩ 8),⟨[]⟩⟩
noncomputable def o_124_6 (P:Params):Obj:=⟨(.type "tuple"),none,(.seq ⟨[]⟩ 0),⟨[]⟩⟩
noncomputable def o_125_6 (P:Params):Obj:=⟨.none,none,(.fields ⟨[(.int (.ofNat 89) 0),(.int (.ofNat 4) 0),(.ref 133),(.int (.ofNat 95) 0),(.int (.ofNat 4) 0),(.ref 140),(.int (.ofNat 101) 0),(.int (.ofNat 4) 0),(.ref 147),(.int (.ofNat 128) 0),(.int (.ofNat 4) 0),(.ref 154)]⟩),⟨[]⟩⟩
noncomputable def o_126_6 (P:Params):Obj:=⟨(.type "code"),none,(.fields ⟨[(.str z20 2301),(.str z20 2302),(.str z0 2303),(.int (.ofNat 87) 0),(.int (.ofNat 0) 0),(.int (.ofNat 0) 0),(.int (.ofNat 0) 0),(.int (.ofNat 0) 0),(.ref 124),(.bool false),(.int (.ofNat 181) 0),(.ref 125),.none,.none,.none,.none,(.int (.ofNat 2304) 0),(.int (.ofNat 87) 0),(.str z0 2305)]⟩),⟨[]⟩⟩
noncomputable def o_127_6 (P:Params):Obj:=⟨(.type "frame"),none,.plain,⟨[(some (.ref 126)),(some (.ref 3)),(some (.ref 123)),none,(some (.str z24 2297)),none,(some (.ref 0))]⟩⟩
noncomputable def o_128_6 (P:Params):Obj:=⟨(.type "tuple"),none,(.seq ⟨[]⟩ 0),⟨[]⟩⟩
noncomputable def o_129_6 (P:Params):Obj:=⟨.none,none,(.fields ⟨[]⟩),⟨[]⟩⟩
noncomputable def o_130_6 (P:Params):Obj:=⟨(.type "tuple"),none,(.seq ⟨[(.str z49 2314),(.str ⟨⟨[102,112]⟩⟩ 2315)]⟩ 0),⟨[]⟩⟩
noncomputable def o_131_6 (P:Params):Obj:=⟨(.type "tuple"),none,(.seq ⟨[]⟩ 0),⟨[]⟩⟩
noncomputable def o_132_6 (P:Params):Obj:=⟨.none,none,(.func ⟨z36,z51,sParams (sMeth 14 0),.stmts (sBody (sMeth 14 0)),sScope (sMeth 14 0),0,[],.none,.none,.none,.none,none,.none,.none,0⟩),⟨[]⟩⟩
noncomputable def o_133_6 (P:Params):Obj:=⟨(.type "code"),none,(.fields ⟨[(.str z36 2311),(.str z51 2312),(.str z0 2313),(.int (.ofNat 89) 0),(.int (.ofNat 2) 0),(.int (.ofNat 0) 0),(.int (.ofNat 0) 0),(.int (.ofNat 3) 0),(.ref 128),(.bool true),(.int (.ofNat 181) 0),(.ref 129),.none,(.ref 130),(.ref 131),(.ref 132),(.int (.ofNat 2316) 0),(.int (.ofNat 89) 0),(.str z0 2317)]⟩),⟨[]⟩⟩
noncomputable def o_134_6 (P:Params):Obj:=⟨(.type "function"),none,(.func ⟨z36,z51,sParams (sMeth 14 0),.stmts (sBody (sMeth 14 0)),sScope (sMeth 14 0),3,[],.none,.none,.none,(.str z24 2297),none,(.ref 133),.none,0⟩),⟨[]⟩⟩
noncomputable def o_135_6 (P:Params):Obj:=⟨(.type "tuple"),none,(.seq ⟨[]⟩ 0),⟨[]⟩⟩
noncomputable def o_136_6 (P:Params):Obj:=⟨.none,none,(.fields ⟨[]⟩),⟨[]⟩⟩
noncomputable def o_137_6 (P:Params):Obj:=⟨(.type "tuple"),none,(.seq ⟨[(.str z49 2322),(.str ⟨⟨[99,104]⟩⟩ 2323)]⟩ 0),⟨[]⟩⟩
noncomputable def o_138_6 (P:Params):Obj:=⟨(.type "tuple"),none,(.seq ⟨[]⟩ 0),⟨[]⟩⟩
noncomputable def o_139_6 (P:Params):Obj:=⟨.none,none,(.func ⟨z37,z52,sParams (sMeth 14 1),.stmts (sBody (sMeth 14 1)),sScope (sMeth 14 1),0,[],.none,.none,.none,.none,none,.none,.none,0⟩),⟨[]⟩⟩
noncomputable def o_140_6 (P:Params):Obj:=⟨(.type "code"),none,(.fields ⟨[(.str z37 2319),(.str z52 2320),(.str z0 2321),(.int (.ofNat 95) 0),(.int (.ofNat 1) 0),(.int (.ofNat 0) 0),(.int (.ofNat 0) 0),(.int (.ofNat 3) 0),(.ref 135),(.bool true),(.int (.ofNat 181) 0),(.ref 136),.none,(.ref 137),(.ref 138),(.ref 139),(.int (.ofNat 2324) 0),(.int (.ofNat 95) 0),(.str z0 2325)]⟩),⟨[]⟩⟩
noncomputable def o_141_6 (P:Params):Obj:=⟨(.type "function"),none,(.func ⟨z37,z52,sParams (sMeth 14 1),.stmts (sBody (sMeth 14 1)),sScope (sMeth 14 1),3,[],.none,.none,.none,(.str z24 2297),none,(.ref 140),.none,0⟩),⟨[]⟩⟩
noncomputable def o_142_6 (P:Params):Obj:=⟨(.type "tuple"),none,(.seq ⟨[]⟩ 0),⟨[]⟩⟩
noncomputable def o_143_6 (P:Params):Obj:=⟨.none,none,(.fields ⟨[]⟩),⟨[]⟩⟩
noncomputable def o_144_6 (P:Params):Obj:=⟨(.type "tuple"),none,(.seq ⟨[(.str z49 2330),(.str z66 2331),(.str ⟨⟨[102,105,116,101,114]⟩⟩ 2332),(.str ⟨⟨[99,104]⟩⟩ 2333)]⟩ 0),⟨[]⟩⟩
noncomputable def o_145_6 (P:Params):Obj:=⟨(.type "tuple"),none,(.seq ⟨[]⟩ 0),⟨[]⟩⟩
noncomputable def o_146_6 (P:Params):Obj:=⟨.none,none,(.func ⟨z38,z53,sParams (sMeth 14 2),.stmts (sBody (sMeth 14 2)),sScope (sMeth 14 2),0,[],.none,.none,.none,.none,none,.none,.none,0⟩),⟨[]⟩⟩
noncomputable def o_147_6 (P:Params):Obj:=⟨(.type "code"),none,(.fields ⟨[(.str z38 2327),(.str z53 2328),(.str z0 2329),(.int (.ofNat 101) 0),(.int (.ofNat 1) 0),(.int (.ofNat 0) 0),(.int (.ofNat 0) 0),(.int (.ofNat 3) 0),(.ref 142),(.bool true),(.int (.ofNat 181) 0),(.ref 143),.none,(.ref 144),(.ref 145),(.ref 146),(.int (.ofNat 2334) 0),(.int (.ofNat 101) 0),(.str z0 2335)]⟩),⟨[]⟩⟩
noncomputable def o_148_6 (P:Params):Obj:=⟨(.type "function"),none,(.func ⟨z38,z53,sParams (sMeth 14 2),.stmts (sBody (sMeth 14 2)),sScope (sMeth 14 2),3,[],.none,.none,.none,(.str z24 2297),none,(.ref 147),.none,0⟩),⟨[]⟩⟩
noncomputable def o_149_6 (P:Params):Obj:=⟨(.type "tuple"),none,(.seq ⟨[]⟩ 0),⟨[]⟩⟩
noncomputable def o_150_6 (P:Params):Obj:=⟨.none,none,(.fields ⟨[]⟩),⟨[]⟩⟩
noncomputable def o_151_6 (P:Params):Obj:=⟨(.type "tuple"),none,(.seq ⟨[(.str z49 2340),(.str z66 2341)]⟩ 0),⟨[]⟩⟩
noncomputable def o_152_6 (P:Params):Obj:=⟨(.type "tuple"),none,(.seq ⟨[]⟩ 0),⟨[]⟩⟩
noncomputable def o_153_6 (P:Params):Obj:=⟨.none,none,(.func ⟨z39,z54,sParams (sMeth 14 3),.stmts (sBody (sMeth 14 3)),sScope (sMeth 14 3),0,[],.none,.none,.none,.none,none,.none,.none,0⟩),⟨[]⟩⟩
noncomputable def o_154_6 (P:Params):Obj:=⟨(.type "code"),none,(.fields ⟨[(.str z39 2337),(.str z54 2338),(.str z0 2339),(.int (.ofNat 128) 0),(.int (.ofNat 2) 0),(.int (.ofNat 0) 0),(.int (.ofNat 0) 0),(.int (.ofNat 3) 0),(.ref 149),(.bool true),(.int (.ofNat 181) 0),(.ref 150),.none,(.ref 151),(.ref 152),(.ref 153),(.int (.ofNat 2342) 0),(.int (.ofNat 128) 0),(.str z0 2343)]⟩),⟨[]⟩⟩
noncomputable def o_155_6 (P:Params):Obj:=⟨(.type "function"),none,(.func ⟨z39,z54,sParams (sMeth 14 3),.stmts (sBody (sMeth 14 3)),sScope (sMeth 14 3),3,[],.none,.none,.none,(.str z24 2297),none,(.ref 154),.none,0⟩),⟨[]⟩⟩
noncomputable def o_156_6 (P:Params):Obj:=⟨(.type "tuple"),none,(.seq ⟨[(.str ⟨⟨[105,110,115,116,114,101,97,109]⟩⟩ 2345),(.str ⟨⟨[108,105,110,101,110,111]⟩⟩ 2346),(.str ⟨⟨[112,117,115,104,98,97,99,107]⟩⟩ 2347),(.str ⟨⟨[119,104,105,116,101,115,112,97,99,101]⟩⟩ 2348)]⟩ 0),⟨[]⟩⟩
noncomputable def o_157_6 (P:Params):Obj:=⟨(.type "dict"),none,(.dict ⟨[⟨PyData.keyHash P z46,(.str z46 2306),(.str z24 2297)⟩,⟨PyData.keyHash P z47,(.str z47 2310),(.int (.ofNat 87) 2309)⟩,⟨PyData.keyHash P z36,(.str z36 2318),(.ref 134)⟩,⟨PyData.keyHash P z37,(.str z37 2326),(.ref 141)⟩,⟨PyData.keyHash P z38,(.str z38 2336),(.ref 148)⟩,⟨PyData.keyHash P z39,(.str z39 2344),(.ref 155)⟩,⟨PyData.keyHash P z48,(.str z48 2349),(.ref 156)⟩,⟨PyData.keyHash P z55,(.str z55 2351),(.ref 159)⟩,⟨PyData.keyHash P z56,(.str z56 2353),(.ref 160)⟩,⟨PyData.keyHash P z1,(.str z1 2354),.none⟩]⟩ 4),⟨[]⟩⟩
noncomputable def o_158_6 (P:Params):Obj:=⟨(.type "type"),none,(.cls ⟨z20,[(.type "object")],[(.ref 158),(.type "object")],157,z20,true,[],[],false,none,false⟩),⟨[none,none,(some (.str z20 2299)),(some (.str z20 2307)),(some (.builtin "object.__new__")),(some (.bool true))]⟩⟩
noncomputable def o_159_6 (P:Params):Obj:=⟨(.type "getset_descriptor"),none,(.fields ⟨[(.str z55 2350),(.ref 158),(.builtin "function.__dict__"),(.builtin "function.__dict__#set")]⟩),⟨[]⟩⟩
noncomputable def o_160_6 (P:Params):Obj:=⟨(.type "getset_descriptor"),none,(.fields ⟨[(.str z56 2352),(.ref 158),(.builtin "ExceptionGroup.__weakref__"),.none]⟩),⟨[]⟩⟩
noncomputable def o_161_6 (P:Params):Obj:=⟨(.type "super"),none,(.fields ⟨[(.ref 158),(.ref 158),(.ref 158)]⟩),⟨[]⟩⟩
noncomputable def o_162_6 (P:Params):Obj:=⟨(.type "builtin_function_or_method"),none,(.fields ⟨[(.builtin "object.__init_subclass__"),(.ref 158)]⟩),⟨[]⟩⟩
noncomputable def o_163_6 (P:Params):Obj:=⟨(.type "tuple"),none,(.seq ⟨[]⟩ 0),⟨[]⟩⟩
noncomputable def o_164_6 (P:Params):Obj:=⟨.none,none,(.fields ⟨[]⟩),⟨[]⟩⟩
noncomputable def o_165_6 (P:Params):Obj:=⟨.none,none,(.func ⟨z21,z21,sParams (stm 16),.stmts (sBody (stm 16)),sScope (stm 16),0,[],.none,.none,.none,.none,none,.none,.none,0⟩),⟨[]⟩⟩
noncomputable def o_166_6 (P:Params):Obj:=⟨(.type "code"),none,(.fields ⟨[(.str z21 2359),(.str z21 2360),(.str z0 2361),(.int (.ofNat 131) 0),(.int (.ofNat 3) 0),(.int (.ofNat 0) 0),(.int (.ofNat 0) 0),(.int (.ofNat 3) 0),(.ref 163),(.bool true),(.int (.ofNat 181) 0),(.ref 164),.none,.none,.none,(.ref 165),(.int (.ofNat 2362) 0),(.int (.ofNat 131) 0),(.str z0 2363)]⟩),⟨[]⟩⟩
noncomputable def o_167_6 (P:Params):Obj:=⟨(.type "function"),none,(.func ⟨z21,z21,sParams (stm 16),.stmts (sBody (stm 16)),sScope (stm 16),3,[],.none,.none,.none,(.str z11 2357),none,(.ref 166),.none,0⟩),⟨[]⟩⟩
noncomputable def o_168_6 (P:Params):Obj:=⟨(.type "tuple"),none,(.seq ⟨[]⟩ 0),⟨[]⟩⟩
noncomputable def o_169_6 (P:Params):Obj:=⟨.none,none,(.fields ⟨[]⟩),⟨[]⟩⟩
noncomputable def o_170_6 (P:Params):Obj:=⟨(.type "tuple"),none,(.seq ⟨[(.str ⟨⟨[114,105,110,103]⟩⟩ 2368),(.str ⟨⟨[112,108,97,99,101,115]⟩⟩ 2369)]⟩ 0),⟨[]⟩⟩
noncomputable def o_171_6 (P:Params):Obj:=⟨(.type "tuple"),none,(.seq ⟨[]⟩ 0),⟨[]⟩⟩
noncomputable def o_172_6 (P:Params):Obj:=⟨.none,none,(.func ⟨z22,z22,sParams (stm 17),.stmts (sBody (stm 17)),sScope (stm 17),0,[],.none,.none,.none,.none,none,.none,.none,0⟩),⟨[]⟩⟩
noncomputable def o_173_6 (P:Params):Obj:=⟨(.type "code"),none,(.fields ⟨[(.str z22 2365),(.str z22 2366),(.str z0 2367),(.int (.ofNat 135) 0),(.int (.ofNat 2) 0),(.int (.ofNat 0) 0),(.int (.ofNat 0) 0),(.int (.ofNat 3) 0),(.ref 168),(.bool true),(.int (.ofNat 181) 0),(.ref 169),.none,(.ref 170),(.ref 171),(.ref 172),(.int (.ofNat 2370) 0),(.int (.ofNat 135) 0),(.str z0 2371)]⟩),⟨[]⟩⟩
noncomputable def o_174_6 (P:Params):Obj:=⟨(.type "function"),none,(.func ⟨z22,z22,sParams (stm 17),.stmts (sBody (stm 17)),sScope (stm 17),3,[],.none,.none,.none,(.str z11 2357),none,(.ref 173),.none,0⟩),⟨[]⟩⟩
noncomputable def T_6 (P:Params):BT:=(.node (boot_o_0 P) (.node (boot_o_1 P) (.node (o_3_6 P) (.node (boot_o_7 P) (.node (o_15_2 P) (.node (o_31_3 P) (.node (subD 29) (.node (o_127_6 P) .nil .nil) .nil) (.node (o_95_5 P) (.node (o_159_6 P) .nil .nil) .nil)) (.node (subD 13) (.node (o_79_5 P) (.node (o_143_6 P) .nil .nil) .nil) (.node (o_111_5 P) .nil .nil))) (.node (o_23_2 P) (.node (subD 5) (.node (subD 37) (.node (o_135_6 P) .nil .nil) .nil) (.node (o_103_5 P) (.node (o_167_6 P) .nil .nil) .nil)) (.node (subD 21) (.node (o_87_5 P) (.node (o_151_6 P) .nil .nil) .nil) (.node (o_119_5 P) .nil .nil)))) (.node (o_11_a P) (.node (o_19_2 P) (.node (subD 1) (.node (subD 33) (.node (o_131_6 P) .nil .nil) .nil) (.node (o_99_5 P) (.node (o_163_6 P) .nil .nil) .nil)) (.node (subD 17) (.node (o_83_5 P) (.node (o_147_6 P) .nil .nil) .nil) (.node (o_115_5 P) .nil .nil))) (.node (o_27_3 P) (.node (subD 9) (.node (o_75_5 P) (.node (o_139_6 P) .nil .nil) .nil) (.node (o_107_5 P) (.node (o_171_6 P) .nil .nil) .nil)) (.node (subD 25) (.node (o_91_5 P) (.node (o_155_6 P) .nil .nil) .nil) (.node (o_123_6 P) .nil .nil))))) (.node (boot_o_5 P) (.node (boot_o_9 P) (.node (o_17_2 P) (.node mainD (.node (subD 31) (.node (o_129_6 P) .nil .nil) .nil) (.node (o_97_5 P) (.node (o_161_6 P) .nil .nil) .nil)) (.node (subD 15) (.node (o_81_5 P) (.node (o_145_6 P) .nil .nil) .nil) (.node (o_113_5 P) .nil .nil))) (.node (o_25_2 P) (.node (subD 7) (.node (o_73_5 P) (.node (o_137_6 P) .nil .nil) .nil) (.node (o_105_5 P) (.node (o_169_6 P) .nil .nil) .nil)) (.node (subD 23) (.node (o_89_5 P) (.node (o_153_6 P) .nil .nil) .nil) (.node (o_121_6 P) .nil .nil)))) (.node (o_13_a P) (.node (o_21_2 P) (.node (subD 3) (.node (subD 35) (.node (o_133_6 P) .nil .nil) .nil) (.node (o_101_5 P) (.node (o_165_6 P) .nil .nil) .nil)) (.node (subD 19) (.node (o_85_5 P) (.node (o_149_6 P) .nil .nil) .nil) (.node (o_117_5 P) .nil .nil))) (.node (o_29_3 P) (.node (subD 11) (.node (o_77_5 P) (.node (o_141_6 P) .nil .nil) .nil) (.node (o_109_5 P) (.node (o_173_6 P) .nil .nil) .nil)) (.node (subD 27) (.node (o_93_5 P) (.node (o_157_6 P) .nil .nil) .nil) (.node (o_125_6 P) .nil .nil)))))) (.node (boot_o_2 P) (.node (boot_o_4 P) (.node (boot_o_8 P) (.node (o_16_2 P) (.node (o_32_3 P) (.node (subD 30) (.node (o_128_6 P) .nil .nil) .nil) (.node (o_96_5 P) (.node (o_160_6 P) .nil .nil) .nil)) (.node (subD 14) (.node (o_80_5 P) (.node (o_144_6 P) .nil .nil) .nil) (.node (o_112_5 P) .nil .nil))) (.node (o_24_2 P) (.node (subD 6) (.node (o_72_5 P) (.node (o_136_6 P) .nil .nil) .nil) (.node (o_104_5 P) (.node (o_168_6 P) .nil .nil) .nil)) (.node (subD 22) (.node (o_88_5 P) (.node (o_152_6 P) .nil .nil) .nil) (.node (o_120_5 P) .nil .nil)))) (.node (o_12_6 P) (.node (o_20_2 P) (.node (subD 2) (.node (subD 34) (.node (o_132_6 P) .nil .nil) .nil) (.node (o_100_5 P) (.node (o_164_6 P) .nil .nil) .nil)) (.node (subD 18) (.node (o_84_5 P) (.node (o_148_6 P) .nil .nil) .nil) (.node (o_116_5 P) .nil .nil))) (.node (o_28_3 P) (.node (subD 10) (.node (o_76_5 P) (.node (o_140_6 P) .nil .nil) .nil) (.node (o_108_5 P) (.node (o_172_6 P) .nil .nil) .nil)) (.node (subD 26) (.node (o_92_5 P) (.node (o_156_6 P) .nil .nil) .nil) (.node (o_124_6 P) .nil .nil))))) (.node (boot_o_6 P) (.node (boot_o_10 P) (.node (o_18_2 P) (.node (subD 0) (.node (subD 32) (.node (o_130_6 P) .nil .nil) .nil) (.node (o_98_5 P) (.node (o_162_6 P) .nil .nil) .nil)) (.node (subD 16) (.node (o_82_5 P) (.node (o_146_6 P) .nil .nil) .nil) (.node (o_114_5 P) .nil .nil))) (.node (o_26_3 P) (.node (subD 8) (.node (o_74_5 P) (.node (o_138_6 P) .nil .nil) .nil) (.node (o_106_5 P) (.node (o_170_6 P) .nil .nil) .nil)) (.node (subD 24) (.node (o_90_5 P) (.node (o_154_6 P) .nil .nil) .nil) (.node (o_122_6 P) .nil .nil)))) (.node (o_14_a P) (.node (o_22_2 P) (.node (subD 4) (.node (subD 36) (.node (o_134_6 P) .nil .nil) .nil) (.node (o_102_5 P) (.node (o_166_6 P) .nil .nil) .nil)) (.node (subD 20) (.node (o_86_5 P) (.node (o_150_6 P) .nil .nil) .nil) (.node (o_118_5 P) .nil .nil))) (.node (o_30_3 P) (.node (subD 12) (.node (o_78_5 P) (.node (o_142_6 P) .nil .nil) .nil) (.node (o_110_5 P) (.node (o_174_6 P) .nil .nil) .nil)) (.node (subD 28) (.node (o_94_5 P) (.node (o_158_6 P) .nil .nil) .nil) (.node (o_126_6 P) .nil .nil)))))))
noncomputable def o_3_7 (P:Params):Obj:=⟨(.type "dict"),none,(.dict ⟨[⟨PyData.keyHash P z3,(.str z3 165),(.str z11 2357)⟩,⟨PyData.keyHash P z1,(.str z1 166),.none⟩,⟨PyData.keyHash P z4,(.str z4 167),.none⟩,⟨PyData.keyHash P z5,(.str z5 168),(.builtin "__main__.__loader__#opaque")⟩,⟨PyData.keyHash P z6,(.str z6 169),.none⟩,⟨PyData.keyHash P z7,(.str z7 170),(.ref 6)⟩,⟨PyData.keyHash P z8,(.str z8 171),(.ref 4)⟩,⟨PyData.keyHash P z9,(.str z9 173),(.str z0 172)⟩,⟨PyData.keyHash P z10,(.str z10 174),.none⟩,⟨PyData.keyHash P z12,(.str z12 248),(.ref 22)⟩,⟨PyData.keyHash P z2,(.str z2 255),(.ref 32)⟩,⟨PyData.keyHash P z23,(.str z23 2206),(.ref 33)⟩,⟨PyData.keyHash P z13,(.str z13 2214),(.ref 78)⟩,⟨PyData.keyHash P z41,(.str z41 2218),(.int (.ofNat 4000) 2217)⟩,⟨PyData.keyHash P z14,(.str z14 2235),(.ref 85)⟩,⟨PyData.keyHash P z15,(.str z15 2249),(.ref 92)⟩,⟨PyData.keyHash P z16,(.str z16 2260),(.ref 99)⟩,⟨PyData.keyHash P z17,(.str z17 2271),(.ref 106)⟩,⟨PyData.keyHash P z18,(.str z18 2286),(.ref 113)⟩,⟨PyData.keyHash P z19,(.str z19 2296),(.ref 120)⟩,⟨PyData.keyHash P z20,(.str z20 2356),(.ref 158)⟩,⟨PyData.keyHash P z21,(.str z21 2364),(.ref 167)⟩,⟨PyData.keyHash P z22,(.str z22 2372),(.ref 174)⟩,⟨PyData.keyHash P z25,(.str z25 2378),(.ref 179)⟩,⟨PyData.keyHash P z26,(.str z26 2384),(.ref 184)⟩,⟨PyData.keyHash P z27,(.str z27 2393),(.ref 191)⟩,⟨PyData.keyHash P z28,(.str z28 2399),(.ref 196)⟩,⟨PyData.keyHash P z29,(.str z29 2405),(.ref 201)⟩,⟨PyData.keyHash P z30,(.str z30 2416),(.ref 208)⟩,⟨PyData.keyHash P z31,(.str z31 2422),(.ref 213)⟩,⟨PyData.keyHash P z32,(.str z32 2428),(.ref 218)⟩,⟨PyData.keyHash P z33,(.str z33 2434),(.ref 223)⟩,⟨PyData.keyHash P z34,(.str z34 2440),(.ref 228)⟩]⟩ 33),⟨[]⟩⟩
noncomputable def o_12_7 (P:Params):Obj:=⟨.none,none,(.fields ⟨[(.int (.ofNat 3) 0),(.int (.ofNat 0) 0),(.ref 31),(.int (.ofNat 6) 0),(.int (.ofNat 0) 0),(.ref 77),(.int (.ofNat 13) 0),(.int (.ofNat 0) 0),(.ref 84),(.int (.ofNat 29) 0),(.int (.ofNat 0) 0),(.ref 91),(.int (.ofNat 39) 0),(.int (.ofNat 0) 0),(.ref 98),(.int (.ofNat 55) 0),(.int (.ofNat 0) 0),(.ref 105),(.int (.ofNat 64) 0),(.int (.ofNat 0) 0),(.ref 112),(.int (.ofNat 75) 0),(.int (.ofNat 0) 0),(.ref 119),(.int (.ofNat 87) 0),(.int (.ofNat 0) 0),(.ref 126),(.int (.ofNat 131) 0),(.int (.ofNat 0) 0),(.ref 166),(.int (.ofNat 135) 0),(.int (.ofNat 0) 0),(.ref 173),(.int (.ofNat 137) 0),(.int (.ofNat 0) 0),(.ref 178),(.int (.ofNat 142) 0),(.int (.ofNat 0) 0),(.ref 183),(.int (.ofNat 168) 0),(.int (.ofNat 0) 0),(.ref 190),(.int (.ofNat 173) 0),(.int (.ofNat 0) 0),(.ref 195),(.int (.ofNat 175) 0),(.int (.ofNat 0) 0),(.ref 200),(.int (.ofNat 177) 0),(.int (.ofNat 0) 0),(.ref 207),(.int (.ofNat 181) 0),(.int (.ofNat 0) 0),(.ref 212),(.int (.ofNat 192) 0),(.int (.ofNat 0) 0),(.ref 217),(.int (.ofNat 196) 0),(.int (.ofNat 0) 0),(.ref 222),(.int (.ofNat 215) 0),(.int (.ofNat 0) 0),(.ref 227)]⟩),⟨[]⟩⟩
noncomputable def o_175_7 (P:Params):Obj:=⟨(.type "tuple"),none,(.seq ⟨[]⟩ 0),⟨[]⟩⟩
noncomputable def o_176_7 (P:Params):Obj:=⟨.none,none,(.fields ⟨[]⟩),⟨[]⟩⟩
noncomputable def o_177_7 (P:Params):Obj:=⟨.none,none,(.func ⟨z25,z25,sParams (stm 18),.stmts (sBody (stm 18)),sScope (stm 18),0,[],.none,.none,.none,.none,none,.none,.none,0⟩),⟨[]⟩⟩
noncomputable def o_178_7 (P:Params):Obj:=⟨(.type "code"),none,(.fields ⟨[(.str z25 2373),(.str z25 2374),(.str z0 2375),(.int (.ofNat 137) 0),(.int (.ofNat 1) 0),(.int (.ofNat 0) 0),(.int (.ofNat 0) 0),(.int (.ofNat 3) 0),(.ref 175),(.bool true),(.int (.ofNat 181) 0),(.ref 176),.none,.none,.none,(.ref 177),(.int (.ofNat 2376) 0),(.int (.ofNat 137) 0),(.str z0 2377)]⟩),⟨[]⟩⟩
noncomputable def o_179_7 (P:Params):Obj:=⟨(.type "function"),none,(.func ⟨z25,z25,sParams (stm 18),.stmts (sBody (stm 18)),sScope (stm 18),3,[],.none,.none,.none,(.str z11 2357),none,(.ref 178),.none,0⟩),⟨[]⟩⟩
noncomputable def o_180_7 (P:Params):Obj:=⟨(.type "tuple"),none,(.seq ⟨[]⟩ 0),⟨[]⟩⟩
noncomputable def o_181_7 (P:Params):Obj:=⟨.none,none,(.fields ⟨[]⟩),⟨[]⟩⟩
noncomputable def o_182_7 (P:Params):Obj:=⟨.none,none,(.func ⟨z26,z26,sParams (stm 19),.stmts (sBody (stm 19)),sScope (stm 19),0,[],.none,.none,.none,.none,none,.none,.none,0⟩),⟨[]⟩⟩
noncomputable def o_183_7 (P:Params):Obj:=⟨(.type "code"),none,(.fields ⟨[(.str z26 2379),(.str z26 2380),(.str z0 2381),(.int (.ofNat 142) 0),(.int (.ofNat 2) 0),(.int (.ofNat 0) 0),(.int (.ofNat 0) 0),(.int (.ofNat 3) 0),(.ref 180),(.bool true),(.int (.ofNat 181) 0),(.ref 181),.none,.none,.none,(.ref 182),(.int (.ofNat 2382) 0),(.int (.ofNat 142) 0),(.str z0 2383)]⟩),⟨[]⟩⟩
noncomputable def o_184_7 (P:Params):Obj:=⟨(.type "function"),none,(.func ⟨z26,z26,sParams (stm 19),.stmts (sBody (stm 19)),sScope (stm 19),3,[],.none,.none,.none,(.str z11 2357),none,(.ref 183),.none,0⟩),⟨[]⟩⟩
noncomputable def o_185_7 (P:Params):Obj:=⟨(.type "tuple"),none,(.seq ⟨[]⟩ 0),⟨[]⟩⟩
noncomputable def o_186_7 (P:Params):Obj:=⟨.none,none,(.fields ⟨[]⟩),⟨[]⟩⟩
noncomputable def o_187_7 (P:Params):Obj:=⟨(.type "tuple"),none,(.seq ⟨[(.str ⟨⟨[116,101,120,116]⟩⟩ 2388),(.str ⟨⟨[115,116,114,101,97,109]⟩⟩ 2389)]⟩ 0),⟨[]⟩⟩
noncomputable def o_188_7 (P:Params):Obj:=⟨(.type "tuple"),none,(.seq ⟨[(.str ⟨⟨[108,101,102,116]⟩⟩ 2390)]⟩ 0),⟨[]⟩⟩
noncomputable def o_189_7 (P:Params):Obj:=⟨.none,none,(.func ⟨z27,z27,sParams (stm 20),.stmts (sBody (stm 20)),sScope (stm 20),0,[],.none,.none,.none,.none,none,.none,.none,0⟩),⟨[]⟩⟩
noncomputable def o_190_7 (P:Params):Obj:=⟨(.type "code"),none,(.fields ⟨[(.str z27 2385),(.str z27 2386),(.str z0 2387),(.int (.ofNat 168) 0),(.int (.ofNat 1) 0),(.int (.ofNat 0) 0),(.int (.ofNat 0) 0),(.int (.ofNat 3) 0),(.ref 185),(.bool true),(.int (.ofNat 181) 0),(.ref 186),.none,(.ref 187),(.ref 188),(.ref 189),(.int (.ofNat 2391) 0),(.int (.ofNat 168) 0),(.str z0 2392)]⟩),⟨[]⟩⟩
noncomputable def o_191_7 (P:Params):Obj:=⟨(.type "function"),none,(.func ⟨z27,z27,sParams (stm 20),.stmts (sBody (stm 20)),sScope (stm 20),3,[],.none,.none,.none,(.str z11 2357),none,(.ref 190),.none,0⟩),⟨[]⟩⟩
noncomputable def o_192_7 (P:Params):Obj:=⟨(.type "tuple"),none,(.seq ⟨[]⟩ 0),⟨[]⟩⟩
noncomputable def o_193_7 (P:Params):Obj:=⟨.none,none,(.fields ⟨[]⟩),⟨[]⟩⟩
noncomputable def o_194_7 (P:Params):Obj:=⟨.none,none,(.func ⟨z28,z28,sParams (stm 21),.stmts (sBody (stm 21)),sScope (stm 21),0,[],.none,.none,.none,.none,none,.none,.none,0⟩),⟨[]⟩⟩
noncomputable def o_195_7 (P:Params):Obj:=⟨(.type "code"),none,(.fields ⟨[(.str z28 2394),(.str z28 2395),(.str z0 2396),(.int (.ofNat 173) 0),(.int (.ofNat 1) 0),(.int (.ofNat 0) 0),(.int (.ofNat 0) 0),(.int (.ofNat 3) 0),(.ref 192),(.bool true),(.int (.ofNat 181) 0),(.ref 193),.none,.none,.none,(.ref 194),(.int (.ofNat 2397) 0),(.int (.ofNat 173) 0),(.str z0 2398)]⟩),⟨[]⟩⟩
noncomputable def o_196_7 (P:Params):Obj:=⟨(.type "function"),none,(.func ⟨z28,z28,sParams (stm 21),.stmts (sBody (stm 21)),sScope (stm 21),3,[],.none,.none,.none,(.str z11 2357),none,(.ref 195),.none,0⟩),⟨[]⟩⟩
noncomputable def o_197_7 (P:Params):Obj:=⟨(.type "tuple"),none,(.seq ⟨[]⟩ 0),⟨[]⟩⟩
noncomputable def o_198_7 (P:Params):Obj:=⟨.none,none,(.fields ⟨[]⟩),⟨[]⟩⟩
noncomputable def o_199_7 (P:Params):Obj:=⟨.none,none,(.func ⟨z29,z29,sParams (stm 22),.stmts (sBody (stm 22)),sScope (stm 22),0,[],.none,.none,.none,.none,none,.none,.none,0⟩),⟨[]⟩⟩
noncomputable def o_200_7 (P:Params):Obj:=⟨(.type "code"),none,(.fields ⟨[(.str z29 2400),(.str z29 2401),(.str z0 2402),(.int (.ofNat 175) 0),(.int (.ofNat 2) 0),(.int (.ofNat 0) 0),(.int (.ofNat 0) 0),(.int (.ofNat 3) 0),(.ref 197),(.bool true),(.int (.ofNat 181) 0),(.ref 198),.none,.none,.none,(.ref 199),(.int (.ofNat 2403) 0),(.int (.ofNat 175) 0),(.str z0 2404)]⟩),⟨[]⟩⟩
noncomputable def o_201_7 (P:Params):Obj:=⟨(.type "function"),none,(.func ⟨z29,z29,sParams (stm 22),.stmts (sBody (stm 22)),sScope (stm 22),3,[],.none,.none,.none,(.str z11 2357),none,(.ref 200),.none,0⟩),⟨[]⟩⟩
noncomputable def o_202_7 (P:Params):Obj:=⟨(.type "tuple"),none,(.seq ⟨[]⟩ 0),⟨[]⟩⟩
noncomputable def o_203_7 (P:Params):Obj:=⟨.none,none,(.fields ⟨[]⟩),⟨[]⟩⟩
noncomputable def o_204_7 (P:Params):Obj:=⟨(.type "tuple"),none,(.seq ⟨[(.str ⟨⟨[97,98,111,118,101]⟩⟩ 2409),(.str ⟨⟨[98,101,108,111,119]⟩⟩ 2410),(.str ⟨⟨[119,97,121]⟩⟩ 2411),(.str ⟨⟨[113,117,111,116,105,101,110,116]⟩⟩ 2412),(.str ⟨⟨[114,101,115,116]⟩⟩ 2413)]⟩ 0),⟨[]⟩⟩
noncomputable def o_205_7 (P:Params):Obj:=⟨(.type "tuple"),none,(.seq ⟨[]⟩ 0),⟨[]⟩⟩
noncomputable def o_206_7 (P:Params):Obj:=⟨.none,none,(.func ⟨z30,z30,sParams (stm 23),.stmts (sBody (stm 23)),sScope (stm 23),0,[],.none,.none,.none,.none,none,.none,.none,0⟩),⟨[]⟩⟩
noncomputable def o_207_7 (P:Params):Obj:=⟨(.type "code"),none,(.fields ⟨[(.str z30 2406),(.str z30 2407),(.str z0 2408),(.int (.ofNat 177) 0),(.int (.ofNat 3) 0),(.int (.ofNat 0) 0),(.int (.ofNat 0) 0),(.int (.ofNat 3) 0),(.ref 202),(.bool true),(.int (.ofNat 181) 0),(.ref 203),.none,(.ref 204),(.ref 205),(.ref 206),(.int (.ofNat 2414) 0),(.int (.ofNat 177) 0),(.str z0 2415)]⟩),⟨[]⟩⟩
noncomputable def o_208_7 (P:Params):Obj:=⟨(.type "function"),none,(.func ⟨z30,z30,sParams (stm 23),.stmts (sBody (stm 23)),sScope (stm 23),3,[],.none,.none,.none,(.str z11 2357),none,(.ref 207),.none,0⟩),⟨[]⟩⟩
noncomputable def o_209_7 (P:Params):Obj:=⟨(.type "tuple"),none,(.seq ⟨[]⟩ 0),⟨[]⟩⟩
noncomputable def o_210_7 (P:Params):Obj:=⟨.none,none,(.fields ⟨[]⟩),⟨[]⟩⟩
noncomputable def o_211_7 (P:Params):Obj:=⟨.none,none,(.func ⟨z31,z31,sParams (stm 24),.stmts (sBody (stm 24)),sScope (stm 24),0,[],.none,.none,.none,.none,none,.none,.none,0⟩),⟨[]⟩⟩
noncomputable def o_212_7 (P:Params):Obj:=⟨(.type "code"),none,(.fields ⟨[(.str z31 2417),(.str z31 2418),(.str z0 2419),(.int (.ofNat 181) 0),(.int (.ofNat 3) 0),(.int (.ofNat 0) 0),(.int (.ofNat 0) 0),(.int (.ofNat 3) 0),(.ref 209),(.bool true),(.int (.ofNat 181) 0),(.ref 210),.none,.none,.none,(.ref 211),(.int (.ofNat 2420) 0),(.int (.ofNat 181) 0),(.str z0 2421)]⟩),⟨[]⟩⟩
noncomputable def o_213_7 (P:Params):Obj:=⟨(.type "function"),none,(.func ⟨z31,z31,sParams (stm 24),.stmts (sBody (stm 24)),sScope (stm 24),3,[],.none,.none,.none,(.str z11 2357),none,(.ref 212),.none,0⟩),⟨[]⟩⟩
noncomputable def o_214_7 (P:Params):Obj:=⟨(.type "tuple"),none,(.seq ⟨[]⟩ 0),⟨[]⟩⟩
noncomputable def o_215_7 (P:Params):Obj:=⟨.none,none,(.fields ⟨[]⟩),⟨[]⟩⟩
noncomputable def o_216_7 (P:Params):Obj:=⟨.none,none,(.func ⟨z32,z32,sParams (stm 25),.stmts (sBody (stm 25)),sScope (stm 25),0,[],.none,.none,.none,.none,none,.none,.none,0⟩),⟨[]⟩⟩
noncomputable def o_217_7 (P:Params):Obj:=⟨(.type "code"),none,(.fields ⟨[(.str z32 2423),(.str z32 2424),(.str z0 2425),(.int (.ofNat 192) 0),(.int (.ofNat 3) 0),(.int (.ofNat 0) 0),(.int (.ofNat 0) 0),(.int (.ofNat 3) 0),(.ref 214),(.bool true),(.int (.ofNat 181) 0),(.ref 215),.none,.none,.none,(.ref 216),(.int (.ofNat 2426) 0),(.int (.ofNat 192) 0),(.str z0 2427)]⟩),⟨[]⟩⟩
noncomputable def o_218_7 (P:Params):Obj:=⟨(.type "function"),none,(.func ⟨z32,z32,sParams (stm 25),.stmts (sBody (stm 25)),sScope (stm 25),3,[],.none,.none,.none,(.str z11 2357),none,(.ref 217),.none,0⟩),⟨[]⟩⟩
noncomputable def o_219_7 (P:Params):Obj:=⟨(.type "tuple"),none,(.seq ⟨[]⟩ 0),⟨[]⟩⟩
noncomputable def o_220_7 (P:Params):Obj:=⟨.none,none,(.fields ⟨[]⟩),⟨[]⟩⟩
noncomputable def o_221_7 (P:Params):Obj:=⟨.none,none,(.func ⟨z33,z33,sParams (stm 26),.stmts (sBody (stm 26)),sScope (stm 26),0,[],.none,.none,.none,.none,none,.none,.none,0⟩),⟨[]⟩⟩
noncomputable def o_222_7 (P:Params):Obj:=⟨(.type "code"),none,(.fields ⟨[(.str z33 2429),(.str z33 2430),(.str z0 2431),(.int (.ofNat 196) 0),(.int (.ofNat 4) 0),(.int (.ofNat 0) 0),(.int (.ofNat 0) 0),(.int (.ofNat 3) 0),(.ref 219),(.bool true),(.int (.ofNat 181) 0),(.ref 220),.none,.none,.none,(.ref 221),(.int (.ofNat 2432) 0),(.int (.ofNat 196) 0),(.str z0 2433)]⟩),⟨[]⟩⟩
noncomputable def o_223_7 (P:Params):Obj:=⟨(.type "function"),none,(.func ⟨z33,z33,sParams (stm 26),.stmts (sBody (stm 26)),sScope (stm 26),3,[],.none,.none,.none,(.str z11 2357),none,(.ref 222),.none,0⟩),⟨[]⟩⟩
noncomputable def o_224_7 (P:Params):Obj:=⟨(.type "tuple"),none,(.seq ⟨[]⟩ 0),⟨[]⟩⟩
noncomputable def o_225_7 (P:Params):Obj:=⟨.none,none,(.fields ⟨[]⟩),⟨[]⟩⟩
noncomputable def o_226_7 (P:Params):Obj:=⟨.none,none,(.func ⟨z34,z34,sParams (stm 27),.stmts (sBody (stm 27)),sScope (stm 27),0,[],.none,.none,.none,.none,none,.none,.none,0⟩),⟨[]⟩⟩
noncomputable def o_227_7 (P:Params):Obj:=⟨(.type "code"),none,(.fields ⟨[(.str z34 2435),(.str z34 2436),(.str z0 2437),(.int (.ofNat 215) 0),(.int (.ofNat 1) 0),(.int (.ofNat 0) 0),(.int (.ofNat 0) 0),(.int (.ofNat 3) 0),(.ref 224),(.bool true),(.int (.ofNat 181) 0),(.ref 225),.none,.none,.none,(.ref 226),(.int (.ofNat 2438) 0),(.int (.ofNat 215) 0),(.str z0 2439)]⟩),⟨[]⟩⟩
noncomputable def o_228_7 (P:Params):Obj:=⟨(.type "function"),none,(.func ⟨z34,z34,sParams (stm 27),.stmts (sBody (stm 27)),sScope (stm 27),3,[],.none,.none,.none,(.str z11 2357),none,(.ref 227),.none,0⟩),⟨[]⟩⟩
noncomputable def T_7 (P:Params):BT:=(.node (boot_o_0 P) (.node (boot_o_1 P) (.node (o_3_7 P) (.node (boot_o_7 P) (.node (o_15_2 P) (.node (o_31_3 P) (.node (subD 29) (.node (o_127_6 P) .nil .nil) (.node (o_191_7 P) .nil .nil)) (.node (o_95_5 P) (.node (o_159_6 P) .nil .nil) (.node (o_223_7 P) .nil .nil))) (.node (subD 13) (.node (o_79_5 P) (.node (o_143_6 P) .nil .nil) (.node (o_207_7 P) .nil .nil)) (.node (o_111_5 P) (.node (o_175_7 P) .nil .nil) .nil))) (.node (o_23_2 P) (.node (subD 5) (.node (subD 37) (.node (o_135_6 P) .nil .nil) (.node (o_199_7 P) .nil .nil)) (.node (o_103_5 P) (.node (o_167_6 P) .nil .nil) .nil)) (.node (subD 21) (.node (o_87_5 P) (.node (o_151_6 P) .nil .nil) (.node (o_215_7 P) .nil .nil)) (.node (o_119_5 P) (.node (o_183_7 P) .nil .nil) .nil)))) (.node (o_11_a P) (.node (o_19_2 P) (.node (subD 1) (.node (subD 33) (.node (o_131_6 P) .nil .nil) (.node (o_195_7 P) .nil .nil)) (.node (o_99_5 P) (.node (o_163_6 P) .nil .nil) (.node (o_227_7 P) .nil .nil))) (.node (subD 17) (.node (o_83_5 P) (.node (o_147_6 P) .nil .nil) (.node (o_211_7 P) .nil .nil)) (.node (o_115_5 P) (.node (o_179_7 P) .nil .nil) .nil))) (.node (o_27_3 P) (.node (subD 9) (.node (o_75_5 P) (.node (o_139_6 P) .nil .nil) (.node (o_203_7 P) .nil .nil)) (.node (o_107_5 P) (.node (o_171_6 P) .nil .nil) .nil)) (.node (subD 25) (.node (o_91_5 P) (.node (o_155_6 P) .nil .nil) (.node (o_219_7 P) .nil .nil)) (.node (o_123_6 P) (.node (o_187_7 P) .nil .nil) .nil))))) (.node (boot_o_5 P) (.node (boot_o_9 P) (.node (o_17_2 P) (.node mainD (.node (subD 31) (.node (o_129_6 P) .nil .nil) (.node (o_193_7 P) .nil .nil)) (.node (o_97_5 P) (.node (o_161_6 P) .nil .nil) (.node (o_225_7 P) .nil .nil))) (.node (subD 15) (.node (o_81_5 P) (.node (o_145_6 P) .nil .nil) (.node (o_209_7 P) .nil .nil)) (.node (o_113_5 P) (.node (o_177_7 P) .nil .nil) .nil))) (.node (o_25_2 P) (.node (subD 7) (.node (o_73_5 P) (.node (o_137_6 P) .nil .nil) (.node (o_201_7 P) .nil .nil)) (.node (o_105_5 P) (.node (o_169_6 P) .nil .nil) .nil)) (.node (subD 23) (.node (o_89_5 P) (.node (o_153_6 P) .nil .nil) (.node (o_217_7 P) .nil .nil)) (.node (o_121_6 P) (.node (o_185_7 P) .nil .nil) .nil)))) (.node (o_13_a P) (.node (o_21_2 P) (.node (subD 3) (.node (subD 35) (.node (o_133_6 P) .nil .nil) (.node (o_197_7 P) .nil .nil)) (.node (o_101_5 P) (.node (o_165_6 P) .nil .nil) .nil)) (.node (subD 19) (.node (o_85_5 P) (.node (o_149_6 P) .nil .nil) (.node (o_213_7 P) .nil .nil)) (.node (o_117_5 P) (.node (o_181_7 P) .nil .nil) .nil))) (.node (o_29_3 P) (.node (subD 11) (.node (o_77_5 P) (.node (o_141_6 P) .nil .nil) (.node (o_205_7 P) .nil .nil)) (.node (o_109_5 P) (.node (o_173_6 P) .nil .nil) .nil)) (.node (subD 27) (.node (o_93_5 P) (.node (o_157_6 P) .nil .nil) (.node (o_221_7 P) .nil .nil)) (.node (o_125_6 P) (.node (o_189_7 P) .nil .nil) .nil)))))) (.node (boot_o_2 P) (.node (boot_o_4 P) (.node (boot_o_8 P) (.node (o_16_2 P) (.node (o_32_3 P) (.node (subD 30) (.node (o_128_6 P) .nil .nil) (.node (o_192_7 P) .nil .nil)) (.node (o_96_5 P) (.node (o_160_6 P) .nil .nil) (.node (o_224_7 P) .nil .nil))) (.node (subD 14) (.node (o_80_5 P) (.node (o_144_6 P) .nil .nil) (.node (o_208_7 P) .nil .nil)) (.node (o_112_5 P) (.node (o_176_7 P) .nil .nil) .nil))) (.node (o_24_2 P) (.node (subD 6) (.node (o_72_5 P) (.node (o_136_6 P) .nil .nil) (.node (o_200_7 P) .nil .nil)) (.node (o_104_5 P) (.node (o_168_6 P) .nil .nil) .nil)) (.node (subD 22) (.node (o_88_5 P) (.node (o_152_6 P) .nil .nil) (.node (o_216_7 P) .nil .nil)) (.node (o_120_5 P) (.node (o_184_7 P) .nil .nil) .nil)))) (.node (o_12_7 P) (.node (o_20_2 P) (.node (subD 2) (.node (subD 34) (.node (o_132_6 P) .nil .nil) (.node (o_196_7 P) .nil .nil)) (.node (o_100_5 P) (.node (o_164_6 P) .nil .nil) (.node (o_228_7 P) .nil .nil))) (.node (subD 18) (.node (o_84_5 P) (.node (o_148_6 P) .nil .nil) (.node (o_212_7 P) .nil .nil)) (.node (o_116_5 P) (.node (o_180_7 P) .nil .nil) .nil))) (.node (o_28_3 P) (.node (subD 10) (.node (o_76_5 P) (.node (o_140_6 P) .nil .nil) (.node (o_204_7 P) .nil .nil)) (.node (o_108_5 P) (.node (o_172_6 P) .nil .nil) .nil)) (.node (subD 26) (.node (o_92_5 P) (.node (o_156_6 P) .nil .nil) (.node (o_220_7 P) .nil .nil)) (.node (o_124_6 P) (.node (o_188_7 P) .nil .nil) .nil))))) (.node (boot_o_6 P) (.node (boot_o_10 P) (.node (o_18_2 P) (.node (subD 0) (.node (subD 32) (.node (o_130_6 P) .nil .nil) (.node (o_194_7 P) .nil .nil)) (.node (o_98_5 P) (.node (o_162_6 P) .nil .nil) (.node (o_226_7 P) .nil .nil))) (.node (subD 16) (.node (o_82_5 P) (.node (o_146_6 P) .nil .nil) (.node (o_210_7 P) .nil .nil)) (.node (o_114_5 P) (.node (o_178_7 P) .nil .nil) .nil))) (.node (o_26_3 P) (.node (subD 8) (.node (o_74_5 P) (.node (o_138_6 P) .nil .nil) (.node (o_202_7 P) .nil .nil)) (.node (o_106_5 P) (.node (o_170_6 P) .nil .nil) .nil)) (.node (subD 24) (.node (o_90_5 P) (.node (o_154_6 P) .nil .nil) (.node (o_218_7 P) .nil .nil)) (.node (o_122_6 P) (.node (o_186_7 P) .nil .nil) .nil)))) (.node (o_14_a P) (.node (o_22_2 P) (.node (subD 4) (.node (subD 36) (.node (o_134_6 P) .nil .nil) (.node (o_198_7 P) .nil .nil)) (.node (o_102_5 P) (.node (o_166_6 P) .nil .nil) .nil)) (.node (subD 20) (.node (o_86_5 P) (.node (o_150_6 P) .nil .nil) (.node (o_214_7 P) .nil .nil)) (.node (o_118_5 P) (.node (o_182_7 P) .nil .nil) .nil))) (.node (o_30_3 P) (.node (subD 12) (.node (o_78_5 P) (.node (o_142_6 P) .nil .nil) (.node (o_206_7 P) .nil .nil)) (.node (o_110_5 P) (.node (o_174_6 P) .nil .nil) .nil)) (.node (subD 28) (.node (o_94_5 P) (.node (o_158_6 P) .nil .nil) (.node (o_222_7 P) .nil .nil)) (.node (o_126_6 P) (.node (o_190_7 P) .nil .nil) .nil)))))))
noncomputable abbrev tEnv:Env:={ scope:=PR.main.scope,locals:=mainNs,globals:=mainNs,cells:=[],code:=.ref 13,frame:=some 14 }
noncomputable abbrev tCode:Code:=.body (behindTheImports PR) tEnv
noncomputable abbrev q0:Pos:=⟨0,0,0,0⟩
noncomputable abbrev tAnn:Option Value:=some (.ref 6)
noncomputable abbrev stT (t:Params→BT) (n k:Nat) (w:World) (os:OsState):SharedT:=⟨t w.params,n,{},⟨[]⟩,{},k,os⟩
theorem sg_tw:@segRunT=@PySem.W.Fast.tw10110043849684766642:=PySem.W.Fast.te10110043849684766642
theorem tt_tw:@treeTable=@PySem.W.Fast.tw14364793385576792824:=PySem.W.Fast.te14364793385576792824
theorem pc_pre:∀ w:World,(fun os=>topGo treeTable PR w 11 tAnn 12 ⟨boot_heap w.params,⟨[]⟩,boot_drawn,boot_toks,os⟩ (topStub PR))=
 fun os=>some ((stT T_a 15 187 w os).abs,⟨denote treeTable tCode,tCode,q0,[topFrame q0]⟩):=by
 intro w;kernel_rfl
theorem pc_0:∀ w:World,(fun os=>segRunT treeTable PR w 11 tAnn 1 1 (stT T_a 15 187 w os) (blockOf (behindTheImports PR) tEnv tCode q0 [topFrame q0]))=
 fun os=>some (.next,stT T_a 15 187 w os,tCode,q0):=by
 rw [sg_tw,tt_tw];intro w;kernel_rfl
theorem pc_1:∀ w:World,(fun os=>segRunT treeTable PR w 11 tAnn 1 11 (stT T_a 15 187 w os) (piecesOf [stm 0] tEnv tCode ⟨0,0,0,0⟩ [topFrame q0]))=
 fun os=>some (.next,stT T_1 15 189 w os,tCode,⟨1,0,1,8⟩):=by
 rw [sg_tw,tt_tw]
 intro w;kernel_rfl
theorem pc_2:∀ w:World,(fun os=>segRunT treeTable PR w 11 tAnn 1 1000 (stT T_1 15 189 w os) (piecesOf [stm 1] tEnv tCode ⟨1,0,1,8⟩ [topFrame q0]))=
 fun os=>some (.next,stT T_2 26 249 w os,tCode,⟨2,0,2,6⟩):=by
 rw [sg_tw,tt_tw]
 refine byRow2 "set-order" (byRow2 "special-get-raises" ?_ ?_) (byRow2 "special-get-raises" ?_ ?_)<;>(intro w;kernel_rfl)
theorem pc_3:∀ w:World,(fun os=>segRunT treeTable PR w 11 tAnn 1 31 (stT T_2 26 249 w os) (piecesOf [stm 2] tEnv tCode ⟨2,0,2,6⟩ [topFrame q0]))=
 fun os=>some (.next,stT T_3 33 256 w os,tCode,⟨3,0,4,30⟩):=by
 rw [sg_tw,tt_tw]
 intro w;kernel_rfl
/- the big table -/
noncomputable abbrev dPos:Pos:=⟨5,16,5,8704⟩
noncomputable abbrev aPos:Pos:=⟨5,0,5,8704⟩
noncomputable abbrev xPos:Pos:=⟨5,0,5,13⟩
noncomputable abbrev dName:Str:=Str.ofString "b3_exceptions"
theorem pairs_cut:pairs=pC0++(pCs.flatten++pL):=by kernel_rfl
noncomputable def incr:List Int→Bool
 | []=>true
 | [_]=>true
 | a :: b :: r=>decide (a < b) && incr (b :: r)
theorem incr_pairwise:∀ {l:List Int},incr l=true→l.Pairwise (· < ·)
 | [],_=>.nil
 | [a],_=>.cons (fun _ h=>nomatch h) .nil
 | a :: b :: r,h=>by
  rw [incr,Bool.and_eq_true,decide_eq_true_eq] at h
  have ih:=incr_pairwise h.2
  refine .cons (fun x hx=>?_) ih
  cases hx with
  | head=>exact h.1
  | tail _ hx=>exact Int.lt_trans h.1 (List.rel_of_pairwise_cons ih hx)
theorem pairs_nodup:(hs (pC0++(pCs.flatten++pL))).Nodup:=by
 rw [← pairs_cut]
 exact (incr_pairwise (by kernel_rfl:incr (hs pairs)=true)).imp fun h=>Int.ne_of_lt h
theorem its_eq:(evalEachOpt (dKeys (stm 3)) tEnv).zip ((evalEach (dVals (stm 3)) tEnv).map fun v=>do let x ← v;standAt dPos;pure x)=pairs.map (item dPos):=by kernel_rfl
noncomputable abbrev dTail (v:Value):Sem Flow:=standAt xPos >>= fun _=>bindName tEnv dName v >>= fun _=>pure .next
theorem dict_exec:exec (stm 3) tEnv=(standAt aPos >>= fun _=>standAt dPos >>= fun _=>dictDisplay (pairs.map (item dPos))) >>= dTail:=by
 rw [← its_eq]
 have h:stm 3=.Assign [.Name dName xPos] (.Dict (dKeys (stm 3)) (dVals (stm 3)) dPos) aPos:=by kernel_rfl
 conv=>lhs;rw [h]
 rw [exec_Assign_Name _ _ _ _ _ rfl]
 rfl
theorem dict_state:∀ w:World,(fun os=>(⟨Hs (absHeap (T_3 w.params) 33 {}) mainD subsD,⟨[]⟩,{},256 + 51 + 51 * pCs.length + 2 * pL.length + pL.length,os⟩:Shared))=fun os=>(stT T_d 72 2206 w os).abs:=by
 intro w;kernel_rfl
theorem dc_end (p':Pos):∀ w:World,(fun os=>segRunT treeTable PR w 11 tAnn 1 20 (stT T_d 72 2206 w os) ⟨(dTail (.ref 33)).wrap doneF deadEnd id id,tCode,p',[topFrame q0]⟩)=
 fun os=>some (.next,stT T_4 72 2207 w os,tCode,⟨5,0,5,13⟩):=by
 rw [sg_tw,tt_tw];intro w;kernel_rfl
noncomputable abbrev tE (w:World):TE:=⟨PR,w,11,tAnn,tCode,q0⟩
theorem dict_run (w:World) (os:OsState):Op (tE w) 70000 (standAt aPos >>= fun _=>standAt dPos >>= fun _=>dictDisplay (pairs.map (item dPos))) (stT T_3 33 256 w os).abs (.ref 33) (stT T_d 72 2206 w os).abs:=by
 have hcs:pCs.length=37:=by kernel_rfl
 have hsz:(stT T_3 33 256 w os).abs.heap.objs.size=33:=absHeap_size _ _ _
 have h:=Op.display (e:=tE w) (s:=(stT T_3 33 256 w os).abs) (dp:=dPos) (c₀:=pC0) (cs:=pCs) (l:=pL) rfl (by rw [hsz];exact (by decide:11≤33)) (by rw [hsz];decide) (by kernel_rfl) (fun c hc=>by
  have:pCs.all (fun c=>c.length == 17)=true:=by kernel_rfl
  exact beq_iff_eq.mp (List.all_eq_true.mp this c hc)) (by have:pL.length=4:=(by kernel_rfl);omega) (by intro q;have:pL.length=4:=(by kernel_rfl);rw [q] at this;cases this) (by omega) pairs_nodup
 rw [← pairs_cut,hsz] at h
 have e:∀ x:Shared,x=(stT T_d 72 2206 w os).abs→Op (tE w) (3200 + 1600 * pCs.length) (dictDisplay (pairs.map (item dPos))) (stT T_3 33 256 w os).abs (.ref 33) x→Op (tE w) 69000 (dictDisplay (pairs.map (item dPos))) (stT T_3 33 256 w os).abs (.ref 33) (stT T_d 72 2206 w os).abs:=fun x hx k=>by
  subst hx;exact k.le (by rw [hcs];decide)
 exact Op.bind Op.standAt (Op.bind Op.standAt ((e _ (congrFun (dict_state w) os) h).le (by decide)))
theorem pc_4 (w:World) (os:OsState) (rest:List Stmt) (N:Nat) (r:Shared) (k:topRun treeTable PR w 11 tAnn N (stT T_4 72 2207 w os).abs (restOf rest tEnv tCode ⟨5,0,5,13⟩ [topFrame q0])=some r):
  ∃ n,n≤70100∧topRun treeTable PR w 11 tAnn (n + N) (stT T_3 33 256 w os).abs (restOf (stm 3 :: rest) tEnv tCode ⟨3,0,4,30⟩ [topFrame q0])=some r:=by
 obtain ⟨n,pos',hn,h⟩:=dict_run w os (fun v=>(dTail v).wrap (fun f=>match f with | .next=>(execs rest tEnv).wrap doneF (leaveH tEnv) id id | f=>doneF f) (leaveH tEnv) id id) (leaveH tEnv) id id ⟨3,0,4,30⟩
 have hs:=segRun_of (congrFun (dc_end pos' w) os)
 obtain ⟨a,ha,hN⟩:=seg_top (res:=id) (K':=fun f=>match f with | .next=>(execs rest tEnv).wrap doneF (leaveH tEnv) id id | f=>doneF f) (H':=leaveH tEnv) (B:=[topFrame q0]) rfl 20 _ ⟨(dTail (.ref 33)).wrap doneF deadEnd id id,tCode,pos',[topFrame q0]⟩
  ⟨(dTail (.ref 33)).wrap (fun f=>match f with | .next=>(execs rest tEnv).wrap doneF (leaveH tEnv) id id | f=>doneF f) (leaveH tEnv) id id,tCode,pos',[topFrame q0]⟩ _ _ _ _ ⟨rfl,rfl,.inl ⟨rfl,rfl,_,rfl,rfl⟩⟩ hs
 obtain rfl:a=.next:=ha
 refine ⟨n + 20,by omega,?_⟩
 have:=h (20 + N) r (hN N r k)
 unfold restOf
 rw [execs_cons_wrap,dict_exec,Sem.bind_eq_wrap',Sem.wrap_wrap,Nat.add_assoc]
 exact this
theorem pc_5:∀ w:World,(fun os=>segRunT treeTable PR w 11 tAnn 1 269 (stT T_4 72 2207 w os) (piecesOf [stm 4,stm 5,stm 6,stm 7,stm 8,stm 9,stm 10,stm 11,stm 12,stm 13] tEnv tCode ⟨5,0,5,13⟩ [topFrame q0]))=
 fun os=>some (.next,stT T_5 121 2299 w os,tCode,⟨86,0,86,8⟩):=by
 rw [sg_tw,tt_tw]
 intro w;kernel_rfl
theorem pc_6:∀ w:World,(fun os=>segRunT treeTable PR w 11 tAnn 1 390 (stT T_5 121 2299 w os) (piecesOf [stm 14,stm 15,stm 16,stm 17] tEnv tCode ⟨86,0,86,8⟩ [topFrame q0]))=
 fun os=>some (.next,stT T_6 175 2373 w os,tCode,⟨135,0,136,64⟩):=by
 rw [sg_tw,tt_tw]
 intro w;kernel_rfl
theorem pc_7:∀ w:World,(fun os=>segRunT treeTable PR w 11 tAnn 1 274 (stT T_6 175 2373 w os) (piecesOf [stm 18,stm 19,stm 20,stm 21,stm 22,stm 23,stm 24,stm 25,stm 26,stm 27] tEnv tCode ⟨135,0,136,64⟩ [topFrame q0]))=
 fun os=>some (.next,stT T_7 229 2441 w os,tCode,⟨215,0,236,63⟩):=by
 rw [sg_tw,tt_tw]
 intro w;kernel_rfl
theorem body_cut:behindTheImports PR=[stm 0]++([stm 1]++([stm 2]++([stm 3]++([stm 4,stm 5,stm 6,stm 7,stm 8,stm 9,stm 10,stm 11,stm 12,stm 13]++([stm 14,stm 15,stm 16,stm 17]++([stm 18,stm 19,stm 20,stm 21,stm 22,stm 23,stm 24,stm 25,stm 26,stm 27]++[])))))):=by kernel_rfl
noncomputable def endHeap (P:Params):Heap:=absHeap (T_7 P) 229 {}
theorem fin_run (w:World) (os:OsState):topRun treeTable PR w 11 tAnn 2 (stT T_7 229 2441 w os).abs (restOf [] tEnv tCode ⟨215,0,236,63⟩ [topFrame q0])=some (stT T_7 229 2441 w os).abs:=by
 have h:∀ w:World,(fun os=>topRun treeTable PR w 11 tAnn 2 (stT T_7 229 2441 w os).abs (restOf [] tEnv tCode ⟨215,0,236,63⟩ [topFrame q0]))=fun os=>some (stT T_7 229 2441 w os).abs:=by intro w;kernel_rfl
 exact congrFun (h w) os
theorem topRun_to {w:World} {n M:Nat} {s r:Shared} {t:Thread} (h:topRun treeTable PR w 11 tAnn n s t=some r) (hle:n≤M):topRun treeTable PR w 11 tAnn M s t=some r:=by
 have:=topRun_mono (M - n) _ _ _ _ h
 rwa [Nat.add_sub_cancel' hle] at this
theorem whole_run (w:World) (os:OsState):topRun treeTable PR w 11 tAnn 72090 ⟨boot_heap w.params,⟨[]⟩,boot_drawn,boot_toks,os⟩ (topStub PR)=some (stT T_7 229 2441 w os).abs:=by
 have k0:=fin_run w os
 have k1:=piece_app (q:=q0) (segRun_of (congrFun (pc_7 w) os)) k0
 have k2:=piece_app (q:=q0) (segRun_of (congrFun (pc_6 w) os)) k1
 have k3:=piece_app (q:=q0) (segRun_of (congrFun (pc_5 w) os)) k2
 obtain ⟨n,hn,k4⟩:=pc_4 w os _ _ _ k3
 have k5:=piece_app (q:=q0) (segRun_of (congrFun (pc_3 w) os)) k4
 have k6:=piece_app (q:=q0) (segRun_of (congrFun (pc_2 w) os)) k5
 have k7:=piece_app (q:=q0) (segRun_of (congrFun (pc_1 w) os)) k6
 have hb:topRun treeTable PR w 11 tAnn _ (stT T_a 15 187 w os).abs (restOf (behindTheImports PR) tEnv tCode q0 [topFrame q0])=some (stT T_7 229 2441 w os).abs:=(congrArg (fun l=>topRun treeTable PR w 11 tAnn _ (stT T_a 15 187 w os).abs (restOf l tEnv tCode q0 [topFrame q0])) body_cut).trans k7
 have kb:=piece_block (q:=q0) (segRun_of (congrFun (pc_0 w) os)) hb
 have kt:=go_top (congrFun (pc_pre w) os) kb
 exact topRun_to kt (by omega)
end
end Mine
end
section
open PySem PySem.W PyProof.Rows PySem.Calls
namespace Mine
noncomputable abbrev hsize:Nat:=229
structure Nest where
 table:Addr
 code:Addr
 defs:List (Pos×Str)
structure Ctx where
 prog:Program
 w:World
 h1:Heap
 mg:Str→Option Value
 mb:Str→Option Value
 nest:List Nest
 gens:Array GenState
 os:OsState
noncomputable def Ctx.tabs (C:Ctx):List Addr:=C.nest.map (·.table)
noncomputable def N__int2digits:Nest:=⟨94,98,[(⟨42,4,51,28⟩, "_int2digits.<locals>.inner")]⟩
noncomputable def N__digits2int:Nest:=⟨101,105,[(⟨57,4,62,55⟩, "_digits2int.<locals>.inner")]⟩
noncomputable def N__law_lexer:Nest:=⟨186,190,[(⟨170,13,170,25⟩, "_law_lexer.<locals>.<lambda>"),(⟨171,18,171,64⟩, "_law_lexer.<locals>.<lambda>")]⟩
noncomputable def nestL:List Nest:=[N__int2digits,N__digits2int,N__law_lexer]
noncomputable def tabL:List Addr:=[94,101,186]
structure Base (C:Ctx):Prop where
 prog:C.prog=PR
 nest:C.nest=nestL
 h1:C.h1=endHeap C.w.params
 mg:C.mg=(endHeap C.w.params).nsMap mainGlobals
 mb:C.mb=(endHeap C.w.params).nsMap builtinsNs
 gens:C.gens=#[]
noncomputable def baseC (w:World) (os:OsState):Ctx:=⟨PR,w,endHeap w.params,(endHeap w.params).nsMap mainGlobals,(endHeap w.params).nsMap builtinsNs,nestL,#[],os⟩
noncomputable def LawAt (C:Ctx):Prop:=(∀ n∈C.nest,CodeHd C.h1 n.code n.table)∧∀ (s:Shared) (a:Addr) (n:Nat) (its:List Value) (ns:List Int),s.os=C.os→s.gens=#[]→(∀ b o,C.h1.get? b=some o→s.heap.get? b=some o)→
 s.heap.get? a=some { cls:=.type "list", dict:=none,data:=.seq its.toArray n,slots:=#[] }→IntsAre its ns→hsize≤a→ns.length≤63→
 wpAny (model PR C.w) callerA (PySem.call (.ref 228) [.ref a]) (fun v s'=>v=.bool true∧s'.os=C.os∧s'.gens=#[]∧(∀ b o,s.heap.get? b=some o→b∉C.tabs→s'.heap.get? b=some o)∧∀ n∈C.nest,∃ ps,s'.heap.get? n.table=some (tabObj ps)) (fun _ _=>False) s
noncomputable def cS:{ C:Ctx // Base C }:=@Classical.epsilon _ ⟨⟨baseC ⟨fun _ _=>0,{ strHash:=fun _=>0,shareClass:=fun _=>0,mergeTok:=id,idOf:=fun _=>0,idOfShared:=fun _ _=>0,followText:=fun _=>false,idOfImm:=fun _=>0 }⟩ {},⟨rfl,rfl,rfl,rfl,rfl,rfl⟩⟩⟩ fun c=>¬ LawAt c.1
noncomputable def C:Ctx:=cS.1
theorem B:Base C:=cS.2
theorem law_all (h:LawAt C) {c:Ctx} (b:Base c):LawAt c:=bc fun n=>Classical.epsilon_spec (p:=fun c:{ C:Ctx // Base C }=>¬ LawAt c.1) ⟨⟨c,b⟩,n⟩ h
end Mine
end
section
open PySem PySem.W PyProof.Rows
namespace Mine
set_option genCtorIdx true in
inductive V where
 | none
 | bool (b:Bool)
 | int (i:Int)
 | str (s:List Nat)
 | tup (vs:List V)
 | lst (vs:List V)
 | rng (lo hi st:Int)
 | slc (lo hi st:Option Int)
 | loc (a:Addr)
 | raw (v:Value)
structure FnRec where
 name:Str
 qual:Str
 params:Arguments
 body:FuncBody
 scope:Scope
set_option genCtorIdx true in
inductive PObj where
 | list (vs:List V)
 | ns (at_:List (Str×V))
 | inst (cls:Addr) (d:Addr)
 | cell (v:Option V)
 | func (f:FnRec) (cap:List (Str×Addr)) (d:Option Addr)
 | bound (f:Value) (self:V)
 | citer (f:V) (sent:V)
 | cend
 | riter (vs:List V) (i:Nat)
noncomputable abbrev Store:=Addr→Option PObj
noncomputable def upd (σ:Store) (a:Addr) (o:Option PObj):Store:=fun b=>if b=a then o else σ b
theorem upd_self (σ:Store) (a:Addr) (o:Option PObj):upd σ a o a=o:=by simp [upd]
theorem upd_ne (σ:Store) {a b:Addr} (o:Option PObj) (h:b≠a):upd σ a o b=σ b:=by simp [upd,h]
noncomputable abbrev tupO (items:Array Value) (n:Nat):Obj:={ cls:=.type "tuple", dict:=none,data:=.seq items n,slots:=#[] }
noncomputable abbrev citO (v u e:Value):Obj:={ cls:=.type "callable_iterator", dict:=none,data:=.fields #[v,u,e],slots:=#[] }
noncomputable abbrev revO (v:Value) (i:Int):Obj:={ cls:=.type "list_reverseiterator", dict:=none,data:=.fields #[v,.int i 0],slots:=#[] }
noncomputable abbrev lstO (items:Array Value) (n:Nat):Obj:={ cls:=.type "list", dict:=none,data:=.seq items n,slots:=#[] }
mutual
inductive Rel (σ:Store) (h:Heap):Value→V→Prop
 | none:Rel σ h .none .none
 | bool (b:Bool):Rel σ h (.bool b) (.bool b)
 | int (i:Int) (t:Tok):Rel σ h (.int i t) (.int i)
 | str (s:List Nat) (t:Tok):Rel σ h (.str ⟨s.toArray⟩ t) (.str s)
 | tup {a:Addr} {items:List Value} {n:Nat} {vs:List V} (ho:h.get? a=some (tupO items.toArray n)) (hσ:σ a=Option.none) (ht:a∉C.tabs) (hr:Rels σ h items vs):Rel σ h (.ref a) (.tup vs)
 | lst {a:Addr} {items:List Value} {n:Nat} {vs:List V} (ho:h.get? a=some (lstO items.toArray n)) (hσ:σ a=Option.none) (ht:a∉C.tabs) (hr:Rels σ h items vs):Rel σ h (.ref a) (.lst vs)
 | rng {a:Addr} {lo hi st:Int} {t u v:Tok} (ho:IsRange h a lo hi st t u v) (hσ:σ a=Option.none) (ht:a∉C.tabs):Rel σ h (.ref a) (.rng lo hi st)
 | slc {a:Addr} {l u t:Option (Int×Tok)} (ho:h.get? a=some { cls:=.type "slice", dict:=none,data:=.fields #[partValue l,partValue u,partValue t],slots:=#[] }) (hσ:σ a=Option.none) (ht:a∉C.tabs):
   Rel σ h (.ref a) (.slc (l.map (·.1)) (u.map (·.1)) (t.map (·.1)))
 | loc (a:Addr):Rel σ h (.ref a) (.loc a)
 | raw (v:Value):Rel σ h v (.raw v)
inductive Rels (σ:Store) (h:Heap):List Value→List V→Prop
 | nil:Rels σ h [] []
 | cons {v:Value} {pv:V} {l:List Value} {pl:List V} (hv:Rel σ h v pv) (hl:Rels σ h l pl):Rels σ h (v :: l) (pv :: pl)
end
noncomputable def RelI (σ:Store) (h:Heap) (x:Value):V→Prop
 | .none=>x=.none
 | .bool b=>x=.bool b
 | .int i=>∃ t,x=.int i t
 | .str s=>∃ t,x=.str ⟨s.toArray⟩ t
 | .loc a=>x=.ref a
 | .raw v=>x=v
 | .tup vs=>∃ a items n,x=.ref a∧h.get? a=some (tupO items n)∧σ a=Option.none∧a∉C.tabs∧Rels σ h items.toList vs
 | .lst vs=>∃ a items n,x=.ref a∧h.get? a=some (lstO items n)∧σ a=Option.none∧a∉C.tabs∧Rels σ h items.toList vs
 | .rng lo hi st=>∃ a t u v,x=.ref a∧IsRange h a lo hi st t u v∧σ a=Option.none∧a∉C.tabs
 | _=>∀ _:Nat,True
theorem Rel.inv {σ:Store} {h:Heap} {x:Value} {pv:V} (r:Rel σ h x pv):RelI σ h x pv:=by
 cases r<;>first | rfl | exact ⟨_,rfl⟩ | exact ⟨_,_,_,rfl,‹_›,‹_›,‹_›,‹_›⟩ | exact ⟨_,_,_,_,rfl,‹_›,‹_›,‹_›⟩ | exact fun _=>trivial
noncomputable def RelsI (σ:Store) (h:Heap) (l:List Value):List V→Prop
 | []=>l=[]
 | p :: ps=>∃ v l',l=v :: l'∧Rel σ h v p∧Rels σ h l' ps
theorem Rels.inv {σ:Store} {h:Heap} {l:List Value} {pl:List V} (r:Rels σ h l pl):RelsI σ h l pl:=by
 cases r with
 | nil=>rfl
 | cons a b=>exact ⟨_,_,rfl,a,b⟩
theorem Rels.ind {σ:Store} {h:Heap} {P:List Value→List V→Prop} (n:P [] []) (c:∀ v pv l pl,Rel σ h v pv→Rels σ h l pl→P l pl→P (v :: l) (pv :: pl)) {l:List Value} {pl:List V} (r:Rels σ h l pl):P l pl:=
 Rels.rec (motive_1:=fun _ _ _=>True) (motive_2:=fun l pl _=>P l pl) trivial (fun _=>trivial) (fun _ _=>trivial) (fun _ _=>trivial) (fun _ _ _ _ _=>trivial) (fun _ _ _ _ _=>trivial) (fun _ _ _=>trivial) (fun _ _ _=>trivial) (fun _=>trivial) (fun _=>trivial) n (fun hv hl _ ih=>c _ _ _ _ hv hl ih) r
noncomputable def Fixed (o:Obj):Prop:=(∃ items n,o.data=.seq items n)∨((o.cls=.type "range" ∨ o.cls=.type "slice")∧∃ vs,o.data=.fields vs)
structure SeqKeep (σ:Store) (h:Heap) (σ':Store) (h':Heap):Prop where
 keep:∀ a o,h.get? a=some o→Fixed o→σ a=none→a∉C.tabs→h'.get? a=some o
 free:∀ a o,h.get? a=some o→Fixed o→σ a=none→a∉C.tabs→σ' a=none
theorem Rel.mono {σ σ':Store} {h h':Heap} (k:SeqKeep σ h σ' h') {v:Value} {pv:V} (r:Rel σ h v pv):Rel σ' h' v pv:=
 Rel.rec (motive_1:=fun v pv _=>Rel σ' h' v pv) (motive_2:=fun l pl _=>Rels σ' h' l pl) .none .bool .int .str
  (fun ho hσ ht _ ih=>.tup (k.keep _ _ ho (.inl ⟨_,_,rfl⟩) hσ ht) (k.free _ _ ho (.inl ⟨_,_,rfl⟩) hσ ht) ht ih)
  (fun ho hσ ht _ ih=>.lst (k.keep _ _ ho (.inl ⟨_,_,rfl⟩) hσ ht) (k.free _ _ ho (.inl ⟨_,_,rfl⟩) hσ ht) ht ih)
  (fun ho hσ ht=>.rng (k.keep _ _ ho (.inr ⟨.inl rfl,_,rfl⟩) hσ ht) (k.free _ _ ho (.inr ⟨.inl rfl,_,rfl⟩) hσ ht) ht)
  (fun ho hσ ht=>.slc (k.keep _ _ ho (.inr ⟨.inr rfl,_,rfl⟩) hσ ht) (k.free _ _ ho (.inr ⟨.inr rfl,_,rfl⟩) hσ ht) ht)
  .loc .raw .nil (fun _ _ a b=>.cons a b) r
theorem Rels.mono {σ σ':Store} {h h':Heap} (k:SeqKeep σ h σ' h') {l:List Value} {pl:List V} (r:Rels σ h l pl):Rels σ' h' l pl:=r.ind (P:=Rels σ' h') .nil fun _ _ _ _ hv _ ih=>.cons (hv.mono k) ih
theorem Rels.length {σ:Store} {h:Heap} {l:List Value} {pl:List V} (r:Rels σ h l pl):l.length=pl.length:=r.ind (P:=fun l pl=>l.length=pl.length) rfl fun _ _ _ _ _ _ ih=>congrArg (· + 1) ih
theorem Rels.get {σ:Store} {h:Heap} {l:List Value} {pl:List V} (r:Rels σ h l pl) {i:Nat} {pv:V} (e:pl[i]?=some pv):∃ v,l[i]?=some v∧Rel σ h v pv:=
 r.ind (P:=fun l pl=>∀ i pv,pl[i]?=some pv→∃ v,l[i]?=some v∧Rel σ h v pv) (fun _ _ e=>absurd (List.getElem?_nil.symm.trans e) (Option.some_ne_none _).symm)
  (fun v p l pl hv _ ih i=>Nat.casesOn i (fun q e=>⟨v,rfl,Option.some.inj e ▸ hv⟩) (fun i q e=>ih i q e)) i pv e
theorem Rels.append {σ:Store} {h:Heap} {l l':List Value} {pl pl':List V} (r:Rels σ h l pl) (r':Rels σ h l' pl'):Rels σ h (l++l') (pl++pl'):=r.ind (P:=fun l pl=>Rels σ h (l++l') (pl++pl')) r' fun _ _ _ _ hv _ ih=>.cons hv ih
inductive EntR (σ:Store) (h:Heap):List DictEntry→List (Str×V)→Prop
 | nil:EntR σ h [] []
 | cons {x:Str} {t:Tok} {hs:Int} {v:Value} {pv:V} {es:List DictEntry} {at_:List (Str×V)} (hv:Rel σ h v pv) (hl:EntR σ h es at_):EntR σ h (⟨hs,.str x t,v⟩ :: es) ((x,pv) :: at_)
theorem EntR.mono {σ σ':Store} {h h':Heap} (k:SeqKeep σ h σ' h') {es:List DictEntry} {at_:List (Str×V)} (x:EntR σ h es at_):EntR σ' h' es at_:=by
 induction x with
 | nil=>exact .nil
 | cons hv _ ih=>exact .cons (hv.mono k) ih
noncomputable def CodeOk (σ:Store) (h:Heap) (cd:Value) (q:Str):Prop:=h.CodeRec cd q∧∀ c,cd=.ref c→σ c=none∧c∉C.tabs
theorem datN {a b:Data} (h:a=b) (k:Nat.beq a.ctorIdx b.ctorIdx=false):False:=by
 subst h
 rw [Nat.beq_refl] at k
 cases k
inductive FnRel (σ:Store) (h:Heap) (a:Addr) (f:FnRec) (cap:List (Str×Addr)) (d:Option Addr):Prop
 | mk (o:Obj) (fd:FuncData) (h0:h.get? a=some o) (h1:o.cls=.type "function") (h2:o.dict=d) (h3:o.data=.func fd) (h4:fd.name=f.name) (h5:fd.qualname=f.qual) (h6:fd.params=f.params) (h7:fd.body=f.body) (h8:fd.scope=f.scope)
   (h9:fd.globals=mainGlobals) (h10:fd.closure=cap) (h11:fd.defaults=.none) (h12:fd.kwdefaults=.none) (h13:fd.builtins=builtinsNs) (h14:CodeOk σ h fd.code f.qual)
noncomputable def ObjRel (σ:Store) (h:Heap) (a:Addr):PObj→Prop
 | .list vs=>∃ items n,h.get? a=some (lstO items n)∧Rels σ h items.toList vs
 | .ns at_=>∃ es n,h.get? a=some (dictOf es n)∧EntR σ h es at_
 | .inst c d=>h.get? a=some (instObj c d)
 | .cell none=>h.IsCell a none
 | .cell (some pv)=>∃ v,h.IsCell a (some v)∧Rel σ h v pv
 | .func f cap d=>FnRel σ h a f cap d
 | .bound f self=>∃ v,h.get? a=some (methodObj f v)∧Rel σ h v self
 | .citer f sent=>∃ v u,h.get? a=some (citO v u (.bool false))∧Rel σ h v f∧Rel σ h u sent
 | .cend=>h.get? a=some (citO .none .none (.bool true))
 | .riter vs i=>∃ l,h.get? a=some (revO (.ref l) ((i:Int) - 1))∧Rel σ h (.ref l) (.lst vs)
noncomputable def TabOk (σ:Store) (h:Heap) (n:Nest):Prop:=
 ∃ ps,h.get? n.table=some (tabObj ps)∧TriplesOk ps.toList∧∀ d∈n.defs,∀ cv,codeAmong d.1 ps.toList=some cv→CodeOk σ h cv d.2
structure Inv (σ:Store) (s:Shared):Prop where
 base:∀ a o,C.h1.get? a=some o→a∉C.tabs→s.heap.get? a=some o
 top:∃ o,C.h1.get? (C.h1.objs.size - 1)=some o∧C.h1.objs.size - 1∉C.tabs∧0 < C.h1.objs.size
 own:∀ a o,σ a=some o→C.h1.objs.size≤a∧ObjRel σ s.heap a o
 tabLt:∀ n∈C.nest,n.table < C.h1.objs.size
 tabs:∀ n∈C.nest,TabOk σ s.heap n
 gens:s.gens=C.gens
 os:s.os=C.os
theorem Inv.size {σ:Store} {s:Shared} (i:Inv σ s):C.h1.objs.size≤s.heap.objs.size:=by
 refine bc fun hbc=>?_
 obtain ⟨o,h1,h2,h3⟩:=i.top
 refine hbc ?_
 clear hbc
 have h4:C.h1.objs.size - 1 < s.heap.objs.size:=Heap.lt_size (i.base _ o h1 h2)
 exact Nat.le_of_pred_lt h4
structure Ext (σ:Store) (h:Heap) (σ':Store) (h':Heap):Prop where
 keep:∀ a o,h.get? a=some o→σ a=none→a∉C.tabs→h'.get? a=some o
 free:∀ a o,h.get? a=some o→σ a=none→a∉C.tabs→σ' a=none
 cell:∀ c v,σ c=some (.cell v)→∃ v',σ' c=some (.cell v')
theorem Ext.seq {σ σ':Store} {h h':Heap} (x:Ext σ h σ' h'):SeqKeep σ h σ' h':=⟨fun a o ho _ hs ht=>x.keep a o ho hs ht,fun a o ho _ hs ht=>x.free a o ho hs ht⟩
theorem Ext.refl {σ:Store} {h:Heap}:Ext σ h σ h:=⟨fun _ _ e _ _=>e,fun _ _ _ e _=>e,fun _ v e=>⟨v,e⟩⟩
theorem Ext.trans {σ σ₁ σ₂:Store} {h h₁ h₂:Heap} (x:Ext σ h σ₁ h₁) (y:Ext σ₁ h₁ σ₂ h₂):Ext σ h σ₂ h₂:=
 ⟨fun a o e hs ht=>y.keep a o (x.keep a o e hs ht) (x.free a o e hs ht) ht,fun a o e hs ht=>y.free a o (x.keep a o e hs ht) (x.free a o e hs ht) ht,fun c v e=>(x.cell c v e).elim fun _ e'=>y.cell c _ e'⟩
structure Kx where
 names:List (Str×NameKind)
 qual:Str
 code:Value
 d:Nat
set_option genCtorIdx true in
inductive Slot where
 | val (v:V)
 | sh (c:Addr)
 | emp
noncomputable abbrev Fm:=List (Str×Slot)
inductive SlotL (K:Kx) (env:Env) (σ:Store) (h:Heap) (x:Str) (pv:V):Prop
 | mk (h1:K.names.lookup x=some .local) (m:Str→Option Value) (v:Value) (h2:h.Ns env.locals m) (h3:m x=some v) (h4:Rel σ h v pv)
inductive SlotC (K:Kx) (env:Env) (σ:Store) (h:Heap) (x:Str) (pv:V):Prop
 | mk (h1:K.names.lookup x=some .cell∨K.names.lookup x=some .free) (c:Addr) (v:Value) (h2:env.cells.lookup x=some c) (h3:h.IsCell c (some v)) (h4:Rel σ h v pv) (h5:σ c=none) (h6:c∉C.tabs)
structure CellF (env:Env) (σ:Store) (h:Heap) (c:Addr):Prop where
 ne:env.locals≠c
 lo:C.h1.objs.size≤c
 nt:c∉C.tabs
 ex:σ c=none→∃ v,h.IsCell c v
 cl:∀ o,σ c=some o→∃ v,o=.cell v
noncomputable def SlotOk (K:Kx) (env:Env) (σ:Store) (h:Heap) (x:Str):Slot→Prop
 | .val pv=>SlotL K env σ h x pv∨SlotC K env σ h x pv
 | .sh c=>(K.names.lookup x=some .cell∨K.names.lookup x=some .free)∧env.cells.lookup x=some c∧∃ o,σ c=some (.cell o)
 | .emp=>K.names.lookup x=some .cell∧∃ c,env.cells.lookup x=some c∧(∃ v:{ v:Option Value // v=Option.none },h.IsCell c v)∧σ c=none∧c∉C.tabs
structure Rep (K:Kx) (env:Env) (ρ:Fm) (σ:Store) (h:Heap):Prop where
 kind:env.scope.kind=.function
 names:env.scope.names=K.names
 glob:env.globals=mainGlobals
 blt:env.builtins=builtinsNs
 qual:env.qual=K.qual
 code:env.code=K.code
 loc:∃ m,h.Ns env.locals m
 locF:σ env.locals=none∧env.locals∉C.tabs∧C.h1.objs.size≤env.locals
 cells:∀ x c,env.cells.lookup x=some c→CellF env σ h c
 cinj:∀ x y c,env.cells.lookup x=some c→env.cells.lookup y=some c→x=y
 vars:∀ p∈ρ,SlotOk K env σ h p.1 p.2
noncomputable def AOk (d:Nat) (A:Around):Prop:=A.handled=none∧A.depth + d≤990∧A.units + 10 * d≤9800
theorem cellTr {h h':Heap} {c:Addr} {v:Option Value} (x:h.IsCell c v) (k:∀ o,h.get? c=some o→h'.get? c=some o):h'.IsCell c v:=x.elim fun o q=>⟨o,k o q.1,q.2⟩
theorem nsTr {h h':Heap} {a:Addr} {m:Str→Option Value} (x:h.Ns a m) (k:∀ o,h.get? a=some o→h'.get? a=some o):h'.Ns a m:=by
 obtain ⟨o,es,ep,e,q⟩:=x
 exact ⟨o,es,ep,k o e,q⟩
theorem Rep.mono {K:Kx} {env:Env} {ρ:Fm} {σ σ':Store} {h h':Heap} (r:Rep K env ρ σ h) (x:Ext σ h σ' h'):Rep K env ρ σ' h':=by
 have hcell:=x.cell
 refine bc fun hbc=>?_
 obtain ⟨m,hm⟩:=r.loc
 refine hbc ?_
 clear hbc
 have hns:∀ m,h.Ns env.locals m→h'.Ns env.locals m:=fun m y=>nsTr y fun _ ho=>x.keep _ _ ho r.locF.1 r.locF.2.1
 have hce:∀ c v,σ c=none→c∉C.tabs→h.IsCell c v→h'.IsCell c v:=fun c v hs ht y=>cellTr y fun _ ho=>x.keep _ _ ho hs ht
 refine ⟨r.kind,r.names,r.glob,r.blt,r.qual,r.code,⟨m,hns m hm⟩,⟨(by obtain ⟨o,es,ep,ho,q⟩:=hm;exact x.free _ o ho r.locF.1 r.locF.2.1),r.locF.2⟩,fun y c hc=>?_,r.cinj,fun p hp=>?_⟩
 ·refine bc fun hbc=>?_
  obtain ⟨h1,h2,h3,h4,h5⟩:=r.cells y c hc
  refine hbc ?_
  clear hbc
  refine ⟨h1,h2,h3,fun hs=>?_,fun o hs=>?_⟩
  ·cases hq:σ c with
   | none=>obtain ⟨v,hv⟩:=h4 hq;exact ⟨v,hce c v hq h3 hv⟩
   | some o=>
    refine bc fun hbc=>?_
    obtain ⟨v,rfl⟩:=h5 o hq
    obtain ⟨o',e'⟩:=hcell c v hq
    refine hbc ?_
    clear hbc
    exact absurd (e'.symm.trans hs) (Option.some_ne_none _)
  ·cases hq:σ c with
   | none=>
    refine bc fun hbc=>?_
    obtain ⟨v,hv⟩:=h4 hq
    refine hbc ?_
    clear hbc
    have:=hv.elim fun o' ho'=>x.free c o' ho'.1 hq h3
    exact absurd (this.symm.trans hs).symm (Option.some_ne_none _)
   | some o₀=>
    refine bc fun hbc=>?_
    obtain ⟨v,rfl⟩:=h5 o₀ hq
    obtain ⟨o',e'⟩:=hcell c v hq
    refine hbc ?_
    clear hbc
    obtain rfl:=Option.some.inj (e'.symm.trans hs);exact ⟨o',rfl⟩
 ·have hv:=r.vars p hp
  refine bc fun hbc=>?_
  obtain ⟨y,sl⟩:=p
  refine hbc ?_
  clear hbc
  cases sl with
  | val pv=>
   rcases hv with ⟨h1,m,v,h2,h3,h4⟩ | ⟨h1,c,v,h2,h3,h4,h5,h6⟩
   ·exact .inl ⟨h1,m,v,hns m h2,h3,h4.mono x.seq⟩
   ·exact .inr ⟨h1,c,v,h2,hce c _ h5 h6 h3,h4.mono x.seq,(h3.elim fun o' ho'=>x.free c o' ho'.1 h5 h6),h6⟩
  | sh c=>
   refine bc fun hbc=>?_
   obtain ⟨h1,h2,o,h3⟩:=hv
   obtain ⟨o',e'⟩:=hcell c o h3
   refine hbc ?_
   clear hbc
   exact ⟨h1,h2,o',e'⟩
  | emp=>
   refine bc fun hbc=>?_
   obtain ⟨h1,c,h2,⟨v,h3⟩,h5,h6⟩:=hv
   refine hbc ?_
   clear hbc
   exact ⟨h1,c,h2,⟨v,hce c _ h5 h6 h3⟩,(h3.elim fun o' ho'=>x.free c o' ho'.1 h5 h6),h6⟩

noncomputable def Bot:Value→Shared→Prop:=fun _ _=>False
noncomputable def EvP (K:Kx) (ρ:Fm) (σ:Store) (e:Expr) (Q:V→Store→Prop):Prop:=
 ∀ (A:Around) (env:Env) (s:Shared),AOk K.d A→Rep K env ρ σ s.heap→Inv σ s→∀ QM:Value→Shared→Prop,
  (∀ v pv σ' s',Q pv σ'→Inv σ' s'→Ext σ s.heap σ' s'.heap→Rel σ' s'.heap v pv→QM v s')→wpAny (model C.prog C.w) A (eval e env) QM Bot s
noncomputable def EvsP (K:Kx) (ρ:Fm):List Expr→Store→(List V→Store→Prop)→Prop
 | [],σ,Q=>Q [] σ
 | e :: r,σ,Q=>EvP K ρ σ e (fun pv σ₁=>EvsP K ρ r σ₁ (fun pl σ₂=>Q (pv :: pl) σ₂))
noncomputable def TsP (K:Kx) (ρ:Fm) (σ:Store) (e:Expr) (Q:Bool→Store→Prop):Prop:=
 ∀ (A:Around) (env:Env) (s:Shared),AOk K.d A→Rep K env ρ σ s.heap→Inv σ s→∀ QM:Bool→Shared→Prop,
  (∀ b σ' s',Q b σ'→Inv σ' s'→Ext σ s.heap σ' s'.heap→QM b s')→wpAny (model C.prog C.w) A (isTrue e env (eval e env)) QM Bot s
set_option genCtorIdx true in
inductive Fl where
 | next | brk | cont
 | ret (v:V)
noncomputable def FlRel (σ:Store) (h:Heap):Flow→Fl→Prop
 | .next,.next=>True
 | .brk,.brk=>True
 | .cont,.cont=>True
 | .ret v,.ret pv=>Rel σ h v pv
 | _,_=>False
noncomputable def Foot (env:Env) (a:Addr):Prop:=a=env.locals∨∃ x,env.scope.names.lookup x=some .cell∧env.cells.lookup x=some a
structure ExtF (env:Env) (σ:Store) (h:Heap) (σ':Store) (h':Heap):Prop where
 keep:∀ a o,h.get? a=some o→σ a=none→a∉C.tabs→¬ Foot env a→h'.get? a=some o
 free:∀ a o,h.get? a=some o→σ a=none→a∉C.tabs→¬ Foot env a→σ' a=none
 cell:∀ c v,σ c=some (.cell v)→∃ v',σ' c=some (.cell v')
theorem Ext.toF {env:Env} {σ σ':Store} {h h':Heap} (x:Ext σ h σ' h'):ExtF env σ h σ' h':=⟨fun a o e hs ht _=>x.keep a o e hs ht,fun a o e hs ht _=>x.free a o e hs ht,x.cell⟩
theorem ExtF.refl {env:Env} {σ:Store} {h:Heap}:ExtF env σ h σ h:=Ext.refl.toF
theorem ExtF.trans {env:Env} {σ σ₁ σ₂:Store} {h h₁ h₂:Heap} (x:ExtF env σ h σ₁ h₁) (y:ExtF env σ₁ h₁ σ₂ h₂):ExtF env σ h σ₂ h₂:=
 ⟨fun a o e hs ht hf=>y.keep a o (x.keep a o e hs ht hf) (x.free a o e hs ht hf) ht hf,fun a o e hs ht hf=>y.free a o (x.keep a o e hs ht hf) (x.free a o e hs ht hf) ht hf,fun c v e=>(x.cell c v e).elim fun _ e'=>y.cell c _ e'⟩
noncomputable def ExP (K:Kx) (ρ:Fm) (σ:Store) (ss:List Stmt) (Q:Fl→Fm→Store→Prop):Prop:=
 ∀ (A:Around) (env:Env) (s:Shared),AOk K.d A→Rep K env ρ σ s.heap→Inv σ s→∀ QM:Flow→Shared→Prop,
  (∀ f fl ρ' σ' s',Q fl ρ' σ'→FlRel σ' s'.heap f fl→Rep K env ρ' σ' s'.heap→Inv σ' s'→ExtF env σ s.heap σ' s'.heap→QM f s')→wpAny (model C.prog C.w) A (execs ss env) QM Bot s
noncomputable def StP (K:Kx) (ρ:Fm) (σ:Store) (st:Stmt) (Q:Fl→Fm→Store→Prop):Prop:=
 ∀ (A:Around) (env:Env) (s:Shared),AOk K.d A→Rep K env ρ σ s.heap→Inv σ s→∀ QM:Flow→Shared→Prop,
  (∀ f fl ρ' σ' s',Q fl ρ' σ'→FlRel σ' s'.heap f fl→Rep K env ρ' σ' s'.heap→Inv σ' s'→ExtF env σ s.heap σ' s'.heap→QM f s')→wpAny (model C.prog C.w) A (exec st env) QM Bot s
noncomputable def AsP (K:Kx) (ρ:Fm) (σ:Store) (t:Expr) (pv:V) (Q:Fm→Store→Prop):Prop:=
 ∀ (A:Around) (env:Env) (s:Shared) (v:Value),AOk K.d A→Rep K env ρ σ s.heap→Inv σ s→Rel σ s.heap v pv→∀ QM:Unit→Shared→Prop,
  (∀ ρ' σ' s',Q ρ' σ'→Rep K env ρ' σ' s'.heap→Inv σ' s'→ExtF env σ s.heap σ' s'.heap→QM () s')→wpAny (model C.prog C.w) A (assign t env v) QM Bot s
section
variable {K:Kx} {ρ:Fm} {σ:Store}
theorem EvP.mono {e:Expr} {Q Q':V→Store→Prop} (h:EvP K ρ σ e Q) (k:∀ v σ',Q v σ'→Q' v σ'):EvP K ρ σ e Q':=
 fun A env s ha hr hi QM hq=>h A env s ha hr hi QM fun v pv σ' s' q=>hq v pv σ' s' (k _ _ q)
theorem TsP.mono {e:Expr} {Q Q':Bool→Store→Prop} (h:TsP K ρ σ e Q) (k:∀ v σ',Q v σ'→Q' v σ'):TsP K ρ σ e Q':=
 fun A env s ha hr hi QM hq=>h A env s ha hr hi QM fun b σ' s' q=>hq b σ' s' (k _ _ q)
theorem ExP.mono {ss:List Stmt} {Q Q':Fl→Fm→Store→Prop} (h:ExP K ρ σ ss Q) (k:∀ f ρ' σ',Q f ρ' σ'→Q' f ρ' σ'):ExP K ρ σ ss Q':=
 fun A env s ha hr hi QM hq=>h A env s ha hr hi QM fun f fl ρ' σ' s' q=>hq f fl ρ' σ' s' (k _ _ _ q)
theorem Inv.toks {s:Shared} {t:Nat} (i:Inv σ s):Inv σ { s with toks:=t }:=⟨i.base,i.top,i.own,i.tabLt,i.tabs,i.gens,i.os⟩
theorem ev_none {k:Nat} {pos:Pos} {Q:V→Store→Prop} (h:Q .none σ):EvP K ρ σ (.Constant .none k pos) Q:=
 fun A env s ha hr hi QM hq=>wpAny_Constant_none (hq _ _ _ _ h hi .refl .none)
theorem ev_bool {b:Bool} {k:Nat} {pos:Pos} {Q:V→Store→Prop} (h:Q (.bool b) σ):EvP K ρ σ (.Constant (.bool b) k pos) Q:=
 fun A env s ha hr hi QM hq=>wpAny_Constant_bool (hq _ _ _ _ h hi .refl (.bool b))
theorem ev_int {i:Int} {k:Nat} {pos:Pos} {Q:V→Store→Prop} (h:Q (.int i) σ):EvP K ρ σ (.Constant (.int i) k pos) Q:=
 fun A env s ha hr hi QM hq=>wpAny_Constant_int (hq _ _ _ _ h hi.toks .refl (.int i _))
theorem ev_str {x:Str} {k:Nat} {pos:Pos} {Q:V→Store→Prop} (h:Q (.str x.cps.toList) σ):EvP K ρ σ (.Constant (.str x) k pos) Q:=
 fun A env s ha hr hi QM hq=>wpAny_Constant_str (hq _ _ _ _ h hi.toks .refl (.str x.cps.toList _))
theorem ev_name {x:Str} {pos:Pos} {v:V} {Q:V→Store→Prop} (hx:(x,Slot.val v)∈ρ) (h:Q v σ) (hd:autoParam ((x == ("__debug__" : Str))=false) aD) (hn:autoParam ((x == ("__classdict__" : Str))=false) aD):
  EvP K ρ σ (.Name x pos) Q:=fun A env s ha hr hi QM hq=>by
 refine wpAny_Name ?_ hd
 rcases hr.vars _ hx with ⟨h1,m,mv,h2,h3,h4⟩ | ⟨h1,c,mv,h2,h3,h4,_,_⟩
 ·exact wpAny_loadName_local hr.kind ((congrArg (·.lookup x) hr.names).trans h1) h2 h3 (hq _ _ _ _ h hi .refl h4)
 ·rcases h1 with h1 | h1
  ·exact wpAny_loadName_cell hr.kind ((congrArg (·.lookup x) hr.names).trans h1) h2 h3 (hq _ _ _ _ h hi .refl h4)
  ·exact wpAny_loadName_free hr.kind ((congrArg (·.lookup x) hr.names).trans h1) h2 h3 (hq _ _ _ _ h hi .refl h4) hn
theorem ev_nameC {x:Str} {pos:Pos} {c:Addr} {v:V} {Q:V→Store→Prop} (hx:(x,Slot.sh c)∈ρ) (hc:σ c=some (.cell (some v))) (h:Q v σ) (hd:autoParam ((x == ("__debug__" : Str))=false) aD) (hn:autoParam ((x == ("__classdict__" : Str))=false) aD):
  EvP K ρ σ (.Name x pos) Q:=fun A env s ha hr hi QM hq=>by
 refine wpAny_Name ?_ hd
 refine bc fun hbc=>?_
 obtain ⟨h1,h2,_⟩:=hr.vars _ hx
 obtain ⟨mv,h3,h4⟩:=(hi.own c _ hc).2
 refine hbc ?_
 clear hbc
 rcases h1 with h1 | h1
 ·exact wpAny_loadName_cell hr.kind ((congrArg (·.lookup x) hr.names).trans h1) h2 h3 (hq _ _ _ _ h hi .refl h4)
 ·exact wpAny_loadName_free hr.kind ((congrArg (·.lookup x) hr.names).trans h1) h2 h3 (hq _ _ _ _ h hi .refl h4) hn
end
end Mine
end
section
open PySem PySem.W PyProof.Rows PySem.Calls
namespace Mine
noncomputable def M1 (d:Nat) (m:Value→Sem Value) (a:V) (σ:Store) (Q:V→Store→Prop):Prop:=
 ∀ (A:Around) (s:Shared) (x:Value),AOk d A→Inv σ s→Rel σ s.heap x a→∀ QM:Value→Shared→Prop,
  (∀ v pv σ' s',Q pv σ'→Inv σ' s'→Ext σ s.heap σ' s'.heap→Rel σ' s'.heap v pv→QM v s')→wpAny (model C.prog C.w) A (m x) QM Bot s
noncomputable def M2 (d:Nat) (m:Value→Value→Sem Value) (a b:V) (σ:Store) (Q:V→Store→Prop):Prop:=
 ∀ (A:Around) (s:Shared) (x y:Value),AOk d A→Inv σ s→Rel σ s.heap x a→Rel σ s.heap y b→∀ QM:Value→Shared→Prop,
  (∀ v pv σ' s',Q pv σ'→Inv σ' s'→Ext σ s.heap σ' s'.heap→Rel σ' s'.heap v pv→QM v s')→wpAny (model C.prog C.w) A (m x y) QM Bot s
noncomputable def M1B (d:Nat) (a:V) (σ:Store) (Q:Bool→Store→Prop):Prop:=
 ∀ (A:Around) (s:Shared) (x:Value),AOk d A→Inv σ s→Rel σ s.heap x a→∀ QM:Bool→Shared→Prop,
  (∀ b σ' s',Q b σ'→Inv σ' s'→Ext σ s.heap σ' s'.heap→QM b s')→wpAny (model C.prog C.w) A (truthy x) QM Bot s
section
variable {K:Kx} {ρ:Fm} {σ:Store}
structure Ctx.Ok (C:Ctx):Prop where
 g:C.h1.Ns mainGlobals C.mg
 b:C.h1.Ns builtinsNs C.mb
 gt:mainGlobals∉C.tabs
 bt:builtinsNs∉C.tabs
theorem Inv.ns (i:Inv σ s) {a:Addr} {m:Str→Option Value} (h:C.h1.Ns a m) (ht:a∉C.tabs):s.heap.Ns a m:=
 by obtain ⟨o,es,ep,e,r⟩:=h;exact ⟨o,es,ep,i.base a o e ht,r⟩
theorem ev_global (O:C.Ok) {x:Str} {pos:Pos} {v:Value} {Q:V→Store→Prop} (hk:K.names.lookup x=some .globalImplicit) (hv:C.mg x=some v) (h:Q (.raw v) σ) (hd:autoParam ((x == ("__debug__" : Str))=false) aD):
  EvP K ρ σ (.Name x pos) Q:=fun A env s ha hr hi QM hq=>
 Name_function_global hr.kind ((congrArg (·.lookup x) hr.names).trans hk) (loadGlobal_global (hr.glob ▸ hi.ns O.g O.gt) hv (hq _ _ _ _ h hi .refl (.raw v))) hd
theorem ev_builtin (O:C.Ok) {x:Str} {pos:Pos} {v:Value} {Q:V→Store→Prop} (hk:K.names.lookup x=some .globalImplicit) (hm:C.mg x=none) (hv:C.mb x=some v) (h:Q (.raw v) σ) (hd:autoParam ((x == ("__debug__" : Str))=false) aD):
  EvP K ρ σ (.Name x pos) Q:=fun A env s ha hr hi QM hq=>
 Name_function_global hr.kind ((congrArg (·.lookup x) hr.names).trans hk) (loadGlobal_builtin (hr.glob ▸ hi.ns O.g O.gt) hm (hr.blt ▸ hi.ns O.b O.bt) hv (hq _ _ _ _ h hi .refl (.raw v))) hd
theorem seq2 {A:Around} {env:Env} {s:Shared} {l r:Expr} {P:V→Store→Prop} {R:V→V→Store→Prop} (ha:AOk K.d A) (hr:Rep K env ρ σ s.heap) (hi:Inv σ s)
  (h:EvP K ρ σ l (fun a σ₁=>EvP K ρ σ₁ r (fun b σ₂=>R a b σ₂))) {QM:Value→Value→Shared→Prop}
  (k:∀ x y a b σ₂ s₂,R a b σ₂→Inv σ₂ s₂→Ext σ s.heap σ₂ s₂.heap→Rel σ₂ s₂.heap x a→Rel σ₂ s₂.heap y b→QM x y s₂):
  wpAny (model C.prog C.w) A (eval l env) (fun x s₁=>wpAny (model C.prog C.w) A (eval r env) (fun y s₂=>QM x y s₂) Bot s₁) Bot s:=
 h A env s ha hr hi _ fun x a σ₁ s₁ h₁ i₁ e₁ r₁=>h₁ A env s₁ ha (hr.mono e₁) i₁ _ fun y b σ₂ s₂ h₂ i₂ e₂ r₂=>k x y a b σ₂ s₂ h₂ i₂ (e₁.trans e₂) (r₁.mono e₂.seq) r₂
theorem ev_bin {l r:Expr} {op:Operator} {pos:Pos} {Q:V→Store→Prop} (h:EvP K ρ σ l (fun a σ₁=>EvP K ρ σ₁ r (fun b σ₂=>M2 K.d (binaryOp op) a b σ₂ Q))):
  EvP K ρ σ (.BinOp l op r pos) Q:=fun A env s ha hr hi QM hq=>
 wpAny_BinOp (seq2 (P:=fun _ _=>True) ha hr hi h fun x y a b σ₂ s₂ h₂ i₂ e₂ rx ry=>h₂ A s₂ x y ha i₂ rx ry _ fun v pv σ₃ s₃ q i₃ e₃ r₃=>hq v pv σ₃ s₃ q i₃ (e₂.trans e₃) r₃)
theorem ev_cmp {l r:Expr} {op:CmpOp} {pos:Pos} {Q:V→Store→Prop} (h:EvP K ρ σ l (fun a σ₁=>EvP K ρ σ₁ r (fun b σ₂=>M2 K.d (compareOp op) a b σ₂ Q)))
  (hm:autoParam (behindInMarks op r=false) aW):EvP K ρ σ (.Compare l [op] [r] pos) Q:=fun A env s ha hr hi QM hq=>
 wpAny_Compare1 (seq2 (P:=fun _ _=>True) ha hr hi h fun x y a b σ₂ s₂ h₂ i₂ e₂ rx ry=>h₂ A s₂ x y ha i₂ rx ry _ fun v pv σ₃ s₃ q i₃ e₃ r₃=>hq v pv σ₃ s₃ q i₃ (e₂.trans e₃) r₃) hm
theorem ts_cmp {l r:Expr} {op:CmpOp} {pos:Pos} {Q:Bool→Store→Prop}
  (h:EvP K ρ σ l (fun a σ₁=>EvP K ρ σ₁ r (fun b σ₂=>M2 K.d (compareOp op) a b σ₂ (fun v σ₃=>∃ b,v=.bool b∧Q b σ₃))))
  (hm:autoParam (behindInMarks op r=false) aW):TsP K ρ σ (.Compare l [op] [r] pos) Q:=fun A env s ha hr hi QM hq=>
 wpAny_isTrue_Compare1 (seq2 (P:=fun _ _=>True) ha hr hi h fun x y a b σ₂ s₂ h₂ i₂ e₂ rx ry=>h₂ A s₂ x y ha i₂ rx ry _ fun v pv σ₃ s₃ q i₃ e₃ r₃=>by
  obtain ⟨b,rfl,q⟩:=q;cases r₃
  exact wpAny_truthy_bool (hq b σ₃ s₃ q i₃ (e₂.trans e₃))) hm
theorem ev_un {x:Expr} {op:UnaryOp} {pos:Pos} {Q:V→Store→Prop} (h:EvP K ρ σ x (fun a σ₁=>M1 K.d (unaryOp op) a σ₁ Q)):EvP K ρ σ (.UnaryOp op x pos) Q:=fun A env s ha hr hi QM hq=>
 wpAny_UnaryOp (h A env s ha hr hi _ fun v a σ₁ s₁ h₁ i₁ e₁ r₁=>h₁ A s₁ v ha i₁ r₁ _ fun v' pv σ₂ s₂ q i₂ e₂ r₂=>hq v' pv σ₂ s₂ q i₂ (e₁.trans e₂) r₂)
theorem ev_ifexp {t a b:Expr} {pos:Pos} {Q:V→Store→Prop} (h:TsP K ρ σ t (fun c σ₁=>if c then EvP K ρ σ₁ a Q else EvP K ρ σ₁ b Q)):EvP K ρ σ (.IfExp t a b pos) Q:=fun A env s ha hr hi QM hq=>
 wpAny_IfExp (h A env s ha hr hi _ fun c σ₁ s₁ h₁ i₁ e₁=>by
  cases c<;>exact h₁ A env s₁ ha (hr.mono e₁) i₁ _ fun v pv σ₂ s₂ q i₂ e₂ r₂=>hq v pv σ₂ s₂ q i₂ (e₁.trans e₂) r₂)
theorem ts_not {x:Expr} {pos:Pos} {Q:Bool→Store→Prop} (h:TsP K ρ σ x (fun c σ₁=>Q (!c) σ₁)):TsP K ρ σ (.UnaryOp .Not x pos) Q:=fun A env s ha hr hi QM hq=>
 wpAny_isTrue_Not (h A env s ha hr hi _ fun c σ₁ s₁ h₁ i₁ e₁=>hq _ σ₁ s₁ h₁ i₁ e₁)
theorem ts_and_nil {pos:Pos} {Q:Bool→Store→Prop} (h:Q true σ):TsP K ρ σ (.BoolOp .And [] pos) Q:=fun A env s ha hr hi QM hq=>isTrue_and_nil (hq true σ s h hi .refl)
theorem ts_or_nil {pos:Pos} {Q:Bool→Store→Prop} (h:Q false σ):TsP K ρ σ (.BoolOp .Or [] pos) Q:=fun A env s ha hr hi QM hq=>isTrue_or_nil (hq false σ s h hi .refl)
theorem ts_and {x:Expr} {r:List Expr} {pos:Pos} {Q:Bool→Store→Prop} (h:TsP K ρ σ x (fun c σ₁=>if c then TsP K ρ σ₁ (.BoolOp .And r pos) Q else Q false σ₁)):TsP K ρ σ (.BoolOp .And (x :: r) pos) Q:=fun A env s ha hr hi QM hq=>
 isTrue_and (h A env s ha hr hi _ fun c σ₁ s₁ h₁ i₁ e₁=>by
  cases c
  ·exact hq false σ₁ s₁ h₁ i₁ e₁
  ·exact h₁ A env s₁ ha (hr.mono e₁) i₁ _ fun b σ₂ s₂ q i₂ e₂=>hq b σ₂ s₂ q i₂ (e₁.trans e₂))
theorem ts_or {x:Expr} {r:List Expr} {pos:Pos} {Q:Bool→Store→Prop} (h:TsP K ρ σ x (fun c σ₁=>if c then Q true σ₁ else TsP K ρ σ₁ (.BoolOp .Or r pos) Q)):TsP K ρ σ (.BoolOp .Or (x :: r) pos) Q:=fun A env s ha hr hi QM hq=>
 isTrue_or (h A env s ha hr hi _ fun c σ₁ s₁ h₁ i₁ e₁=>by
  cases c
  ·exact h₁ A env s₁ ha (hr.mono e₁) i₁ _ fun b σ₂ s₂ q i₂ e₂=>hq b σ₂ s₂ q i₂ (e₁.trans e₂)
  ·exact hq true σ₁ s₁ h₁ i₁ e₁)
theorem ts_val {e:Expr} {Q:Bool→Store→Prop} (h:EvP K ρ σ e (fun v σ₁=>M1B K.d v σ₁ Q))
  (he:autoParam (∀ env whole,isTrue e env whole=(do let v ← whole;standAt e.pos;holding [v] (truthy v))) aI):TsP K ρ σ e Q:=fun A env s ha hr hi QM hq=>
 wpAny_isTrue_value (h A env s ha hr hi _ fun v pv σ₁ s₁ h₁ i₁ e₁ r₁=>h₁ A s₁ v ha i₁ r₁ _ fun b σ₂ s₂ q i₂ e₂=>hq b σ₂ s₂ q i₂ (e₁.trans e₂)) (he env _)
theorem ev_and_one {x:Expr} {op:BoolOp} {pos:Pos} {Q:V→Store→Prop} (h:EvP K ρ σ x Q):EvP K ρ σ (.BoolOp op [x] pos) Q:=fun A env s ha hr hi QM hq=>BoolOp_one (h A env s ha hr hi QM hq)
theorem ev_and {x y:Expr} {r:List Expr} {pos:Pos} {Q:V→Store→Prop}
  (h:EvP K ρ σ x (fun v σ₁=>M1B K.d v σ₁ (fun c σ₂=>σ₂=σ₁∧if c then EvP K ρ σ₂ (.BoolOp .And (y :: r) pos) Q else Q v σ₂))):EvP K ρ σ (.BoolOp .And (x :: y :: r) pos) Q:=fun A env s ha hr hi QM hq=>
 BoolOp_and (h A env s ha hr hi _ fun v pv σ₁ s₁ h₁ i₁ e₁ r₁=>h₁ A s₁ v ha i₁ r₁ _ fun c σ₂ s₂ q i₂ e₂=>by
  refine bc fun hbc=>?_
  obtain ⟨eq0,q⟩:=q
  refine hbc ?_
  clear hbc
  subst eq0
  cases c
  ·exact hq v pv σ₂ s₂ q i₂ (e₁.trans e₂) (r₁.mono e₂.seq)
  ·exact q A env s₂ ha (hr.mono (e₁.trans e₂)) i₂ _ fun v pv σ₃ s₃ q i₃ e₃ r₃=>hq v pv σ₃ s₃ q i₃ ((e₁.trans e₂).trans e₃) r₃)
theorem ev_or {x y:Expr} {r:List Expr} {pos:Pos} {Q:V→Store→Prop}
  (h:EvP K ρ σ x (fun v σ₁=>M1B K.d v σ₁ (fun c σ₂=>σ₂=σ₁∧if c then Q v σ₂ else EvP K ρ σ₂ (.BoolOp .Or (y :: r) pos) Q))):EvP K ρ σ (.BoolOp .Or (x :: y :: r) pos) Q:=fun A env s ha hr hi QM hq=>
 BoolOp_or (h A env s ha hr hi _ fun v pv σ₁ s₁ h₁ i₁ e₁ r₁=>h₁ A s₁ v ha i₁ r₁ _ fun c σ₂ s₂ q i₂ e₂=>by
  refine bc fun hbc=>?_
  obtain ⟨eq0,q⟩:=q
  refine hbc ?_
  clear hbc
  subst eq0
  cases c
  ·exact q A env s₂ ha (hr.mono (e₁.trans e₂)) i₂ _ fun v pv σ₃ s₃ q i₃ e₃ r₃=>hq v pv σ₃ s₃ q i₃ ((e₁.trans e₂).trans e₃) r₃
  ·exact hq v pv σ₂ s₂ q i₂ (e₁.trans e₂) (r₁.mono e₂.seq))
open Builtin in
inductive Bin:Operator→V→V→V→Prop where
 | add (a b:Int):Bin .Add (.int a) (.int b) (.int (a + b))
 | sub (a b:Int):Bin .Sub (.int a) (.int b) (.int (a - b))
 | mul (a b:Int) (h:IntMulOk a b):Bin .Mult (.int a) (.int b) (.int (a * b))
 | fdiv (a b:Int) (h:b≠0) (hp:b.natAbs.log2 < 9000):Bin .FloorDiv (.int a) (.int b) (.int (a.fdiv b))
 | mod (a b:Int) (h:b≠0) (hp:b.natAbs.log2 < 9000):Bin .Mod (.int a) (.int b) (.int (a.fmod b))
 | and (a b:Int):Bin .BitAnd (.int a) (.int b) (.int (bitAnd a b))
 | or (a b:Int):Bin .BitOr (.int a) (.int b) (.int (bitOr a b))
 | xor (a b:Int):Bin .BitXor (.int a) (.int b) (.int (bitXor a b))
 | shl (a n:Int) (hn:0≤n) (h:(Builtin.Int.intBits a:Int) + n≤2 ^ 27):Bin .LShift (.int a) (.int n) (.int (a * 2 ^ n.toNat))
 | shr (a n:Int) (hn:0≤n):Bin .RShift (.int a) (.int n) (.int (a.fdiv (2 ^ n.toNat)))
 | pow (a n:Int) (hn:0≤n) (h:(Builtin.Int.intBits a:Int) * n≤2 ^ 27):Bin .Pow (.int a) (.int n) (.int (a ^ n.toNat))
 | cat (x y:List Nat) (h:x.length + y.length≤2 ^ 24):Bin .Add (.str x) (.str y) (.str (x++y))
 | rep (x:List Nat) (n:Nat) (h:n * x.length≤2 ^ 24) (hn:n≤2 ^ 24):Bin .Mult (.str x) (.int n) (.str (List.replicate n x).flatten)
theorem foldl_app (l:List (Array Nat)):∀ a:Array Nat,(l.foldl (·++·) a).toList=a.toList++(l.map Array.toList).flatten:=by
 induction l with
 | nil=>intro a;simp
 | cons x l ih=>intro a;simp [ih]
theorem str_of (x:Str) (l:List Nat) (h:x.cps.toList=l):x=⟨l.toArray⟩:=by cases x;subst h;rfl
theorem Rel.strOf {σ:Store} {h:Heap} {x:Str} {t:Tok} {l:List Nat} (e:x.cps.toList=l):Rel σ h (.str x t) (.str l):=by
 rw [str_of x l e];exact .str l t
theorem m2_ii {d:Nat} {f:Value→Value→Sem Value} {a b c:Int} {Q:V→Store→Prop} (q:Q (.int c) σ) (k:∀ {A:Around} {s:Shared} {t u:Tok} {QM:Value→Shared→Prop},(∀ z tk,QM (.int c z) { s with toks:=tk })→wpAny (model C.prog C.w) A (f (.int a t) (.int b u)) QM Bot s):M2 d f (.int a) (.int b) σ Q:=fun A s x y ha hi hx hy QM hq=>by
 obtain ⟨t,rfl⟩:=Rel.inv hx;obtain ⟨u,rfl⟩:=Rel.inv hy
 exact k fun z tk=>hq _ _ _ _ q hi.toks .refl (.int _ _)
theorem m2_ib {d:Nat} {f:Value→Value→Sem Value} {a b:Int} {c:Bool} {Q:V→Store→Prop} (q:Q (.bool c) σ) (k:∀ {A:Around} {s:Shared} {t u:Tok} {QM:Value→Shared→Prop},QM (.bool c) s→wpAny (model C.prog C.w) A (f (.int a t) (.int b u)) QM Bot s):M2 d f (.int a) (.int b) σ Q:=fun A s x y ha hi hx hy QM hq=>by
 obtain ⟨t,rfl⟩:=Rel.inv hx;obtain ⟨u,rfl⟩:=Rel.inv hy
 exact k (hq _ _ _ _ q hi .refl (.bool _))
theorem m2_sb {d:Nat} {f:Value→Value→Sem Value} {a b:List Nat} {c:Bool} {Q:V→Store→Prop} (q:Q (.bool c) σ) (k:∀ {A:Around} {s:Shared} {t u:Tok} {QM:Value→Shared→Prop},QM (.bool c) s→wpAny (model C.prog C.w) A (f (.str ⟨a.toArray⟩ t) (.str ⟨b.toArray⟩ u)) QM Bot s):M2 d f (.str a) (.str b) σ Q:=fun A s x y ha hi hx hy QM hq=>by
 obtain ⟨t,rfl⟩:=Rel.inv hx;obtain ⟨u,rfl⟩:=Rel.inv hy
 exact k (hq _ _ _ _ q hi .refl (.bool _))
theorem m2_ss {d:Nat} {f:Value→Value→Sem Value} {a b:List Nat} {Q:V→Store→Prop} (q:Q (.str (a++b)) σ) (k:∀ {A:Around} {s:Shared} {t u:Tok} {QM:Value→Shared→Prop},(∀ z tk,QM (.str (⟨a.toArray⟩++⟨b.toArray⟩) z) { s with toks:=tk })→wpAny (model C.prog C.w) A (f (.str ⟨a.toArray⟩ t) (.str ⟨b.toArray⟩ u)) QM Bot s):M2 d f (.str a) (.str b) σ Q:=fun A s x y ha hi hx hy QM hq=>by
 obtain ⟨t,rfl⟩:=Rel.inv hx;obtain ⟨u,rfl⟩:=Rel.inv hy
 exact k fun z tk=>hq _ _ _ _ q hi.toks .refl (.strOf (by show (a.toArray++b.toArray).toList=_;simp))
theorem m2_rep {d:Nat} {x:List Nat} {n:Nat} {Q:V→Store→Prop} (h:n * x.length≤2 ^ 24) (hn:n≤2 ^ 24) (q:Q (.str (List.replicate n x).flatten) σ):M2 d (binaryOp .Mult) (.str x) (.int n) σ Q:=fun A s x' y ha hi hx hy QM hq=>by
 obtain ⟨t,rfl⟩:=Rel.inv hx;obtain ⟨u,rfl⟩:=Rel.inv hy
 refine P.mul_str (by simp;lia) (fun h1 h2=>?_) (fun h1 h2=>?_) ?_
 ·show ¬ ((x.toArray.size:Int) > _)
  have hx:(x.length:Int)≤(2 ^ 63 - 1) / (n:Int):=by
   have hn0:(0:Int) < n:=by lia
   rw [Int.le_ediv_iff_mul_le hn0]
   have:x.length * n≤2 ^ 24:=by rw [Nat.mul_comm];exact h
   have:((x.length * n:Nat):Int)≤2 ^ 24:=by exact_mod_cast this
   simp at this;lia
  simpa using hx
 ·show decide (x.toArray.size * (n:Int).toNat > 2 ^ 24)=false
  have:x.length * n≤2 ^ 24:=by rw [Nat.mul_comm];exact h
  simpa using this
 ·have hpost:(∀ v t',v.cps.toList=(List.replicate n x).flatten→QM (.str v t') { s with toks:=s.toks + 1 }):=fun v t' e=>hq _ _ _ _ q hi.toks .refl (.strOf e)
  by_cases h1:(n:Int) < 1
  ·rw [if_pos h1]
   have:n=0:=by lia
   subst this
   exact ⟨by decide,hpost _ _ (by simp [PySem.Str.empty])⟩
  ·rw [if_neg h1]
   by_cases h2:((n:Int) == 1 || PySem.Str.length ⟨x.toArray⟩ == 0)=true
   ·rw [if_pos h2]
    have:(List.replicate n x).flatten=x:=by
     simp [PySem.Str.length] at h2
     rcases h2 with h2 | h2
     ·have:n=1:=by lia
      subst this;simp
     ·subst h2;simp
    rw [this] at q
    exact hq _ _ _ _ q hi .refl (.str x t)
   ·rw [if_neg h2]
    have e:((List.replicate (n:Int).toNat x.toArray).foldl (·++·) #[]).toList=(List.replicate n x).flatten:=by rw [foldl_app];simp
    refine ⟨?_,hpost _ _ e⟩
    show ((List.replicate (n:Int).toNat x.toArray).foldl (·++·) #[]).size≤2 ^ 24
    rw [← Array.length_toList,e];simpa using h
theorem bin_ {d:Nat} {op:Operator} {a b v:V} {Q:V→Store→Prop} (h:Bin op a b v) (q:Q v σ):M2 d (binaryOp op) a b σ Q:=
 (Bin.casesOn (motive:=fun op a b v _=>Q v σ→M2 d (binaryOp op) a b σ Q) h
  (fun a b q=>m2_ii q fun h=>P.add_int (h _ _))
  (fun a b q=>m2_ii q fun h=>P.sub_int (h _ _))
  (fun a b h' q=>m2_ii q fun h=>P.mul_int (h _ _) h')
  (fun a b h' hp q=>m2_ii q fun h=>floordiv_int h' (h _ _) (.inl (PyProof.noPylong_of_log2 hp)))
  (fun a b h' hp q=>m2_ii q fun h=>mod_int' h' (h _ _))
  (fun a b q=>m2_ii q fun h=>and_int (h _ _))
  (fun a b q=>m2_ii q fun h=>or_int (h _ _))
  (fun a b q=>m2_ii q fun h=>xor_int (h _ _))
  (fun a n hn h' q=>m2_ii q fun h=>lshift_int hn h' (h _ _))
  (fun a n hn q=>m2_ii q fun h=>rshift_int hn (h _ _))
  (fun a n hn h' q=>m2_ii q fun h=>pow_int hn h' (h _ _))
  (fun x y h' q=>m2_ss q fun h=>add_str h (by show x.toArray.size + y.toArray.size≤2 ^ 24;simpa using h'))
  (fun x n h hn q=>m2_rep h hn q)) q
inductive Cmp:CmpOp→V→V→Bool→Prop where
 | eq (a b:Int):Cmp .Eq (.int a) (.int b) (a == b)
 | ne (a b:Int):Cmp .NotEq (.int a) (.int b) (a != b)
 | lt (a b:Int):Cmp .Lt (.int a) (.int b) (decide (a < b))
 | le (a b:Int):Cmp .LtE (.int a) (.int b) (decide (a≤b))
 | gt (a b:Int):Cmp .Gt (.int a) (.int b) (decide (a > b))
 | ge (a b:Int):Cmp .GtE (.int a) (.int b) (decide (a ≥ b))
 | seq (a b:List Nat):Cmp .Eq (.str a) (.str b) (a == b)
 | sne (a b:List Nat):Cmp .NotEq (.str a) (.str b) (a != b)
 | isB (a b:Bool):Cmp .Is (.bool a) (.bool b) (a == b)
 | isntN_str (a:List Nat):Cmp .IsNot (.str a) .none true
 | isntN_none:Cmp .IsNot .none .none false
theorem isB_ {d:Nat} {a b:Bool} {Q:V→Store→Prop} (q:Q (.bool (a == b)) σ):M2 d (compareOp .Is) (.bool a) (.bool b) σ Q:=fun A s x y ha hi hx hy QM hq=>by
 obtain rfl:=Rel.inv hx;obtain rfl:=Rel.inv hy
 have:=hq _ _ _ _ q hi .refl (.bool _)
 cases a<;>cases b<;>exact fun _ _ _=>this
theorem isntS_ {d:Nat} {a:List Nat} {Q:V→Store→Prop} (q:Q (.bool true) σ):M2 d (compareOp .IsNot) (.str a) .none σ Q:=fun A s x y ha hi hx hy QM hq=>by
 obtain ⟨t,rfl⟩:=Rel.inv hx;obtain rfl:=Rel.inv hy
 exact isNot_none (hq _ _ _ _ q hi .refl (.bool _))
theorem isntN_ {d:Nat} {Q:V→Store→Prop} (q:Q (.bool false) σ):M2 d (compareOp .IsNot) .none .none σ Q:=fun A s x y ha hi hx hy QM hq=>by
 obtain rfl:=Rel.inv hx;obtain rfl:=Rel.inv hy
 exact isNot_none (hq _ _ _ _ q hi .refl (.bool _))
theorem cmp_ {d:Nat} {op:CmpOp} {a b:V} {r:Bool} {Q:V→Store→Prop} (h:Cmp op a b r) (q:Q (.bool r) σ):M2 d (compareOp op) a b σ Q:=
 (Cmp.casesOn (motive:=fun op a b r _=>Q (.bool r) σ→M2 d (compareOp op) a b σ Q) h
  (fun a b q=>m2_ib q fun h=>P.eq_int h)
  (fun a b q=>m2_ib q fun h=>P.ne_int h)
  (fun a b q=>m2_ib q fun h=>P.lt_int h)
  (fun a b q=>m2_ib q fun h=>P.le_int h)
  (fun a b q=>m2_ib q fun h=>P.gt_int h)
  (fun a b q=>m2_ib q fun h=>P.ge_int h)
  (fun a b q=>m2_sb q fun h=>P.eq_str h)
  (fun a b q=>m2_sb q fun h=>P.ne_str h)
  (fun a b q=>isB_ q)
  (fun a q=>isntS_ q)
  (fun q=>isntN_ q)) q
open Builtin in
inductive Un:UnaryOp→V→V→Prop where
 | neg (a:Int):Un .USub (.int a) (.int (-a))
 | inv (a:Int):Un .Invert (.int a) (.int (bitNot a))
 | notB (b:Bool):Un .Not (.bool b) (.bool (!b))
theorem m1_i {d:Nat} {f:Value→Sem Value} {a c:Int} {Q:V→Store→Prop} (q:Q (.int c) σ) (k:∀ {A:Around} {s:Shared} {t:Tok} {QM:Value→Shared→Prop},(∀ z tk,QM (.int c z) { s with toks:=tk })→wpAny (model C.prog C.w) A (f (.int a t)) QM Bot s):M1 d f (.int a) σ Q:=fun A s x ha hi hx QM hq=>by
 refine bc fun hbc=>?_
 obtain ⟨t,eq0⟩:=Rel.inv hx
 refine hbc ?_
 clear hbc
 subst eq0
 exact k fun z tk=>hq _ _ _ _ q hi.toks .refl (.int _ _)
theorem not_b {d:Nat} {b:Bool} {Q:V→Store→Prop} (q:Q (.bool (!b)) σ):M1 d (unaryOp .Not) (.bool b) σ Q:=fun A s x ha hi hx QM hq=>by
 obtain rfl:=Rel.inv hx
 exact not_value (wpAny_truthy_bool (hq _ _ _ _ q hi .refl (.bool _)))
theorem un_ {d:Nat} {op:UnaryOp} {a v:V} {Q:V→Store→Prop} (h:Un op a v) (q:Q v σ):M1 d (unaryOp op) a σ Q:=
 (Un.casesOn (motive:=fun op a v _=>Q v σ→M1 d (unaryOp op) a σ Q) h
  (fun a q=>m1_i q fun h=>P.neg_int (h _ _))
  (fun a q=>m1_i q fun h=>invert_int (h _ _))
  (fun b q=>not_b q)) q
theorem tb_bool {d:Nat} {b:Bool} {Q:Bool→Store→Prop} (q:Q b σ):M1B d (.bool b) σ Q:=fun A s x ha hi hx QM hq=>by
 obtain ⟨_,rfl⟩:=Rel.inv hx;exact wpAny_truthy_bool (hq _ _ _ q hi .refl)
theorem tb_int {d:Nat} {a:Int} {Q:Bool→Store→Prop} (q:Q (a != 0) σ):M1B d (.int a) σ Q:=fun A s x ha hi hx QM hq=>by
 obtain ⟨_,rfl⟩:=Rel.inv hx;exact P.truthy_int (hq _ _ _ q hi .refl)
end
end Mine
end
section
open PySem PySem.W PyProof.Rows PySem.Calls
namespace Mine
noncomputable def Loose (o:Obj):Prop:=¬ Fixed o∧∀ vs,o.data=.fields vs→∀ q t,vs[1]?≠some (.str q t)
structure Poke (σ:Store) (a:Addr) (h h':Heap):Prop where
 keep:∀ b o,b≠a→h.get? b=some o→h'.get? b=some o
 unown:∀ o,h.get? a=some o→σ a=none∧C.h1.objs.size≤a∧Loose o
theorem Poke.ne {σ:Store} {a b:Addr} {h h':Heap} {o:Obj} {p:PObj} (k:Poke σ a h h') (hb:h.get? b=some o) (hs:σ b=some p):b≠a:=fun e=>by
 subst e;have:=(k.unown _ hb).1;exact absurd (hs.symm.trans this) (Option.some_ne_none _)
theorem Poke.seq {σ:Store} {a:Addr} {h h':Heap} (k:Poke σ a h h'):SeqKeep σ h σ h':=
 ⟨fun b o hb hd _ _=>k.keep b o (fun e=>by subst e;exact (k.unown _ hb).2.2.1 hd) hb,fun _ _ _ _ e _=>e⟩
theorem Poke.code {σ:Store} {a:Addr} {h h':Heap} (k:Poke σ a h h') {cd:Value} {q:Str} (x:CodeOk σ h cd q):CodeOk σ h' cd q:=
 by obtain ⟨⟨c,o,vs,t,e,g,d,r⟩,z⟩:=x;exact ⟨⟨c,o,vs,t,e,k.keep c o (fun e=>by subst e;exact (k.unown _ g).2.2.2 _ d _ _ r) g,d,r⟩,z⟩
theorem ObjRel.poke {σ:Store} {a b:Addr} {h h':Heap} {p:PObj} (k:Poke σ a h h') (hs:σ b=some p) (x:ObjRel σ h b p):ObjRel σ h' b p:=by
 have K:∀ o,h.get? b=some o→h'.get? b=some o:=fun o e=>k.keep b o (k.ne e hs) e
 cases p with
 | list vs=>obtain ⟨items,n,e,r⟩:=x;exact ⟨items,n,K _ e,r.mono k.seq⟩
 | ns at_=>obtain ⟨es,n,e,r⟩:=x;exact ⟨es,n,K _ e,r.mono k.seq⟩
 | inst c d=>exact K _ x
 | cell v=>cases v with
  | none=>obtain ⟨o,e,r⟩:=x;exact ⟨o,K o e,r⟩
  | some v=>obtain ⟨v,⟨o,e,r⟩,q⟩:=x;exact ⟨v,⟨o,K o e,r⟩,q.mono k.seq⟩
 | func f cap d=>obtain ⟨o,fd,e,c,d,f1,f2,f3,f4,f5,f6,f7,f8,f9,f10,f11,f12⟩:=x;exact ⟨o,fd,K o e,c,d,f1,f2,f3,f4,f5,f6,f7,f8,f9,f10,f11,k.code f12⟩
 | bound f self=>obtain ⟨v,e,q⟩:=x;exact ⟨v,K _ e,q.mono k.seq⟩
 | citer f sent=>obtain ⟨v,u,e,q,q'⟩:=x;exact ⟨v,u,K _ e,q.mono k.seq,q'.mono k.seq⟩
 | cend=>exact K _ x
 | riter vs i=>obtain ⟨l,e,q⟩:=x;exact ⟨l,K _ e,q.mono k.seq⟩
theorem TabOk.poke {σ:Store} {a:Addr} {h h':Heap} {n:Nest} (k:Poke σ a h h') (hn:n.table < C.h1.objs.size) (x:TabOk σ h n):TabOk σ h' n:=
 by obtain ⟨ps,e,t,f⟩:=x;exact ⟨ps,k.keep _ _ (fun q=>by have:=(k.unown _ (q ▸ e)).2.1;rw [← q] at this;exact absurd hn (Nat.not_lt.mpr this)) e,t,fun d hd cv hc=>k.code (f d hd cv hc)⟩
theorem Inv.poke {σ:Store} {a:Addr} {s s':Shared} (i:Inv σ s) (k:Poke σ a s.heap s'.heap) (hg:s'.gens=s.gens) (ho:s'.os=s.os):Inv σ s' where
 base:=fun b o e ht=>k.keep b o (fun q=>by subst q;exact absurd (Heap.lt_size e) (Nat.not_lt.mpr (k.unown _ (i.base _ o e ht)).2.1)) (i.base b o e ht)
 top:=i.top
 own:=fun b p e=>⟨(i.own b p e).1,ObjRel.poke k e (i.own b p e).2⟩
 tabLt:=i.tabLt
 tabs:=fun n hn=>(i.tabs n hn).poke k (i.tabLt n hn)
 gens:=hg.trans i.gens
 os:=ho.trans i.os
theorem CodeOk.mono {σ σ':Store} {h h':Heap} (x:Ext σ h σ' h') {cd:Value} {q:Str} (y:CodeOk σ h cd q):CodeOk σ' h' cd q:=
 by obtain ⟨⟨c,o,vs,t,e,g,d,r⟩,z⟩:=y;exact ⟨⟨c,o,vs,t,e,x.keep c o g (z c e).1 (z c e).2,d,r⟩,fun c' e'=>by
  (rw [e] at e';cases e');exact ⟨x.free c o g (z c e).1 (z c e).2,(z c e).2⟩⟩
theorem ObjRel.mono {σ σ':Store} {b:Addr} {h h':Heap} {p:PObj} (k:Ext σ h σ' h') (K:∀ o,h.get? b=some o→h'.get? b=some o) (x:ObjRel σ h b p):ObjRel σ' h' b p:=by
 cases p with
 | list vs=>obtain ⟨items,n,e,r⟩:=x;exact ⟨items,n,K _ e,r.mono k.seq⟩
 | ns at_=>obtain ⟨es,n,e,r⟩:=x;exact ⟨es,n,K _ e,r.mono k.seq⟩
 | inst c d=>exact K _ x
 | cell v=>cases v with
  | none=>obtain ⟨o,e,r⟩:=x;exact ⟨o,K o e,r⟩
  | some v=>obtain ⟨v,⟨o,e,r⟩,q⟩:=x;exact ⟨v,⟨o,K o e,r⟩,q.mono k.seq⟩
 | func f cap d=>obtain ⟨o,fd,e,c,d,f1,f2,f3,f4,f5,f6,f7,f8,f9,f10,f11,f12⟩:=x;exact ⟨o,fd,K o e,c,d,f1,f2,f3,f4,f5,f6,f7,f8,f9,f10,f11,f12.mono k⟩
 | bound f self=>obtain ⟨v,e,q⟩:=x;exact ⟨v,K _ e,q.mono k.seq⟩
 | citer f sent=>obtain ⟨v,u,e,q,q'⟩:=x;exact ⟨v,u,K _ e,q.mono k.seq,q'.mono k.seq⟩
 | cend=>exact K _ x
 | riter vs i=>obtain ⟨l,e,q⟩:=x;exact ⟨l,K _ e,q.mono k.seq⟩
theorem Inv.lo {σ:Store} {s:Shared} (i:Inv σ s) {a:Addr} (h:a < C.h1.objs.size):σ a=none:=by
 cases e:σ a with
 | none=>rfl
 | some p=>exact absurd h (Nat.not_lt.mpr (i.own a p e).1)
theorem Inv.notTab {σ:Store} {s:Shared} (i:Inv σ s) {a:Addr} (h:C.h1.objs.size≤a):a∉C.tabs:=fun q=>by
 refine bc fun hbc=>?_
 obtain ⟨n,hn,e⟩:=List.mem_map.mp q
 refine hbc ?_
 clear hbc
 have:=i.tabLt n hn
 rw [e] at this
 exact absurd h (Nat.not_le.mpr this)
theorem Inv.step {σ σ':Store} {s s':Shared} (i:Inv σ s) (e:Ext σ s.heap σ' s'.heap)
  (own:∀ a p,σ' a=some p→(σ a=some p∧∀ o,s.heap.get? a=some o→s'.heap.get? a=some o)∨(C.h1.objs.size≤a∧ObjRel σ' s'.heap a p))
  (tb:∀ n∈C.nest,∀ o,s.heap.get? n.table=some o→s'.heap.get? n.table=some o) (hg:s'.gens=s.gens) (ho:s'.os=s.os):Inv σ' s' where
 base:=fun a o g ht=>e.keep a o (i.base a o g ht) (i.lo (Heap.lt_size g)) ht
 top:=i.top
 own:=fun a p g=>by
  rcases own a p g with ⟨h1,h2⟩ | h
  ·exact ⟨(i.own a p h1).1,ObjRel.mono e h2 (i.own a p h1).2⟩
  ·exact h
 tabLt:=i.tabLt
 tabs:=fun n hn=>(i.tabs n hn).elim fun ps h=>⟨ps,tb n hn _ h.1,h.2.1,fun d hd cv hc=>(h.2.2 d hd cv hc).mono e⟩
 gens:=hg.trans i.gens
 os:=ho.trans i.os
theorem Inv.set {σ:Store} {s s':Shared} {a:Addr} {p p':PObj} (i:Inv σ s) (ha:σ a=some p) (hs:∀ b o,b≠a→s.heap.get? b=some o→s'.heap.get? b=some o)
  (hcell:∀ v,p=.cell v→∃ v',p'=.cell v') (hp:ObjRel (upd σ a (some p')) s'.heap a p') (hg:s'.gens=s.gens) (ho:s'.os=s.os):
  Inv (upd σ a (some p')) s'∧Ext σ s.heap (upd σ a (some p')) s'.heap:=by
 have lo:=(i.own a p ha).1
 have ne:∀ b,σ b=none→b≠a:=fun b hb q=>by rw [q,ha] at hb;cases hb
 have E:Ext σ s.heap (upd σ a (some p')) s'.heap:=⟨fun b o g hb _=>hs b o (ne b hb) g,fun b o g hb _=>by rw [upd_ne σ _ (ne b hb)];exact hb,fun c v hc=>by
  by_cases hca:c=a
  ·subst hca
   obtain rfl:=Option.some.inj (ha.symm.trans hc)
   refine bc fun hbc=>?_
   obtain ⟨v',eq0⟩:=hcell v rfl
   refine hbc ?_
   clear hbc
   subst eq0
   exact ⟨v',upd_self ..⟩
  ·exact ⟨v,by rw [upd_ne σ _ hca];exact hc⟩⟩
 refine ⟨i.step E (fun b q hb=>?_) (fun n hn o g=>hs _ o (fun q=>?_) g) hg ho,E⟩
 ·by_cases hba:b=a
  ·subst hba
   (rw [upd_self] at hb;cases hb)
   exact .inr ⟨lo,hp⟩
  ·rw [upd_ne σ _ hba] at hb
   exact .inl ⟨hb,fun o g=>hs b o hba g⟩
 ·exact absurd (i.tabLt n hn) (Nat.not_lt.mpr (q ▸ lo))
theorem Rep.poke {K:Kx} {env:Env} {ρ:Fm} {σ:Store} {h h':Heap} {a:Addr} (r:Rep K env ρ σ h) (k:Poke σ a h h')
  (hd:∀ o,h.get? a=some o→(∀ es ep,o.data≠.dict es ep)∧∀ v,o.data≠.cell v):Rep K env ρ σ h':=by
 have hns:∀ b m,h.Ns b m→h'.Ns b m:=fun b m h=>by obtain ⟨o,es,ep,e,d,q⟩:=h;exact ⟨o,es,ep,k.keep b o (fun x=>by subst x;exact (hd _ e).1 _ _ d) e,d,q⟩
 have hce:∀ b v,h.IsCell b v→h'.IsCell b v:=fun b v h=>h.elim fun o h=>⟨o,k.keep b o (fun x=>by subst x;exact (hd _ h.1).2 _ h.2) h.1,h.2⟩
 refine bc fun hbc=>?_
 obtain ⟨m,hm⟩:=r.loc
 refine hbc ?_
 clear hbc
 refine ⟨r.kind,r.names,r.glob,r.blt,r.qual,r.code,⟨m,hns _ m hm⟩,r.locF,fun y c hc=>?_,r.cinj,fun p hp=>?_⟩
 ·refine bc fun hbc=>?_
  obtain ⟨h1,h2,h3,h4,h5⟩:=r.cells y c hc
  refine hbc ?_
  clear hbc
  exact ⟨h1,h2,h3,fun e=>(h4 e).elim fun v q=>⟨v,hce _ _ q⟩,h5⟩
 ·have hv:=r.vars p hp
  refine bc fun hbc=>?_
  obtain ⟨y,sl⟩:=p
  refine hbc ?_
  clear hbc
  cases sl with
  | val pv=>
   rcases hv with ⟨h1,m,v,h2,h3,h4⟩ | ⟨h1,c,v,h2,h3,h4,h5,h6⟩
   ·exact .inl ⟨h1,m,v,hns _ m h2,h3,h4.mono k.seq⟩
   ·exact .inr ⟨h1,c,v,h2,hce c _ h3,h4.mono k.seq,h5,h6⟩
  | sh c=>exact hv
  | emp=>obtain ⟨h1,c,h2,⟨v,h3⟩,h5,h6⟩:=hv;exact ⟨h1,c,h2,⟨v,hce c _ h3⟩,h5,h6⟩
noncomputable def Upd (ρ:Fm) (x:Str) (sl:Slot) (ρ':Fm):Prop:=∀ p∈ρ',p=(x,sl)∨(p∈ρ∧p.1≠x)
noncomputable def Rest (ρ:Fm) (x:Str) (r':Fm):Prop:=∀ p∈r',p∈ρ∧p.1≠x
theorem Rest.nil {x:Str}:Rest [] x []:=fun p hp=>by cases hp
theorem Rest.keep {ρ r':Fm} {x y:Str} {s:Slot} (h:Rest ρ x r') (hne:y≠x):Rest ((y,s) :: ρ) x ((y,s) :: r'):=fun p hp=>by
 rcases List.mem_cons.mp hp with rfl | hp
 ·exact ⟨List.mem_cons_self,hne⟩
 ·exact ⟨List.mem_cons_of_mem _ (h p hp).1,(h p hp).2⟩
theorem Rest.drop {ρ r':Fm} {x:Str} {q:Str×Slot} (h:Rest ρ x r'):Rest (q :: ρ) x r':=fun p hp=>⟨List.mem_cons_of_mem _ (h p hp).1,(h p hp).2⟩
theorem Upd.mk {ρ r':Fm} {x:Str} {s:Slot} (h:Rest ρ x r'):Upd ρ x s ((x,s) :: r'):=fun p hp=>by
 rcases List.mem_cons.mp hp with rfl | hp
 ·exact .inl rfl
 ·exact .inr (h p hp)
theorem Rep.sub {K:Kx} {env:Env} {ρ ρ':Fm} {σ:Store} {h:Heap} (r:Rep K env ρ σ h) (hs:∀ p∈ρ',p∈ρ):Rep K env ρ' σ h:=
 ⟨r.kind,r.names,r.glob,r.blt,r.qual,r.code,r.loc,r.locF,r.cells,r.cinj,fun p hp=>r.vars p (hs p hp)⟩
section
variable {K:Kx} {ρ:Fm} {σ:Store}
theorem ExP.sub {ρ':Fm} {ss:List Stmt} {Q:Fl→Fm→Store→Prop} (h:ExP K ρ' σ ss Q) (hs:∀ p∈ρ',p∈ρ):ExP K ρ σ ss Q:=
 fun A env s ha hr hi QM hq=>h A env s ha (hr.sub hs) hi QM hq
noncomputable def Stores (K:Kx) (ρ:Fm) (x:Str):Prop:=K.names.lookup x=some .local∨(K.names.lookup x=some .cell∧∃ sl,(x,sl)∈ρ∧∀ c,sl≠.sh c)
theorem store_name {x:Str} {ρ':Fm} {v:Value} {pv:V} {A:Around} {env:Env} {s:Shared} (hk:Stores K ρ x)
  (hr:Rep K env ρ σ s.heap) (hi:Inv σ s) (hv:Rel σ s.heap v pv) (hu:Upd ρ x (.val pv) ρ') {QM:Unit→Shared→Prop}
  (hq:∀ s',Rep K env ρ' σ s'.heap→Inv σ s'→ExtF env σ s.heap σ s'.heap→QM () s'):wpAny (model C.prog C.w) A (storeName env x v) QM Bot s:=by
 refine bc fun hbc=>?_
 obtain ⟨m,hm⟩:=hr.loc
 refine hbc ?_
 clear hbc
 rcases hk with hk | ⟨hk,sl₀,hsl,hnsh⟩
 ·refine wpAny_storeName_local ((congrArg (·.lookup x) hr.names).trans hk) hm (fun h' hn hs=>?_) (by rw [hr.kind];rfl)
  have k:Poke σ env.locals s.heap h':=⟨fun b o hb e=>(hs.2 b hb).trans e,fun o e=>⟨hr.locF.1,hr.locF.2.2,by
   refine bc fun hbc=>?_
   obtain ⟨o',es,ep,e',d,_⟩:=hm
   refine hbc ?_
   clear hbc
   obtain rfl:=Option.some.inj (e.symm.trans e')
   exact ⟨fun q=>(by rcases q with ⟨_,_,q⟩ | ⟨_,_,q⟩<;>rw [d] at q<;>cases q),fun vs q=>(by exact (datN (d.symm.trans q) rfl).elim)⟩⟩⟩
  have hce:∀ c v,env.locals≠c→s.heap.IsCell c v→h'.IsCell c v:=fun c v hne y=>cellTr y fun _ e=>(hs.2 c (fun q=>hne q.symm)).trans e
  refine hq _ ⟨hr.kind,hr.names,hr.glob,hr.blt,hr.qual,hr.code,⟨_,hn⟩,hr.locF,fun y c hc=>?_,hr.cinj,fun p hp=>?_⟩ (hi.poke k rfl rfl)
   ⟨fun b o e _ _ hf=>k.keep b o (fun q=>hf (.inl q)) e,fun b _ _ e _ _=>e,fun c v e=>⟨v,e⟩⟩
  ·refine bc fun hbc=>?_
   obtain ⟨h1,h2,h3,h4,h5⟩:=hr.cells y c hc
   refine hbc ?_
   clear hbc
   exact ⟨h1,h2,h3,fun e=>(h4 e).elim fun v q=>⟨v,hce _ _ h1 q⟩,h5⟩
  ·rcases hu p hp with rfl | ⟨hp,hne⟩
   ·exact .inl ⟨hk,_,v,hn,if_pos rfl,hv.mono k.seq⟩
   ·have hv':=hr.vars p hp
    refine bc fun hbc=>?_
    obtain ⟨y,sl⟩:=p
    refine hbc ?_
    clear hbc
    cases sl with
    | val pv'=>
     rcases hv' with ⟨h1,m₀,v',h2,h3,h4⟩ | ⟨h1,c,v',h2,h3,h4,h5,h6⟩
     ·refine .inl ⟨h1,_,v',hn,?_,h4.mono k.seq⟩
      show (if y=x then some v else m y)=_
      rw [if_neg hne,← h3]
      refine bc fun hbc=>?_
      obtain ⟨o,es,ep,e,d,_,f⟩:=hm
      obtain ⟨o',es',ep',e',d',_,f'⟩:=h2
      refine hbc ?_
      clear hbc
      obtain rfl:=Option.some.inj (e.symm.trans e')
      (rw [d] at d';cases d')
      rw [← f y,← f' y]
     ·exact .inr ⟨h1,c,v',h2,hce c _ (hr.cells y c h2).ne h3,h4.mono k.seq,h5,h6⟩
    | sh c=>exact hv'
    | emp=>obtain ⟨h1,c,h2,⟨v',h3⟩,h5,h6⟩:=hv';exact ⟨h1,c,h2,⟨v',hce c _ (hr.cells y c h2).ne h3⟩,h5,h6⟩
 ·have hcc:∃ c,env.cells.lookup x=some c∧σ c=none:=by
   have:=hr.vars _ hsl
   cases sl₀ with
   | val pv₀=>
    rcases this with ⟨h1,_⟩ | ⟨_,c,v,h2,_,_,h5,_⟩
    ·(rw [hk] at h1;cases h1)
    ·exact ⟨c,h2,h5⟩
   | sh c=>exact absurd rfl (hnsh c)
   | emp=>obtain ⟨_,c,h2,_,h5,_⟩:=this;exact ⟨c,h2,h5⟩
  refine bc fun hbc=>?_
  obtain ⟨c,hcl,hsc⟩:=hcc
  obtain ⟨h1,h2,h3,h4,h5⟩:=hr.cells x c hcl
  obtain ⟨v₀,hv₀⟩:=h4 hsc
  refine hbc ?_
  clear hbc
  refine wpAny_storeName_cell hr.kind ((congrArg (·.lookup x) hr.names).trans hk) hcl hv₀ (fun h' hn hs=>?_)
  have k:Poke σ c s.heap h':=⟨fun b o hb e=>(hs.2 b hb).trans e,fun o e=>⟨hsc,h2,by
   refine bc fun hbc=>?_
   obtain ⟨o',e',d⟩:=hv₀
   refine hbc ?_
   clear hbc
   obtain rfl:=Option.some.inj (e.symm.trans e')
   exact ⟨fun q=>(by rcases q with ⟨_,_,q⟩ | ⟨_,_,q⟩<;>rw [d] at q<;>cases q),fun vs q=>(by exact (datN (d.symm.trans q) rfl).elim)⟩⟩⟩
  have hns:∀ m,s.heap.Ns env.locals m→h'.Ns env.locals m:=fun m y=>nsTr y fun _ e=>(hs.2 _ h1).trans e
  have hce:∀ c' v,c'≠c→s.heap.IsCell c' v→h'.IsCell c' v:=fun c v hne y=>cellTr y fun _ e=>(hs.2 _ hne).trans e
  refine hq _ ⟨hr.kind,hr.names,hr.glob,hr.blt,hr.qual,hr.code,⟨_,hns m hm⟩,hr.locF,fun y c' hc'=>?_,hr.cinj,fun p hp=>?_⟩ (hi.poke k rfl rfl)
   ⟨fun b o e _ _ hf=>k.keep b o (fun q=>hf (.inr ⟨x,(congrArg (·.lookup x) hr.names).trans hk,q ▸ hcl⟩)) e,fun b _ _ e _ _=>e,fun c v e=>⟨v,e⟩⟩
  ·refine bc fun hbc=>?_
   obtain ⟨g1,g2,g3,g4,g5⟩:=hr.cells y c' hc'
   refine hbc ?_
   clear hbc
   refine ⟨g1,g2,g3,fun e=>?_,g5⟩
   by_cases hcc:c'=c
   ·subst hcc;exact ⟨_,hn⟩
   ·obtain ⟨v,q⟩:=g4 e;exact ⟨v,hce _ _ hcc q⟩
  ·rcases hu p hp with rfl | ⟨hp,hne⟩
   ·exact .inr ⟨.inl hk,c,v,hcl,hn,hv.mono k.seq,hsc,h3⟩
   ·have hv':=hr.vars p hp
    refine bc fun hbc=>?_
    obtain ⟨y,sl⟩:=p
    refine hbc ?_
    clear hbc
    cases sl with
    | val pv'=>
     rcases hv' with ⟨h1,m₀,v',h2,h3,h4⟩ | ⟨h1,c',v',h2,h3,h4,h5,h6⟩
     ·exact .inl ⟨h1,m₀,v',hns m₀ h2,h3,h4.mono k.seq⟩
     ·exact .inr ⟨h1,c',v',h2,hce c' _ (fun q=>hne (hr.cinj y x c' h2 (q ▸ hcl))) h3,h4.mono k.seq,h5,h6⟩
    | sh c'=>exact hv'
    | emp=>obtain ⟨h1,c',h2,⟨v',h3⟩,h5,h6⟩:=hv';exact ⟨h1,c',h2,⟨v',hce c' _ (fun q=>hne (hr.cinj y x c' h2 (q ▸ hcl))) h3⟩,h5,h6⟩
noncomputable def Cont (K:Kx) (rest:List Stmt) (Q:Fl→Fm→Store→Prop):Fl→Fm→Store→Prop
 | .next,ρ',σ'=>ExP K ρ' σ' rest Q
 | fl,ρ',σ'=>Q fl ρ' σ'
theorem ex_nil {Q:Fl→Fm→Store→Prop} (h:Q .next ρ σ):ExP K ρ σ [] Q:=fun A env s ha hr hi QM hq=>wpAny_execs_nil (hq .next .next ρ σ s h trivial hr hi .refl)
theorem ex_cons {st:Stmt} {rest:List Stmt} {Q:Fl→Fm→Store→Prop} (h:StP K ρ σ st (Cont K rest Q)):ExP K ρ σ (st :: rest) Q:=fun A env s ha hr hi QM hq=>
 wpAny_execs_cons (h A env s ha hr hi _ fun f fl ρ₁ σ₁ s₁ h₁ r₁ hr₁ i₁ e₁=>by
  cases fl with
  | next=>cases f<;>first | exact r₁.elim | exact h₁ A env s₁ ha hr₁ i₁ _ fun f fl ρ₂ σ₂ s₂ h₂ r₂ hr₂ i₂ e₂=>hq f fl ρ₂ σ₂ s₂ h₂ r₂ hr₂ i₂ (e₁.trans e₂)
  | brk=>cases f<;>first | exact r₁.elim | exact hq _ _ _ _ _ h₁ r₁ hr₁ i₁ e₁
  | cont=>cases f<;>first | exact r₁.elim | exact hq _ _ _ _ _ h₁ r₁ hr₁ i₁ e₁
  | ret v=>cases f<;>first | exact r₁.elim | exact hq _ _ _ _ _ h₁ r₁ hr₁ i₁ e₁)
theorem st_if {t:Expr} {b o:List Stmt} {pos:Pos} {Q:Fl→Fm→Store→Prop} (h:TsP K ρ σ t (fun c σ₁=>if c then ExP K ρ σ₁ b Q else ExP K ρ σ₁ o Q)):StP K ρ σ (.If t b o pos) Q:=fun A env s ha hr hi QM hq=>
 wpAny_If (h A env s ha hr hi _ fun c σ₁ s₁ h₁ i₁ e₁=>by
  cases c<;>exact h₁ A env s₁ ha (hr.mono e₁) i₁ _ fun f fl ρ₂ σ₂ s₂ h₂ r₂ hr₂ i₂ e₂=>hq f fl ρ₂ σ₂ s₂ h₂ r₂ hr₂ i₂ (e₁.toF.trans e₂))
theorem st_ret {e:Expr} {pos:Pos} {Q:Fl→Fm→Store→Prop} (h:EvP K ρ σ e (fun v σ₁=>Q (.ret v) ρ σ₁)):StP K ρ σ (.Return (some e) pos) Q:=fun A env s ha hr hi QM hq=>
 wpAny_Return_some (h A env s ha hr hi _ fun v pv σ₁ s₁ h₁ i₁ e₁ r₁=>hq (.ret v) (.ret pv) ρ σ₁ s₁ h₁ r₁ (hr.mono e₁) i₁ e₁.toF)
theorem st_ret0 {pos:Pos} {Q:Fl→Fm→Store→Prop} (h:Q (.ret .none) ρ σ):StP K ρ σ (.Return none pos) Q:=fun A env s ha hr hi QM hq=>
 wpAny_Return_none (hq (.ret .none) (.ret .none) ρ σ s h Rel.none hr hi .refl)
theorem st_brk {pos:Pos} {Q:Fl→Fm→Store→Prop} (h:Q .brk ρ σ):StP K ρ σ (.Break pos) Q:=fun A env s ha hr hi QM hq=>wpAny_Break (hq .brk .brk ρ σ s h trivial hr hi .refl)
theorem st_cont {pos:Pos} {Q:Fl→Fm→Store→Prop} (h:Q .cont ρ σ):StP K ρ σ (.Continue pos) Q:=fun A env s ha hr hi QM hq=>wpAny_Continue (hq .cont .cont ρ σ s h trivial hr hi .refl)
theorem st_expr {e:Expr} {pos:Pos} {Q:Fl→Fm→Store→Prop} (h:EvP K ρ σ e (fun _ σ₁=>Q .next ρ σ₁)) (hs:autoParam (∀ env,swapsWith e none pos.line env=pure false) aI):StP K ρ σ (.Expr e pos) Q:=fun A env s ha hr hi QM hq=>
 wpAny_Expr_any (h A env s ha hr hi _ fun v pv σ₁ s₁ h₁ i₁ e₁ r₁=>hq .next .next ρ σ₁ s₁ h₁ trivial (hr.mono e₁) i₁ e₁.toF) (by unfold interactive;rw [hr.kind];rfl) (hs env)
theorem st_assign {x:Str} {e:Expr} {pos' pos:Pos} {Q:Fl→Fm→Store→Prop} (hk:Stores K ρ x) (h:EvP K ρ σ e (fun v σ₁=>∃ ρ',Upd ρ x (.val v) ρ'∧Q .next ρ' σ₁))
  (hs:autoParam (∀ env,swapsWith e (some (.Name x pos')) pos.line env=pure false) aI):StP K ρ σ (.Assign [.Name x pos'] e pos) Q:=fun A env s ha hr hi QM hq=>
 wpAny_Assign_Name (h A env s ha hr hi _ fun v pv σ₁ s₁ h₁ i₁ e₁ r₁=>by
  refine bc fun hbc=>?_
  obtain ⟨ρ',hu,h₁⟩:=h₁
  refine hbc ?_
  clear hbc
  exact store_name hk (hr.mono e₁) i₁ r₁ hu fun s₂ hr₂ i₂ e₂=>hq .next .next ρ' σ₁ s₂ h₁ trivial hr₂ i₂ (e₁.toF.trans e₂)) (hs env)
theorem load_name {x:Str} {pv:V} (hx:(x,Slot.val pv)∈ρ) {A:Around} {env:Env} {s:Shared} (hr:Rep K env ρ σ s.heap) {QM:Value→Shared→Prop} (hq:∀ v,Rel σ s.heap v pv→QM v s) (hn:autoParam ((x == ("__classdict__" : Str))=false) aD):
  wpAny (model C.prog C.w) A (loadName env x) QM Bot s:=by
 rcases hr.vars _ hx with ⟨h1,m,mv,h2,h3,h4⟩ | ⟨h1,c,mv,h2,h3,h4,_,_⟩
 ·exact wpAny_loadName_local hr.kind ((congrArg (·.lookup x) hr.names).trans h1) h2 h3 (hq _ h4)
 ·rcases h1 with h1 | h1
  ·exact wpAny_loadName_cell hr.kind ((congrArg (·.lookup x) hr.names).trans h1) h2 h3 (hq _ h4)
  ·exact wpAny_loadName_free hr.kind ((congrArg (·.lookup x) hr.names).trans h1) h2 h3 (hq _ h4) hn
theorem st_aug {x:Str} {a:V} {op:Operator} {e:Expr} {pos' pos:Pos} {Q:Fl→Fm→Store→Prop} (hk:Stores K ρ x) (hx:(x,Slot.val a)∈ρ)
  (h:EvP K ρ σ e (fun b σ₂=>M2 K.d (inplaceOp op) a b σ₂ (fun v σ₃=>∃ ρ',Upd ρ x (.val v) ρ'∧Q .next ρ' σ₃)))
  (hn:autoParam ((x == ("__classdict__" : Str))=false) aD):StP K ρ σ (.AugAssign (.Name x pos') op e pos) Q:=fun A env s ha hr hi QM hq=>
 wpAny_AugAssign_Name (load_name hx hr (fun x' r₁=>h A env s ha hr hi _ fun y b σ₂ s₂ h₂ i₂ e₂ r₂=>h₂ A s₂ x' y ha i₂ (r₁.mono e₂.seq) r₂ _ fun v pv σ₃ s₃ q i₃ e₃ r₃=>by
   refine bc fun hbc=>?_
   obtain ⟨ρ',hu,q⟩:=q
   refine hbc ?_
   clear hbc
   exact store_name hk (hr.mono (e₂.trans e₃)) i₃ r₃ hu fun s₄ hr₄ i₄ e₄=>hq .next .next ρ' σ₃ s₄ q trivial hr₄ i₄ ((e₂.trans e₃).toF.trans e₄)) hn)
theorem EvP.of {e:Expr} {Q:V→Store→Prop} (h:EvP K ρ σ e Q):EvP K ρ σ e Q:=fun A env s ha hr hi QM hq=>wpAny_mono (h A env s ha hr hi QM hq) (fun _ _ x=>x) fun _ _ x=>x.elim
theorem TsP.of {e:Expr} {Q:Bool→Store→Prop} (h:TsP K ρ σ e Q):TsP K ρ σ e Q:=fun A env s ha hr hi QM hq=>wpAny_mono (h A env s ha hr hi QM hq) (fun _ _ x=>x) fun _ _ x=>x.elim
noncomputable def Turn (J:Nat→Fm→Store→Prop) (n:Nat) (Q:Fl→Fm→Store→Prop):Fl→Fm→Store→Prop
 | .next,ρ₃,σ₃=>∃ m,m < n∧J m ρ₃ σ₃
 | .cont,ρ₃,σ₃=>∃ m,m < n∧J m ρ₃ σ₃
 | .brk,ρ₃,σ₃=>Q .next ρ₃ σ₃
 | .ret v,ρ₃,σ₃=>Q (.ret v) ρ₃ σ₃
inductive WhJ (K:Kx) (env:Env) (J:Nat→Fm→Store→Prop) (σ:Store) (h:Heap) (n:Nat) (s':Shared):Prop
 | mk (ρ₁:Fm) (σ₁:Store) (hJ:J n ρ₁ σ₁) (hr:Rep K env ρ₁ σ₁ s'.heap) (hi:Inv σ₁ s') (E:ExtF env σ h σ₁ s'.heap)
theorem st_while {t:Expr} {b:List Stmt} {pos:Pos} {Q:Fl→Fm→Store→Prop} (J:Nat→Fm→Store→Prop) (n:Nat) (h0:J n ρ σ)
  (h:∀ n ρ₁ σ₁,J n ρ₁ σ₁→TsP K ρ₁ σ₁ t (fun c σ₂=>if c then ExP K ρ₁ σ₂ b (Turn J n Q) else Q .next ρ₁ σ₂)):StP K ρ σ (.While t b [] pos) Q:=fun A env s ha hr hi QM hq=>by
 refine wpAny_While ?_
 refine codeAny_whileLoop (WhJ K env J σ s.heap) ?_ n ⟨ρ,σ,h0,hr,hi,.refl⟩
 intro n s₁ hJ2
 refine bc fun hbc=>?_
 obtain ⟨ρ₁,σ₁,hJ,hr₁,hi₁,e₁⟩:=hJ2
 refine hbc ?_
 clear hbc
 refine wpAny_mono (h n ρ₁ σ₁ hJ A env s₁ ha hr₁ hi₁ _ fun c σ₂ s₂ q i₂ e₂=>?_) (fun _ _ h=>h) fun _ _ x=>x.elim
 cases c with
 | false=>exact wpAny_execs_nil (hq .next .next ρ₁ σ₂ s₂ q trivial (hr₁.mono e₂) i₂ (e₁.trans e₂.toF))
 | true=>
  refine wpAny_mono (q A env s₂ ha (hr₁.mono e₂) i₂ _ fun f fl ρ₃ σ₃ s₃ q r hr₃ i₃ e₃=>?_) (fun _ _ h=>h) fun _ _ x=>x.elim
  have E:=(e₁.trans e₂.toF).trans e₃
  cases fl with
  | next=>cases f<;>first | exact r.elim | (obtain ⟨m,hm,hJ⟩:=q;exact ⟨m,hm,ρ₃,σ₃,hJ,hr₃,i₃,E⟩)
  | cont=>cases f<;>first | exact r.elim | (obtain ⟨m,hm,hJ⟩:=q;exact ⟨m,hm,ρ₃,σ₃,hJ,hr₃,i₃,E⟩)
  | brk=>cases f<;>first | exact r.elim | exact hq .next .next ρ₃ σ₃ s₃ q trivial hr₃ i₃ E
  | ret v=>cases f<;>first | exact r.elim | exact hq _ (.ret v) ρ₃ σ₃ s₃ q r hr₃ i₃ E
end
end Mine
end
section
open PySem PySem.W PyProof.Rows PySem.Calls
namespace Mine
section
variable {K:Kx} {ρ:Fm} {σ:Store}
theorem Heap.get?_size (h:Heap):h.get? h.objs.size=none:=by
 cases e:h.get? h.objs.size with
 | none=>rfl
 | some o=>exact absurd (Heap.lt_size e) (Nat.lt_irrefl _)
theorem Poke.fresh {h h':Heap} {a:Addr} (k:∀ b o,h.get? b=some o→h'.get? b=some o) (ha:h.get? a=none):Poke σ a h h':=
 ⟨fun b o _ e=>k b o e,fun o e=>by exact absurd (ha.symm.trans e).symm (Option.some_ne_none _)⟩
theorem Ext.grow {h h':Heap} (k:∀ b o,h.get? b=some o→h'.get? b=some o):Ext σ h σ h':=⟨fun a o e _ _=>k a o e,fun _ _ _ e _=>e,fun _ v e=>⟨v,e⟩⟩
theorem Inv.grow {s s':Shared} (i:Inv σ s) (k:∀ b o,s.heap.get? b=some o→s'.heap.get? b=some o) (hg:s'.gens=s.gens) (ho:s'.os=s.os):Inv σ s':=
 i.poke (Poke.fresh (a:=s.heap.objs.size) k (Heap.get?_size _)) hg ho
theorem ExtF.poke {env:Env} {σ':Store} {h h₁ h₂:Heap} {it:Addr} (e:ExtF env σ h σ' h₁) (k:Poke σ' it h₁ h₂) (hn:h.get? it=none):ExtF env σ h σ' h₂:=
 ⟨fun a o g hs ht hf=>k.keep a o (fun q=>by subst q;exact absurd (hn.symm.trans g).symm (Option.some_ne_none _)) (e.keep a o g hs ht hf),e.free,e.cell⟩
theorem Inv.off {s:Shared} (i:Inv σ s) {a:Addr} (h:s.heap.get? a=none):σ a=none:=by
 cases e:σ a with
 | none=>rfl
 | some p=>
  have:=(i.own a p e).2
  cases p with
  | list vs=>obtain ⟨_,_,q,_⟩:=this;exact absurd (h.symm.trans q).symm (Option.some_ne_none _)
  | ns at_=>obtain ⟨_,_,q,_⟩:=this;exact absurd (h.symm.trans q).symm (Option.some_ne_none _)
  | inst c d=>have q:s.heap.get? a=some _:=this;exact absurd (h.symm.trans q).symm (Option.some_ne_none _)
  | cell v=>cases v with
   | none=>obtain ⟨o,q,_⟩:=this;exact absurd (h.symm.trans q).symm (Option.some_ne_none _)
   | some v=>obtain ⟨v,⟨o,q,_⟩,_⟩:=this;exact absurd (h.symm.trans q).symm (Option.some_ne_none _)
  | func f cap d=>obtain ⟨o,fd,q,_⟩:=this;exact absurd (h.symm.trans q).symm (Option.some_ne_none _)
  | bound f self=>obtain ⟨v,q,_⟩:=this;exact absurd (h.symm.trans q).symm (Option.some_ne_none _)
  | citer f sent=>obtain ⟨v,u,q,_⟩:=this;exact absurd (h.symm.trans q).symm (Option.some_ne_none _)
  | cend=>have q:s.heap.get? a=some _:=this;exact absurd (h.symm.trans q).symm (Option.some_ne_none _)
  | riter vs i=>obtain ⟨l,q,_⟩:=this;exact absurd (h.symm.trans q).symm (Option.some_ne_none _)
noncomputable def rngL (x:Int):Nat→Int→List V
 | 0,_=>[]
 | n + 1,st=>.int x :: rngL (x + st) n st
inductive Items:V→List V→Prop where
 | lst (vs:List V):Items (.lst vs) vs
 | tup (vs:List V):Items (.tup vs) vs
 | str (x:List Nat):Items (.str x) (x.map fun c=>.str [c])
 | rng (lo hi st:Int) (h:Builtin.Range.small lo hi st=true):Items (.rng lo hi st) (rngL lo (Builtin.Range.rangeSize lo hi st).toNat st)
inductive ItSt (σ:Store) (h:Heap) (it:Addr):List V→Prop where
 | lst (l:Addr) (vs:List V) (i:Nat) (hi:h.IsListIter it l i) (hr:Rel σ h (.ref l) (.lst vs)):ItSt σ h it (vs.drop i)
 | tup (l:Addr) (vs:List V) (i:Nat) (hi:h.IsTupleIter it l i) (hr:Rel σ h (.ref l) (.tup vs)):ItSt σ h it (vs.drop i)
 | str (ty:String) (hty:ty = "str_ascii_iterator" ∨ ty = "str_iterator") (x:Str) (t:Tok) (i:Nat) (hi:h.IsStrIter it ty x t i):ItSt σ h it ((x.cps.toList.drop i).map fun c=>.str [c])
 | rng (x:Int) (n:Nat) (st:Int) (hi:IsRangeIter h it x n st):ItSt σ h it (rngL x n st)
structure Itr (σ:Store) (h:Heap) (it:Addr) (r:List V):Prop where
 st:ItSt σ h it r
 un:σ it=none
 lo:C.h1.objs.size≤it
 nt:it∉C.tabs
theorem Rel.lst_inv {h:Heap} {a:Addr} {vs:List V} (r:Rel σ h (.ref a) (.lst vs)):∃ items n,h.get? a=some (lstO items n)∧Rels σ h items.toList vs:=by
 refine bc fun hbc=>?_
 obtain ⟨_,_,_,e,ho,_,_,hr⟩:=r.inv
 refine hbc ?_
 clear hbc
 cases e
 exact ⟨_,_,ho,hr⟩
theorem Rel.tup_inv {h:Heap} {a:Addr} {vs:List V} (r:Rel σ h (.ref a) (.tup vs)):∃ items n,h.get? a=some (tupO items n)∧Rels σ h items.toList vs:=by
 refine bc fun hbc=>?_
 obtain ⟨_,_,_,e,ho,_,_,hr⟩:=r.inv
 refine hbc ?_
 clear hbc
 cases e
 exact ⟨_,_,ho,hr⟩
theorem Loose.of_fields {o:Obj} {vs:Array Value} (hd:o.data=.fields vs) (hc:¬ (o.cls=.type "range" ∨ o.cls=.type "slice")) (hv:∀ q t,vs[1]?≠some (.str q t)):Loose o:=
 ⟨fun q=>by
  rcases q with ⟨_,_,q⟩ | ⟨q,_⟩
  ·exact (datN (hd.symm.trans q) rfl).elim
  ·exact hc q,fun vs' q=>by (rw [hd] at q;cases q);exact hv⟩
theorem ItSt.obj {h:Heap} {it:Addr} {r:List V} (x:ItSt σ h it r):∃ o vs,h.get? it=some o∧o.data=.fields vs∧Loose o:=by
 cases x with
 | lst l vs i hi hr=>obtain ⟨o,e,c,d⟩:=hi;exact ⟨o,_,e,d,.of_fields d (by rw [c];decide) (fun q t=>by simp)⟩
 | tup l vs i hi hr=>obtain ⟨o,e,c,d⟩:=hi;exact ⟨o,_,e,d,.of_fields d (by rw [c];decide) (fun q t=>by simp)⟩
 | str ty hty x t i hi=>obtain ⟨o,e,c,d⟩:=hi;exact ⟨o,_,e,d,.of_fields d (by rw [c];rcases hty with rfl | rfl<;>decide) (fun q t=>by simp)⟩
 | rng x n st hi=>exact ⟨_,_,hi,rfl,.of_fields rfl (by show ¬ (Value.type "range_iterator" = _∨Value.type "range_iterator" = _);decide) (fun q t=>by simp [rawInt])⟩
theorem ItSt.mono {σ':Store} {h h':Heap} {it:Addr} {r:List V} (x:ItSt σ h it r) (k:∀ o,h.get? it=some o→h'.get? it=some o) (s:SeqKeep σ h σ' h'):ItSt σ' h' it r:=by
 cases x with
 | lst l vs i hi hr=>obtain ⟨o,e,q⟩:=hi;exact .lst l vs i ⟨o,k o e,q⟩ (hr.mono s)
 | tup l vs i hi hr=>obtain ⟨o,e,q⟩:=hi;exact .tup l vs i ⟨o,k o e,q⟩ (hr.mono s)
 | str ty hty x t i hi=>obtain ⟨o,e,q⟩:=hi;exact .str ty hty x t i ⟨o,k o e,q⟩
 | rng x n st hi=>exact .rng x n st (k _ hi)
theorem Itr.pokeE {h h':Heap} {it:Addr} {r:List V} (x:Itr σ h it r) (e:Heap.ExtBut it h h'):Poke σ it h h':=
 ⟨fun b o hb q=>e b o hb q,fun o q=>⟨x.un,x.lo,by obtain ⟨o',vs,q',d,l⟩:=x.st.obj;obtain rfl:=Option.some.inj (q.symm.trans q');exact l⟩⟩
theorem itr_next {it:Addr} {r:List V} {A:Around} {s:Shared} {d:Nat} (x:Itr σ s.heap it r) (ha:AOk d A) {QM:Option Value→Shared→Prop} {E:Value→Shared→Prop}
  (hq0:r=[]→∀ h',Poke σ it s.heap h'→QM none { s with heap:=h' })
  (hq1:∀ p r',r=p :: r'→∀ v h' tk,Poke σ it s.heap h'→Rel σ h' v p→Itr σ h' it r'→QM (some v) { s with heap:=h',toks:=tk }):
  wpAny (model C.prog C.w) A (pyNext (.ref it)) QM E s:=by
 have hx:=x
 refine bc fun hbc=>?_
 obtain ⟨st,un,lo,nt⟩:=x
 refine hbc ?_
 clear hbc
 revert hx hq0 hq1
 cases st with
 | lst l vs i hi hr=>
  intro hq0 hq1 hx
  refine bc fun hbc=>?_
  obtain ⟨items,n,e,rs⟩:=hr.lst_inv
  refine hbc ?_
  clear hbc
  have hl:s.heap.IsList l items:=⟨_,e,rfl,n,rfl⟩
  cases hv:vs.drop i with
  | nil=>
   have hlen:vs.length≤i:=List.drop_eq_nil_iff.mp hv
   have:items[i]?=none:=by rw [← Array.getElem?_toList];exact List.getElem?_eq_none (by rw [rs.length];exact hlen)
   exact wpAny_pyNext_list_end ha.1 hi hl this fun h' q=>hq0 hv h' (hx.pokeE q)
  | cons p r'=>
   have hp:vs[i]?=some p:=by rw [← List.head?_drop,hv];rfl
   refine bc fun hbc=>?_
   obtain ⟨v,gv,rv⟩:=rs.get hp
   refine hbc ?_
   clear hbc
   refine wpAny_pyNext_list_item hi hl (by rw [← Array.getElem?_toList];exact gv) fun h' q sb=>hq1 p r' hv v h' s.toks (hx.pokeE sb.extBut) (rv.mono (hx.pokeE sb.extBut).seq) ⟨?_,un,lo,nt⟩
   have:r'=vs.drop (i + 1):=by rw [← List.tail_drop,hv];rfl
   rw [this]
   exact .lst l vs (i + 1) q (hr.mono (hx.pokeE sb.extBut).seq)
 | tup l vs i hi hr=>
  intro hq0 hq1 hx
  refine bc fun hbc=>?_
  obtain ⟨items,n,e,rs⟩:=hr.tup_inv
  refine hbc ?_
  clear hbc
  have hl:s.heap.IsTuple l items:=⟨_,e,rfl,n,rfl⟩
  cases hv:vs.drop i with
  | nil=>
   have hlen:vs.length≤i:=List.drop_eq_nil_iff.mp hv
   have:items[i]?=none:=by rw [← Array.getElem?_toList];exact List.getElem?_eq_none (by rw [rs.length];exact hlen)
   exact wpAny_pyNext_tuple_end ha.1 hi hl this fun h' q=>hq0 hv h' (hx.pokeE q)
  | cons p r'=>
   have hp:vs[i]?=some p:=by rw [← List.head?_drop,hv];rfl
   refine bc fun hbc=>?_
   obtain ⟨v,gv,rv⟩:=rs.get hp
   refine hbc ?_
   clear hbc
   refine wpAny_pyNext_tuple_item hi hl (by rw [← Array.getElem?_toList];exact gv) fun h' q sb=>hq1 p r' hv v h' s.toks (hx.pokeE sb.extBut) (rv.mono (hx.pokeE sb.extBut).seq) ⟨?_,un,lo,nt⟩
   have:r'=vs.drop (i + 1):=by rw [← List.tail_drop,hv];rfl
   rw [this]
   exact .tup l vs (i + 1) q (hr.mono (hx.pokeE sb.extBut).seq)
 | str ty hty y t i hi=>
  intro hq0 hq1 hx
  cases hv:y.cps.toList.drop i with
  | nil=>
   have hlen:y.cps.toList.length≤i:=List.drop_eq_nil_iff.mp hv
   have:y.cps[i]?=none:=by rw [← Array.getElem?_toList];exact List.getElem?_eq_none hlen
   rcases hty with rfl | rfl
   ·exact wpAny_pyNext_ascii_end ha.1 hi this fun h' q=>hq0 (by simp [hv]) h' (hx.pokeE q)
   ·exact wpAny_pyNext_wide_end ha.1 hi this fun h' q=>hq0 (by simp [hv]) h' (hx.pokeE q)
  | cons p r'=>
   have hp:y.cps[i]?=some p:=by rw [← Array.getElem?_toList,← List.head?_drop,hv];rfl
   have e:r'=y.cps.toList.drop (i + 1):=by rw [← List.tail_drop,hv];rfl
   rcases hty with rfl | rfl
   ·refine wpAny_pyNext_ascii_item hi hp fun h' q sb=>hq1 _ _ (by rw [hv];rfl) _ h' _ (hx.pokeE sb.extBut) (.str [p] _) ⟨?_,un,lo,nt⟩
    rw [e];exact .str _ (.inl rfl) y t (i + 1) q
   ·refine wpAny_pyNext_wide_item hi hp fun h' q sb=>hq1 _ _ (by rw [hv];rfl) _ h' _ (hx.pokeE sb.extBut) (.str [p] _) ⟨?_,un,lo,nt⟩
    rw [e];exact .str _ (.inr rfl) y t (i + 1) q
 | rng y n st hi=>
  intro hq0 hq1 hx
  cases n with
  | zero=>exact wpAny_pyNext_range_end ha.1 hi (by walk_at "l") fun h' q=>hq0 rfl h' (hx.pokeE q)
  | succ n=>
   refine wpAny_pyNext_range_item hi (by lia) fun h' q sb=>hq1 _ _ rfl _ h' _ (hx.pokeE sb.extBut) (.int y _) ⟨?_,un,lo,nt⟩
   have:((n + 1:Nat):Int) - 1=n:=by lia
   rw [this] at q
   exact .rng (y + st) n st q
theorem itr_iter {v:Value} {pv:V} {items:List V} {A:Around} {s:Shared} {d:Nat} (h:Items pv items) (hr:Rel σ s.heap v pv) (hi:Inv σ s) (ha:AOk d A) {QM:Value→Shared→Prop}
  (hq:∀ it h',s.heap.get? it=none→(∀ b o,s.heap.get? b=some o→h'.get? b=some o)→Itr σ h' it items→QM (.ref it) { s with heap:=h' }):wpAny (model C.prog C.w) A (pyIter v) QM Bot s:=by
 have un:σ s.heap.objs.size=none:=hi.off (Heap.get?_size _)
 have lo:C.h1.objs.size≤s.heap.objs.size:=hi.size
 have nt:s.heap.objs.size∉C.tabs:=fun q=>by
  refine bc fun hbc=>?_
  obtain ⟨n,hn,e⟩:=List.mem_map.mp q
  refine hbc ?_
  clear hbc
  have:=hi.tabLt n hn
  rw [e] at this
  exact absurd lo (Nat.not_le.mpr this)
 have g:∀ o b o',s.heap.get? b=some o'→(s.heap.push o).get? b=some o':=fun o b o' e=>Heap.get?_push_of_some _ e
 revert hr hq
 cases h with
 | lst vs=>
  intro hr hq
  refine bc fun hbc=>?_
  obtain ⟨a,items,n,e,ho,_,_,_⟩:=hr.inv
  refine hbc ?_
  clear hbc
  subst e
  exact wpAny_pyIter_list ⟨_,ho,rfl,_,rfl⟩ (hq _ _ (Heap.get?_size _) (g _) ⟨.lst _ _ 0 ⟨_,Heap.get?_push_size _ rfl,rfl,rfl⟩ (hr.mono (Ext.grow (g _)).seq),un,lo,nt⟩)
 | tup vs=>
  intro hr hq
  refine bc fun hbc=>?_
  obtain ⟨a,items,n,e,ho,_,_,_⟩:=hr.inv
  refine hbc ?_
  clear hbc
  subst e
  exact wpAny_pyIter_tuple ⟨_,ho,rfl,_,rfl⟩ (hq _ _ (Heap.get?_size _) (g _) ⟨.tup _ _ 0 ⟨_,Heap.get?_push_size _ rfl,rfl,rfl⟩ (hr.mono (Ext.grow (g _)).seq),un,lo,nt⟩)
 | str x=>
  intro hr hq
  refine bc fun hbc=>?_
  obtain ⟨t,e⟩:=hr.inv
  refine hbc ?_
  clear hbc
  subst e
  cases hall:(Str.mk x.toArray).cps.all (· < 128)
  ·exact wpAny_pyIter_wide hall (hq _ _ (Heap.get?_size _) (g _) ⟨.str _ (.inr rfl) ⟨x.toArray⟩ t 0 ⟨_,Heap.get?_push_size _ rfl,rfl,rfl⟩,un,lo,nt⟩)
  ·exact wpAny_pyIter_ascii hall (hq _ _ (Heap.get?_size _) (g _) ⟨.str _ (.inl rfl) ⟨x.toArray⟩ t 0 ⟨_,Heap.get?_push_size _ rfl,rfl,rfl⟩,un,lo,nt⟩)
 | rng a b c hs=>
  intro hr hq
  refine bc fun hbc=>?_
  obtain ⟨_,t,u,v,e,ho,_,_⟩:=hr.inv
  refine hbc ?_
  clear hbc
  subst e
  refine wpAny_pyIter_range ho hs (hq _ _ (Heap.get?_size _) (g _) ⟨.rng a _ c ?_,un,lo,nt⟩)
  have h0:0≤Builtin.Range.rangeSize a b c:=by
   unfold Builtin.Range.rangeSize
   split<;>split
   ·have:0≤(b - a - 1) / c:=Int.ediv_nonneg (by lia) (by lia)
    lia
   ·walk_at "l"
   ·have:0≤(a - b - 1) / (-c):=Int.ediv_nonneg (by lia) (by lia)
    lia
   ·walk_at "l"
  show (s.heap.push _).get? _=_
  rw [Int.toNat_of_nonneg h0]
  exact Heap.get?_push_size _ rfl
theorem Foot.notFixed {env:Env} {h:Heap} (hr:Rep K env ρ σ h) {a:Addr} {o:Obj} (hs:σ a=none) (e:h.get? a=some o) (hF:Fixed o):¬ Foot env a:=fun f=>by
 have dd:∀ d,o.data=d→(∀ x y,d≠.seq x y)→(∀ x,d≠.fields x)→False:=fun d hd h1 h2=>by
  rcases hF with ⟨_,_,q⟩ | ⟨_,_,q⟩
  ·exact h1 _ _ (hd.symm.trans q)
  ·exact h2 _ (hd.symm.trans q)
 rcases f with rfl | ⟨x,_,hc⟩
 ·refine bc fun hbc=>?_
  obtain ⟨m,o',es,ep,e',d,_⟩:=hr.loc
  refine hbc ?_
  clear hbc
  obtain rfl:=Option.some.inj (e.symm.trans e')
  exact dd _ d (fun _ _ q=>by cases q) (fun _ q=>by cases q)
 ·refine bc fun hbc=>?_
  obtain ⟨v,o',e',d⟩:=(hr.cells x a hc).ex hs
  refine hbc ?_
  clear hbc
  obtain rfl:=Option.some.inj (e.symm.trans e')
  exact dd _ d (fun _ _ q=>by cases q) (fun _ q=>by cases q)
theorem ExtF.seq {env:Env} {σ':Store} {h h':Heap} (hr:Rep K env ρ σ h) (x:ExtF env σ h σ' h'):SeqKeep σ h σ' h':=
 ⟨fun a o e f hs ht=>x.keep a o e hs ht (Foot.notFixed hr hs e f),fun a o e f hs ht=>x.free a o e hs ht (Foot.notFixed hr hs e f)⟩
theorem as_name {x:Str} {pos:Pos} {pv:V} {ρ':Fm} {Q:Fm→Store→Prop} (hk:Stores K ρ x) (hu:Upd ρ x (.val pv) ρ') (h:Q ρ' σ):AsP K ρ σ (.Name x pos) pv Q:=fun A env s v ha hr hi hv QM hq=>
 wpAny_assign_Name (store_name hk hr hi hv hu fun s' hr' i' e'=>hq ρ' σ s' h hr' i' e')
noncomputable def AssP (K:Kx) (Q:Fm→Store→Prop):Fm→Store→List Expr→List V→Prop
 | ρ,σ,[],[]=>Q ρ σ
 | ρ,σ,t :: ts,v :: vs=>AsP K ρ σ t v (fun ρ₁ σ₁=>AssP K Q ρ₁ σ₁ ts vs)
 | _,_,_,_=>False
theorem ass_order {A:Around} {env:Env} {Q:Fm→Store→Prop} (ha:AOk K.d A):∀ {ts:List Expr} {pl:List V} {vs:List Value} {ρ:Fm} {σ:Store} {s:Shared},AssP K Q ρ σ ts pl→Rep K env ρ σ s.heap→Inv σ s→Rels σ s.heap vs pl→
  ∀ {QM:Unit→Shared→Prop},(∀ ρ' σ' s',Q ρ' σ'→Rep K env ρ' σ' s'.heap→Inv σ' s'→ExtF env σ s.heap σ' s'.heap→QM () s')→wpAny (model C.prog C.w) A (assignInOrder (ts.map fun t=>assign t env) vs) QM Bot s:=by
 intro ts
 induction ts with
 | nil=>
  intro pl vs ρ σ s h hr hi hrs QM hq
  cases pl with
  | nil=>
   cases hrs
   exact wpAny_assignInOrder_none (hq ρ σ s h hr hi .refl)
  | cons p pl=>exact h.elim
 | cons t ts ih=>
  intro pl vs ρ σ s h hr hi hrs QM hq
  cases pl with
  | nil=>exact h.elim
  | cons p pl=>
   cases hrs with
   | cons hv hl=>
    exact wpAny_assignInOrder_more (h A env s _ ha hr hi hv _ fun ρ₁ σ₁ s₁ h₁ hr₁ i₁ e₁=>
     ih h₁ hr₁ i₁ (hl.mono (e₁.seq hr)) fun ρ' σ' s' q hr' i' e'=>hq ρ' σ' s' q hr' i' (e₁.trans e'))
theorem as_tuple {elts:List Expr} {k:Nat} {pos:Pos} {vs:List V} {Q:Fm→Store→Prop} (h:AssP K Q ρ σ elts vs) (hl:elts.length=vs.length)
  (he:autoParam (∀ env,assignEach elts env=elts.map fun t=>(false,assign t env)) aI):AsP K ρ σ (.Tuple elts k pos) (.tup vs) Q:=fun A env s v ha hr hi hv QM hq=>by
 refine bc fun hbc=>?_
 obtain ⟨a,items,n,e₀,ho,_,_,hrs⟩:=hv.inv
 refine hbc ?_
 clear hbc
 subst e₀
 refine wpAny_assign_Tuple ha.1 ⟨_,ho,rfl,_,rfl⟩ ?_ ?_ fun h' e=>?_
 ·rw [he];simpa [hl] using hrs.length.symm
 ·rw [he];simp
 ·have k:Poke σ s.heap.objs.size s.heap h':=⟨fun b o' hb q=>e b o' hb q,fun o' q=>by (rw [Heap.get?_size] at q;cases q)⟩
  have E:Ext σ s.heap σ h':=Ext.grow fun b o' q=>e b o' (fun q'=>by subst q';(rw [Heap.get?_size] at q;cases q)) q
  rw [he]
  have:((elts.map fun t=>(false,assign t env)).map (·.2))=elts.map fun t=>assign t env:=by simp
  rw [this]
  exact ass_order ha h (hr.mono E) (hi.poke (s':={ s with heap:=h' }) k rfl rfl) (hrs.mono k.seq) fun ρ' σ' s' q hr' i' e'=>hq ρ' σ' s' q hr' i' (E.toF.trans e')
noncomputable def TurnL (J:List V→Fm→Store→Prop) (r:List V) (Q:Fl→Fm→Store→Prop):Fl→Fm→Store→Prop
 | .next,ρ₃,σ₃=>J r ρ₃ σ₃
 | .cont,ρ₃,σ₃=>J r ρ₃ σ₃
 | .brk,ρ₃,σ₃=>Q .next ρ₃ σ₃
 | .ret v,ρ₃,σ₃=>Q (.ret v) ρ₃ σ₃
theorem Itr.notFoot {env:Env} {h:Heap} {it:Addr} {r:List V} (x:Itr σ h it r) (hr:Rep K env ρ σ h):¬ Foot env it:=fun f=>by
 refine bc fun hbc=>?_
 obtain ⟨o,vs,e,d,_⟩:=x.st.obj
 refine hbc ?_
 clear hbc
 rcases f with rfl | ⟨y,_,hc⟩
 ·refine bc fun hbc=>?_
  obtain ⟨m,o',es,ep,e',d',_⟩:=hr.loc
  refine hbc ?_
  clear hbc
  obtain rfl:=Option.some.inj (e.symm.trans e');exact (datN (d.symm.trans d') rfl).elim
 ·refine bc fun hbc=>?_
  obtain ⟨v,o',e',d'⟩:=(hr.cells y it hc).ex x.un
  refine hbc ?_
  clear hbc
  obtain rfl:=Option.some.inj (e.symm.trans e');exact (datN (d.symm.trans d') rfl).elim
theorem Itr.keep {env:Env} {σ':Store} {h h':Heap} {it:Addr} {r:List V} (x:Itr σ h it r) (hr:Rep K env ρ σ h) (e:ExtF env σ h σ' h'):Itr σ' h' it r:=by
 refine bc fun hbc=>?_
 obtain ⟨o,vs,g,d,_⟩:=x.st.obj
 refine hbc ?_
 clear hbc
 exact ⟨x.st.mono (fun o' g'=>e.keep it o' g' x.un x.nt (x.notFoot hr)) (e.seq hr),e.free it o g x.un x.nt (x.notFoot hr),x.lo,x.nt⟩
theorem ItSt.cls {h:Heap} {it:Addr} {r:List V} (x:ItSt σ h it r):∃ o n vs,h.get? it=some o∧o.cls=.type n∧o.data=.fields vs∧["enumerate", "zip", "dict_itemiterator", "dict_reverseitemiterator", "odict_iterator", "itertools.zip_longest", "itertools.pairwise"].contains n=false:=by
 cases x with
 | lst l vs i hi hr=>obtain ⟨o,e,c,d⟩:=hi;exact ⟨o,_,_,e,c,d,by decide +kernel⟩
 | tup l vs i hi hr=>obtain ⟨o,e,c,d⟩:=hi;exact ⟨o,_,_,e,c,d,by decide +kernel⟩
 | str ty hty x t i hi=>obtain ⟨o,e,c,d⟩:=hi;exact ⟨o,_,_,e,c,d,by rcases hty with rfl | rfl<;>decide +kernel⟩
 | rng x n st hi=>exact ⟨_,_,_,hi,rfl,rfl,by decide +kernel⟩
theorem own_go {M:Model} {target:Expr} {it:Addr} {v:Value} {r:List V} {A:Around} {E:Value→Shared→Prop} {s:Shared} {Q:Unit→Shared→Prop} (x:ItSt σ s.heap it r) (h:Q () s):wpAny M A (letOwnedTupleGo target (.ref it) v) Q E s:=by
 refine bc fun hbc=>?_
 obtain ⟨o,n,vs,e,c,d,hn⟩:=x.cls
 refine hbc ?_
 clear hbc
 have main:wpAny M A (do
  let (.ref r,.ref a):=((Value.ref it,v):Value×Value) | return
  let o ← load r
  match o.cls,o.data with
  | .type n,.fields vs=>
   if ["enumerate", "zip", "dict_itemiterator", "dict_reverseitemiterator", "odict_iterator", "itertools.zip_longest", "itertools.pairwise"].contains n && vs[0]? == some (rawInt a) then
    rule "for.unpacks-the-owned-tuple"
    updateField r 0 .none
  | _,_=>pure ()) Q E s:=by
  cases v<;>first | exact wpAny_pure h | skip
  refine wpAny_bind (wpAny_load e ?_)
  rw [c,d]
  simp only [hn,Bool.false_and,Bool.false_eq_true,if_false]
  exact wpAny_pure h
 unfold letOwnedTupleGo
 cases target<;>first | exact wpAny_pure h | exact main
theorem Itr.nd {h:Heap} {it:Addr} {r:List V} (x:Itr σ h it r):∀ o,h.get? it=some o→(∀ es ep,o.data≠.dict es ep)∧∀ v,o.data≠.cell v:=fun o q=>by
 refine bc fun hbc=>?_
 obtain ⟨o',vs,q',d,_⟩:=x.st.obj
 refine hbc ?_
 obtain rfl:=Option.some.inj (q.symm.trans q')
 exact ⟨fun _ _ x=>(datN (d.symm.trans x) rfl).elim,fun _ x=>(datN (d.symm.trans x) rfl).elim⟩
inductive ForJ (K:Kx) (env:Env) (J:List V→Fm→Store→Prop) (it:Addr) (σ₁:Store) (h₁:Heap) (n:Nat) (s':Shared):Prop
 | mk (r:List V) (ρ₁:Fm) (σ₂:Store) (e:n=r.length) (hJ:J r ρ₁ σ₂) (hI:Itr σ₂ s'.heap it r) (hr:Rep K env ρ₁ σ₂ s'.heap) (hi:Inv σ₂ s') (E:ExtF env σ₁ h₁ σ₂ s'.heap)
theorem st_for {target iter:Expr} {b:List Stmt} {pos:Pos} {Q:Fl→Fm→Store→Prop}
  (h:EvP K ρ σ iter (fun v σ₁=>∃ items,Items v items∧∃ J:List V→Fm→Store→Prop,J items ρ σ₁∧
   (∀ x r ρ₁ σ₂,J (x :: r) ρ₁ σ₂→AsP K ρ₁ σ₂ target x (fun ρ₂ σ₃=>ExP K ρ₂ σ₃ b (TurnL J r Q)))∧
   (∀ ρ₁ σ₂,J [] ρ₁ σ₂→Q .next ρ₁ σ₂)))
  (hs:autoParam (∀ env x,foldedSetIterable iter env x=pure x) aI):StP K ρ σ (.For target iter b [] pos) Q:=fun A env s ha hr hi QM hq=>by
 refine wpAny_For (h A env s ha hr hi _ fun v pv σ₁ s₁ h₁ i₁ e₁ r₁=>?_) (hs env)
 refine bc fun hbc=>?_
 obtain ⟨items,hit,J,hJ,turn,done⟩:=h₁
 refine hbc ?_
 clear hbc
 refine itr_iter hit r₁ i₁ ha fun it h' fr gr hI=>?_
 have E₁:Ext σ₁ s₁.heap σ₁ h':=Ext.grow gr
 have hr₁:=(hr.mono e₁).mono E₁
 refine codeAny_forLoop_any (ForJ K env J it σ₁ s₁.heap) ?_ items.length
  ⟨items,ρ,σ₁,rfl,hJ,hI,hr₁,i₁.grow (s':={ s₁ with heap:=h' }) gr rfl rfl,E₁.toF⟩
 intro n s' hJ2
 refine bc fun hbc=>?_
 obtain ⟨r,ρ₁,σ₂,eq0,hJ,hI,hr',hi',E'⟩:=hJ2
 refine hbc ?_
 clear hbc
 subst eq0
 refine itr_next hI ha (fun e h'' k=>?_) (fun p r' e v h'' tk k rv hI'=>?_)
 ·subst e
  have nd:=hI.nd
  exact wpAny_execs_nil (hq .next .next ρ₁ σ₂ _ (done ρ₁ σ₂ hJ) trivial (hr'.poke k nd) (hi'.poke (s':={ s' with heap:=h'' }) k rfl rfl) (e₁.toF.trans (E'.poke k fr)))
 ·subst e
  have nd:=hI.nd
  have hr'':=hr'.poke k nd
  have hi'':=hi'.poke (s':={ s' with heap:=h'',toks:=tk }) k rfl rfl
  have E'':=E'.poke k fr
  refine own_go (s:={ s' with heap:=h'',toks:=tk }) hI'.st ?_
  refine wpAny_mono (turn p r' ρ₁ σ₂ hJ A env { s' with heap:=h'',toks:=tk } v ha hr'' hi'' rv _ fun ρ₂ σ₃ s₂ q hr₂ hi₂ E₂=>?_) (fun _ _ h=>h) fun _ _ x=>x.elim
  have hI₂:=hI'.keep hr'' E₂
  refine wpAny_mono (q A env s₂ ha hr₂ hi₂ _ fun f fl ρ₃ σ₄ s₃ q rf hr₃ hi₃ E₃=>?_) (fun _ _ h=>h) fun _ _ x=>x.elim
  have hI₃:=hI₂.keep hr₂ E₃
  have EE:=(E''.trans E₂).trans E₃
  cases fl with
  | next=>cases f<;>first | exact rf.elim | exact ⟨r'.length,by simp,r',ρ₃,σ₄,rfl,q,hI₃,hr₃,hi₃,EE⟩
  | cont=>cases f<;>first | exact rf.elim | exact ⟨r'.length,by simp,r',ρ₃,σ₄,rfl,q,hI₃,hr₃,hi₃,EE⟩
  | brk=>cases f<;>first | exact rf.elim | exact hq .next .next ρ₃ σ₄ s₃ q trivial hr₃ hi₃ (e₁.toF.trans EE)
  | ret v=>cases f<;>first | exact rf.elim | exact hq _ (.ret v) ρ₃ σ₄ s₃ q rf hr₃ hi₃ (e₁.toF.trans EE)
end
end Mine
end
section
open PySem PySem.W PyProof.Rows PySem.Calls
namespace Mine
section
variable {K:Kx} {ρ:Fm} {σ:Store}
theorem get?_ge {h:Heap} {a:Addr} (ha:h.objs.size≤a):h.get? a=none:=by
 cases e:h.get? a with
 | none=>rfl
 | some o=>exact absurd (Heap.lt_size e) (Nat.not_lt.mpr ha)
noncomputable def Back (QM:Value→Shared→Prop) (X:Value→Shared→Prop):Result→Shared→Prop:=fun r s'=>match r with | .ok (.ret v)=>QM v s' | .ok _=>False | .error e=>X e s'
structure FnIs (h:Heap) (f:Addr) (R:FnRec) (cap:List (Str×Addr)) (code:Value):Prop where
 get:∃ o fd,h.get? f=some o∧o.data=.func fd∧fd.params=R.params∧fd.body=R.body∧fd.scope=R.scope∧fd.globals=mainGlobals∧fd.closure=cap∧fd.defaults=.none∧fd.kwdefaults=.none∧
  fd.builtins=builtinsNs∧fd.qualname=R.qual∧fd.code=code
 cr:h.CodeRec code R.qual
noncomputable def Binds (R:FnRec) (names:List Str):Prop:=∀ fd:FuncData,fd.params=R.params→fd.defaults=.none→fd.kwdefaults=.none→∀ vs:List Value,vs.length=names.length→bindArgs fd ⟨vs,[]⟩=pure (names.zip vs)
noncomputable def KxOf (R:FnRec) (code:Value) (d:Nat):Kx:=⟨R.scope.names,R.qual ++ ".<locals>.", code,d⟩
noncomputable def pslots:List Str→List V→Fm
 | x :: xs,v :: vs=>(x,.val v) :: pslots xs vs
 | _,_=>[]
noncomputable def RetQ (Q:V→Store→Prop):Fl→Fm→Store→Prop
 | .ret v,_,σ'=>Q v σ'
 | _,_,σ'=>Q .none σ'
theorem AOk.call {d:Nat} {A:Around} {env:Env} (h:AOk (d + 1) A):AOk d (A.deeper env):=by
 refine bc fun hbc=>?_
 obtain ⟨h1,h2,h3⟩:=h
 refine hbc ?_
 clear hbc
 refine ⟨h1,?_,?_⟩
 ·show A.depth + 1 + d≤990;lia
 ·show A.units + 3 + 10 * d≤9800;lia
theorem AOk.le {d d':Nat} {A:Around} (h:AOk d A) (hd:d'≤d):AOk d' A:=by
 refine bc fun hbc=>?_
 obtain ⟨h1,h2,h3⟩:=h
 refine hbc ?_
 clear hbc
 exact ⟨h1,by lia,by lia⟩
theorem mem_pslots:∀ {names:List Str} {args:List V} {p:Str×Slot},p∈pslots names args→∃ a,p=(p.1,.val a)∧p.1∈names
 | x :: xs,v :: vs,p,h=>by
  rcases List.mem_cons.mp h with rfl | h
  ·exact ⟨v,rfl,List.mem_cons_self⟩
  ·obtain ⟨a,e,m⟩:=mem_pslots h;exact ⟨a,e,List.mem_cons_of_mem _ m⟩
theorem lookup_append' {β:Type} {x:Str}:∀ {l l':List (Str×β)},(l++l').lookup x=(l.lookup x).or (l'.lookup x)
 | [],l'=>by simp
 | (n,v) :: l,l'=>by
  simp only [List.cons_append,List.lookup_cons]
  cases hx:x == n<;>simp [lookup_append']
theorem zip_reverse_lookup {σ:Store} {h:Heap}:∀ {names:List Str} {vs:List Value} {args:List V} {x:Str} {a:V},names.Nodup→Rels σ h vs args→(x,Slot.val a)∈pslots names args→
  ∃ v,(names.zip vs).reverse.lookup x=some v∧Rel σ h v a:=by
 intro names
 induction names with
 | nil=>intro _ _ _ _ _ _ hm;cases hm
 | cons n ns ih=>
  intro vs args x a hn hr hm
  cases args with
  | nil=>cases hm
  | cons p pl=>
   refine bc fun hbc=>?_
   obtain ⟨w,l,eq0,hv,hl⟩:=hr.inv
   refine hbc ?_
   clear hbc
   subst eq0
   simp only [List.zip_cons_cons,List.reverse_cons,lookup_append']
   rcases List.mem_cons.mp hm with e | hm
   ·injection e with e1 e2
    injection e2 with e2
    subst e1;subst e2
    have:((ns.zip l).reverse).lookup x=none:=by
     have hz:∀ (q:List (Str×Value)),(∀ p∈q,p.1≠x)→q.lookup x=none:=by
      intro q
      induction q with
      | nil=>intro _;rfl
      | cons p q ih=>
       intro hq
       have h1:(x == p.1)=false:=by simp;exact fun e=>hq p List.mem_cons_self e.symm
       rw [List.lookup_cons,h1];exact ih fun p hp=>hq p (List.mem_cons_of_mem _ hp)
     refine hz _ fun p hp e=>?_
     have:=(List.of_mem_zip (List.mem_reverse.mp hp)).1
     rw [e] at this
     exact (List.nodup_cons.mp hn).1 this
    rw [this]
    exact ⟨_,by simp,hv⟩
   ·refine bc fun hbc=>?_
    obtain ⟨v,e,r⟩:=ih (List.nodup_cons.mp hn).2 hl hm
    refine hbc ?_
    clear hbc
    exact ⟨v,by rw [e];rfl,r⟩
structure Ctx.Ok2 (C:Ctx):Prop extends C.Ok where
 nl:C.h1.NoLimit
 st:cStatics∉C.tabs
theorem Inv.nolimit {s:Shared} (O:C.Ok2) (i:Inv σ s):s.heap.NoLimit:=O.nl.elim fun mc h=>⟨mc,i.ns h.1 O.st,h.2⟩
theorem frame_out {env:Env} {s s₀ s':Shared} {σ':Store} (hk:∀ b o,s.heap.get? b=some o→s₀.heap.get? b=some o) (hf:∀ a o,s.heap.get? a=some o→¬ Foot env a) (e:ExtF env σ s₀.heap σ' s'.heap):Ext σ s.heap σ' s'.heap:=
 ⟨fun a o g hs ht=>e.keep a o (hk a o g) hs ht (hf a o g),fun a o g hs ht=>e.free a o (hk a o g) hs ht (hf a o g),e.cell⟩
theorem call_plain (O:C.Ok2) {R:FnRec} {cap:List (Str×Addr)} {code:Value} {body:List Stmt} {names:List Str} {f:Addr} {d:Nat} {args:List V} {caps:Fm} {Q:V→Store→Prop}
  (hb:R.body=.stmts body) (hbind:Binds R names) (hnd:names.Nodup) (hlen:args.length=names.length) (hloc:∀ x∈names,R.scope.names.lookup x=some .local) (hcell:∀ x∈R.scope.names,x.2≠.cell)
  (hcap:∀ x c,cap.lookup x=some c→∃ o,σ c=some (.cell o)) (hinj:∀ x y c,cap.lookup x=some c→cap.lookup y=some c→x=y)
  (hcaps:∀ p∈caps,∃ c,p.2=.sh c∧cap.lookup p.1=some c∧R.scope.names.lookup p.1=some .free)
  (hk:R.scope.kind=.function) (hco:R.scope.isCoroutine=false) (hgen:R.scope.isGenerator=false)
  (h:ExP (KxOf R code d) (pslots names args++caps) σ body (RetQ Q))
  {A:Around} {s:Shared} {vs:List Value} (ha:AOk (d + 1) A) (hi:Inv σ s) (hr:Rels σ s.heap vs args) (hf:FnIs s.heap f R cap code) {QM:Value→Shared→Prop}
  (hq:∀ v pv σ' s',Q pv σ'→Inv σ' s'→Ext σ s.heap σ' s'.heap→Rel σ' s'.heap v pv→QM v s'):codeAny (model C.prog C.w) A (.call (.ref f) ⟨vs,[]⟩) (Back QM Bot) s:=by
 refine bc fun hbc=>?_
 obtain ⟨o,fd,ho,hd,f1,f2,f3,f4,f5,f6,f7,f8,f9,f10⟩:=hf.get
 refine hbc ?_
 clear hbc
 have hvs:vs.length=names.length:=hr.length.trans hlen
 have hdep:A.depth < recursionLimit:=by
  have:=ha.2.1
  show A.depth < 1000
  lia
 refine (codeAny_call_def (fd:=fd) (body:=body) (binds:=names.zip vs) hdep ho hd (hi.nolimit O) (by rw [f10,f9];exact hf.cr) (f2.trans hb) (.of_eq (hbind fd f1 f6 f7 vs hvs))
  (by rw [f3];exact hcell) (fun x hx=>by rw [f3];exact hloc _ (List.of_mem_zip hx).1) (fun h₀ hns hk₀=>?_) (by rw [f3];exact hco) (by rw [f3];exact hgen) (by rw [f3];exact hk))
 have g₀:∀ b o,s.heap.get? b=some o→(({ s with heap:=h₀,toks:=s.toks + (names.zip vs).length }:Shared)).heap.get? b=some o:=hk₀
 have i₀:Inv σ { s with heap:=h₀,toks:=s.toks + (names.zip vs).length }:=hi.grow g₀ rfl rfl
 have LN:s.heap.get? s.heap.objs.size=none:=get?_ge (Nat.le_refl _)
 have hl:¬ Foot (callEnv fd s.heap.objs.size f) s.heap.objs.size→False:=fun x=>x (.inl rfl)
 have foot:∀ a o,s.heap.get? a=some o→¬ Foot (callEnv fd s.heap.objs.size f) a:=fun a o g q=>by
  rcases q with q | ⟨x,q,_⟩
  ·rw [q] at g;rw [show (callEnv fd s.heap.objs.size f).locals=s.heap.objs.size from rfl,LN] at g;cases g
  ·rw [show (callEnv fd s.heap.objs.size f).scope=fd.scope from rfl,f3] at q
   exact hcell _ (mem_of_lookup q) rfl
 have rep:Rep (KxOf R code d) (callEnv fd s.heap.objs.size f) (pslots names args++caps) σ h₀:=by
  refine ⟨by show fd.scope.kind=_;rw [f3];exact hk,by show fd.scope.names=_;rw [f3];rfl,f4,f8,by show fd.qualname++_=_;rw [f9];rfl,f10,⟨_,hns⟩,⟨hi.off LN,hi.notTab hi.size,hi.size⟩,fun x c hc=>?_,fun x y c hx hy=>?_,fun p hp=>?_⟩
  ·rw [show (callEnv fd s.heap.objs.size f).cells=fd.closure from rfl,f5] at hc
   refine bc fun hbc=>?_
   obtain ⟨oc,hoc⟩:=hcap x c hc
   refine hbc ?_
   clear hbc
   have lo:=(hi.own c _ hoc).1
   refine ⟨fun q=>?_,lo,hi.notTab lo,fun q=>(by exact absurd (hoc.symm.trans q) (Option.some_ne_none _)),fun o' q=>(by obtain rfl:=Option.some.inj (hoc.symm.trans q);exact ⟨oc,rfl⟩)⟩
   rw [show (callEnv fd s.heap.objs.size f).locals=s.heap.objs.size from rfl] at q
   rw [← q,hi.off LN] at hoc;cases hoc
  ·rw [show (callEnv fd s.heap.objs.size f).cells=fd.closure from rfl,f5] at hx hy
   exact hinj x y c hx hy
  ·rcases List.mem_append.mp hp with hp | hp
   ·refine bc fun hbc=>?_
    obtain ⟨a,e,m⟩:=mem_pslots hp
    refine hbc ?_
    clear hbc
    rw [e] at hp ⊢
    refine bc fun hbc=>?_
    obtain ⟨v,hv,rv⟩:=zip_reverse_lookup hnd hr hp
    refine hbc ?_
    clear hbc
    exact .inl ⟨hloc _ m,_,v,hns,hv,rv.mono (Ext.grow hk₀).seq⟩
   ·refine bc fun hbc=>?_
    obtain ⟨c,e1,e2,e3⟩:=hcaps p hp
    refine hbc ?_
    clear hbc
    rw [show p=(p.1,Slot.sh c) from by rw [← e1]]
    exact ⟨.inr e3,by show fd.closure.lookup _=_;rw [f5];exact e2,hcap _ _ e2⟩
 refine wpAny_mono (h (A.deeper (callEnv fd s.heap.objs.size f)) (callEnv fd s.heap.objs.size f) _ ha.call rep i₀ (fun fl s'=>∃ pv σ',Q pv σ'∧Inv σ' s'∧Ext σ s.heap σ' s'.heap∧Rel σ' s'.heap (match fl with | .ret v=>v | _=>.none) pv)
  fun fl pfl ρ' σ' s' q rf _ i' e'=>?_) (fun fl s' x=>?_) fun _ _ x=>x.elim
 ·have E:=frame_out (s₀:={ s with heap:=h₀,toks:=s.toks + (names.zip vs).length }) hk₀ foot e'
  cases pfl with
  | ret pv=>cases fl<;>first | exact rf.elim | exact ⟨pv,σ',q,i',E,rf⟩
  | next=>cases fl<;>first | exact rf.elim | exact ⟨.none,σ',q,i',E,.none⟩
  | brk=>cases fl<;>first | exact rf.elim | exact ⟨.none,σ',q,i',E,.none⟩
  | cont=>cases fl<;>first | exact rf.elim | exact ⟨.none,σ',q,i',E,.none⟩
 ·refine bc fun hbc=>?_
  obtain ⟨pv,σ',q,i',E,rv⟩:=x
  refine hbc ?_
  clear hbc
  exact hq _ pv σ' s' q i' E rv
theorem bindL_none {kindOf:Str→Option NameKind} {x:Str}:∀ {names:List Str} {vs:List Value} {m:Str→Option Value},x∉names→bindL kindOf (names.zip vs) m x=m x
 | [],_,_,_=>by simp [bindL]
 | _ :: _,[],_,_=>by simp [bindL]
 | n :: ns,v :: vs,m,h=>by
  have h1:x≠n:=fun e=>h (e ▸ List.mem_cons_self)
  have h2:x∉ns:=fun q=>h (List.mem_cons_of_mem _ q)
  rw [List.zip_cons_cons,bindL,bindL_none h2]
  split<;>simp [h1]
theorem bindC_none {kindOf:Str→Option NameKind} {x:Str}:∀ {names:List Str} {vs:List Value} {m:Str→Option Value},x∉names→bindC kindOf (names.zip vs) m x=m x
 | [],_,_,_=>by simp [bindC]
 | _ :: _,[],_,_=>by simp [bindC]
 | n :: ns,v :: vs,m,h=>by
  have h1:x≠n:=fun e=>h (e ▸ List.mem_cons_self)
  have h2:x∉ns:=fun q=>h (List.mem_cons_of_mem _ q)
  rw [List.zip_cons_cons,bindC,bindC_none h2]
  split<;>simp [h1]
theorem bind_get {kindOf:Str→Option NameKind} {σ:Store} {h:Heap}:∀ {names:List Str} {vs:List Value} {args:List V} {x:Str} {a:V} {m m':Str→Option Value},names.Nodup→Rels σ h vs args→(x,Slot.val a)∈pslots names args→
  ∃ v,(kindOf x=some .local→bindL kindOf (names.zip vs) m x=some v)∧(kindOf x≠some .local→bindC kindOf (names.zip vs) m' x=some v)∧Rel σ h v a:=by
 intro names
 induction names with
 | nil=>intro _ _ _ _ _ _ _ _ hm;cases hm
 | cons n ns ih=>
  intro vs args x a m m' hn hr hm
  cases args with
  | nil=>cases hm
  | cons p pl=>
   refine bc fun hbc=>?_
   obtain ⟨w,l,eq0,hv,hl⟩:=hr.inv
   refine hbc ?_
   clear hbc
   subst eq0
   rcases List.mem_cons.mp hm with e | hm
   ·injection e with e1 e2
    injection e2 with e2
    subst e1;subst e2
    have hx:=(List.nodup_cons.mp hn).1
    refine ⟨w,fun hk=>?_,fun hk=>?_,hv⟩
    ·rw [List.zip_cons_cons,bindL,bindL_none hx,if_pos hk];simp
    ·rw [List.zip_cons_cons,bindC,bindC_none hx,if_neg hk];simp
   ·refine bc fun hbc=>?_
    obtain ⟨v,h1,h2,h3⟩:=ih (m:=if kindOf n=some .local then fun y=>if y=n then some w else m y else m) (m':=if kindOf n=some .local then m' else fun y=>if y=n then some w else m' y) (List.nodup_cons.mp hn).2 hl hm
    refine hbc ?_
    clear hbc
    exact ⟨v,h1,h2,h3⟩
theorem call_cells (O:C.Ok2) {R:FnRec} {code:Value} {body:List Stmt} {names emps:List Str} {f:Addr} {d:Nat} {args:List V} {Q:V→Store→Prop}
  (hb:R.body=.stmts body) (hbind:Binds R names) (hnd:names.Nodup) (hlen:args.length=names.length)
  (hloc:∀ x∈names,R.scope.names.lookup x=some .local∨(R.scope.names.lookup x=some .cell∧∀ n,((cellsFrom n R.scope.names []).lookup x).isSome=true))
  (hemp:∀ x∈emps,x∉names∧R.scope.names.lookup x=some .cell∧∀ n,((cellsFrom n R.scope.names []).lookup x).isSome=true)
  (hk:R.scope.kind=.function) (hco:R.scope.isCoroutine=false) (hgen:R.scope.isGenerator=false)
  (h:ExP (KxOf R code d) (pslots names args++emps.map fun x=>(x,.emp)) σ body (RetQ Q))
  {A:Around} {s:Shared} {vs:List Value} (ha:AOk (d + 1) A) (hi:Inv σ s) (hr:Rels σ s.heap vs args) (hf:FnIs s.heap f R [] code) {QM:Value→Shared→Prop}
  (hq:∀ v pv σ' s',Q pv σ'→Inv σ' s'→Ext σ s.heap σ' s'.heap→Rel σ' s'.heap v pv→QM v s'):codeAny (model C.prog C.w) A (.call (.ref f) ⟨vs,[]⟩) (Back QM Bot) s:=by
 refine bc fun hbc=>?_
 obtain ⟨o,fd,ho,hd,f1,f2,f3,f4,f5,f6,f7,f8,f9,f10⟩:=hf.get
 refine hbc ?_
 clear hbc
 have hvs:vs.length=names.length:=hr.length.trans hlen
 have hdep:A.depth < recursionLimit:=by
  have:=ha.2.1
  show A.depth < 1000
  lia
 refine (codeAny_call_cells (fd:=fd) (body:=body) (binds:=names.zip vs) hdep ho hd (hi.nolimit O) (by rw [f10,f9];exact hf.cr) (f2.trans hb) (hbind fd f1 f6 f7 vs hvs) f5
  (fun x hx=>by
   rw [f3]
   rcases hloc _ (List.of_mem_zip hx).1 with q | ⟨q,q'⟩
   ·exact .inl q
   ·exact .inr ⟨q,q' _⟩) (fun s₁ x=>?_) (by rw [f3];exact hco) (by rw [f3];exact hgen) (by rw [f3];exact hk))
 refine bc fun hbc=>?_
 obtain ⟨h₁,tk,rfl,hk₁⟩:=x.done
 refine hbc ?_
 clear hbc
 have g₀:∀ b o,s.heap.get? b=some o→(({ s with heap:=h₁,toks:=tk }:Shared)).heap.get? b=some o:=hk₁
 have i₀:Inv σ { s with heap:=h₁,toks:=tk }:=hi.grow g₀ rfl rfl
 have hge:∀ n c,(callEnvC fd s.heap.objs.size f).cells.lookup n=some c→s.heap.objs.size < c:=fun n c e=>x.above n c (mem_of_lookup e)
 have LN:s.heap.get? s.heap.objs.size=none:=get?_ge (Nat.le_refl _)
 have cells_eq:(callEnvC fd s.heap.objs.size f).cells=cellsFrom (s.heap.objs.size + 1) R.scope.names []:=by show cellsFrom _ fd.scope.names []=_;rw [f3]
 have foot:∀ a o,s.heap.get? a=some o→¬ Foot (callEnvC fd s.heap.objs.size f) a:=fun a o g q=>by
  rcases q with q | ⟨x,_,q⟩
  ·rw [q] at g;rw [show (callEnvC fd s.heap.objs.size f).locals=s.heap.objs.size from rfl,LN] at g;cases g
  ·exact absurd (Heap.lt_size g) (Nat.not_lt.mpr (Nat.le_of_lt (hge _ _ q)))
 have kind_eq:∀ x,(callEnvC fd s.heap.objs.size f).kindOf x=R.scope.names.lookup x:=fun x=>by show fd.scope.names.lookup x=_;rw [f3]
 have fresh:∀ n c,(callEnvC fd s.heap.objs.size f).cells.lookup n=some c→σ c=none∧C.h1.objs.size≤c∧c∉C.tabs:=fun n c e=>by
  have:=hge n c e
  have lo:C.h1.objs.size≤c:=Nat.le_trans hi.size (Nat.le_of_lt this)
  exact ⟨hi.off (get?_ge (Nat.le_of_lt this)),lo,hi.notTab lo⟩
 have rep:Rep (KxOf R code d) (callEnvC fd s.heap.objs.size f) (pslots names args++emps.map fun x=>(x,.emp)) σ h₁:=by
  refine ⟨by show fd.scope.kind=_;rw [f3];exact hk,by show fd.scope.names=_;rw [f3];rfl,f4,f8,by show fd.qualname++_=_;rw [f9];rfl,f10,⟨_,x.toInCall.ns⟩,⟨hi.off LN,hi.notTab hi.size,hi.size⟩,fun y c hc=>?_,fun y z c hy hz=>?_,fun p hp=>?_⟩
  ·refine bc fun hbc=>?_
   obtain ⟨q1,q2,q3⟩:=fresh y c hc
   refine hbc ?_
   clear hbc
   exact ⟨Nat.ne_of_lt (hge y c hc),q2,q3,fun _=>⟨_,x.cell y c hc⟩,fun o q=>by exact absurd (q1.symm.trans q).symm (Option.some_ne_none _)⟩
  ·have ap:=x.apart
   have m1:=mem_of_lookup hy
   have m2:=mem_of_lookup hz
   have:∀ {l:List (Str×Addr)},l.Pairwise (fun x y=>x.2≠y.2)→(y,c)∈l→(z,c)∈l→y=z:=by
    intro l
    induction l with
    | nil=>intro _ h;cases h
    | cons p l ih=>
     intro hp h1 h2
     refine bc fun hbc=>?_
     obtain ⟨hp1,hp2⟩:=List.pairwise_cons.mp hp
     refine hbc ?_
     clear hbc
     rcases List.mem_cons.mp h1 with e1 | h1<;>rcases List.mem_cons.mp h2 with e2 | h2
     ·have:=e1.trans e2.symm;injection this
     ·exact absurd rfl (by have:=hp1 _ h2;rw [← e1] at this;exact this)
     ·exact absurd rfl (by have:=hp1 _ h1;rw [← e2] at this;exact this)
     ·exact ih hp2 h1 h2
   exact this ap m1 m2
  ·rcases List.mem_append.mp hp with hp | hp
   ·refine bc fun hbc=>?_
    obtain ⟨a,e,m⟩:=mem_pslots hp
    refine hbc ?_
    clear hbc
    rw [e] at hp ⊢
    refine bc fun hbc=>?_
    obtain ⟨v,hv1,hv2,rv⟩:=bind_get (kindOf:=(callEnvC fd s.heap.objs.size f).kindOf) (m:=fun _=>none) (m':=fun _=>none) hnd hr hp
    refine hbc ?_
    clear hbc
    rcases hloc _ m with q | ⟨q,q'⟩
    ·exact .inl ⟨q,_,v,x.toInCall.ns,hv1 ((kind_eq _).trans q),rv.mono (Ext.grow hk₁).seq⟩
    ·have hs:=q' (s.heap.objs.size + 1)
     rw [← cells_eq] at hs
     refine bc fun hbc=>?_
     obtain ⟨c,hc⟩:=Option.isSome_iff_exists.mp hs
     refine hbc ?_
     clear hbc
     refine .inr ⟨.inl q,c,v,hc,?_,rv.mono (Ext.grow hk₁).seq,(fresh _ c hc).1,(fresh _ c hc).2.2⟩
     have:=x.cell _ c hc
     rw [hv2 (by rw [kind_eq,q];intro z;cases z)] at this
     exact this
   ·refine bc fun hbc=>?_
    obtain ⟨y,hy,rfl⟩:=List.mem_map.mp hp
    obtain ⟨hyn,q,q'⟩:=hemp y hy
    refine hbc ?_
    clear hbc
    have hs:=q' (s.heap.objs.size + 1)
    rw [← cells_eq] at hs
    refine bc fun hbc=>?_
    obtain ⟨c,hc⟩:=Option.isSome_iff_exists.mp hs
    refine hbc ?_
    clear hbc
    have hce:=x.cell _ c hc
    rw [bindC_none hyn] at hce
    exact ⟨q,c,hc,⟨⟨none,rfl⟩,hce⟩,(fresh _ c hc).1,(fresh _ c hc).2.2⟩
 refine wpAny_mono (h (A.deeper (callEnvC fd s.heap.objs.size f)) (callEnvC fd s.heap.objs.size f) _ ha.call rep i₀ (fun fl s'=>∃ pv σ',Q pv σ'∧Inv σ' s'∧Ext σ s.heap σ' s'.heap∧Rel σ' s'.heap (match fl with | .ret v=>v | _=>.none) pv)
  fun fl pfl ρ' σ' s' q rf _ i' e'=>?_) (fun fl s' x=>?_) fun _ _ x=>x.elim
 ·have E:=frame_out (s₀:={ s with heap:=h₁,toks:=tk }) hk₁ foot e'
  cases pfl with
  | ret pv=>cases fl<;>first | exact rf.elim | exact ⟨pv,σ',q,i',E,rf⟩
  | next=>cases fl<;>first | exact rf.elim | exact ⟨.none,σ',q,i',E,.none⟩
  | brk=>cases fl<;>first | exact rf.elim | exact ⟨.none,σ',q,i',E,.none⟩
  | cont=>cases fl<;>first | exact rf.elim | exact ⟨.none,σ',q,i',E,.none⟩
 ·refine bc fun hbc=>?_
  obtain ⟨pv,σ',q,i',E,rv⟩:=x
  refine hbc ?_
  clear hbc
  exact hq _ pv σ' s' q i' E rv
end
end Mine
end
section
open PySem PySem.W PyProof.Rows PySem.Calls
namespace Mine
noncomputable def CallV (d:Nat) (fv:V) (args:List V) (σ:Store) (Q:V→Store→Prop):Prop:=
 ∀ (A:Around) (s:Shared) (f:Value) (vs:List Value),AOk d A→Inv σ s→Rel σ s.heap f fv→Rels σ s.heap vs args→∀ QM:Value→Shared→Prop,
  (∀ v pv σ' s',Q pv σ'→Inv σ' s'→Ext σ s.heap σ' s'.heap→Rel σ' s'.heap v pv→QM v s')→wpAny (model C.prog C.w) A (PySem.call f vs) QM Bot s
noncomputable def KeepOk (σ:Store) (fv:V):Prop:=∀ (s:Shared) (f:Value),Inv σ s→Rel σ s.heap f fv→∀ (M:Model) (A:Around) (E:Value→Shared→Prop) (Q:Keeper→Shared→Prop),(∀ k,Q k s)→wpAny M A (keeperOf f) Q E s
section
variable {K:Kx} {ρ:Fm} {σ:Store}
theorem CallV.of {d:Nat} {f:V} {args:List V} {Q:V→Store→Prop} (h:CallV d f args σ Q):CallV d f args σ Q:=
 fun A s f vs ha hi hf hr QM hq=>wpAny_mono (h A s f vs ha hi hf hr QM hq) (fun _ _ x=>x) fun _ _ x=>x.elim
theorem CallV.le {d d':Nat} {f:V} {args:List V} {Q:V→Store→Prop} (h:CallV d f args σ Q) (hd:d≤d'):CallV d' f args σ Q:=
 fun A s f vs ha hi hf hr QM hq=>h A s f vs (ha.le hd) hi hf hr QM hq
theorem keep_builtin {id:String}:KeepOk σ (.raw (.builtin id)):=fun s f hi hr M A E Q h=>by obtain ⟨_,rfl⟩:=Rel.inv hr;exact wpAny_pure (h _)
theorem keep_type {id:String}:KeepOk σ (.raw (.type id)):=fun s f hi hr M A E Q h=>by obtain ⟨_,rfl⟩:=Rel.inv hr;exact wpAny_pure (h _)
theorem keep_fn {a:Addr} {o:Obj} {fd:FuncData} (ho:C.h1.get? a=some o) (ht:a∉C.tabs) (hd:o.data=.func fd):KeepOk σ (.raw (.ref a)):=fun s f hi hr M A E Q h=>by
 obtain ⟨_,rfl⟩:=Rel.inv hr
 unfold keeperOf
 refine wpAny_bind (wpAny_load (hi.base a o ho ht) ?_)
 rw [hd];exact wpAny_pure (h _)
theorem keep_loc {a:Addr} {f:FnRec} {cap:List (Str×Addr)} {d:Option Addr} (hs:σ a=some (.func f cap d)):KeepOk σ (.loc a):=fun s v hi hr M A E Q h=>by
 obtain ⟨_,rfl⟩:=Rel.inv hr
 refine bc fun hbc=>?_
 obtain ⟨o,fd,ho,_,_,hd,_⟩:=(hi.own a _ hs).2
 refine hbc ?_
 clear hbc
 unfold keeperOf
 refine wpAny_bind (wpAny_load ho ?_)
 rw [hd];exact wpAny_pure (h _)
theorem callWith_any {M:Model} {A:Around} {E:Value→Shared→Prop} {s:Shared} {pos:Pos} {f:Value} {first:List Value} {args:List (Bool×Sem Value)} {Q:Value→Shared→Prop}
  (h:wpAny M A (evalArgs f true args []) (fun a s₁=>(∀ (E:Value→Shared→Prop) (Q:Keeper→Shared→Prop),(∀ k,Q k s₁)→wpAny M A (keeperOf f) Q E s₁)∧wpAny M A (PySem.call f (first++a.pos) a.kw) Q E s₁) E s):
  wpAny M A (callWith pos f first args []) Q E s:=by
 unfold callWith
 refine wpAny_bind (wpAny_holding (wpAny_mono h (fun a s₁ h₁=>wpAny_bind (wpAny_standAt ?_)) fun _ _ x=>x))
 have tail:∀ {t:Sem Value},wpAny M A t Q E s₁→wpAny M A (t >>= fun r=>holding [r] point >>= fun _=>pure r) Q E s₁:=
  fun ht=>wpAny_bind (wpAny_mono ht (fun r s₂ hr=>wpAny_bind (wpAny_holding (wpAny_point (wpAny_pure hr)))) fun _ _ x=>x)
 dsimp only
 refine wpAny_bind (h₁.1 E _ fun k=>?_)
 have c:=h₁.2
 have ck:∀ l,wpAny M A ((PySem.call f (first++a.pos) a.kw).keep l) Q E s₁:=fun l=>Calls.wpAny_keep c
 have co:∀ l,wpAny M A (operate l (PySem.call f (first++a.pos) a.kw)) Q E s₁:=fun l=>wpAny_operating c
 cases k<;>cases (args.any (·.1) || ([]:List (Option Str×Sem Value)).any (·.1.isNone))<;>dsimp only<;>
  first
   | exact tail c
   | exact tail (ck _)
   | exact tail (co _)
   | (split<;>first | exact tail c | exact tail (ck _) | exact tail (co _))
theorem evs_spliced {A:Around} {env:Env} (ha:AOk K.d A):∀ {args:List Expr} {σ:Store} {s:Shared} {Q:List V→Store→Prop},EvsP K ρ args σ Q→Rep K env ρ σ s.heap→Inv σ s→
  ∀ {QM:List Value→Shared→Prop},(∀ vs pl σ' s',Q pl σ'→Inv σ' s'→Ext σ s.heap σ' s'.heap→Rels σ' s'.heap vs pl→QM vs s')→wpAny (model C.prog C.w) A (spliced (args.map fun e=>(false,eval e env))) QM Bot s
 | [],σ,s,Q,h,hr,hi,QM,hq=>Calls.spliced_nil (hq [] [] σ s h hi .refl .nil)
 | e :: r,σ,s,Q,h,hr,hi,QM,hq=>Calls.spliced_cons (h A env s ha hr hi _ fun v pv σ₁ s₁ h₁ i₁ e₁ r₁=>evs_spliced ha h₁ (hr.mono e₁) i₁ fun vs pl σ₂ s₂ h₂ i₂ e₂ r₂=>
   hq (v :: vs) (pv :: pl) σ₂ s₂ h₂ i₂ (e₁.trans e₂) (.cons (r₁.mono e₂.seq) r₂))
theorem evalArgs_all {M:Model} {A:Around} {E:Value→Shared→Prop} {s:Shared} {f:Value} {Q:Args→Shared→Prop}:∀ {l:List (Bool×Sem Value)},l.any (·.1)=false→wpAny M A (spliced l) (fun vs s'=>Q ⟨vs,[]⟩ s') E s→wpAny M A (evalArgs f true l []) Q E s
 | [],_,h=>by
  unfold evalArgs
  show wpAny M A (spliced [] >>= _) Q E s
  refine wpAny_bind (wpAny_mono h (fun vs s' h'=>?_) fun _ _ x=>x)
  exact wpAny_bind (wpAny_pure (wpAny_holding (wpAny_bind (wpAny_pure (wpAny_bind (wpAny_pure (wpAny_pure (by simpa using h'))))))))
 | (false,x) :: r,_,h=>Calls.evalArgs_plain h
 | (true,x) :: r,e,_=>by simp at e
theorem callWith_ {env:Env} {args:List Expr} {pos:Pos} {fv:V} {pre:List V} {Q:V→Store→Prop} {A:Around} {s:Shared} {f:Value} {first:List Value} (hse:backTo pos (starEach args env)=args.map fun e=>(false,eval e env))
  (h:EvsP K ρ args σ (fun pl σ₁=>KeepOk σ₁ fv∧CallV K.d fv (pre++pl) σ₁ Q)) (ha:AOk K.d A) (hr:Rep K env ρ σ s.heap) (hi:Inv σ s) (hf:Rel σ s.heap f fv) (hp:Rels σ s.heap first pre) {QM:Value→Shared→Prop}
  (hq:∀ v pv σ' s',Q pv σ'→Inv σ' s'→Ext σ s.heap σ' s'.heap→Rel σ' s'.heap v pv→QM v s'):wpAny (model C.prog C.w) A (callWith pos f first (backTo pos (starEach args env)) []) QM Bot s:=by
 rw [hse]
 refine callWith_any (evalArgs_all (by simp) (evs_spliced ha h hr hi fun vs pl σ₁ s₁ h₁ i₁ e₁ r₁=>⟨fun E Q hk=>h₁.1 s₁ f i₁ (hf.mono e₁.seq) _ A E Q hk,?_⟩))
 exact h₁.2 A s₁ f (first++vs) ha i₁ (hf.mono e₁.seq) ((hp.mono e₁.seq).append r₁) QM fun v pv σ₂ s₂ q i₂ e₂ r₂=>hq v pv σ₂ s₂ q i₂ (e₁.trans e₂) r₂
theorem ev_call {x:Str} {np pos:Pos} {args:List Expr} {Q:V→Store→Prop} (h:EvP K ρ σ (.Name x np) (fun fv σ₁=>EvsP K ρ args σ₁ (fun pl σ₂=>KeepOk σ₂ fv∧CallV K.d fv pl σ₂ Q)))
  (hse:autoParam (∀ env,backTo pos (starEach args env)=args.map fun e=>(false,eval e env)) aI):EvP K ρ σ (.Call (.Name x np) args [] pos) Q:=fun A env s ha hr hi QM hq=>
 wpAny_Call_NameR (h A env s ha hr hi _ fun f fv σ₁ s₁ h₁ i₁ e₁ r₁=>callWith_ (pre:=[]) (hse env) h₁ ha (hr.mono e₁) i₁ r₁ .nil fun v pv σ₂ s₂ q i₂ e₂ r₂=>hq v pv σ₂ s₂ q i₂ (e₁.trans e₂) r₂)
theorem EvsP.mono:∀ {args:List Expr} {σ:Store} {Q Q':List V→Store→Prop},(∀ pl σ',Q pl σ'→Q' pl σ')→EvsP K ρ args σ Q→EvsP K ρ args σ Q'
 | [],σ,Q,Q',k,h=>k _ _ h
 | e :: r,σ,Q,Q',k,h=>EvP.mono h fun v σ' q=>EvsP.mono (fun pl σ''=>k _ _) q
structure Meth (T:String) (name:Str) (id:String):Prop where
 pa:PlainAttrs T
 slot:PySem.Slot T name id
 ty:typeOf (.builtin id)=pure (.type "method_descriptor")
inductive TyOf (σ:Store):V→String→Prop where
 | str (x:List Nat):TyOf σ (.str x) "str"
 | int (i:Int):TyOf σ (.int i) "int"
 | lstO {a:Addr} {vs:List V} (h:σ a=some (.list vs)):TyOf σ (.loc a) "list"
theorem TyOf.at {pv:V} {T:String} (h:TyOf σ pv T) {s:Shared} {v:Value} (hi:Inv σ s) (hr:Rel σ s.heap v pv):s.TypeIs v T∧∀ a,v=.ref a→∃ ob,s.heap.get? a=some ob∧ob.dict=none:=by
 revert hr
 cases h with
 | str x=>intro hr;obtain ⟨_,rfl⟩:=Rel.inv hr;exact ⟨typeIs_str _ _ _,fun a e=>by cases e⟩
 | int i=>intro hr;obtain ⟨_,rfl⟩:=Rel.inv hr;exact ⟨typeIs_int _ _ _,fun a e=>by cases e⟩
 | lstO h=>
  intro hr
  obtain rfl:=Rel.inv hr
  refine bc fun hbc=>?_
  obtain ⟨items,n,ho,_⟩:=(hi.own _ _ h).2
  refine hbc ?_
  clear hbc
  exact ⟨⟨_,ho,rfl⟩,fun a e=>by cases e;exact ⟨_,ho,rfl⟩⟩
theorem ev_meth {T id:String} {o:Expr} {name:Str} {apos pos:Pos} {args:List Expr} {Q:V→Store→Prop} (m:Meth T name id)
  (h:EvP K ρ σ o (fun ov σ₁=>TyOf σ₁ ov T∧EvsP K ρ args σ₁ (fun pl σ₂=>CallV K.d (.raw (.builtin id)) (ov :: pl) σ₂ Q)))
  (hbase:autoParam (∀ env,attributeBase o name env (eval o env)=eval o env) aI)
  (hfew:autoParam (∀ env,((backTo pos (starEach args env)).all (fun x=>!x.1) && (backToKw pos (keywordEach [] env)).all (fun x=>x.1.isSome)
   && decide (args.length + ([]:List Keyword).length + (if ([]:List Keyword).isEmpty then 0 else 1) < 30))=true) aI)
  (hline:autoParam ((apos.endLine == pos.line)=true) aR)
  (hse:autoParam (∀ env,backTo pos (starEach args env)=args.map fun e=>(false,eval e env)) aI):EvP K ρ σ (.Call (.Attribute o name apos) args [] pos) Q:=fun A env s ha hr hi QM hq=>
 wpAny_Call_method (hbase env) (hfew env) hline m.pa m.slot m.ty (h A env s ha hr hi _ fun v pv σ₁ s₁ h₁ i₁ e₁ r₁=>by
  refine bc fun hbc=>?_
  obtain ⟨t,h₁⟩:=h₁
  obtain ⟨t1,t2⟩:=t.at i₁ r₁
  refine hbc ?_
  clear hbc
  refine ⟨t1,t2,?_⟩
  refine callWith_ (fv:=.raw (.builtin id)) (pre:=[pv]) (hse env) ?_ ha (hr.mono e₁) i₁ (.raw _) (.cons r₁ .nil) fun v pv σ₂ s₂ q i₂ e₂ r₂=>hq v pv σ₂ s₂ q i₂ (e₁.trans e₂) r₂
  exact EvsP.mono (fun pl σ' q=>⟨keep_builtin,q⟩) h₁)
end
end Mine
end
section
open PySem PySem.W PyProof.Rows PySem.Calls
namespace Mine
section
variable {K:Kx} {ρ:Fm} {σ:Store} {d:Nat} {Q:V→Store→Prop}
theorem Inv.new {s s':Shared} {a:Addr} {p:PObj} (i:Inv σ s) (hn:s.heap.get? a=none) (lo:C.h1.objs.size≤a) (hs:∀ b o,s.heap.get? b=some o→s'.heap.get? b=some o)
  (hp:ObjRel (upd σ a (some p)) s'.heap a p) (hg:s'.gens=s.gens) (ho:s'.os=s.os):Inv (upd σ a (some p)) s'∧Ext σ s.heap (upd σ a (some p)) s'.heap:=by
 have ne:∀ b o,s.heap.get? b=some o→b≠a:=fun b o g q=>by rw [q,hn] at g;cases g
 have na:=i.off hn
 have E:Ext σ s.heap (upd σ a (some p)) s'.heap:=⟨fun b o g _ _=>hs b o g,fun b o g hb _=>by rw [upd_ne σ _ (ne b o g)];exact hb,fun c v hc=>⟨v,by
  rw [upd_ne σ _ (fun q=>by rw [q,na] at hc;cases hc)];exact hc⟩⟩
 refine ⟨i.step E (fun b q hb=>?_) (fun n hn o g=>hs _ o g) hg ho,E⟩
 by_cases hba:b=a
 ·subst hba
  (rw [upd_self] at hb;cases hb)
  exact .inr ⟨lo,hp⟩
 ·rw [upd_ne σ _ hba] at hb
  exact .inl ⟨hb,fun o g=>hs b o g⟩
inductive LV (σ:Store):V→List V→Prop where
 | fr (vs:List V):LV σ (.lst vs) vs
 | ow {a:Addr} {vs:List V} (h:σ a=some (.list vs)):LV σ (.loc a) vs
theorem LV.at {pv:V} {vs:List V} (h:LV σ pv vs) {s:Shared} {v:Value} (hi:Inv σ s) (hr:Rel σ s.heap v pv):∃ a items n,v=.ref a∧s.heap.get? a=some (lstO items n)∧Rels σ s.heap items.toList vs:=by
 revert hr
 cases h with
 | fr=>exact fun hr=>by obtain ⟨_,_,_,e,ho,_,_,hrs⟩:=hr.inv;exact ⟨_,_,_,e,ho,hrs⟩
 | ow h=>exact fun hr=>by obtain ⟨_,_,ho,hrs⟩:=(hi.own _ _ h).2;exact ⟨_,_,_,hr.inv,ho,hrs⟩
theorem new_lst {s:Shared} {items:List Value} {n:Nat} {vs:List V} (hi:Inv σ s) (hr:Rels σ s.heap items vs) {a:Addr} {h':Heap} (hn:s.heap.get? a=none) (lo:C.h1.objs.size≤a) (hs:∀ b o,s.heap.get? b=some o→h'.get? b=some o)
  (ho:h'.get? a=some (lstO items.toArray n)):Rel σ h' (.ref a) (.lst vs):=.lst ho (hi.off hn) (hi.notTab lo) (hr.mono (Ext.grow hs).seq)
theorem new_tup {s:Shared} {items:List Value} {n:Nat} {vs:List V} (hi:Inv σ s) (hr:Rels σ s.heap items vs) {a:Addr} {h':Heap} (hn:s.heap.get? a=none) (lo:C.h1.objs.size≤a) (hs:∀ b o,s.heap.get? b=some o→h'.get? b=some o)
  (ho:h'.get? a=some (tupO items.toArray n)):Rel σ h' (.ref a) (.tup vs):=.tup ho (hi.off hn) (hi.notTab lo) (hr.mono (Ext.grow hs).seq)
theorem rels1 {h:Heap} {vs:List Value} {a:V} (hr:Rels σ h vs [a]):∃ x,vs=[x]∧Rel σ h x a:=by
 refine bc fun hbc=>?_
 obtain ⟨x,l,rfl,hv,hl⟩:=hr.inv
 refine hbc ?_
 clear hbc
 exact ⟨x,congrArg _ hl.inv,hv⟩
theorem rels2 {h:Heap} {vs:List Value} {a b:V} (hr:Rels σ h vs [a,b]):∃ x y,vs=[x,y]∧Rel σ h x a∧Rel σ h y b:=by
 refine bc fun hbc=>?_
 obtain ⟨x,l,rfl,hv,hl⟩:=hr.inv
 obtain ⟨y,e,hy⟩:=rels1 hl
 refine hbc ?_
 clear hbc
 exact ⟨x,y,congrArg _ e,hv,hy⟩
theorem rels3 {h:Heap} {vs:List Value} {a b c:V} (hr:Rels σ h vs [a,b,c]):∃ x y z,vs=[x,y,z]∧Rel σ h x a∧Rel σ h y b∧Rel σ h z c:=by
 refine bc fun hbc=>?_
 obtain ⟨x,l,rfl,hv,hl⟩:=hr.inv
 obtain ⟨y,z,e,hy⟩:=rels2 hl
 refine hbc ?_
 clear hbc
 exact ⟨x,y,z,congrArg _ e,hv,hy⟩
theorem bi_len_list {a:V} {vs:List V} (h:LV σ a vs) (hn:vs.length < 2 ^ 24) (q:Q (.int vs.length) σ):CallV d (.raw (.builtin "len")) [a] σ Q:=fun A s f l ha hi hf hr QM hq=>by
 refine bc fun hbc=>?_
 obtain ⟨x,rfl,hx⟩:=rels1 hr
 obtain ⟨_,rfl⟩:=Rel.inv hf
 obtain ⟨b,items,n,rfl,ho,hrs⟩:=h.at hi hx
 refine hbc ?_
 clear hbc
 have e:items.size=vs.length:=by rw [← hrs.length];simp
 exact call_len_list ⟨_,ho,rfl,_,rfl⟩ (by rw [e];lia) (hq _ _ _ _ q hi.toks .refl (by rw [e];exact .int _ _))
theorem bi_len_str {x:List Nat} (hn:x.length < 2 ^ 25) (q:Q (.int x.length) σ):CallV d (.raw (.builtin "len")) [.str x] σ Q:=fun A s f l ha hi hf hr QM hq=>by
 refine bc fun hbc=>?_
 obtain ⟨y,eq0,hx⟩:=rels1 hr
 refine hbc ?_
 clear hbc
 subst eq0
 obtain ⟨_,rfl⟩:=Rel.inv hf;obtain ⟨_,rfl⟩:=Rel.inv hx
 exact P.len_str (by show ¬ ((x.toArray.size:Int) ≥ 2 ^ 63);simp;lia) (hq _ _ _ _ q hi.toks .refl (by show Rel _ _ (.int (x.toArray.size:Nat) _) _;simpa using Rel.int _ _))
theorem bi_divmod {a b:Int} (hb:b≠0) (hp:Builtin.divisionGoesByPylong a b=false) (q:Q (.tup [.int (a.fdiv b),.int (a.fmod b)]) σ):CallV d (.raw (.builtin "divmod")) [.int a,.int b] σ Q:=fun A s f l ha hi hf hr QM hq=>by
 refine bc fun hbc=>?_
 obtain ⟨x,y,rfl,hx,hy⟩:=rels2 hr
 refine hbc ?_
 clear hbc
 obtain ⟨_,rfl⟩:=Rel.inv hf;obtain ⟨_,rfl⟩:=Rel.inv hx;obtain ⟨_,rfl⟩:=Rel.inv hy
 have g:∀ o b o',s.heap.get? b=some o'→(s.heap.push o).get? b=some o':=fun o b o' e=>Heap.get?_push_of_some _ e
 exact divmod_int hb (hq _ _ _ _ q (hi.grow (s':={ s with heap:=_,toks:=_ }) (g _) rfl rfl) (Ext.grow (g _))
  (new_tup hi (.cons (.int _ _) (.cons (.int _ _) .nil)) (get?_ge (Nat.le_refl _)) hi.size (g _) (Heap.get?_push_size _ rfl))) (.inl hp)
theorem bi_ord {c:Nat} (q:Q (.int c) σ):CallV d (.raw (.builtin "ord")) [.str [c]] σ Q:=fun A s f l ha hi hf hr QM hq=>by
 refine bc fun hbc=>?_
 obtain ⟨x,eq0,hx⟩:=rels1 hr
 refine hbc ?_
 clear hbc
 subst eq0
 obtain ⟨_,rfl⟩:=Rel.inv hf;obtain ⟨_,rfl⟩:=Rel.inv hx
 exact P.ord_of_char (hq _ _ _ _ q hi.toks .refl (.int _ _))
theorem bi_chr {c:Nat} (hc:c≤1114111) (q:Q (.str [c]) σ):CallV d (.raw (.builtin "chr")) [.int c] σ Q:=fun A s f l ha hi hf hr QM hq=>by
 refine bc fun hbc=>?_
 obtain ⟨x,eq0,hx⟩:=rels1 hr
 refine hbc ?_
 clear hbc
 subst eq0
 obtain ⟨_,rfl⟩:=Rel.inv hf;obtain ⟨_,rfl⟩:=Rel.inv hx
 exact chr_of_range (by walk_at "l") (by lia) (hq _ _ _ _ q hi.toks .refl (.str [c] _))
theorem ints_of {h:Heap}:∀ {items:List Value} {xs:List Int},Rels σ h items (xs.map V.int)→∃ ts:List (Int×Tok),items=ts.map (fun p=>.int p.1 p.2)∧ts.map (·.1)=xs:=by
 intro items xs
 induction xs generalizing items with
 | nil=>intro h;exact ⟨[],h.inv,rfl⟩
 | cons x xs ih=>
  intro h
  refine bc fun hbc=>?_
  obtain ⟨v,l,eq0,hv,hl⟩:=h.inv
  obtain ⟨ts,eq1,eq2⟩:=ih hl
  obtain ⟨t,eq3⟩:=hv.inv
  refine hbc ?_
  clear hbc
  subst eq0 eq1 eq2 eq3
  exact ⟨(x,t) :: ts,rfl,rfl⟩
end
end Mine
end
section
open PySem PySem.W PyProof.Rows PySem.Calls
namespace Mine
section
variable {K:Kx} {ρ:Fm} {σ:Store} {d:Nat} {Q:V→Store→Prop}
theorem bi_range1 {n:Int} (q:Q (.rng 0 n 1) σ):CallV d (.raw (.type "range")) [.int n] σ Q:=fun A s f l ha hi hf hr QM hq=>by
 refine bc fun hbc=>?_
 obtain ⟨x,eq0,hx⟩:=rels1 hr
 refine hbc ?_
 clear hbc
 subst eq0
 obtain ⟨_,rfl⟩:=Rel.inv hf;obtain ⟨_,rfl⟩:=Rel.inv hx
 have g:∀ o b o',s.heap.get? b=some o'→(s.heap.push o).get? b=some o':=fun o b o' e=>Heap.get?_push_of_some _ e
 exact call_range_1 (hq _ _ _ _ q (hi.grow (s':={ s with heap:=_,toks:=_ }) (g _) rfl rfl) (Ext.grow (g _)) (.rng (Heap.get?_push_size _ rfl) (hi.off (get?_ge (Nat.le_refl _))) (hi.notTab hi.size)))
theorem bi_range2 {a b:Int} (q:Q (.rng a b 1) σ):CallV d (.raw (.type "range")) [.int a,.int b] σ Q:=fun A s f l ha hi hf hr QM hq=>by
 refine bc fun hbc=>?_
 obtain ⟨x,y,eq0,hx,hy⟩:=rels2 hr
 refine hbc ?_
 clear hbc
 subst eq0
 obtain ⟨_,rfl⟩:=Rel.inv hf;obtain ⟨_,rfl⟩:=Rel.inv hx;obtain ⟨_,rfl⟩:=Rel.inv hy
 have g:∀ o b o',s.heap.get? b=some o'→(s.heap.push o).get? b=some o':=fun o b o' e=>Heap.get?_push_of_some _ e
 exact call_range_2 (hq _ _ _ _ q (hi.grow (s':={ s with heap:=_,toks:=_ }) (g _) rfl rfl) (Ext.grow (g _)) (.rng (Heap.get?_push_size _ rfl) (hi.off (get?_ge (Nat.le_refl _))) (hi.notTab hi.size)))
theorem bi_range3 {a b c:Int} (hc:c≠0) (hp:c.natAbs.log2 < 9000) (q:Q (.rng a b c) σ):CallV d (.raw (.type "range")) [.int a,.int b,.int c] σ Q:=fun A s f l ha hi hf hr QM hq=>by
 refine bc fun hbc=>?_
 obtain ⟨x,y,z,eq0,hx,hy,hz⟩:=rels3 hr
 refine hbc ?_
 clear hbc
 subst eq0
 obtain ⟨_,rfl⟩:=Rel.inv hf;obtain ⟨_,rfl⟩:=Rel.inv hx;obtain ⟨_,rfl⟩:=Rel.inv hy;cases hz
 have g:∀ o b o',s.heap.get? b=some o'→(s.heap.push o).get? b=some o':=fun o b o' e=>Heap.get?_push_of_some _ e
 exact call_range_3 hc (hq _ _ _ _ q (hi.grow (s':={ s with heap:=_,toks:=_ }) (g _) rfl rfl) (Ext.grow (g _)) (.rng (Heap.get?_push_size _ rfl) (hi.off (get?_ge (Nat.le_refl _))) (hi.notTab hi.size))) (.inl (PyProof.noPylong_of_log2 hp))
theorem bi_sum {a:V} {xs:List Int} (h:LV σ a (xs.map V.int)) (q:Q (.int xs.sum) σ):CallV d (.raw (.builtin "sum")) [a] σ Q:=fun A s f l ha hi hf hr QM hq=>by
 refine bc fun hbc=>?_
 obtain ⟨x,eq0,hx⟩:=rels1 hr
 obtain ⟨_,rfl⟩:=Rel.inv hf
 obtain ⟨b,items,n,eq1,ho,hrs⟩:=h.at hi hx
 obtain ⟨ts,he,eq2⟩:=ints_of hrs
 refine hbc ?_
 clear hbc
 subst eq0 eq1 eq2
 have hl:s.heap.IsList b (intItems ts.toArray):=⟨_,ho,rfl,n,by show Data.seq items n=_;rw [show items=intItems ts.toArray from by rw [← Array.toList_inj,he];simp [intItems]]⟩
 refine sum_intListG ha.1 hl fun h' tk t' g=>hq _ _ _ _ q (hi.grow (s':={ s with heap:=h',toks:=tk }) g rfl rfl) (Ext.grow g) ?_
 have e:preSum (numAt ts.toArray) ts.toArray.size=(ts.map (·.1)).sum:=by rw [preSum_eq,List.take_of_length_le (by simp)]
 rw [e];exact .int _ _
theorem rels_of_items {h:Heap} {items:List Value}:∀ {vs:List V},items.length=vs.length→(∀ (j:Nat) (v:Value) (pv:V),items[j]?=some v→vs[j]?=some pv→Rel σ h v pv)→Rels σ h items vs:=by
 induction items with
 | nil=>intro vs hl _;cases vs<;>first | exact .nil | simp at hl
 | cons x xs ih=>
  intro vs hl h
  cases vs with
  | nil=>simp at hl
  | cons y ys=>exact .cons (h 0 x y rfl rfl) (ih (by simpa using hl) fun j v pv e1 e2=>h (j + 1) v pv (by simpa using e1) (by simpa using e2))
set_option tactic.hygienic true in
theorem bi_list_strO {x:List Nat} (hx:x.length≤2 ^ 24) (q:∀ a,σ a=none→Q (.loc a) (upd σ a (some (.list (x.map fun c=>.str [c]))))):CallV d (.raw (.type "list")) [.str x] σ Q:=fun A s f l ha hi hf hr QM hq=>by
 refine bc fun hbc=>?_
 obtain ⟨y,eq0,hy⟩:=rels1 hr
 refine hbc ?_
 clear hbc
 subst eq0
 obtain ⟨_,rfl⟩:=Rel.inv hf;obtain ⟨_,rfl⟩:=Rel.inv hy
 rename_i t
 have hn:=get?_ge (Nat.le_refl s.heap.objs.size)
 refine call_list_str ha.1 ⟨x.toArray⟩ t (fun h' tk acc c' g ho hit=>?_) (by show x.toArray.size≤2 ^ 24;simpa using hx)
 have hrs:Rels σ s.heap acc.toList (x.map fun c=>V.str [c]):=by
  refine rels_of_items ?_ fun j v pv e1 e2=>?_
  ·have:=hit.1;simp at this;simp [this]
  ·obtain ⟨c,u,ec,rfl⟩:=hit.2 j v (by rw [← Array.getElem?_toList];exact e1)
   have:x[j]?=some c:=by simpa using ec
   rw [List.getElem?_map,this] at e2
   cases e2
   exact .str [c] u
 have:=hi.new (s':={ s with heap:=h',toks:=tk }) hn hi.size g (p:=.list (x.map fun c=>V.str [c])) ⟨acc,c',ho,hrs.mono ⟨fun b o e _ _ _=>g b o e,fun b o e _ hb _=>by
  rw [upd_ne σ _ (fun z=>by rw [z,hn] at e;cases e)];exact hb⟩⟩ rfl rfl
 exact hq _ _ _ _ (q _ (hi.off hn)) this.1 this.2 (.loc _)
theorem bi_list_rng {a b c:Int} {n:Nat} (hs:Builtin.Range.small a b c=true) (hn:Builtin.Range.rangeSize a b c=n) (hlen:n≤2 ^ 24) (q:Q (.lst ((List.range n).map fun i:Nat=>V.int (a + i * c))) σ):CallV d (.raw (.type "list")) [.rng a b c] σ Q:=fun A s f l ha hi hf hr QM hq=>by
 refine bc fun hbc=>?_
 obtain ⟨y,eq0,hy⟩:=rels1 hr
 refine hbc ?_
 clear hbc
 subst eq0
 obtain rfl:=Rel.inv hf
 refine bc fun hbc=>?_
 obtain ⟨ad,t,u,v,e₀,ho,hσ,ht⟩:=Rel.inv hy
 refine hbc ?_
 clear hbc
 subst e₀
 have hnn:=get?_ge (Nat.le_refl s.heap.objs.size)
 refine call_list_range ha.1 ho hs hn hlen fun h' tk acc c' g hS hit=>?_
 have hrs:Rels σ s.heap acc.toList ((List.range n).map fun i:Nat=>V.int (a + i * c)):=by
  refine rels_of_items ?_ fun j v pv e1 e2=>?_
  ·have:=hit.1;simp [this]
  ·obtain ⟨u,rfl⟩:=hit.2 j v (by rw [← Array.getElem?_toList];exact e1)
   have hj:j < n:=by
    rcases Nat.lt_or_ge j n with h | h
    ·exact h
    ·exact absurd ((List.getElem?_eq_none (by simpa using h)).symm.trans e2).symm (Option.some_ne_none _)
   rw [List.getElem?_map,List.getElem?_range hj] at e2
   cases e2
   exact .int _ _
 exact hq _ _ _ _ q (hi.grow (s':={ s with heap:=h',toks:=tk }) g rfl rfl) (Ext.grow g) (new_lst hi hrs hnn hi.size g hS)
theorem meth_append:Meth "list" "append" "list.append" := ⟨F.plainAttrs_list,F.slot_list_append,F.type_list_append⟩
theorem meth_pop:Meth "list" "pop" "list.pop" := ⟨F.plainAttrs_list,F.slot_list_pop,F.type_list_pop⟩
theorem meth_reverse:Meth "list" "reverse" "list.reverse" := ⟨F.plainAttrs_list,F.slot_list_reverse,F.type_list_reverse⟩
theorem meth_join:Meth "str" "join" "str.join" := ⟨F.plainAttrs_str,F.slot_str_join,F.type_str_join⟩
theorem meth_find:Meth "str" "find" "str.find" := ⟨F.plainAttrs_str,F.slot_str_find,F.type_str_find⟩
theorem meth_count:Meth "str" "count" "str.count" := ⟨F.plainAttrs_str,F.slot_str_count,F.type_str_count⟩
theorem meth_lower:Meth "str" "lower" "str.lower" := ⟨F.plainAttrs_str,F.slot_str_lower,F.type_str_lower⟩
theorem meth_lstrip:Meth "str" "lstrip" "str.lstrip" := ⟨F.plainAttrs_str,F.slot_str_lstrip,F.type_str_lstrip⟩
theorem set_list {s:Shared} {a:Addr} {vs vs':List V} {items':Array Value} {n' tk:Nat} {h':Heap} (hi:Inv σ s) (hs:σ a=some (.list vs)) (hsb:∀ b o,b≠a→s.heap.get? b=some o→h'.get? b=some o)
  (ho:h'.get? a=some (lstO items' n')) (hrs:Rels σ s.heap items'.toList vs'):
  Inv (upd σ a (some (.list vs'))) { s with heap:=h',toks:=tk }∧Ext σ s.heap (upd σ a (some (.list vs'))) h':=
 hi.set (s':={ s with heap:=h',toks:=tk }) hs hsb (fun v e=>by cases e) ⟨items',n',ho,hrs.mono ⟨fun b o e _ hb _=>hsb b o (fun z=>by rw [z,hs] at hb;cases hb) e,fun b o e _ hb _=>by
  rw [upd_ne σ _ (fun z=>by rw [z,hs] at hb;cases hb)];exact hb⟩⟩ rfl rfl
theorem bi_append {a:Addr} {vs:List V} {x:V} (hs:σ a=some (.list vs)) (hl:vs.length < 2 ^ 24) (q:Q .none (upd σ a (some (.list (vs++[x]))))):CallV d (.raw (.builtin "list.append")) [.loc a,x] σ Q:=fun A s f l ha hi hf hr QM hq=>by
 refine bc fun hbc=>?_
 obtain ⟨y,z,eq0,hy,hz⟩:=rels2 hr
 obtain ⟨_,rfl⟩:=Rel.inv hf;obtain ⟨_,rfl⟩:=Rel.inv hy
 obtain ⟨items,n,ho,hrs⟩:=(hi.own _ _ hs).2
 refine hbc ?_
 clear hbc
 subst eq0
 have hsz:items.size≤2 ^ 24:=by have:=hrs.length;simp at this;walk_at "l"
 refine append_at ho (fun h' sb ho'=>?_) hsz
 refine bc fun hbc=>?_
 obtain ⟨i',e'⟩:=set_list (tk:=s.toks) hi hs sb.extBut ho' (vs':=vs++[x]) (by simpa using hrs.append (.cons hz .nil))
 refine hbc ?_
 clear hbc
 exact hq _ _ _ _ q i' e' .none
theorem bi_pop0 {a:Addr} {x:V} {vs:List V} (hs:σ a=some (.list (x :: vs))) (hl:vs.length < 2 ^ 24) (q:Q x (upd σ a (some (.list vs)))):CallV d (.raw (.builtin "list.pop")) [.loc a,.int 0] σ Q:=fun A s f l ha hi hf hr QM hq=>by
 refine bc fun hbc=>?_
 obtain ⟨y,z,eq0,hy,hz⟩:=rels2 hr
 refine hbc ?_
 clear hbc
 subst eq0
 obtain ⟨_,rfl⟩:=Rel.inv hf;obtain ⟨_,rfl⟩:=Rel.inv hy;obtain ⟨_,rfl⟩:=Rel.inv hz
 refine bc fun hbc=>?_
 obtain ⟨items,n,ho,hrs⟩:=(hi.own _ _ hs).2
 obtain ⟨items⟩:=items
 obtain ⟨v,l,e₀,hv,hr2⟩:=hrs.inv
 refine hbc ?_
 clear hbc
 clear hrs
 dsimp only at e₀
 subst e₀
 have hsz:l.length + 1≤2 ^ 24:=by have:=hr2.length;lia
 refine call_meets F.slot_list_pop ⟨_,ho,rfl⟩ F.entry_list_pop (F.args_list_pop_2 _ _) (MeetsSeq.list_pop_at a ⟨v :: l⟩ n 0 _ 0 v (by decide) (by simp [seqIndex?]) rfl (by show l.length + 1≤2 ^ 24;exact hsz)) ⟨ho,?_⟩
 have hu:IsL (s.heap.update a (Obj.mapSeq fun xs=>xs.eraseIdxIfInBounds 0)) a _ _:=IsL.update ho _
 have e0:((⟨v :: l⟩:Array Value).eraseIdxIfInBounds 0).toList=l:=by simp
 obtain ⟨i',e'⟩:=set_list (tk:=s.toks) hi hs (Heap.SameBut.update s.heap a _).extBut hu (vs':=vs) (by rw [e0];exact hr2)
 exact hq v x _ { s with heap:=_ } q i' e' (hv.mono e'.seq)
theorem bi_reverse {a:Addr} {vs:List V} (hs:σ a=some (.list vs)) (hl:vs.length≤2 ^ 24) (q:Q .none (upd σ a (some (.list vs.reverse)))):CallV d (.raw (.builtin "list.reverse")) [.loc a] σ Q:=fun A s f l ha hi hf hr QM hq=>by
 refine bc fun hbc=>?_
 obtain ⟨y,eq0,hy⟩:=rels1 hr
 obtain ⟨_,rfl⟩:=Rel.inv hf;obtain ⟨_,rfl⟩:=Rel.inv hy
 obtain ⟨items,n,ho,hrs⟩:=(hi.own _ _ hs).2
 refine hbc ?_
 clear hbc
 subst eq0
 have hsz:items.size≤2 ^ 24:=by have:=hrs.length;simp at this;walk_at "l"
 refine call_meets F.slot_list_reverse ⟨_,ho,rfl⟩ F.entry_list_reverse (F.args_list_reverse_1 _) (AutoSeq1.list_reverse_list_0 a items n hsz) ⟨ho,?_⟩
 have hu:IsL (s.heap.update a (Obj.mapSeq fun x=>x.reverse)) a _ _:=IsL.update ho _
 have hrev:∀ {l:List Value} {pl:List V},Rels σ s.heap l pl→Rels σ s.heap l.reverse pl.reverse:=by
  intro l
  induction l with
  | nil=>intro pl h;cases h;exact .nil
  | cons v l ih=>intro pl h;cases h with | cons hv hl=>simpa using (ih hl).append (.cons hv .nil)
 refine bc fun hbc=>?_
 obtain ⟨i',e'⟩:=set_list (tk:=s.toks) hi hs (Heap.SameBut.update s.heap a _).extBut hu (vs':=vs.reverse) (by simpa using hrev hrs)
 refine hbc ?_
 clear hbc
 exact hq _ _ _ { s with heap:=_ } q i' e' .none
theorem strs_of {h:Heap}:∀ {items:List Value} {xs:List (List Nat)},Rels σ h items (xs.map V.str)→∃ ts:List (Str×Tok),items=strValues ts∧ts.map (fun p=>p.1.cps.toList)=xs:=by
 intro items xs
 induction xs generalizing items with
 | nil=>intro h;exact ⟨[],h.inv,rfl⟩
 | cons x xs ih=>
  intro h
  refine bc fun hbc=>?_
  obtain ⟨v,l,eq0,hv,hl⟩:=h.inv
  obtain ⟨ts,eq1,eq2⟩:=ih hl
  obtain ⟨t,eq3⟩:=hv.inv
  refine hbc ?_
  clear hbc
  subst eq0 eq1 eq2 eq3
  exact ⟨(⟨x.toArray⟩,t) :: ts,rfl,rfl⟩
theorem bi_join0 {a:V} {xs:List (List Nat)} (h:LV σ a (xs.map V.str)) (hl:xs.flatten.length≤2 ^ 24) (q:Q (.str xs.flatten) σ):CallV d (.raw (.builtin "str.join")) [.str [],a] σ Q:=fun A s f l ha hi hf hr QM hq=>by
 refine bc fun hbc=>?_
 obtain ⟨y,z,eq0,hy,hz⟩:=rels2 hr
 obtain ⟨_,rfl⟩:=Rel.inv hf;obtain ⟨_,rfl⟩:=Rel.inv hy
 obtain ⟨b,items,n,eq1,ho,hrs⟩:=h.at hi hz
 obtain ⟨ts,he,eq2⟩:=strs_of hrs
 refine hbc ?_
 clear hbc
 subst eq0 eq1 eq2
 have hlist:s.heap.IsList b (strValues ts).toArray:=⟨_,ho,rfl,n,by rw [← he]⟩
 have hlen:∀ (l:List (Str×Tok)) (k:Nat),(l.map (·.1)).foldl (fun (a:Nat) (x:Str)=>a + x.length + (Str.mk #[]).length) k=k + (l.map (fun p=>p.1.cps.toList)).flatten.length:=by
  intro l
  induction l with
  | nil=>intro k;rfl
  | cons p l ih=>
   intro k
   rw [List.map_cons,List.foldl_cons,ih]
   simp only [List.map_cons,List.flatten_cons,List.length_append]
   have e0:(Str.mk #[]).length=0:=rfl
   have e1:p.1.length=p.1.cps.toList.length:=by simp [PySem.Str.length]
   rw [e0,e1,Nat.add_zero,Nat.add_assoc]
 have hg:∀ (l:List Str) (a:Array Nat),(l.foldl (fun acc p=>acc++p.cps) a).toList=a.toList++(l.map (fun p=>p.cps.toList)).flatten:=by
  intro l
  induction l with
  | nil=>intro a;simp
  | cons p l ih=>intro a;rw [List.foldl_cons,ih];simp
 have hglue:∀ l:List (Str×Tok),(Builtin.Str.glued ⟨#[]⟩ (l.map (·.1))).cps.toList=(l.map (fun p=>p.1.cps.toList)).flatten:=by
  intro l
  unfold Builtin.Str.glued
  cases l with
  | nil=>rfl
  | cons p l=>
   simp only [Array.append_empty,List.map_cons,List.drop_succ_cons,List.drop_zero,List.headD_cons,hg,List.flatten_cons,List.map_map,Function.comp_def]
 refine call_meets F.slot_str_join (typeIs_str _ _ _) F.entry_str_join (F.args_str_join_2 _ _) (meets_str_join_list ⟨#[]⟩ _ b ts ?_) ⟨hlist,?_⟩
 ·have:=hlen ts 0
  rw [← Array.foldl_toList,List.toList_toArray]
  unfold Builtin.Str.tooLong
  rw [this]
  simp only [Nat.zero_add,decide_eq_false_iff_not,Nat.not_lt,gt_iff_lt]
  exact hl
 ·have fin:∀ l:List (Str×Tok),(l.map (fun p=>p.1.cps.toList)).flatten=(ts.map (fun p=>p.1.cps.toList)).flatten→(∀ x t tk,x.cps.toList=(ts.map (fun p=>p.1.cps.toList)).flatten→QM (.str x t) { s with toks:=tk })→(joinMade ⟨#[]⟩ l).post (fun v s'=>wants QM Bot (.ok (.ret v)) s') s:=by
   intro l hf hq'
   have big:(Made.str (Builtin.Str.glued ⟨#[]⟩ (l.map (·.1)))).post (fun v s'=>wants QM Bot (.ok (.ret v)) s') s:=by
    refine ⟨?_,hq' _ _ _ ((hglue l).trans hf)⟩
    show (Builtin.Str.glued ⟨#[]⟩ (l.map (·.1))).cps.size≤2 ^ 24
    rw [← Array.length_toList,hglue l,hf];exact hl
   match l,hf,big with
   | [p],hf,_=>exact hq' p.1 p.2 s.toks (by simpa using hf)
   | [],_,big=>exact big
   | _ :: _ :: _,_,big=>exact big
  exact fin ts rfl fun x t tk e=>hq _ _ _ _ q hi.toks .refl (.strOf e)
theorem bi_find {x y:List Nat} (q:Q (.int (Txt.find ⟨x.toArray⟩ ⟨y.toArray⟩)) σ):CallV d (.raw (.builtin "str.find")) [.str x,.str y] σ Q:=fun A s f l ha hi hf hr QM hq=>by
 refine bc fun hbc=>?_
 obtain ⟨y,z,eq0,hy,hz⟩:=rels2 hr
 refine hbc ?_
 clear hbc
 subst eq0
 obtain ⟨_,rfl⟩:=Rel.inv hf;obtain ⟨_,rfl⟩:=Rel.inv hy;cases hz
 exact SC.find (hq _ _ _ _ q hi.toks .refl (.int _ _))
theorem bi_count {x y:List Nat} (q:Q (.int (Txt.count ⟨x.toArray⟩ ⟨y.toArray⟩)) σ):CallV d (.raw (.builtin "str.count")) [.str x,.str y] σ Q:=fun A s f l ha hi hf hr QM hq=>by
 refine bc fun hbc=>?_
 obtain ⟨y,z,eq0,hy,hz⟩:=rels2 hr
 refine hbc ?_
 clear hbc
 subst eq0
 obtain ⟨_,rfl⟩:=Rel.inv hf;obtain ⟨_,rfl⟩:=Rel.inv hy;cases hz
 exact SC.count (hq _ _ _ _ q hi.toks .refl (.int _ _))
theorem bi_lower {x:List Nat} (hl:x.length≤5592405) (q:Q (.str (Txt.lower ⟨x.toArray⟩).cps.toList) σ):CallV d (.raw (.builtin "str.lower")) [.str x] σ Q:=fun A s f l ha hi hf hr QM hq=>by
 refine bc fun hbc=>?_
 obtain ⟨y,eq0,hy⟩:=rels1 hr
 refine hbc ?_
 clear hbc
 subst eq0
 obtain ⟨_,rfl⟩:=Rel.inv hf;obtain ⟨_,rfl⟩:=Rel.inv hy
 exact PyProof.Rows.SCL.lower (by show x.toArray.size≤_;simpa using hl) fun _=>hq _ _ _ _ q hi.toks .refl (.strOf rfl)
theorem meth_bitlen:Meth "int" "bit_length" "int.bit_length" := ⟨F.plainAttrs_int,slot_int_bit_length,type_int_bit_length⟩
theorem bi_bitlen {a:Int} (q:Q (.int (Builtin.Int.intBits a)) σ):CallV d (.raw (.builtin "int.bit_length")) [.int a] σ Q:=fun A s f l ha hi hf hr QM hq=>by
 refine bc fun hbc=>?_
 obtain ⟨y,eq0,hy⟩:=rels1 hr
 refine hbc ?_
 clear hbc
 subst eq0
 obtain ⟨_,rfl⟩:=Rel.inv hf;obtain ⟨_,rfl⟩:=Rel.inv hy
 exact call_int_bit_length (hq _ _ _ _ q hi.toks .refl (.int _ _))
end
end Mine
end
section
open PySem PySem.W PyProof.Rows PySem.Calls
namespace Mine
section
variable {K:Kx} {ρ:Fm} {σ:Store} {d:Nat} {Q:V→Store→Prop}
theorem rels_le {h:Heap} {items:List Value} {vs:List V} (r:Rels σ h items vs) (hl:vs.length≤2 ^ 24):items.length≤sizeLine:=by rw [r.length];exact hl
theorem ev_tuple {elts:List Expr} {k:Nat} {pos:Pos} (h:EvsP K ρ elts σ (fun vs σ₁=>vs.length≤2 ^ 24∧Q (.tup vs) σ₁))
  (hse:autoParam (∀ env,backTo pos (starEach elts env)=elts.map fun e=>(false,eval e env)) aI):EvP K ρ σ (.Tuple elts k pos) Q:=fun A env s ha hr hi QM hq=>
 wpAny_Tuple (by
  rw [hse]
  refine evs_spliced ha h hr hi fun vs pl σ₁ s₁ h₁ i₁ e₁ r₁=>⟨rels_le r₁ h₁.1,?_⟩
  have g:∀ o b o',s₁.heap.get? b=some o'→(s₁.heap.push o).get? b=some o':=fun o b o' e=>Heap.get?_push_of_some _ e
  exact hq _ _ _ _ h₁.2 (i₁.grow (s':={ s₁ with heap:=_ }) (g _) rfl rfl) (e₁.trans (Ext.grow (g _))) (new_tup i₁ r₁ (get?_ge (Nat.le_refl _)) i₁.size (g _) (Heap.get?_push_size _ rfl)))
theorem ev_list {elts:List Expr} {pos:Pos} (h:EvsP K ρ elts σ (fun vs σ₁=>vs.length≤2 ^ 24∧Q (.lst vs) σ₁))
  (hse:autoParam (∀ env,backTo pos (starEach elts env)=elts.map fun e=>(false,eval e env)) aI):EvP K ρ σ (.List elts pos) Q:=fun A env s ha hr hi QM hq=>
 wpAny_List (by
  rw [hse]
  refine evs_spliced ha h hr hi fun vs pl σ₁ s₁ h₁ i₁ e₁ r₁=>⟨rels_le r₁ h₁.1,?_⟩
  have g:∀ o b o',s₁.heap.get? b=some o'→(s₁.heap.push o).get? b=some o':=fun o b o' e=>Heap.get?_push_of_some _ e
  exact hq _ _ _ _ h₁.2 (i₁.grow (s':={ s₁ with heap:=_ }) (g _) rfl rfl) (e₁.trans (Ext.grow (g _))) (new_lst i₁ r₁ (get?_ge (Nat.le_refl _)) i₁.size (g _) (Heap.get?_push_size _ rfl)))
theorem ev_listO {elts:List Expr} {pos:Pos} (h:EvsP K ρ elts σ (fun vs σ₁=>vs.length≤2 ^ 24∧∀ a,σ₁ a=none→Q (.loc a) (upd σ₁ a (some (.list vs)))))
  (hse:autoParam (∀ env,backTo pos (starEach elts env)=elts.map fun e=>(false,eval e env)) aI):EvP K ρ σ (.List elts pos) Q:=fun A env s ha hr hi QM hq=>
 wpAny_List (by
  rw [hse]
  refine evs_spliced ha h hr hi fun vs pl σ₁ s₁ h₁ i₁ e₁ r₁=>⟨rels_le r₁ h₁.1,?_⟩
  have g:∀ o b o',s₁.heap.get? b=some o'→(s₁.heap.push o).get? b=some o':=fun o b o' e=>Heap.get?_push_of_some _ e
  have hn:=get?_ge (Nat.le_refl s₁.heap.objs.size)
  have:=i₁.new (s':={ s₁ with heap:=s₁.heap.push (lstO vs.toArray 0) }) hn i₁.size (g _) (p:=.list pl) ⟨vs.toArray,0,Heap.get?_push_size _ rfl,by
   show Rels _ _ vs pl
   exact r₁.mono ⟨fun b o e _ _ _=>g _ b o e,fun b o e _ hb _=>by rw [upd_ne σ₁ _ (fun z=>by rw [z,hn] at e;cases e)];exact hb⟩⟩ rfl rfl
  exact hq _ _ _ _ (h₁.2 _ (i₁.off hn)) this.1 (e₁.trans this.2) (.loc _))
noncomputable def EvO (K:Kx) (ρ:Fm) (σ:Store):Option Expr→(V→Store→Prop)→Prop
 | none,Q=>Q .none σ
 | some e,Q=>EvP K ρ σ e Q
theorem evo_ {A:Around} {env:Env} {s:Shared} {e:Option Expr} (ha:AOk K.d A) (hr:Rep K env ρ σ s.heap) (hi:Inv σ s) (h:EvO K ρ σ e Q) {QM:Value→Shared→Prop}
  (hq:∀ v pv σ' s',Q pv σ'→Inv σ' s'→Ext σ s.heap σ' s'.heap→Rel σ' s'.heap v pv→QM v s'):wpAny (model C.prog C.w) A (evalPart e env) QM Bot s:=by
 cases e with
 | none=>exact wpAny_pure (hq _ _ _ _ h hi .refl .none)
 | some e=>exact h A env s ha hr hi QM hq
inductive PartV:V→Option Int→Prop where
 | none:PartV .none none
 | int (i:Int):PartV (.int i) (some i)
theorem PartV.at {pv:V} {p:Option Int} (x:PartV pv p) {h:Heap} {v:Value} (r:Rel σ h v pv):∃ q:Option (Int×Tok),v=partValue q∧q.map (·.1)=p:=by
 revert r
 cases x with
 | none=>exact fun r=>⟨Option.none,r.inv,rfl⟩
 | int i=>exact fun r=>r.inv.elim fun t e=>⟨some (i,t),e,rfl⟩
theorem ev_slc {l u t:Option Expr} {p:Pos} (h:EvO K ρ σ l (fun a σ₁=>EvO K ρ σ₁ u (fun b σ₂=>EvO K ρ σ₂ t (fun c σ₃=>∃ lo hi st,PartV a lo∧PartV b hi∧PartV c st∧Q (.slc lo hi st) σ₃)))):
  EvP K ρ σ (.Slice l u t p) Q:=fun A env s ha hr hi QM hq=>
 wpAny_Slice (evo_ ha hr hi h fun v₁ a σ₁ s₁ h₁ i₁ e₁ r₁=>evo_ ha (hr.mono e₁) i₁ h₁ fun v₂ b σ₂ s₂ h₂ i₂ e₂ r₂=>evo_ ha (hr.mono (e₁.trans e₂)) i₂ h₂ fun v₃ c σ₃ s₃ h₃ i₃ e₃ r₃=>by
  refine bc fun hbc=>?_
  obtain ⟨lo,hi',st,p1,p2,p3,q⟩:=h₃
  obtain ⟨q1,rfl,rfl⟩:=p1.at (r₁.mono (e₂.trans e₃).seq)
  obtain ⟨q2,rfl,rfl⟩:=p2.at (r₂.mono e₃.seq)
  obtain ⟨q3,rfl,rfl⟩:=p3.at r₃
  refine hbc ?_
  clear hbc
  have g:∀ o b o',s₃.heap.get? b=some o'→(s₃.heap.push o).get? b=some o':=fun o b o' e=>Heap.get?_push_of_some _ e
  exact hq _ _ _ _ q (i₃.grow (s':={ s₃ with heap:=_ }) (g _) rfl rfl) ((e₁.trans e₂).trans (e₃.trans (Ext.grow (g _)))) (.slc (Heap.get?_push_size _ rfl) (i₃.off (get?_ge (Nat.le_refl _))) (i₃.notTab i₃.size)))
theorem sub_op {R:Sem Value→Prop} (slice:Expr) (o i:Value) (h:∀ l,R (operate l (getItem o i))):R (subscripted slice false o i):=by
 cases slice with
 | Slice l u s p=>
  cases s with
  | none=>exact h _
  | some _=>exact h _
 | _=>exact h _
noncomputable def SubTy (σ:Store) (pv:V):Prop:=∃ T id,typeLookup (.type T) "__getitem__" = pure (some (.builtin id))∧∀ (s:Shared) (v:Value),Inv σ s→Rel σ s.heap v pv→s.TypeIs v T
theorem sub_lst {pv:V} {vs:List V} (h:LV σ pv vs):SubTy σ pv:=⟨"list", _,F.slot_list_getitem.lookup,fun s v hi hr=>by
 obtain ⟨a,items,n,rfl,ho,_⟩:=h.at hi hr;exact ⟨_,ho,rfl⟩⟩
theorem sub_str {x:List Nat}:SubTy σ (.str x):=⟨"str", _,F.slot_str_getitem.lookup,fun s v hi hr=>by obtain ⟨_,rfl⟩:=Rel.inv hr;exact typeIs_str _ _ _⟩
theorem ev_sub {value slice:Expr} {pos:Pos} (h:EvP K ρ σ value (fun o σ₁=>EvP K ρ σ₁ slice (fun i σ₂=>SubTy σ₂ o∧M2 K.d getItem o i σ₂ Q))):EvP K ρ σ (.Subscript value slice pos) Q:=fun A env s ha hr hi QM hq=>by
 rw [eval_Subscript]
 refine wpAny_bind (h A env s ha hr hi _ fun o po σ₁ s₁ h₁ i₁ e₁ r₁=>wpAny_bind (wpAny_holding (h₁ A env s₁ ha (hr.mono e₁) i₁ _ fun i pi σ₂ s₂ h₂ i₂ e₂ r₂=>wpAny_bind (wpAny_standAt ?_))))
 refine bc fun hbc=>?_
 obtain ⟨⟨T,id,hl,hT⟩,g⟩:=h₂
 refine hbc ?_
 clear hbc
 have hT':=hT s₂ o i₂ (r₁.mono e₂.seq)
 refine wpAny_bind ?_
 rw [getitemInPython_of_ne hT'.not_modules]
 refine wpAny_bind (wpAny_specialOf hT' hl ?_)
 refine wpAny_pure (wpAny_bind ?_)
 have fin:∀ l,wpAny (model C.prog C.w) A (operate l (getItem o i)) (fun r s₃=>wpAny (model C.prog C.w) A (letTemporaryGo value o r >>= fun _=>pure r) QM Bot s₃) Bot s₂:=fun l=>
  wpAny_operating (g A s₂ o i ha i₂ (r₁.mono e₂.seq) r₂ _ fun r pr σ₃ s₃ q i₃ e₃ r₃=>wpAny_bind (wpAny_letTemporaryGo (wpAny_pure (hq r pr σ₃ s₃ q i₃ ((e₁.trans e₂).trans e₃) r₃))))
 exact sub_op (R:=fun t=>wpAny (model C.prog C.w) A t _ _ _) slice o i fin
theorem seqIx {i:Int} {n:Nat} (h0:0≤i) (h:i.toNat < n):seqIndex? i n=some i.toNat:=by
 unfold seqIndex?
 have:¬ i < 0:=by lia
 simp [this];lia
theorem gi_lst {pv:V} {vs:List V} {i:Int} {x:V} (h:LV σ pv vs) (h0:0≤i) (hx:vs[i.toNat]?=some x) (hl:vs.length < 2 ^ 25) (q:Q x σ):M2 d getItem pv (.int i) σ Q:=fun A s a b ha hi ra rb QM hq=>by
 refine bc fun hbc=>?_
 obtain ⟨l,items,n,rfl,ho,rs⟩:=h.at hi ra
 obtain ⟨_,rfl⟩:=Rel.inv rb
 obtain ⟨v,gv,rv⟩:=rs.get hx
 refine hbc ?_
 clear hbc
 have:i.toNat < vs.length:=by
  rcases Nat.lt_or_ge i.toNat vs.length with h | h
  ·exact h
  ·exact absurd ((List.getElem?_eq_none h).symm.trans hx) (Option.some_ne_none _).symm
 exact wpAny_getItem_list ⟨_,ho,rfl,_,rfl⟩ h0 (by lia) (by rw [← Array.getElem?_toList];exact gv) (hq _ _ _ _ q hi .refl rv)
theorem gi_str {x:List Nat} {i:Int} {c:Nat} (h0:0≤i) (hx:x[i.toNat]?=some c) (hl:x.length < 2 ^ 25) (q:Q (.str [c]) σ):M2 d getItem (.str x) (.int i) σ Q:=fun A s a b ha hi ra rb QM hq=>by
 obtain ⟨_,rfl⟩:=Rel.inv ra;obtain ⟨_,rfl⟩:=Rel.inv rb
 have hlt:i.toNat < x.length:=by
  rcases Nat.lt_or_ge i.toNat x.length with h | h
  ·exact h
  ·exact absurd ((List.getElem?_eq_none h).symm.trans hx) (Option.some_ne_none _).symm
 refine P.getItem_str (c:=c) (by simp;lia) ?_ (hq _ _ _ _ q hi.toks .refl (.str [c] _))
 have:seqIndex? i (Str.length ⟨x.toArray⟩)=some i.toNat:=seqIx h0 (by show _ < x.toArray.size;simpa using hlt)
 rw [this]
 simpa using hx
theorem gi_str_neg {x:List Nat} {i:Int} {c:Nat} (h0:i < 0) (h1:-(x.length:Int)≤i) (hx:x[(i + x.length).toNat]?=some c) (hl:x.length < 2 ^ 25) (q:Q (.str [c]) σ):M2 d getItem (.str x) (.int i) σ Q:=fun A s a b ha hi ra rb QM hq=>by
 obtain ⟨_,rfl⟩:=Rel.inv ra;obtain ⟨_,rfl⟩:=Rel.inv rb
 refine P.getItem_str (c:=c) (by simp;lia) ?_ (hq _ _ _ _ q hi.toks .refl (.str [c] _))
 have:seqIndex? i (Str.length ⟨x.toArray⟩)=some (i + x.length).toNat:=by
  unfold seqIndex?
  simp [PySem.Str.length,h0];lia
 rw [this]
 simpa using hx
noncomputable def picks (lo hi st:Option Int) (n:Nat):List Nat:=sliceRange (sliceBounds lo hi st n).1 (sliceBounds lo hi st n).2.1 (sliceBounds lo hi st n).2.2
theorem gi_lst_slc {pv:V} {vs:List V} {lo hi' st:Option Int} (h:LV σ pv vs) (h0:st≠some 0) (hl:vs.length≤2 ^ 24) (q:Q (.lst ((picks lo hi' st vs.length).filterMap (vs[·]?))) σ):M2 d getItem pv (.slc lo hi' st) σ Q:=fun A s a b ha hi ra rb QM hq=>by
 refine bc fun hbc=>?_
 obtain ⟨l,items,n,rfl,ho,rs⟩:=h.at hi ra
 refine hbc ?_
 clear hbc
 have g:∀ o b o',s.heap.get? b=some o'→(s.heap.push o).get? b=some o':=fun o b o' e=>Heap.get?_push_of_some _ e
 have part:∀ p:Option (Int×Tok),IsPart (partValue p) (p.map (·.1)):=fun p=>by
  cases p with
  | none=>exact .none
  | some p=>exact .int _ _
 have hsz:items.size=vs.length:=by rw [← rs.length];simp
 cases rb with
 | slc hso hσ ht=>
  refine wpAny_getItem_list_slice ⟨_,ho,rfl,_,rfl⟩ ⟨_,hso,rfl,rfl⟩ (part _) (part _) (part _) h0 ?_ (by rw [hsz];exact hl)
  have key:∀ ix:List Nat,Rels σ s.heap (ix.filterMap (items[·]?)) (ix.filterMap (vs[·]?)):=by
   intro ix
   induction ix with
   | nil=>exact .nil
   | cons j ix ih=>
    rw [List.filterMap_cons,List.filterMap_cons]
    cases hj:vs[j]? with
    | some x=>
     refine bc fun hbc=>?_
     obtain ⟨v,gv,rv⟩:=rs.get hj
     refine hbc ?_
     clear hbc
     rw [Array.getElem?_toList] at gv
     rw [gv];exact .cons rv ih
    | none=>
     have:items[j]?=none:=by
      rw [← Array.getElem?_toList]
      refine List.getElem?_eq_none ?_
      rw [rs.length]
      rcases Nat.lt_or_ge j vs.length with h | h
      ·exact absurd ((List.getElem?_eq_getElem h).symm.trans hj) (Option.some_ne_none _)
      ·exact h
     rw [this];exact ih
  exact hq _ _ _ _ q (hi.grow (s':={ s with heap:=_ }) (g _) rfl rfl) (Ext.grow (g _)) (new_lst hi (by unfold picks;rw [← hsz];exact key _) (get?_ge (Nat.le_refl _)) hi.size (g _) (Heap.get?_push_size _ rfl))
end
end Mine
end
section
open PySem PySem.W PyProof.Rows PySem.Calls PySem.Spec PySem.SeqAt
namespace Mine
mutual
inductive Dat (σ:Store):V→PyData→Prop
 | none:Dat σ .none .none
 | bool (b:Bool):Dat σ (.bool b) (.bool b)
 | int (i:Int):Dat σ (.int i) (.int i)
 | str (x:List Nat):Dat σ (.str x) (.str ⟨x.toArray⟩)
 | tup {vs:List V} {ds:List PyData} (h:Dats σ vs ds):Dat σ (.tup vs) (.tuple ds)
 | lst {vs:List V} {ds:List PyData} (h:Dats σ vs ds):Dat σ (.lst vs) (.list ds)
 | own {a:Addr} {vs:List V} {ds:List PyData} (hs:σ a=some (.list vs)) (h:Dats σ vs ds):Dat σ (.loc a) (.list ds)
inductive Dats (σ:Store):List V→List PyData→Prop
 | nil:Dats σ [] []
 | cons {v:V} {p:PyData} {vs:List V} {ds:List PyData} (h:Dat σ v p) (hs:Dats σ vs ds):Dats σ (v :: vs) (p :: ds)
end
section
variable {K:Kx} {ρ:Fm} {σ:Store} {d:Nat} {Q:V→Store→Prop}
theorem Dat.reads {s:Shared} (hi:Inv σ s) {pv:V} {p:PyData} {v:Value} (d:Dat σ pv p) (r:Rel σ s.heap v pv):∃ as,Reads s.heap v p as:=
 Dat.rec (motive_1:=fun pv p _=>∀ v,Rel σ s.heap v pv→∃ as,Reads s.heap v p as) (motive_2:=fun pl ds _=>∀ vs,Rels σ s.heap vs pl→∃ as,ReadsAll s.heap vs ds as)
  (fun v r=>by have e:=r.inv;subst e;exact ⟨_,.none⟩) (fun b v r=>by have e:=r.inv;subst e;exact ⟨_,.bool b⟩)
  (fun i v r=>by obtain ⟨_,e⟩:=r.inv;subst e;exact ⟨_,.int i _⟩) (fun x v r=>by obtain ⟨_,e⟩:=r.inv;subst e;exact ⟨_,.str _ _⟩)
  (fun _ ih v r=>by obtain ⟨a,items,n,e,ho,_,_,hr⟩:=r.inv;subst e;obtain ⟨as,q⟩:=ih _ hr;exact ⟨_,.tuple ho rfl rfl q⟩)
  (fun _ ih v r=>by obtain ⟨a,items,n,e,ho,_,_,hr⟩:=r.inv;subst e;obtain ⟨as,q⟩:=ih _ hr;exact ⟨_,.list ho rfl rfl q⟩)
  (fun hs _ ih v r=>by have e:=r.inv;subst e;obtain ⟨items,n,ho,hr⟩:=(hi.own _ _ hs).2;obtain ⟨as,q⟩:=ih _ hr;exact ⟨_,.list ho rfl rfl q⟩)
  (fun vs r=>by have e:=r.inv;subst e;exact ⟨_,.nil⟩)
  (fun _ _ i1 i2 vs r=>by obtain ⟨v,l,e,hv,hl⟩:=r.inv;subst e;obtain ⟨a,q⟩:=i1 _ hv;obtain ⟨b,q'⟩:=i2 _ hl;exact ⟨_,.cons q q'⟩) d v r
theorem AOk.units {A:Around} (h:AOk d A):A.units + 65 < cLine:=by have:=h.2.2;show A.units + 65 < 9900;lia
theorem cmp_eq {a b:V} {da db:PyData} (ha:Dat σ a da) (hb:Dat σ b db) (sa:shaped da=true) (sb:shaped db=true) (hm:noMix da db=true) (q:Q (.bool (same da db)) σ):M2 d (compareOp .Eq) a b σ Q:=fun A s x y hA hi hx hy QM hq=>by
 refine bc fun hbc=>?_
 obtain ⟨as,ra⟩:=ha.reads hi hx
 obtain ⟨bs,rb⟩:=hb.reads hi hy
 refine hbc ?_
 clear hbc
 exact eq_dataH_same ra rb sa sb (by have:=hA.units;lia) hm (hq _ _ _ _ q hi .refl (.bool _))
theorem cmp_ne {a b:V} {da db:PyData} (ha:Dat σ a da) (hb:Dat σ b db) (sa:shaped da=true) (sb:shaped db=true) (hm:noMix da db=true) (q:Q (.bool (!same da db)) σ):M2 d (compareOp .NotEq) a b σ Q:=fun A s x y hA hi hx hy QM hq=>by
 refine bc fun hbc=>?_
 obtain ⟨as,ra⟩:=ha.reads hi hx
 obtain ⟨bs,rb⟩:=hb.reads hi hy
 refine hbc ?_
 clear hbc
 exact ne_dataH_same ra rb sa sb (by have:=hA.units;lia) hm (hq _ _ _ _ q hi .refl (.bool _))
end
end Mine
end
section
open PySem PySem.W PyProof.Rows PySem.Calls
namespace Mine
structure ExtL (L:Addr) (σ:Store) (h h':Heap):Prop where
 keep:∀ a o,a≠L→h.get? a=some o→h'.get? a=some o
section
variable {K:Kx} {ρ:Fm} {σ:Store} {d:Nat}
theorem ExtL.refl {L:Addr} {h:Heap}:ExtL L σ h h:=⟨fun _ _ _ e=>e⟩
theorem ExtL.trans {L:Addr} {h h₁ h₂:Heap} (x:ExtL L σ h h₁) (y:ExtL L σ h₁ h₂):ExtL L σ h h₂:=⟨fun a o n e=>y.keep a o n (x.keep a o n e)⟩
theorem store_local {x:Str} {ρ':Fm} {v:Value} {pv:V} {A:Around} {env:Env} {s:Shared} (hk:K.names.lookup x=some .local)
  (hr:Rep K env ρ σ s.heap) (hi:Inv σ s) (hv:Rel σ s.heap v pv) (hu:Upd ρ x (.val pv) ρ') {QM:Unit→Shared→Prop}
  (hq:∀ s',Rep K env ρ' σ s'.heap→Inv σ s'→ExtL env.locals σ s.heap s'.heap→QM () s'):wpAny (model C.prog C.w) A (storeName env x v) QM Bot s:=by
 obtain ⟨m,hm⟩:=hr.loc
 refine wpAny_storeName_local ((congrArg (·.lookup x) hr.names).trans hk) hm (fun h' hn hs=>?_) (by rw [hr.kind];rfl)
 have k:Poke σ env.locals s.heap h':=⟨fun b o hb e=>(hs.2 b hb).trans e,fun o e=>⟨hr.locF.1,hr.locF.2.2,by
  refine bc fun hbc=>?_
  obtain ⟨o',es,ep,e',d,_⟩:=hm
  refine hbc ?_
  clear hbc
  obtain rfl:=Option.some.inj (e.symm.trans e')
  exact ⟨fun q=>(by rcases q with ⟨_,_,q⟩ | ⟨_,_,q⟩<;>rw [d] at q<;>cases q),fun vs q=>(by exact (datN (d.symm.trans q) rfl).elim)⟩⟩⟩
 have hce:∀ c v,env.locals≠c→s.heap.IsCell c v→h'.IsCell c v:=fun c v hne y=>cellTr y fun _ e=>(hs.2 c (fun q=>hne q.symm)).trans e
 refine hq _ ⟨hr.kind,hr.names,hr.glob,hr.blt,hr.qual,hr.code,⟨_,hn⟩,hr.locF,fun y c hc=>?_,hr.cinj,fun p hp=>?_⟩ (hi.poke k rfl rfl) ⟨fun a o n e=>(hs.2 a n).trans e⟩
 ·refine bc fun hbc=>?_
  obtain ⟨h1,h2,h3,h4,h5⟩:=hr.cells y c hc
  refine hbc ?_
  clear hbc
  exact ⟨h1,h2,h3,fun e=>(h4 e).elim fun v q=>⟨v,hce _ _ h1 q⟩,h5⟩
 ·rcases hu p hp with rfl | ⟨hp,hne⟩
  ·exact .inl ⟨hk,_,v,hn,if_pos rfl,hv.mono k.seq⟩
  ·have hv':=hr.vars p hp
   obtain ⟨y,sl⟩:=p
   cases sl with
   | val pv'=>
    rcases hv' with ⟨h1,m₀,v',h2,h3,h4⟩ | ⟨h1,c,v',h2,h3,h4,h5,h6⟩
    ·refine .inl ⟨h1,_,v',hn,?_,h4.mono k.seq⟩
     show (if y=x then some v else m y)=_
     rw [if_neg hne,← h3]
     refine bc fun hbc=>?_
     obtain ⟨o,es,ep,e,d,_,f⟩:=hm
     obtain ⟨o',es',ep',e',d',_,f'⟩:=h2
     refine hbc ?_
     clear hbc
     obtain rfl:=Option.some.inj (e.symm.trans e')
     (rw [d] at d';cases d')
     rw [← f y,← f' y]
    ·exact .inr ⟨h1,c,v',h2,hce c _ (hr.cells y c h2).ne h3,h4.mono k.seq,h5,h6⟩
   | sh c=>exact hv'
   | emp=>obtain ⟨h1,c,h2,⟨v',h3⟩,h5,h6⟩:=hv';exact ⟨h1,c,h2,⟨v',hce c _ (hr.cells y c h2).ne h3⟩,h5,h6⟩
theorem ExtL.seq {env:Env} {h h':Heap} (hr:Rep K env ρ σ h) (x:ExtL env.locals σ h h'):SeqKeep σ h σ h':=
 ⟨fun a o e f hs _=>x.keep a o (fun q=>Foot.notFixed hr hs e f (.inl q)) e,fun a o e f hs _=>hs⟩
inductive TgtP (K:Kx):Expr→V→Fm→Prop where
 | name (x:Str) (pos:Pos) (v:V) (h:K.names.lookup x=some .local):TgtP K (.Name x pos) v [(x,.val v)]
 | tup (xs:List (Str×Pos)) (k:Nat) (pos:Pos) (vs:List V) (hl:vs.length=xs.length) (h:∀ x∈xs,K.names.lookup x.1=some .local) (hn:(xs.map (·.1)).Nodup):
   TgtP K (.Tuple (xs.map fun p=>.Name p.1 p.2) k pos) (.tup vs) (pslots (xs.map (·.1)) vs)
theorem order_local {A:Around} {env:Env}:∀ {xs:List (Str×Pos)} {vs:List V} {vals:List Value} {ρ:Fm} {s:Shared},vs.length=xs.length→(∀ x∈xs,K.names.lookup x.1=some .local)→(xs.map (·.1)).Nodup→(∀ p∈ρ,p.1∉xs.map (·.1))→
  Rep K env ρ σ s.heap→Inv σ s→Rels σ s.heap vals vs→
  ∀ {QM:Unit→Shared→Prop},(∀ s',Rep K env (pslots (xs.map (·.1)) vs++ρ) σ s'.heap→Inv σ s'→ExtL env.locals σ s.heap s'.heap→QM () s')→wpAny (model C.prog C.w) A (assignInOrder (xs.map fun p=>assign (.Name p.1 p.2) env) vals) QM Bot s:=by
 intro xs
 induction xs with
 | nil=>
  intro vs vals ρ s hl _ _ _ hr hi hrs QM hq
  obtain rfl:=List.length_eq_zero_iff.mp hl
  obtain rfl:=hrs.inv
  exact wpAny_assignInOrder_none (hq s (by simpa [pslots] using hr) hi .refl)
 | cons x xs ih=>
  intro vs vals ρ s hl hk hn hd hr hi hrs QM hq
  obtain ⟨v,vs,rfl⟩:=List.exists_cons_of_length_eq_add_one hl
  obtain ⟨w,vals,rfl,hv,hrs⟩:=hrs.inv
  refine wpAny_assignInOrder_more (wpAny_assign_Name (store_local (ρ':=(x.1,.val v) :: ρ) (hk x List.mem_cons_self) hr hi hv ?_ fun s' hr' hi' e'=>?_))
  ·intro p hp
   rcases List.mem_cons.mp hp with rfl | hp
   ·exact .inl rfl
   ·exact .inr ⟨hp,fun q=>hd p hp (by rw [q];exact List.mem_cons_self)⟩
  ·have hn':=List.nodup_cons.mp hn
   refine ih (by simpa using hl) (fun y hy=>hk y (List.mem_cons_of_mem _ hy)) hn'.2 ?_ hr' hi' (hrs.mono (e'.seq hr)) fun s'' hr'' hi'' e''=>hq s'' ?_ hi'' (e'.trans e'')
   ·intro p hp
    rcases List.mem_cons.mp hp with rfl | hp
    ·exact hn'.1
    ·exact fun q=>hd p hp (List.mem_cons_of_mem _ q)
   ·refine hr''.sub fun p hp=>?_
    rcases List.mem_append.mp hp with hp | hp
    ·rcases List.mem_cons.mp hp with rfl | hp
     ·exact List.mem_append_right _ List.mem_cons_self
     ·exact List.mem_append_left _ hp
    ·exact List.mem_append_right _ (List.mem_cons_of_mem _ hp)
theorem eachNames {env:Env}:∀ xs:List (Str×Pos),assignEach (xs.map fun p=>Expr.Name p.1 p.2) env=xs.map fun p=>(false,assign (.Name p.1 p.2) env)
 | []=>rfl
 | x :: xs=>by
  show (false,assign (.Name x.1 x.2) env) :: assignEach _ env=_
  rw [eachNames xs];rfl
theorem as_local {A:Around} {env:Env} {s:Shared} {t:Expr} {v:Value} {pv:V} {fr:Fm} (ht:TgtP K t pv fr) (ha:AOk d A) (hd:∀ p∈ρ,∀ q∈fr,p.1≠q.1) (hr:Rep K env ρ σ s.heap) (hi:Inv σ s) (hv:Rel σ s.heap v pv) {QM:Unit→Shared→Prop}
  (hq:∀ s',Rep K env (fr++ρ) σ s'.heap→Inv σ s'→ExtL env.locals σ s.heap s'.heap→QM () s'):wpAny (model C.prog C.w) A (assign t env v) QM Bot s:=by
 revert hd hv hq
 cases ht with
 | name x pos v hk=>
  intro hd hv hq
  refine wpAny_assign_Name (store_local hk hr hi hv ?_ hq)
  intro p hp
  rcases List.mem_cons.mp hp with rfl | hp
  ·exact .inl rfl
  ·exact .inr ⟨hp,hd p hp _ List.mem_cons_self⟩
 | tup xs k pos vs hl hk hn=>
  intro hd hv hq
  obtain ⟨a,items,n,e₀,ho,_,_,hrs⟩:=hv.inv
  subst e₀
  refine wpAny_assign_Tuple ha.1 ⟨_,ho,rfl,_,rfl⟩ ?_ ?_ fun h' e=>?_
  ·rw [eachNames];simpa [hl] using hrs.length.symm
  ·rw [eachNames];simp
  ·have g:∀ b o',s.heap.get? b=some o'→h'.get? b=some o':=fun b o' q=>e b o' (fun q'=>by subst q';(rw [Heap.get?_size] at q;cases q)) q
   have E:Ext σ s.heap σ h':=Ext.grow g
   rw [eachNames]
   have:((xs.map fun p=>(false,assign (.Name p.1 p.2) env)).map (·.2))=xs.map fun p=>assign (.Name p.1 p.2) env:=by simp
   rw [this]
   have hdis:∀ p∈ρ,p.1∉xs.map (·.1):=fun p hp q=>by
    obtain ⟨j,hj,ej⟩:=List.getElem_of_mem q
    have hps:∀ {l:List Str} {vs:List V},vs.length=l.length→∀ x∈l,∃ q∈pslots l vs,q.1=x:=by
     intro l
     induction l with
     | nil=>intro vs _ x hx;cases hx
     | cons y l ih=>
      intro vs hl x hx
      cases vs with
      | nil=>simp at hl
      | cons w vs=>
       rcases List.mem_cons.mp hx with rfl | hx
       ·exact ⟨_,List.mem_cons_self,rfl⟩
       ·obtain ⟨q,hq,e⟩:=ih (by simpa using hl) x hx
        exact ⟨q,List.mem_cons_of_mem _ hq,e⟩
    obtain ⟨r,hr,er⟩:=hps (vs:=vs) (by simpa using hl) p.1 q
    exact hd p hp r hr er.symm
   exact order_local (s:={ s with heap:=h' }) hl hk hn hdis (hr.mono E) (hi.grow (s':={ s with heap:=h' }) g rfl rfl) (hrs.mono E.seq) fun s' hr' hi' e'=>hq s' hr' hi' ⟨fun a o n q=>e'.keep a o n (g a o q)⟩
end
end Mine
end
section
open PySem PySem.W PyProof.Rows PySem.Calls
namespace Mine
noncomputable def closL (cells:List (Str×Addr)):List (Str×NameKind)→List (Str×Addr)→List (Str×Addr)
 | [],cs=>cs
 | (n,k) :: r,cs=>if k == .free then closL cells r ((n,(cells.lookup n).getD 0) :: cs) else closL cells r cs
set_option tactic.hygienic true in
theorem closL_mem {cells:List (Str×Addr)} {n:Str} {c:Addr}:∀ {names:List (Str×NameKind)} {cs:List (Str×Addr)},(n,c)∈closL cells names cs→(n,c)∈cs∨((n,NameKind.free)∈names∧c=(cells.lookup n).getD 0)
 | [],cs,h=>.inl h
 | (m,k) :: r,cs,h=>by
  unfold closL at h
  split at h
  ·rename_i hk
   have hk':k=.free:=by simpa using hk
   rcases closL_mem h with h | ⟨h,e⟩
   ·rcases List.mem_cons.mp h with e | h
    ·injection e with e1 e2
     subst e1;subst hk'
     exact .inr ⟨List.mem_cons_self,e2⟩
    ·exact .inl h
   ·exact .inr ⟨List.mem_cons_of_mem _ h,e⟩
  ·rcases closL_mem h with h | ⟨h,e⟩
   ·exact .inl h
   ·exact .inr ⟨List.mem_cons_of_mem _ h,e⟩
set_option tactic.hygienic true in
theorem closL_has {cells:List (Str×Addr)} {n:Str}:∀ {names:List (Str×NameKind)} {cs:List (Str×Addr)},((n,NameKind.free)∈names∨∃ c,(n,c)∈cs)→∃ c,(n,c)∈closL cells names cs
 | [],cs,h=>by
  rcases h with h | h
  ·cases h
  ·exact h
 | (m,k) :: r,cs,h=>by
  unfold closL
  split
  ·refine closL_has ?_
   rcases h with h | ⟨c,h⟩
   ·rcases List.mem_cons.mp h with e | h
    ·injection e with e1 e2
     subst e1
     exact .inr ⟨_,List.mem_cons_self⟩
    ·exact .inl h
   ·exact .inr ⟨c,List.mem_cons_of_mem _ h⟩
  ·rename_i hk
   refine closL_has ?_
   rcases h with h | h
   ·rcases List.mem_cons.mp h with e | h
    ·injection e with e1 e2
     subst e2;simp at hk
    ·exact .inl h
   ·exact .inr h
theorem closureFor_ok {env:Env}:∀ (scope:Scope),(∀ x∈scope.names,x.2=.free→∃ c,env.cells.lookup x.1=some c)→closureFor scope env=pure (closL env.cells scope.names []):=by
 intro scope h
 have key:∀ (names:List (Str×NameKind)) (cs:List (Str×Addr)),(∀ x∈names,x.2=.free→∃ c,env.cells.lookup x.1=some c)→
   (forIn names cs fun (x:Str×NameKind) (r:List (Str×Addr))=>(if (x.2 == .free)=true then do let c ← cellOf env x.1;pure (ForInStep.yield ((x.1,c) :: r)) else pure (ForInStep.yield r):Sem (ForInStep (List (Str×Addr)))))=pure (closL env.cells names cs):=by
  intro names
  induction names with
  | nil=>intro cs _;rfl
  | cons p r ih=>
   intro cs hh
   refine bc fun hbc=>?_
   obtain ⟨n,k⟩:=p
   refine hbc ?_
   clear hbc
   have hr:=fun x hx=>hh x (List.mem_cons_of_mem _ hx)
   rw [List.forIn_cons]
   unfold closL
   by_cases hk:(k == NameKind.free)=true
   ·refine bc fun hbc=>?_
    obtain ⟨c,hc⟩:=hh (n,k) List.mem_cons_self (by simpa using hk)
    refine hbc ?_
    clear hbc
    simp only [hk,if_true,cellOf,hc,pure_bind,Option.getD_some]
    exact ih _ hr
   ·simp only [hk,if_false,pure_bind,Bool.false_eq_true]
    exact ih _ hr
 have:=key scope.names [] h
 unfold closureFor
 simp only [bind_pure]
 exact this
section
variable {K:Kx} {ρ:Fm} {σ:Store} {d:Nat} {Q:V→Store→Prop}
noncomputable def relN (K:Kx) (names:List (Str×NameKind)):List (Str×NameKind):=names.map fun p=>if (p.2 == .free && K.names.lookup p.1 == some .cell) then (p.1,.cell) else p
noncomputable def KxC (K:Kx) (scope:Scope):Kx:=⟨relN K scope.names,K.qual,K.code,K.d⟩
theorem relabel_names {env:Env} {h:Heap} (hr:Rep K env ρ σ h) (scope:Scope):(relabel scope env).names=relN K scope.names:=by
 unfold relabel relN
 refine List.map_congr_left fun p _=>?_
 refine bc fun hbc=>?_
 obtain ⟨n,k⟩:=p
 refine hbc ?_
 clear hbc
 have e:env.kindOf n=K.names.lookup n:=congrArg (·.lookup n) hr.names
 simp only [hr.kind,e,beq_self_eq_true,Bool.and_true]
theorem relN_lookup_ne {K:Kx} {x:Str}:∀ {names:List (Str×NameKind)},(relN K names).lookup x=(names.lookup x).map fun k=>if (k == .free && K.names.lookup x == some .cell) then .cell else k
 | []=>rfl
 | (n,k) :: r=>by
  have ih:=@relN_lookup_ne K x r
  have e:relN K ((n,k) :: r)=(n,if (k == .free && K.names.lookup n == some .cell) then NameKind.cell else k) :: relN K r:=by
   show (if (k == NameKind.free && K.names.lookup n == some NameKind.cell)=true then (n,NameKind.cell) else (n,k)) :: _=_
   split<;>rfl
  rw [e,List.lookup_cons,List.lookup_cons,ih]
  by_cases hx:x=n
  ·subst hx
   simp only [beq_self_eq_true,Option.map_some]
  ·have h1:(x == n)=false:=by simpa using hx
   simp only [h1]
noncomputable def IfsP (K:Kx) (ρ:Fm):List Expr→Store→(Bool→Store→Prop)→Prop
 | [],σ,Q=>Q true σ
 | c :: r,σ,Q=>TsP K ρ σ c (fun b σ₁=>if b then IfsP K ρ r σ₁ Q else Q false σ₁)
theorem ifs_ {A:Around} {env:Env} (ha:AOk K.d A):∀ {ifs:List Expr} {σ:Store} {s:Shared} {Q:Bool→Store→Prop},IfsP K ρ ifs σ Q→Rep K env ρ σ s.heap→Inv σ s→∀ {QM:Bool→Shared→Prop},
  (∀ b σ' s',Q b σ'→Inv σ' s'→Ext σ s.heap σ' s'.heap→QM b s')→
  wpAny (model C.prog C.w) A (forIn ifs true fun c r=>if r=true then do let ok ← isTrue c env (eval c env);pure (ForInStep.yield ok) else pure (ForInStep.yield r)) QM Bot s
 | [],σ,s,Q,h,hr,hi,QM,hq=>wpAny_pure (hq true σ s h hi .refl)
 | c :: r,σ,s,Q,h,hr,hi,QM,hq=>by
  rw [List.forIn_cons]
  simp only [if_true]
  refine wpAny_bind (wpAny_bind (h A env s ha hr hi _ fun b σ₁ s₁ h₁ i₁ e₁=>wpAny_pure ?_))
  cases b with
  | true=>exact ifs_ ha h₁ (hr.mono e₁) i₁ fun b σ₂ s₂ q i₂ e₂=>hq b σ₂ s₂ q i₂ (e₁.trans e₂)
  | false=>
   have:∀ l:List Expr,(forIn l false fun c r=>if r=true then do let ok ← isTrue c env (eval c env);pure (ForInStep.yield ok) else pure (ForInStep.yield r):Sem Bool)=pure false:=by
    intro l
    induction l with
    | nil=>rfl
    | cons c l ih=>rw [List.forIn_cons];simp only [Bool.false_eq_true,if_false,pure_bind];exact ih
   show wpAny _ _ (forIn r false _) _ _ _
   rw [this];exact wpAny_pure (hq false σ₁ s₁ h₁ i₁ e₁)
theorem compLoop_any {R:Result→Shared→Prop} {A:Around} {s:Shared} {elt target iter:Expr} {ifs:List Expr} {scope:Scope} {pos:Pos} {it acc:Value} {env:Env} {prog:Program} {w:World} (I:Nat→Shared→Prop)
  (turn:∀ n s,I n s→wpAny (model prog w) A (pyNext it) (fun r s₁=>match r with
   | none=>R (.ok .next) s₁
   | some v=>wpAny (model prog w) A (letOwnedTupleGo target it v) (fun _ s₁'=>wpAny (model prog w) A (assign target env v) (fun _ s₂=>
     wpAny (model prog w) A (forIn ifs true fun c r=>if r=true then do let ok ← isTrue c env (eval c env);pure (ForInStep.yield ok) else pure (ForInStep.yield r)) (fun ok s₃=>
      if ok=true then wpAny (model prog w) A (eval elt env) (fun x s₄=>
       wpAny (model prog w) A (PySem.call (.builtin "list.append") [acc,x]) (fun _ s₅=>∃ m,m < n∧I m s₅) Bot s₄) Bot s₃
      else ∃ m,m < n∧I m s₃) Bot s₂) Bot s₁') Bot s₁) Bot s)
  (n:Nat) (h:I n s):codeAny (model prog w) A (.compLoop (.ListComp elt [⟨target,iter,ifs,0⟩] scope pos) 0 it acc env) R s:=by
 have bot:∀ {α:Type} {t:Sem α} {Q:α→Shared→Prop} {E:Value→Shared→Prop} {s:Shared},wpAny (model prog w) A t Q Bot s→wpAny (model prog w) A t Q E s:=fun h=>wpAny_mono h (fun _ _ x=>x) fun _ _ x=>x.elim
 refine codeAny_loop rfl I (fun n s hI=>?_) n h
 show wpAny _ A ((compTurn (.ListComp elt [⟨target,iter,ifs,0⟩] scope pos) 0 it acc env).onRaise (fun x=>do noteFrame x env;theTreesLotGoes x)) _ _ s
 refine wpAny_noted ?_
 rw [compTurn_list]
 refine wpAny_bind (wpAny_standAt (wpAny_bind (wpAny_mono (turn n s hI) (fun r s₁ h₁=>?_) fun _ _ x=>x.elim)))
 cases r with
 | none=>exact wpAny_pure h₁
 | some v=>
  refine wpAny_bind (wpAny_mono h₁ (fun _ s₁' h₁'=>?_) fun _ _ x=>x.elim)
  refine wpAny_bind (wpAny_mono h₁' (fun _ s₂ h₂=>wpAny_bind (wpAny_mono h₂ (fun ok s₃ h₃=>?_) fun _ _ x=>x.elim)) fun _ _ x=>x.elim)
  cases ok with
  | false=>exact wpAny_pure ⟨rfl,h₃⟩
  | true=>
   exact wpAny_bind (wpAny_bind (wpAny_mono h₃ (fun x s₄ h₄=>wpAny_bind (wpAny_mono h₄ (fun _ s₅ h₅=>wpAny_pure (wpAny_pure ⟨rfl,h₅⟩)) fun _ _ x=>x.elim)) fun _ _ x=>x.elim))
theorem itr_self {it:Addr} {r:List V} {A:Around} {s:Shared} (x:ItSt σ s.heap it r) {QM E:Value→Shared→Prop} (hq:QM (.ref it) s):wpAny (model C.prog C.w) A (pyIter (.ref it)) QM E s:=by
 cases x with
 | lst l vs i hi hr=>exact wpAny_pyIter_listiter hi hq
 | tup l vs i hi hr=>exact wpAny_pyIter_tupleiter hi hq
 | str ty hty x t i hi=>
  rcases hty with rfl | rfl
  ·exact wpAny_pyIter_striter_ascii hi hq
  ·exact wpAny_pyIter_striter_wide hi hq
 | rng x n st hi=>exact wpAny_pyIter_rangeiter hi hq
theorem Inv.drop {s:Shared} {a:Addr} {p:PObj} (i:Inv (upd σ a (some p)) s) (hn:σ a=none) (hc:∀ v,p≠.cell v):Inv σ s∧Ext (upd σ a (some p)) s.heap σ s.heap:=by
 have E:Ext (upd σ a (some p)) s.heap σ s.heap:=⟨fun _ _ e _ _=>e,fun b o e hb _=>by
  by_cases h:b=a
  ·subst h;exact hn
  ·rw [upd_ne σ _ h] at hb;exact hb,fun c v e=>by
  by_cases h:c=a
  ·subst h;(rw [upd_self] at e;cases e);exact absurd rfl (hc v)
  ·rw [upd_ne σ _ h] at e;exact ⟨v,e⟩⟩
 exact ⟨i.step E (fun b q e=>.inl ⟨by
  by_cases h:b=a
  ·subst h;exact absurd (hn.symm.trans e).symm (Option.some_ne_none _)
  ·rw [upd_ne σ _ h];exact e,fun o g=>g⟩) (fun _ _ _ g=>g) rfl rfl,E⟩
end
end Mine
end
section
open PySem PySem.W PyProof.Rows PySem.Calls
namespace Mine
section
variable {K:Kx} {ρ:Fm} {σ:Store} {d:Nat} {Q:V→Store→Prop}
noncomputable abbrev accS (σ:Store) (D:Addr) (acc:List V):Store:=upd σ D (some (.list acc))
theorem Rep.cellEx {env:Env} {s:Shared} (hr:Rep K env ρ σ s.heap) (i:Inv σ s) {x:Str} {c:Addr} (h:env.cells.lookup x=some c):s.heap.get? c≠none:=fun e=>by
 refine bc fun hbc=>?_
 obtain ⟨_,_,_,h4,_⟩:=hr.cells x c h
 obtain ⟨v,o,g,_⟩:=h4 (i.off e)
 refine hbc ?_
 clear hbc
 exact absurd (e.symm.trans g).symm (Option.some_ne_none _)
noncomputable def Freed (K:Kx) (ρ:Fm) (x:Str):Prop:=∃ sl,(x,sl)∈ρ∧K.names.lookup x≠some .local
theorem Freed.cell {env:Env} {h:Heap} (hr:Rep K env ρ σ h) {x:Str} (f:Freed K ρ x):∃ c,env.cells.lookup x=some c:=by
 refine bc fun hbc=>?_
 obtain ⟨sl,hm,hl⟩:=f
 refine hbc ?_
 clear hbc
 have:=hr.vars _ hm
 cases sl with
 | val v=>
  rcases this with ⟨h1,_⟩ | ⟨_,c,_,h2,_⟩
  ·exact absurd h1 hl
  ·exact ⟨c,h2⟩
 | sh c=>exact ⟨c,this.2.1⟩
 | emp=>obtain ⟨_,c,h2,_⟩:=this;exact ⟨c,h2⟩
noncomputable abbrev cenvOf (env:Env) (scope:Scope) (L:Addr):Env:={ scope:=relabel scope env,locals:=L,globals:=env.globals,cells:=closL env.cells scope.names [],qual:=env.qual,func:=none,code:=env.code,frame:=env.frame,builtins:=env.builtins }
theorem comp_rep {env:Env} {scope:Scope} {caps:Fm} {h:Heap} {L:Addr} (hr:Rep K env ρ σ h)
  (hk:scope.kind=.function) (hfree:∀ x∈scope.names,x.2=.free→Freed K ρ x.1)
  (hcaps:∀ p∈caps,p∈ρ∧scope.names.lookup p.1=some .free∧p.2≠.emp)
  (hns:h.Ns L fun _=>none) (hσ:σ L=none) (lo:C.h1.objs.size≤L) (nt:L∉C.tabs) (hLc:∀ x c,env.cells.lookup x=some c→L≠c):
  Rep (KxC K scope) (cenvOf env scope L) caps σ h:=by
 have look:∀ x c,(closL env.cells scope.names []).lookup x=some c→env.cells.lookup x=some c:=fun x c hc=>by
  rcases closL_mem (mem_of_lookup hc) with q | ⟨m,q⟩
  ·cases q
  ·refine bc fun hbc=>?_
   obtain ⟨c',hc'⟩:=(hfree _ m rfl).cell hr
   refine hbc ?_
   clear hbc
   rw [hc'] at q ⊢;exact congrArg some q.symm
 have look':∀ x c,scope.names.lookup x=some .free→env.cells.lookup x=some c→(closL env.cells scope.names []).lookup x=some c:=fun x c hx hc=>by
  refine bc fun hbc=>?_
  obtain ⟨c',hm⟩:=closL_has (cells:=env.cells) (n:=x) (names:=scope.names) (cs:=[]) (.inl (mem_of_lookup hx))
  refine hbc ?_
  clear hbc
  cases q:(closL env.cells scope.names []).lookup x with
  | none=>
   exfalso
   have:∀ {l:List (Str×Addr)},(x,c')∈l→l.lookup x≠none:=by
    intro l
    induction l with
    | nil=>intro h;cases h
    | cons p l ih=>
     intro h
     rw [List.lookup_cons]
     rcases List.mem_cons.mp h with e | h
     ·rw [← e];simp
     ·cases (x == p.1)<;>first | exact ih h | simp
   exact this hm q
  | some c''=>
   have:=look x c'' q
   rw [hc] at this;exact this.symm
 refine ⟨hk,relabel_names hr scope,hr.glob,hr.blt,hr.qual,hr.code,⟨_,hns⟩,⟨hσ,nt,lo⟩,fun x c hc=>?_,fun x y c hx hy=>hr.cinj x y c (look x c hx) (look y c hy),fun p hp=>?_⟩
 ·refine bc fun hbc=>?_
  obtain ⟨h1,h2,h3,h4,h5⟩:=hr.cells x c (look x c hc)
  refine hbc ?_
  clear hbc
  exact ⟨hLc x c (look x c hc),h2,h3,h4,h5⟩
 ·refine bc fun hbc=>?_
  obtain ⟨hm,hl,hne⟩:=hcaps p hp
  have hv:=hr.vars p hm
  obtain ⟨x,sl⟩:=p
  refine hbc ?_
  clear hbc
  have kind:(KxC K scope).names.lookup x=some .cell∨(KxC K scope).names.lookup x=some .free:=by
   show (relN K scope.names).lookup x=_∨(relN K scope.names).lookup x=_
   rw [relN_lookup_ne,show scope.names.lookup x=some .free from hl]
   simp only [Option.map_some]
   split<;>first | exact .inl rfl | exact .inr rfl
  have fr:Freed K ρ x:=hfree _ (mem_of_lookup hl) rfl
  cases sl with
  | val v=>
   rcases hv with ⟨h1,m,mv,h2,h3,h4⟩ | ⟨h1,c,mv,h2,h3,h4,h5,h6⟩
   ·refine bc fun hbc=>?_
    obtain ⟨sl',hm',hl'⟩:=fr
    refine hbc ?_
    clear hbc
    exact absurd h1 hl'
   ·exact .inr ⟨kind,c,mv,look' x c hl h2,h3,h4,h5,h6⟩
  | sh c=>obtain ⟨h1,h2,h3⟩:=hv;exact ⟨kind,look' x c hl h2,h3⟩
  | emp=>exact absurd rfl hne
theorem accS_ne {D b:Addr} {acc:List V} (h:b≠D):accS σ D acc b=σ b:=upd_ne σ _ h
theorem accS_self {D:Addr} {acc:List V}:accS σ D acc D=some (.list acc):=upd_self ..
theorem accS_accS {D:Addr} {acc acc':List V}:upd (accS σ D acc) D (some (.list acc'))=accS σ D acc':=by
 funext b
 by_cases h:b=D
 ·subst h;rw [upd_self,accS_self]
 ·rw [upd_ne _ _ h,accS_ne h,accS_ne h]
theorem accExt {σ₁ σ₂ σ₅:Store} {h₁ h' h'':Heap} {D:Addr} {acc acc':List V} (E:Ext σ₁ h₁ σ₂ h') (F:Ext (accS σ₂ D acc) h' (accS σ₅ D acc') h'') (hD:h₁.get? D=none) (h2:σ₂ D=none) (h5:σ₅ D=none):Ext σ₁ h₁ σ₅ h'':=by
 have ne:∀ a o,h₁.get? a=some o→a≠D:=fun a o e q=>by rw [q,hD] at e;cases e
 refine ⟨fun a o e hs ht=>F.keep a o (E.keep a o e hs ht) ((accS_ne (ne a o e)).trans (E.free a o e hs ht)) ht,fun a o e hs ht=>?_,fun c v e=>?_⟩
 ·have:=F.free a o (E.keep a o e hs ht) ((accS_ne (ne a o e)).trans (E.free a o e hs ht)) ht
  rwa [accS_ne (ne a o e)] at this
 ·refine bc fun hbc=>?_
  obtain ⟨v',e'⟩:=E.cell c v e
  have hc:c≠D:=fun q=>by rw [q,h2] at e';cases e'
  obtain ⟨v'',e''⟩:=F.cell c v' ((accS_ne hc).trans e')
  refine hbc ?_
  clear hbc
  exact ⟨v'',by rwa [accS_ne hc] at e''⟩
theorem Ext.but {σ':Store} {h h₁ h₂:Heap} {a:Addr} (e:Ext σ h σ' h₁) (k:∀ b o,b≠a→h₁.get? b=some o→h₂.get? b=some o) (hn:h.get? a=none):Ext σ h σ' h₂:=
 ⟨fun b o g hs ht=>k b o (fun q=>by rw [q,hn] at g;cases g) (e.keep b o g hs ht),e.free,e.cell⟩
noncomputable def CompTurn (K:Kx) (scope:Scope) (caps:Fm) (target elt:Expr) (ifs:List Expr) (J:List V→List V→Store→Prop):Prop:=
 ∀ x r acc σ₂ D,J (x :: r) acc σ₂→σ₂ D=none→∃ fr,TgtP (KxC K scope) target x fr∧(∀ p∈caps,∀ q∈fr,p.1≠q.1)∧
    IfsP (KxC K scope) (fr++caps) ifs (accS σ₂ D acc) (fun ok σ₃=>if ok=true then EvP (KxC K scope) (fr++caps) σ₃ elt (fun v σ₄=>acc.length < 2 ^ 24∧∃ σ₅,σ₄=accS σ₅ D acc∧σ₅ D=none∧J r (acc++[v]) σ₅)
     else ∃ σ₅,σ₃=accS σ₅ D acc∧σ₅ D=none∧J r acc σ₅)
structure CompOk (K:Kx) (ρ:Fm) (scope:Scope) (caps:Fm):Prop where
 kind:scope.kind=.function
 cell:∀ x∈scope.names,x.2≠.cell
 names:∀ x∈scope.names,x.2=.local→scope.names.lookup x.1=some .local
 free:∀ x∈scope.names,x.2=.free→Freed K ρ x.1
 caps:∀ p∈caps,p∈ρ∧scope.names.lookup p.1=some .free∧p.2≠.emp
inductive CompJ (K:Kx) (env:Env) (caps:Fm) (J:List V→List V→Store→Prop) (D it:Addr) (σ:Store) (h₁:Heap) (n:Nat) (s':Shared):Prop
 | mk (r acc:List V) (σ₂:Store) (e:n=r.length) (hJ:J r acc σ₂) (hd:σ₂ D=none) (hI:Itr (accS σ₂ D acc) s'.heap it r) (hr:Rep K env caps (accS σ₂ D acc) s'.heap) (hi:Inv (accS σ₂ D acc) s') (E:Ext σ h₁ σ₂ s'.heap)
theorem comp_core {elt target iter:Expr} {ifs:List Expr} {scope:Scope} {pos:Pos} (caps:Fm) (ok:CompOk K ρ scope caps) {A:Around} {env:Env} {s₁:Shared} (ha:AOk K.d A) (hr₁:Rep K env ρ σ s₁.heap) (i₁:Inv σ s₁)
  {items:List V} {pv:V} {v:Value} (hit:Items pv items) (r₁:Rel σ s₁.heap v pv) (J:List V→List V→Store→Prop) (hJ:J items [] σ) (turn:CompTurn K scope caps target elt ifs J) {RR:Value→Addr→Result→Shared→Prop}
  (fin:∀ D L acc σ₂ s',J [] acc σ₂→σ₂ D=none→Inv (accS σ₂ D acc) s'→Rep (KxC K scope) (cenvOf env scope L) caps (accS σ₂ D acc) s'.heap→Ext σ s₁.heap σ₂ s'.heap→s₁.heap.get? L=none→D≠L→C.h1.objs.size≤D→RR (.ref D) L (.ok .next) s'):
  wpAny (model C.prog C.w) A (pyIter v) (fun it s₂=>wpAny (model C.prog C.w) A (newList []) (fun acc s₃=>wpAny (model C.prog C.w) A (newFunctionEnv scope env.globals (closL env.cells scope.names []) [] env.qual none .none (some env)) (fun cenv s₄=>
   codeAny (model C.prog C.w) A (.compStart (.ListComp elt [⟨target,iter,ifs,0⟩] scope pos) 0 it acc { cenv with scope:=relabel scope env }) (RR acc cenv.locals) s₄) Bot s₃) Bot s₂) Bot s₁:=by
 refine bc fun hbc=>?_
 obtain ⟨hk,hcell,hnames,hfree,hcaps⟩:=ok
 refine hbc ?_
 clear hbc
 refine itr_iter hit r₁ i₁ ha fun it h₂ fr₂ g₂ hI=>?_
 have i₂:Inv σ { s₁ with heap:=h₂ }:=i₁.grow (s':={ s₁ with heap:=h₂ }) g₂ rfl rfl
 have hr₂:Rep K env ρ σ h₂:=hr₁.mono (Ext.grow g₂)
 refine wpAny_newObj_type (wpAny_newFunctionEnv hcell (by intro y hy;simp at hy) (fun h₄ hns hsb=>?_) hk)
 dsimp only at hns hsb ⊢
 generalize hH3:h₂.push { cls:=.type "list", dict:=none,data:=.seq ([]:List Value).toArray }=H3 at hns hsb ⊢
 have hD:h₂.get? h₂.objs.size=none:=get?_ge (Nat.le_refl _)
 have hC:H3.objs.size=h₂.objs.size + 1:=by rw [← hH3,Heap.size_push]
 have hDC:h₂.objs.size≠H3.objs.size:=by rw [hC];exact Nat.ne_of_lt (Nat.lt_succ_self _)
 have hCn:h₂.get? H3.objs.size=none:=get?_ge (by rw [hC];exact Nat.le_succ _)
 have g₄:∀ b o,h₂.get? b=some o→h₄.get? b=some o:=fun b o e=>hsb.extBut b o (fun q=>by rw [q,hCn] at e;cases e) (Heap.get?_push_of_some _ (hH3 ▸ Heap.get?_push_of_some _ e))
 have hDo:h₄.get? h₂.objs.size=some (lstO #[] 0):=hsb.extBut _ _ hDC (Heap.get?_push_of_some _ (hH3 ▸ Heap.get?_push_size _ rfl))
 refine bc fun hbc=>?_
 obtain ⟨i₄,E₄⟩:=i₂.new (s':={ s₁ with heap:=h₄ }) (p:=.list []) hD i₂.size g₄ ⟨#[],0,hDo,.nil⟩ rfl rfl
 refine hbc ?_
 clear hbc
 have i₄':Inv (accS σ h₂.objs.size []) { s₁ with heap:=h₄,toks:=s₁.toks + ([]:List (Str×Value)).length }:=i₄.toks
 have hr₄:Rep K env ρ (accS σ h₂.objs.size []) h₄:=hr₂.mono E₄
 have hLs:σ H3.objs.size=none:=i₂.off hCn
 have hL:(accS σ h₂.objs.size []) H3.objs.size=none:=(upd_ne σ _ (Ne.symm hDC)).trans hLs
 have hlo:C.h1.objs.size≤H3.objs.size:=by rw [hC];exact Nat.le_trans i₂.size (Nat.le_succ _)
 have rc:Rep (KxC K scope) (cenvOf env scope H3.objs.size) caps (accS σ h₂.objs.size []) h₄:=
  comp_rep hr₄ hk hfree hcaps (by simpa using hns) hL hlo (i₂.notTab hlo) fun x c hc q=>hr₂.cellEx i₂ hc (q ▸ hCn)
 have hitD:it≠h₂.objs.size:=fun q=>by obtain ⟨o,_,e,_⟩:=hI.st.obj;rw [q,hD] at e;cases e
 have hitC:it≠H3.objs.size:=fun q=>by obtain ⟨o,_,e,_⟩:=hI.st.obj;rw [q,hCn] at e;cases e
 have hI₄:Itr (accS σ h₂.objs.size []) h₄ it items:=⟨hI.st.mono (fun o e=>g₄ it o e) E₄.seq,(upd_ne σ _ hitD).trans hI.un,hI.lo,hI.nt⟩
 have hfresh:∀ a o,s₁.heap.get? a=some o→a≠it∧a≠h₂.objs.size∧a≠H3.objs.size:=fun a o e=>
  ⟨fun q=>(by rw [q,fr₂] at e;cases e),fun q=>(by have:=g₂ a o e;rw [q,hD] at this;cases this),fun q=>(by have:=g₂ a o e;rw [q,hCn] at this;cases this)⟩
 have n1:s₁.heap.get? h₂.objs.size=none:=by
  cases q:s₁.heap.get? h₂.objs.size with
  | none=>rfl
  | some o=>exact absurd rfl (hfresh _ o q).2.1
 have n2:s₁.heap.get? H3.objs.size=none:=by
  cases q:s₁.heap.get? H3.objs.size with
  | none=>rfl
  | some o=>exact absurd rfl (hfresh _ o q).2.2
 have d0:σ h₂.objs.size=none:=i₂.off hD
 have hDlo:C.h1.objs.size≤h₂.objs.size:=i₂.size
 have E₁₄:Ext σ s₁.heap σ h₄:=Ext.grow fun b o e=>g₄ b o (g₂ b o e)
 revert i₄' rc hI₄ d0 E₁₄ hDlo hitD hitC n1 n2 hDC
 generalize h₂.objs.size=D
 generalize H3.objs.size=L
 intro hDC i₄' rc hitD hitC hI₄ n1 n2 d0 hDlo E₁₄
 have loop:codeAny (model C.prog C.w) A (.compLoop (.ListComp elt [⟨target,iter,ifs,0⟩] scope pos) 0 (.ref it) (.ref D) (cenvOf env scope L))
   (RR (.ref D) L) { s₁ with heap:=h₄,toks:=s₁.toks + ([]:List (Str×Value)).length }:=by
  refine compLoop_any (CompJ (KxC K scope) (cenvOf env scope L) caps J D it σ s₁.heap) ?_ items.length ⟨items,[],σ,rfl,hJ,d0,hI₄,rc,i₄',E₁₄⟩
  intro n s' hJ2
  refine bc fun hbc=>?_
  obtain ⟨r,acc,σ₂,eq0,hJ,hd,hI,hrc,hi',hE⟩:=hJ2
  refine hbc ?_
  clear hbc
  subst eq0
  refine itr_next hI ha (fun e h'' k=>?_) (fun x r' e v h'' tk k rv hI'=>?_)
  ·subst e
   have nd:=hI.nd
   exact fin D L acc σ₂ { s' with heap:=h'' } hJ hd (hi'.poke (s':={ s' with heap:=h'' }) k rfl rfl) (hrc.poke k nd) (hE.but k.keep fr₂) n2 hDC hDlo
  ·subst e
   have nd:=hI.nd
   have hrc':=hrc.poke k nd
   have hi'':=hi'.poke (s':={ s' with heap:=h'',toks:=tk }) k rfl rfl
   have hE':=hE.but k.keep fr₂
   refine bc fun hbc=>?_
   obtain ⟨fr,ht,hdis,body⟩:=turn x r' acc σ₂ D hJ hd
   refine hbc ?_
   clear hbc
   refine own_go (s:={ s' with heap:=h'',toks:=tk }) hI'.st ?_
   refine as_local (s:={ s' with heap:=h'',toks:=tk }) (d:=K.d) ht ha hdis hrc' hi'' rv fun s₂ hrc₂ hi₂ eL=>?_
   have hE₂:Ext σ s₁.heap σ₂ s₂.heap:=hE'.but eL.keep n2
   have hI₂:Itr (accS σ₂ D acc) s₂.heap it r':=⟨hI'.st.mono (fun o e=>eL.keep it o hitC e) (eL.seq hrc'),hI'.un,hI'.lo,hI'.nt⟩
   refine ifs_ (K:=KxC K scope) ha body hrc₂ hi₂ fun ok σ₃ s₃ q₃ i₃ e₃=>?_
   cases ok with
   | false=>
    refine bc fun hbc=>?_
    obtain ⟨σ₅,rfl,h5,hJ'⟩:=q₃
    refine hbc ?_
    clear hbc
    exact ⟨r'.length,by simp,r',acc,σ₅,rfl,hJ',h5,hI₂.keep hrc₂ e₃.toF,(hrc₂.mono e₃).sub (fun p hp=>List.mem_append_right _ hp),i₃,accExt hE₂ e₃ n1 hd h5⟩
   | true=>
    refine q₃ A (cenvOf env scope L) s₃ ha (hrc₂.mono e₃) i₃ _ fun v pv σ₄ s₄ q₄ i₄ e₄ r₄=>?_
    refine bc fun hbc=>?_
    obtain ⟨hlen,σ₅,rfl,h5,hJ'⟩:=q₄
    refine hbc ?_
    clear hbc
    refine bi_append (d:=K.d) (Q:=fun v σ'=>σ'=accS σ₅ D (acc++[pv])) accS_self hlen accS_accS A s₄ _ _ ha i₄ (.raw _) (.cons (.loc D) (.cons r₄ .nil)) _ fun v' pv' σ₆ s₆ q₆ i₆ e₆ r₆=>?_
    subst q₆
    have EE:=(e₃.trans e₄).trans e₆
    exact ⟨r'.length,by simp,r',acc++[pv],σ₅,rfl,hJ',h5,hI₂.keep hrc₂ EE.toF,(hrc₂.mono EE).sub (fun p hp=>List.mem_append_right _ hp),i₆,accExt hE₂ EE n1 hd h5⟩
 exact codeAny_compStart_list loop (itr_self (s:={ s₁ with heap:=h₄,toks:=s₁.toks + ([]:List (Str×Value)).length }) hI₄.st loop)
theorem Rep.pokeNe {K:Kx} {env:Env} {ρ:Fm} {σ:Store} {h h':Heap} {a:Addr} (r:Rep K env ρ σ h) (k:Poke σ a h h') (hL:env.locals≠a) (hc:∀ x c,env.cells.lookup x=some c→c≠a):Rep K env ρ σ h':=by
 have hns:∀ m,h.Ns env.locals m→h'.Ns env.locals m:=fun m y=>nsTr y fun o e=>k.keep _ o hL e
 have hce:∀ b v,b≠a→h.IsCell b v→h'.IsCell b v:=fun b v n y=>cellTr y fun o e=>k.keep b o n e
 refine bc fun hbc=>?_
 obtain ⟨m,hm⟩:=r.loc
 refine hbc ?_
 clear hbc
 refine ⟨r.kind,r.names,r.glob,r.blt,r.qual,r.code,⟨m,hns m hm⟩,r.locF,fun y c hc'=>?_,r.cinj,fun p hp=>?_⟩
 ·refine bc fun hbc=>?_
  obtain ⟨h1,h2,h3,h4,h5⟩:=r.cells y c hc'
  refine hbc ?_
  clear hbc
  exact ⟨h1,h2,h3,fun e=>(h4 e).elim fun v q=>⟨v,hce _ _ (hc y c hc') q⟩,h5⟩
 ·have hv:=r.vars p hp
  refine bc fun hbc=>?_
  obtain ⟨y,sl⟩:=p
  refine hbc ?_
  clear hbc
  cases sl with
  | val pv=>
   rcases hv with ⟨h1,m,v,h2,h3,h4⟩ | ⟨h1,c,v,h2,h3,h4,h5,h6⟩
   ·exact .inl ⟨h1,m,v,hns m h2,h3,h4.mono k.seq⟩
   ·exact .inr ⟨h1,c,v,h2,hce c _ (hc y c h2) h3,h4.mono k.seq,h5,h6⟩
  | sh c=>exact hv
  | emp=>obtain ⟨h1,c,h2,⟨v,h3⟩,h5,h6⟩:=hv;exact ⟨h1,c,h2,⟨v,hce c _ (hc y c h2) h3⟩,h5,h6⟩
theorem Poke.ofNs {env:Env} {h h':Heap} {m:Str→Option Value} (hm:h.Ns env.locals m) (hf:σ env.locals=none) (lo:C.h1.objs.size≤env.locals) (sb:∀ b o,b≠env.locals→h.get? b=some o→h'.get? b=some o):Poke σ env.locals h h':=
 ⟨sb,fun o e=>⟨hf,lo,by
  refine bc fun hbc=>?_
  obtain ⟨o',es,ep,e',d,_⟩:=hm
  refine hbc ?_
  clear hbc
  obtain rfl:=Option.some.inj (e.symm.trans e')
  exact ⟨fun q=>(by rcases q with ⟨_,_,q⟩ | ⟨_,_,q⟩<;>rw [d] at q<;>cases q),fun vs q=>(by exact (datN (d.symm.trans q) rfl).elim)⟩⟩⟩
theorem ev_comp {elt target iter:Expr} {ifs:List Expr} {scope:Scope} {pos:Pos} (caps:Fm) (ok:CompOk K ρ scope caps)
  (h:EvP K ρ σ iter (fun v σ₁=>∃ items,Items v items∧∃ J:List V→List V→Store→Prop,J items [] σ₁∧CompTurn K scope caps target elt ifs J∧(∀ acc σ₂,J [] acc σ₂→Q (.lst acc) σ₂)))
  (hs:autoParam (∀ env x,foldedSetIterable iter env x=pure x) aI):EvP K ρ σ (.ListComp elt [⟨target,iter,ifs,0⟩] scope pos) Q:=fun A env s ha hr hi QM hq=>by
 rw [eval_ListComp]
 have hclos:closureFor scope env=pure (closL env.cells scope.names []):=closureFor_ok scope fun x hx hf=>(ok.free x hx hf).cell hr
 refine wpAny_comprehension_free (use:=none) (g:=⟨target,iter,ifs,0⟩) (gs:=[]) rfl (hs env) hclos ok.kind ok.names ?_
 refine h A env s ha hr hi _ fun v pv σ₁ s₁ h₁ i₁ e₁ r₁=>?_
 refine bc fun hbc=>?_
 obtain ⟨items,hit,J,hJ,turn,done⟩:=h₁
 refine hbc ?_
 clear hbc
 refine comp_core caps ok ha (hr.mono e₁) i₁ hit r₁ J hJ turn fun D L acc σ₂ s' hJ hd hi' hrc hE n2 hDC hDlo=>?_
 refine bc fun hbc=>?_
 obtain ⟨m,hm⟩:=hrc.loc
 refine hbc ?_
 clear hbc
 refine ⟨m,hm,fun h3 sb=>?_⟩
 have k2:=Poke.ofNs (env:=cenvOf env scope L) hm hrc.locF.1 hrc.locF.2.2 sb.extBut
 have hi3:=hi'.poke (s':={ s' with heap:=h3 }) k2 rfl rfl
 refine bc fun hbc=>?_
 obtain ⟨hi4,E4⟩:=hi3.drop hd (fun v e=>by cases e)
 obtain ⟨its,n,ho,hrs⟩:=(hi3.own D _ accS_self).2
 obtain ⟨its⟩:=its
 refine hbc ?_
 clear hbc
 exact hq _ _ σ₂ _ (done acc σ₂ hJ) hi4 (e₁.trans (hE.but k2.keep n2)) (.lst ho hd (hi4.notTab hDlo) (hrs.mono E4.seq))
theorem st_assign_comp {y:Str} {elt target iter:Expr} {ifs:List Expr} {scope:Scope} {pos py spos:Pos} {Q:Fl→Fm→Store→Prop} (caps:Fm) (ok:CompOk K ρ scope caps) (hy:K.names.lookup y=some .local)
  (h:EvP K ρ σ iter (fun v σ₁=>∃ items,Items v items∧∃ J:List V→List V→Store→Prop,J items [] σ₁∧CompTurn K scope caps target elt ifs J∧(∀ acc σ₂,J [] acc σ₂→∃ ρ',Upd ρ y (.val (.lst acc)) ρ'∧Q .next ρ' σ₂)))
  (hline:autoParam ((py.line == pos.line)=true) aR) (hnot:autoParam ((scope.names.any fun (n,k)=>n == y && (k == .local || k == .cell))=false) aK)
  (hs:autoParam (∀ env x,foldedSetIterable iter env x=pure x) aI):StP K ρ σ (.Assign [.Name y py] (.ListComp elt [⟨target,iter,ifs,0⟩] scope pos) spos) Q:=fun A env s ha hr hi QM hq=>by
 have hsw:swapsWith (.ListComp elt [⟨target,iter,ifs,0⟩] scope pos) (some (.Name y py)) spos.line env=pure true:=by
  have hk:env.kindOf y=some .local:=(congrArg (·.lookup y) hr.names).trans hy
  have hb:env.blockKind=.function:=by unfold Env.blockKind;rw [hr.kind];rfl
  have hl:(py.line == (Expr.ListComp elt [⟨target,iter,ifs,0⟩] scope pos).pos.line)=true:=hline
  show (pure (env.blockKind == .function && env.kindOf y == some .local && py.line == (Expr.ListComp elt [⟨target,iter,ifs,0⟩] scope pos).pos.line && !(scope.names.any fun (n,k)=>n == y && (k == .local || k == .cell))):Sem Bool)=_
  rw [hk,hb,hl,hnot];rfl
 rw [exec_Assign_Name_used _ _ _ _ hsw]
 refine wpAny_bind (wpAny_standAt (wpAny_bind ?_))
 show wpAny _ A (do let _ ← comprehension (.ListComp elt [⟨target,iter,ifs,0⟩] scope pos) scope env _ (newList []) false (eval iter env) (some (assign (.Name y py) env))) _ _ s
 have hclos:closureFor scope env=pure (closL env.cells scope.names []):=closureFor_ok scope fun x hx hf=>(ok.free x hx hf).cell hr
 refine wpAny_bind (wpAny_mono (wpAny_comprehension_free (g:=⟨target,iter,ifs,0⟩) (gs:=[]) (use:=some (assign (.Name y py) env)) (Q:=fun _ s'=>QM .next s') rfl (hs env) hclos ok.kind ok.names ?_) (fun _ s' hq=>wpAny_pure (wpAny_pure hq)) fun _ _ e=>e)
 refine h A env s ha hr hi _ fun v pv σ₁ s₁ h₁ i₁ e₁ r₁=>?_
 refine bc fun hbc=>?_
 obtain ⟨items,hit,J,hJ,turn,done⟩:=h₁
 refine hbc ?_
 clear hbc
 have hr₁:=hr.mono e₁
 refine comp_core caps ok ha hr₁ i₁ hit r₁ J hJ turn fun D L acc σ₂ s' hJ hd hi' hrc hE n2 hDC hDlo=>?_
 refine bc fun hbc=>?_
 obtain ⟨hi4,E4⟩:=hi'.drop hd (fun v e=>by cases e)
 obtain ⟨its,n,ho,hrs⟩:=(hi'.own D _ accS_self).2
 obtain ⟨its⟩:=its
 obtain ⟨ρ',hu,hQ⟩:=done acc σ₂ hJ
 refine hbc ?_
 clear hbc
 have hLs:σ₂ L=none:=by have:=hrc.locF.1;rwa [accS_ne (Ne.symm hDC)] at this
 have nL:env.locals≠L:=fun q=>by obtain ⟨m,o,_,_,e,_⟩:=hr₁.loc;rw [q,n2] at e;cases e
 have nc:∀ x c,env.cells.lookup x=some c→c≠L:=fun x c hc q=>hr₁.cellEx i₁ hc (q ▸ n2)
 refine bc fun hbc=>?_
 obtain ⟨m,hm⟩:=hrc.loc
 refine hbc ?_
 clear hbc
 show wpAny _ A (assign (.Name y py) env (.ref D)) _ _ _
 refine wpAny_assign_Name (store_local hy (hr₁.mono hE) hi4 (.lst ho hd (hi4.notTab hDlo) (hrs.mono E4.seq)) hu fun s₂ hr₂ hi₂ eL=>?_)
 have hm2:s₂.heap.Ns L m:=by
  refine bc fun hbc=>?_
  obtain ⟨o,es,ep,e,q⟩:=hm
  refine hbc ?_
  clear hbc
  exact ⟨o,es,ep,eL.keep L o (Ne.symm nL) e,q⟩
 refine ⟨m,hm2,fun h3 sb=>?_⟩
 have k2:=Poke.ofNs (σ:=σ₂) (env:=cenvOf env scope L) hm2 hLs hrc.locF.2.2 sb.extBut
 have E1:ExtF env σ₁ s₁.heap σ₂ s₂.heap:=⟨fun a o e hs ht hf=>eL.keep a o (fun q=>hf (.inl q)) (hE.keep a o e hs ht),fun a o e hs ht _=>hE.free a o e hs ht,hE.cell⟩
 exact hq .next .next ρ' σ₂ { s₂ with heap:=h3 } hQ trivial (hr₂.pokeNe k2 nL nc) (hi₂.poke (s':={ s₂ with heap:=h3 }) k2 rfl rfl) (e₁.toF.trans (E1.poke k2 n2))
end
end Mine
end
section
open PySem PySem.W PyProof.Rows PySem.Calls
namespace Mine
noncomputable abbrev mkFd (name qual:Str) (params:Arguments) (body:FuncBody) (scope:Scope) (cl:List (Str×Addr)) (pm cdv ct:Value):FuncData:=
 { name,qualname:=qual,params,body,scope,globals:=mainGlobals,closure:=cl,defaults:=.none,kwdefaults:=.none,doc:=.none,pyModule:=pm,annotations:=none,code:=cdv,closureTuple:=ct,builtins:=builtinsNs }
section
variable {M:Model} {A:Around} {E:Value→Shared→Prop} {s:Shared} {name qual:Str} {params:Arguments} {body:FuncBody} {scope:Scope} {env:Env} {c P:Addr} {ps:Array Value} {pos:Pos} {firstLine:Nat} {mg:Str→Option Value}
 {clos:List (Str×Addr)} {Q:Value→Shared→Prop}
noncomputable def NoDoc (body:FuncBody):Prop:=∀ b,body=.stmts b→docOf b=none
theorem mk_tail (hd:NoDoc body) (hcl:closureFor scope env=pure clos) (hge0:env.globals=mainGlobals) (hg:s.heap.Ns mainGlobals mg) (hcode:env.code=.ref c) (CH:CodeHd s.heap c P) (hP:s.heap.get? P=some (tabObj ps)) (ht:TriplesOk ps.toList)
  (hgP:mainGlobals≠P) (hb:s.heap.BuiltinsAt mg P)
  (h:∀ cv ctv h' tk ps',Heap.ExtBut P s.heap h'→s.heap.objs.size≤h'.objs.size→h'.get? P=some (tabObj ps')→
   ((ps'=ps∧codeAmong pos ps.toList=some cv)∨(codeAmong pos ps.toList=none∧∃ c',cv=.ref c'∧s.heap.objs.size≤c'∧ps'=ps++#[rawInt pos.line,rawInt pos.col,.ref c']∧h'.CodeRec (.ref c') qual))→
   Q (.ref h'.objs.size) { s with heap:=h'.push { cls:=.type "function", data:=.func (mkFd name qual params body scope clos ((mg "__name__").getD .none) cv ctv) },toks:=tk }):
  wpAny M A (makeTail name qual params body scope env .none .none none pos firstLine) Q E s:=by
 refine bc fun hbc=>?_
 obtain ⟨bm,ob,hbm,hne0,_,hneP,hbo,hcls,hdict,hdata⟩:=hb
 refine hbc ?_
 clear hbc
 unfold makeTail
 rw [hcl,hge0]
 refine wpAny_bind (wpAny_pure ?_)
 cases clos with
 | nil=>
  simp only [List.isEmpty_nil,if_true]
  refine wpAny_bind (wpAny_pure ?_)
  have k₀:∀ b o,s.heap.get? b=some o→s.heap.get? b=some o:=fun _ _ e=>e
  have hP₀:=k₀ _ _ hP
  have sz:s.heap.objs.size≤s.heap.objs.size:=Nat.le_refl _
  cases hf:codeAmong pos ps.toList with
  | some cv=>
   refine wpAny_bind (wpAny_functionCode_hit hcode ((CH.keeps k₀).code hP₀ ht) hf ?_)
   refine wpAny_bind (wpAny_builtinsFor (hg.keeps k₀) hbm hne0 (k₀ _ _ hbo) hcls hdict hdata ?_)
   cases body with
   | stmts b=>
    have hd':docOf b=none:=hd b rfl
    refine wpAny_bind (wpAny_nsGet (hg.keeps k₀) ?_)
    simp only [hd']
    exact wpAny_bind (wpAny_pure (wpAny_newObj_type (h cv .none _ s.toks ps (fun b o _ e=>k₀ b o e) sz hP₀ (.inl ⟨rfl,hf⟩)) (by size_fits)))
   | expr e=>
    refine wpAny_bind (wpAny_nsGet (hg.keeps k₀) ?_)
    exact wpAny_bind (wpAny_pure (wpAny_newObj_type (h cv .none _ s.toks ps (fun b o _ e=>k₀ b o e) sz hP₀ (.inl ⟨rfl,hf⟩)) (by size_fits)))
  | none=>
   refine wpAny_bind (wpAny_functionCodeX hcode ((CH.keeps k₀).code hP₀ ht) ((CH.keeps k₀).tab hP₀) hf fun c' h' tk hx hge hlt _ hrec htb _=>?_)
   have hg':=(hg.keeps k₀).extBut hx hgP
   refine wpAny_bind (wpAny_builtinsFor hg' hbm hne0 (hx _ _ hneP (k₀ _ _ hbo)) hcls hdict hdata ?_)
   cases body with
   | stmts b=>
    have hd':docOf b=none:=hd b rfl
    refine wpAny_bind (wpAny_nsGet hg' ?_)
    simp only [hd']
    exact wpAny_bind (wpAny_pure (wpAny_newObj_type (h (.ref c') .none h' tk _ (fun b o hb e=>hx b o hb (k₀ b o e)) (Nat.le_trans sz (Nat.le_trans hge (Nat.le_of_lt hlt))) htb.2 (.inr ⟨hf,c',rfl,Nat.le_trans sz hge,rfl,hrec⟩)) (by size_fits)))
   | expr e=>
    refine wpAny_bind (wpAny_nsGet hg' ?_)
    exact wpAny_bind (wpAny_pure (wpAny_newObj_type (h (.ref c') .none h' tk _ (fun b o hb e=>hx b o hb (k₀ b o e)) (Nat.le_trans sz (Nat.le_trans hge (Nat.le_of_lt hlt))) htb.2 (.inr ⟨hf,c',rfl,Nat.le_trans sz hge,rfl,hrec⟩)) (by size_fits)))
 | cons q r=>
  simp only [List.isEmpty_cons,Bool.false_eq_true,if_false]
  refine wpAny_bind (wpAny_newTextTuple ?_)
  generalize hO:({ cls:=Value.type "tuple", data:=Data.seq _ }:Obj)=oT
  have k₀:∀ b o,s.heap.get? b=some o→(s.heap.push oT).get? b=some o:=fun _ _ e=>Heap.get?_push_of_some _ e
  have hP₀:=k₀ _ _ hP
  have sz:s.heap.objs.size≤(s.heap.push oT).objs.size:=by rw [Heap.size_push];walk_at "l"
  cases hf:codeAmong pos ps.toList with
  | some cv=>
   refine wpAny_bind (wpAny_functionCode_hit hcode ((CH.keeps k₀).code hP₀ ht) hf ?_)
   refine wpAny_bind (wpAny_builtinsFor (hg.keeps k₀) hbm hne0 (k₀ _ _ hbo) hcls hdict hdata ?_)
   cases body with
   | stmts b=>
    have hd':docOf b=none:=hd b rfl
    refine wpAny_bind (wpAny_nsGet (hg.keeps k₀) ?_)
    simp only [hd']
    exact wpAny_bind (wpAny_pure (wpAny_newObj_type (h cv _ _ s.toks ps (fun b o _ e=>k₀ b o e) sz hP₀ (.inl ⟨rfl,hf⟩)) (by size_fits)))
   | expr e=>
    refine wpAny_bind (wpAny_nsGet (hg.keeps k₀) ?_)
    exact wpAny_bind (wpAny_pure (wpAny_newObj_type (h cv _ _ s.toks ps (fun b o _ e=>k₀ b o e) sz hP₀ (.inl ⟨rfl,hf⟩)) (by size_fits)))
  | none=>
   refine wpAny_bind (wpAny_functionCodeX hcode ((CH.keeps k₀).code hP₀ ht) ((CH.keeps k₀).tab hP₀) hf fun c' h' tk hx hge hlt _ hrec htb _=>?_)
   have hg':=(hg.keeps k₀).extBut hx hgP
   refine wpAny_bind (wpAny_builtinsFor hg' hbm hne0 (hx _ _ hneP (k₀ _ _ hbo)) hcls hdict hdata ?_)
   cases body with
   | stmts b=>
    have hd':docOf b=none:=hd b rfl
    refine wpAny_bind (wpAny_nsGet hg' ?_)
    simp only [hd']
    exact wpAny_bind (wpAny_pure (wpAny_newObj_type (h (.ref c') _ h' tk _ (fun b o hb e=>hx b o hb (k₀ b o e)) (Nat.le_trans sz (Nat.le_trans hge (Nat.le_of_lt hlt))) htb.2 (.inr ⟨hf,c',rfl,Nat.le_trans sz hge,rfl,hrec⟩)) (by size_fits)))
   | expr e=>
    refine wpAny_bind (wpAny_nsGet hg' ?_)
    exact wpAny_bind (wpAny_pure (wpAny_newObj_type (h (.ref c') _ h' tk _ (fun b o hb e=>hx b o hb (k₀ b o e)) (Nat.le_trans sz (Nat.le_trans hge (Nat.le_of_lt hlt))) htb.2 (.inr ⟨hf,c',rfl,Nat.le_trans sz hge,rfl,hrec⟩)) (by size_fits)))
end
end Mine
end
section
open PySem PySem.W PyProof.Rows PySem.Calls
namespace Mine
section
variable {K:Kx} {ρ:Fm} {σ:Store} {d:Nat}
theorem ObjRel.swap {σ':Store} {h:Heap} {b:Addr} {p:PObj} (hs:SeqKeep σ h σ' h) (hc:∀ cd q,CodeOk σ h cd q→CodeOk σ' h cd q) (x:ObjRel σ h b p):ObjRel σ' h b p:=by
 cases p with
 | list vs=>obtain ⟨items,n,e,r⟩:=x;exact ⟨items,n,e,r.mono hs⟩
 | ns at_=>obtain ⟨es,n,e,r⟩:=x;exact ⟨es,n,e,r.mono hs⟩
 | inst c d=>exact x
 | cell v=>cases v with
  | none=>exact x
  | some v=>obtain ⟨v,n,q⟩:=x;exact ⟨v,n,q.mono hs⟩
 | func f cap d=>obtain ⟨o,fd,e,c,d,f1,f2,f3,f4,f5,f6,f7,f8,f9,f10,f11,f12⟩:=x;exact ⟨o,fd,e,c,d,f1,f2,f3,f4,f5,f6,f7,f8,f9,f10,f11,hc _ _ f12⟩
 | bound f self=>obtain ⟨v,e,q⟩:=x;exact ⟨v,e,q.mono hs⟩
 | citer f sent=>obtain ⟨v,u,e,q,q'⟩:=x;exact ⟨v,u,e,q.mono hs,q'.mono hs⟩
 | cend=>exact x
 | riter vs i=>obtain ⟨l,e,q⟩:=x;exact ⟨l,e,q.mono hs⟩
theorem share_cell {s:Shared} {env:Env} {x:Str} {c:Addr} {ov:Option V} {r':Fm} (hi:Inv σ s) (hr:Rep K env ρ σ s.heap) (hl:env.cells.lookup x=some c) (hk:K.names.lookup x=some .cell) (hσ:σ c=none)
  (ho:ObjRel (upd σ c (some (.cell ov))) s.heap c (.cell ov)) (hrest:Rest ρ x r'):
  Inv (upd σ c (some (.cell ov))) s∧Rep K env ((x,.sh c) :: r') (upd σ c (some (.cell ov))) s.heap∧∀ σ' h',ExtF env (upd σ c (some (.cell ov))) s.heap σ' h'→ExtF env σ s.heap σ' h':=by
 refine bc fun hbc=>?_
 obtain ⟨h1,h2,h3,h4,h5⟩:=hr.cells x c hl
 obtain ⟨v0,oc,hoc,hod⟩:=h4 hσ
 refine hbc ?_
 clear hbc
 have nf:∀ o,s.heap.get? c=some o→o.data=.cell v0:=fun o e=>by obtain rfl:=Option.some.inj (hoc.symm.trans e);exact hod
 have hs:SeqKeep σ s.heap (upd σ c (some (.cell ov))) s.heap:=⟨fun _ _ e _ _ _=>e,fun b o e f hb _=>by
  rw [upd_ne σ _ (fun q=>by
   subst q
   have:=nf o e
   rcases f with ⟨_,_,f⟩ | ⟨_,_,f⟩<;>rw [this] at f<;>cases f)]
  exact hb⟩
 have hcode:∀ cd q,CodeOk σ s.heap cd q→CodeOk (upd σ c (some (.cell ov))) s.heap cd q:=fun cd q ⟨⟨c',o,vs,t,e,g,dd,r⟩,z⟩=>⟨⟨c',o,vs,t,e,g,dd,r⟩,fun c'' e'=>⟨by
  rw [upd_ne σ _ (fun q=>by
   subst q
   (rw [e] at e';cases e')
   have:=nf o g
   exact (datN (dd.symm.trans this) rfl).elim)]
  exact (z c'' e').1,(z c'' e').2⟩⟩
 refine ⟨⟨hi.base,hi.top,fun a p e=>?_,hi.tabLt,fun n hn=>?_,hi.gens,hi.os⟩,⟨hr.kind,hr.names,hr.glob,hr.blt,hr.qual,hr.code,hr.loc,⟨?_,hr.locF.2⟩,fun y c' hc'=>?_,hr.cinj,fun p hp=>?_⟩,fun σ' h' e=>?_⟩
 ·by_cases ha:a=c
  ·subst ha
   (rw [upd_self] at e;cases e)
   exact ⟨h2,ho⟩
  ·rw [upd_ne σ _ ha] at e
   exact ⟨(hi.own a p e).1,(hi.own a p e).2.swap hs hcode⟩
 ·refine bc fun hbc=>?_
  obtain ⟨ps,g,t,f⟩:=hi.tabs n hn
  refine hbc ?_
  clear hbc
  exact ⟨ps,g,t,fun dd hd cv hc=>hcode _ _ (f dd hd cv hc)⟩
 ·rw [upd_ne σ _ h1];exact hr.locF.1
 ·refine bc fun hbc=>?_
  obtain ⟨g1,g2,g3,g4,g5⟩:=hr.cells y c' hc'
  refine hbc ?_
  clear hbc
  refine ⟨g1,g2,g3,fun e=>?_,fun o e=>?_⟩
  ·by_cases hcc:c'=c
   ·subst hcc;(rw [upd_self] at e;cases e)
   ·rw [upd_ne σ _ hcc] at e;exact g4 e
  ·by_cases hcc:c'=c
   ·subst hcc;(rw [upd_self] at e;cases e);exact ⟨_,rfl⟩
   ·rw [upd_ne σ _ hcc] at e;exact g5 o e
 ·rcases List.mem_cons.mp hp with rfl | hp
  ·exact ⟨.inl hk,hl,_,upd_self ..⟩
  ·refine bc fun hbc=>?_
   obtain ⟨hp,hne⟩:=hrest p hp
   have hv:=hr.vars p hp
   obtain ⟨y,sl⟩:=p
   refine hbc ?_
   clear hbc
   have nec:∀ c',env.cells.lookup y=some c'→c'≠c:=fun c' e q=>hne (hr.cinj y x c' e (q ▸ hl))
   cases sl with
   | val pv=>
    rcases hv with ⟨g1,m,v,g2,g3,g4⟩ | ⟨g1,c',v,g2,g3,g4,g5,g6⟩
    ·exact .inl ⟨g1,m,v,g2,g3,g4.mono hs⟩
    ·exact .inr ⟨g1,c',v,g2,g3,g4.mono hs,(upd_ne σ _ (nec c' g2)).trans g5,g6⟩
   | sh c'=>
    refine bc fun hbc=>?_
    obtain ⟨g1,g2,o,g3⟩:=hv
    refine hbc ?_
    clear hbc
    exact ⟨g1,g2,o,(upd_ne σ _ (nec c' g2)).trans g3⟩
   | emp=>
    refine bc fun hbc=>?_
    obtain ⟨g1,c',g2,g3,g5,g6⟩:=hv
    refine hbc ?_
    clear hbc
    exact ⟨g1,c',g2,g3,(upd_ne σ _ (nec c' g2)).trans g5,g6⟩
 ·have foot:Foot env c:=.inr ⟨x,(congrArg (·.lookup x) hr.names).trans hk,hl⟩
  have ne:∀ a,¬ Foot env a→a≠c:=fun a ha q=>ha (q ▸ foot)
  exact ⟨fun a o g hs' ht hf=>e.keep a o g ((upd_ne σ _ (ne a hf)).trans hs') ht hf,fun a o g hs' ht hf=>e.free a o g ((upd_ne σ _ (ne a hf)).trans hs') ht hf,fun c' v hc'=>e.cell c' v (by
   rw [upd_ne σ _ (fun q=>by rw [q,hσ] at hc';cases hc')];exact hc')⟩
theorem ex_share {x:Str} {v:V} {r':Fm} {ss:List Stmt} {Q:Fl→Fm→Store→Prop} (hx:(x,Slot.val v)∈ρ) (hk:K.names.lookup x=some .cell) (hrest:Rest ρ x r')
  (h:∀ c,σ c=none→ExP K ((x,.sh c) :: r') (upd σ c (some (.cell (some v)))) ss Q):ExP K ρ σ ss Q:=fun A env s ha hr hi QM hq=>by
 rcases hr.vars _ hx with ⟨h1,_⟩ | ⟨_,c,mv,h2,h3,h4,h5,h6⟩
 ·(rw [hk] at h1;cases h1)
 ·have nf:∀ o,s.heap.get? c=some o→o.data=.cell (some mv):=fun o e=>by obtain ⟨o',e',d'⟩:=h3;obtain rfl:=Option.some.inj (e'.symm.trans e);exact d'
  obtain ⟨i',r'',e'⟩:=share_cell (ov:=some v) hi hr h2 hk h5 ⟨mv,h3,h4.mono ⟨fun _ _ e _ _ _=>e,fun b o e f hb _=>by
   rw [upd_ne σ _ (fun q=>by
    subst q
    have:=nf o e
    rcases f with ⟨_,_,f⟩ | ⟨_,_,f⟩<;>rw [this] at f<;>cases f)]
   exact hb⟩⟩ hrest
  exact h c h5 A env s ha r'' i' QM fun f fl ρ' σ' s' q a b cc e=>hq f fl ρ' σ' s' q a b cc (e' _ _ e)
theorem ex_share0 {x:Str} {r':Fm} {ss:List Stmt} {Q:Fl→Fm→Store→Prop} (hx:(x,Slot.emp)∈ρ) (hrest:Rest ρ x r')
  (h:∀ c,σ c=none→ExP K ((x,.sh c) :: r') (upd σ c (some (.cell none))) ss Q):ExP K ρ σ ss Q:=fun A env s ha hr hi QM hq=>by
 refine bc fun hbc=>?_
 obtain ⟨hk,c,h2,⟨⟨_,rfl⟩,h3⟩,h5,h6⟩:=hr.vars _ hx
 obtain ⟨i',r'',e'⟩:=share_cell (ov:=none) hi hr h2 hk h5 h3 hrest
 refine hbc ?_
 clear hbc
 exact h c h5 A env s ha r'' i' QM fun f fl ρ' σ' s' q a b cc e=>hq f fl ρ' σ' s' q a b cc (e' _ _ e)
theorem Inv.letgo {s:Shared} {a:Addr} {p:PObj} (i:Inv σ s) (ha:σ a=some p) (hc:∀ v,p≠.cell v):Inv (upd σ a none) s∧Ext σ s.heap (upd σ a none) s.heap:=by
 have E:Ext σ s.heap (upd σ a none) s.heap:=⟨fun _ _ e _ _=>e,fun b o e hb _=>by
  by_cases h:b=a
  ·subst h;exact upd_self ..
  ·rw [upd_ne σ _ h];exact hb,fun c v e=>by
  by_cases h:c=a
  ·subst h;obtain rfl:=Option.some.inj (ha.symm.trans e);exact absurd rfl (hc v)
  ·exact ⟨v,by rw [upd_ne σ _ h];exact e⟩⟩
 exact ⟨i.step E (fun b q e=>.inl ⟨by
  by_cases h:b=a
  ·subst h;(rw [upd_self] at e;cases e)
  ·rw [upd_ne σ _ h] at e;exact e,fun o g=>g⟩) (fun _ _ _ g=>g) rfl rfl,E⟩
theorem frzRel {s:Shared} {a:Addr} {vs:List V} {v:Value} (i:Inv σ s) (ha:σ a=some (.list vs)) (r:Rel σ s.heap v (.loc a)):Rel (upd σ a none) s.heap v (.lst vs):=by
 cases r
 refine bc fun hbc=>?_
 obtain ⟨⟨items⟩,n,ho,hr⟩:=(i.own a _ ha).2
 refine hbc ?_
 clear hbc
 exact .lst ho (upd_self ..) (i.notTab (i.own a _ ha).1) (hr.mono (i.letgo ha (fun v e=>by cases e)).2.seq)
theorem ex_freeze {x:Str} {a:Addr} {vs:List V} {r':Fm} {ss:List Stmt} {Q:Fl→Fm→Store→Prop} (ha:σ a=some (.list vs)) (hx:(x,Slot.val (.loc a))∈ρ) (hrest:Rest ρ x r')
  (h:ExP K ((x,.val (.lst vs)) :: r') (upd σ a none) ss Q):ExP K ρ σ ss Q:=fun A env s hA hr hi QM hq=>by
 refine bc fun hbc=>?_
 obtain ⟨i',E⟩:=hi.letgo ha (fun v e=>by cases e)
 refine hbc ?_
 clear hbc
 have hr':=hr.mono E
 refine h A env s hA ⟨hr'.kind,hr'.names,hr'.glob,hr'.blt,hr'.qual,hr'.code,hr'.loc,hr'.locF,hr'.cells,hr'.cinj,fun p hp=>?_⟩ i' QM fun f fl ρ' σ' s' q a b cc e=>hq f fl ρ' σ' s' q a b cc (E.toF.trans e)
 rcases List.mem_cons.mp hp with rfl | hp
 ·rcases hr.vars _ hx with ⟨h1,m,v,h2,h3,h4⟩ | ⟨h1,c,v,h2,h3,h4,h5,h6⟩
  ·exact .inl ⟨h1,m,v,h2,h3,frzRel hi ha h4⟩
  ·refine .inr ⟨h1,c,v,h2,h3,frzRel hi ha h4,?_,h6⟩
   rw [upd_ne σ _ (fun q=>by rw [q,ha] at h5;cases h5)];exact h5
 ·exact hr'.vars p (hrest p hp).1
theorem store_shared {x:Str} {c:Addr} {ov:Option V} {v:Value} {pv:V} {A:Around} {env:Env} {s:Shared} (hx:(x,Slot.sh c)∈ρ) (hk:K.names.lookup x=some .cell) (hc:σ c=some (.cell ov))
  (hr:Rep K env ρ σ s.heap) (hi:Inv σ s) (hv:Rel σ s.heap v pv) {QM:Unit→Shared→Prop}
  (hq:∀ s',Inv (upd σ c (some (.cell (some pv)))) s'→Ext σ s.heap (upd σ c (some (.cell (some pv)))) s'.heap→QM () s'):wpAny (model C.prog C.w) A (storeName env x v) QM Bot s:=by
 refine bc fun hbc=>?_
 obtain ⟨_,hl,_⟩:=hr.vars _ hx
 refine hbc ?_
 clear hbc
 obtain ⟨v₀,hcell⟩:∃ v₀,s.heap.IsCell c v₀:=by
  have:=(hi.own c _ hc).2
  cases ov with
  | none=>exact ⟨_,this⟩
  | some w=>obtain ⟨mv,q,_⟩:=this;exact ⟨_,q⟩
 refine wpAny_storeName_cell hr.kind ((congrArg (·.lookup x) hr.names).trans hk) hl hcell fun h' hn hs=>?_
 have hsq:SeqKeep σ s.heap (upd σ c (some (.cell (some pv)))) h':=⟨fun b o e _ hb _=>(hs.2 b (fun q=>by rw [q,hc] at hb;cases hb)).trans e,fun b o e _ hb _=>by
  rw [upd_ne σ _ (fun q=>by rw [q,hc] at hb;cases hb)];exact hb⟩
 refine bc fun hbc=>?_
 obtain ⟨i',E⟩:=hi.set (s':={ s with heap:=h' }) (p':=.cell (some pv)) hc hs.extBut (fun v e=>⟨_,rfl⟩) ⟨v,hn,hv.mono hsq⟩ rfl rfl
 refine hbc ?_
 clear hbc
 exact hq _ i' E
end
end Mine
end
section
open PySem PySem.W PyProof.Rows PySem.Calls
namespace Mine
structure Ctx.Ok3 (C:Ctx):Prop extends C.Ok2 where
 heads:∀ n∈C.nest,CodeHd C.h1 n.code n.table∧n.code∉C.tabs
 inj:∀ n∈C.nest,∀ n'∈C.nest,n.table=n'.table→n=n'
 bi:∃ bm o,C.mg "__builtins__" = some (.ref bm)∧bm≠builtinsNs∧bm≠mainGlobals∧bm∉C.tabs∧C.h1.get? bm=some o∧o.cls=.type "module" ∧ o.dict=some builtinsNs∧o.data=.plain
 apart:∀ n∈C.nest,∀ d∈n.defs,∀ d'∈n.defs,d.1.line=d'.1.line→d.1.col=d'.1.col→d=d'
section
variable {K:Kx} {ρ:Fm} {σ:Store} {d:Nat}
theorem codeAmong_app {p:Pos} {a b:Int} {t u:Tok} {cv:Value}:∀ (l:List Value),TriplesOk l→codeAmong p (l++[.int a t,.int b u,cv])=(codeAmong p l).or (if a == p.line && b == p.col then some cv else none):=by
 intro l h
 fun_induction TriplesOk l with
 | case1=>simp [codeAmong]
 | case2 a' t' b' u' x rest ih=>
  simp only [List.cons_append,codeAmong]
  split
  ·rfl
  ·exact ih h
 | case3 l h1 h2=>exact h.elim
inductive CapL (ρ:Fm):List (Str×NameKind)→List (Str×Addr)→List (Str×Addr)→Prop where
 | nil (cs:List (Str×Addr)):CapL ρ [] cs cs
 | free {n:Str} {c:Addr} {r:List (Str×NameKind)} {cs out:List (Str×Addr)} (h:(n,Slot.sh c)∈ρ) (t:CapL ρ r ((n,c) :: cs) out):CapL ρ ((n,.free) :: r) cs out
 | other {n:Str} {k:NameKind} {r:List (Str×NameKind)} {cs out:List (Str×Addr)} (h:k≠.free) (t:CapL ρ r cs out):CapL ρ ((n,k) :: r) cs out
theorem CapL.closL {env:Env} {h:Heap} (hr:Rep K env ρ σ h) {names:List (Str×NameKind)} {cs out:List (Str×Addr)} (x:CapL ρ names cs out):closL env.cells names cs=out:=by
 induction x with
 | nil cs=>rfl
 | free hm t ih=>
  refine bc fun hbc=>?_
  obtain ⟨_,hl,_⟩:=hr.vars _ hm
  refine hbc ?_
  clear hbc
  unfold Mine.closL
  simp only [beq_self_eq_true,if_true,hl,Option.getD_some]
  exact ih
 | other hk t ih=>
  unfold Mine.closL
  rw [if_neg (by simpa using hk)]
  exact ih
theorem CapL.tot {env:Env} {h:Heap} (hr:Rep K env ρ σ h) {names:List (Str×NameKind)} {cs out:List (Str×Addr)} (x:CapL ρ names cs out):∀ y∈names,y.2=.free→∃ c,env.cells.lookup y.1=some c:=by
 induction x with
 | nil cs=>intro y hy;cases hy
 | free hm t ih=>
  intro y hy hf
  rcases List.mem_cons.mp hy with rfl | hy
  ·obtain ⟨_,hl,_⟩:=hr.vars _ hm;exact ⟨_,hl⟩
  ·exact ih y hy hf
 | other hk t ih=>
  intro y hy hf
  rcases List.mem_cons.mp hy with rfl | hy
  ·exact absurd hf hk
  ·exact ih y hy hf
set_option tactic.hygienic true in
theorem mk_fn (O:C.Ok3) {n:Nest} (hn:n∈C.nest) {name qual:Str} {params:Arguments} {body:FuncBody} {scope:Scope} {cap:List (Str×Addr)} {pos:Pos} {firstLine:Nat} (hd:NoDoc body) (hdef:(pos,qual)∈n.defs) (hcode:K.code=.ref n.code)
  (hcap:CapL ρ scope.names [] cap) {A:Around} {env:Env} {s:Shared} (hr:Rep K env ρ σ s.heap) (hi:Inv σ s) {QM:Value→Shared→Prop}
  (hq:∀ a s',σ a=none→Inv (upd σ a (some (.func ⟨name,qual,params,body,scope⟩ cap none))) s'→Ext σ s.heap (upd σ a (some (.func ⟨name,qual,params,body,scope⟩ cap none))) s'.heap→QM (.ref a) s'):
  wpAny (model C.prog C.w) A (makeTail name qual params body scope env .none .none none pos firstLine) QM Bot s:=by
 refine bc fun hbc=>?_
 obtain ⟨ps,hP,ht,hdefs⟩:=hi.tabs n hn
 have tm:n.table∈C.tabs:=List.mem_map.mpr ⟨n,hn,rfl⟩
 obtain ⟨CH,hct⟩:=O.heads n hn
 refine hbc ?_
 clear hbc
 have CHs:CodeHd s.heap n.code n.table:=by
  refine bc fun hbc=>?_
  obtain ⟨o,vs,file,tf,flags,tg,inF,text,tt,e,r⟩:=CH
  refine hbc ?_
  clear hbc
  exact ⟨o,vs,file,tf,flags,tg,inF,text,tt,hi.base _ o e hct,r⟩
 have hb:s.heap.BuiltinsAt C.mg n.table:=by
  refine bc fun hbc=>?_
  obtain ⟨bm,o,b1,b2,b3,b4,b5,b6⟩:=O.bi
  refine hbc ?_
  clear hbc
  exact ⟨bm,o,b1,b2,b3,fun q=>b4 (q ▸ tm),hi.base _ o b5 b4,b6⟩
 have hclos:closureFor scope env=pure cap:=by rw [closureFor_ok scope (hcap.tot hr),hcap.closL hr]
 refine mk_tail hd hclos hr.glob (hi.ns O.g O.gt) (hr.code.trans hcode) CHs hP ht (fun q=>O.gt (q ▸ tm)) hb fun cv ctv h' tk ps' hx hsz hP' hcv=>?_
 have low:n.table < C.h1.objs.size:=hi.tabLt n hn
 generalize hF:({ cls:=.type "function", data:=.func (mkFd name qual params body scope cap ((C.mg "__name__").getD .none) cv ctv) }:Obj)=fo
 have hsn:s.heap.get? h'.objs.size=none:=get?_ge hsz
 have lo:C.h1.objs.size≤h'.objs.size:=Nat.le_trans hi.size hsz
 have ne:∀ b o,s.heap.get? b=some o→b≠h'.objs.size:=fun b o e q=>by rw [q,hsn] at e;cases e
 have kk:∀ b o,b≠n.table→s.heap.get? b=some o→(h'.push fo).get? b=some o:=fun b o hb e=>Heap.get?_push_of_some _ (hx b o hb e)
 let p:PObj:=.func ⟨name,qual,params,body,scope⟩ cap none
 have E:Ext σ s.heap (upd σ h'.objs.size (some p)) (h'.push fo):=⟨fun b o e _ hb=>kk b o (fun q=>hb (q ▸ tm)) e,fun b o e hb _=>by rw [upd_ne σ _ (ne b o e)];exact hb,fun c v e=>⟨v,by
  rw [upd_ne σ _ (fun q=>by rw [q,hi.off hsn] at e;cases e)];exact e⟩⟩
 have codeOk:CodeOk (upd σ h'.objs.size (some p)) (h'.push fo) cv qual:=by
  rcases hcv with ⟨_,hf⟩ | ⟨_,c',rfl,hge,_,hrec⟩
  ·exact (hdefs _ hdef cv hf).mono E
  ·refine ⟨hrec.push _,fun c e=>?_⟩
   cases e
   refine bc fun hbc=>?_
   obtain ⟨c,o,vs,t,e,g,_⟩:=hrec
   refine hbc ?_
   clear hbc
   cases e
   have nc:c'≠h'.objs.size:=fun q=>by have:=Heap.lt_size g;rw [q] at this;exact Nat.lt_irrefl _ this
   exact ⟨by rw [upd_ne σ _ nc];exact hi.off (get?_ge hge),hi.notTab (Nat.le_trans hi.size hge)⟩
 refine hq h'.objs.size { s with heap:=h'.push fo,toks:=tk } (hi.off hsn) ⟨fun a o e hta=>kk a o (fun q=>hta (q ▸ tm)) (hi.base a o e hta),hi.top,fun a q e=>?_,hi.tabLt,fun m hm=>?_,hi.gens,hi.os⟩ E
 ·by_cases ha:a=h'.objs.size
  ·subst ha
   (rw [upd_self] at e;cases e)
   exact ⟨lo,fo,_,Heap.get?_push_size _ (by rw [← hF];rfl),by rw [← hF],by rw [← hF],by rw [← hF],rfl,rfl,rfl,rfl,rfl,rfl,rfl,rfl,rfl,rfl,codeOk⟩
  ·rw [upd_ne σ _ ha] at e
   exact ⟨(hi.own a q e).1,(hi.own a q e).2.mono E (fun o g=>kk a o (fun z=>absurd low (Nat.not_lt.mpr (z ▸ (hi.own a q e).1))) g)⟩
 ·by_cases hmn:m.table=n.table
  ·have:=O.inj m hm n hn hmn
   subst this
   refine ⟨ps',Heap.get?_push_of_some _ hP',?_,fun dd hdd cv' hc'=>?_⟩
   ·rcases hcv with ⟨rfl,_⟩ | ⟨_,c',_,_,rfl,_⟩
    ·exact ht
    ·simpa using TriplesOk_snoc pos.line pos.col (.ref c') ps.toList ht
   ·rcases hcv with ⟨rfl,_⟩ | ⟨hnone,c',rfl,_,rfl,_⟩
    ·exact (hdefs dd hdd cv' hc').mono E
    ·have e0:(ps++#[rawInt (pos.line:Int),rawInt (pos.col:Int),Value.ref c']).toList=ps.toList++[.int pos.line 0,.int pos.col 0,.ref c']:=by simp [rawInt]
     rw [e0,codeAmong_app ps.toList ht] at hc'
     cases hq':codeAmong dd.1 ps.toList with
     | some w=>
      rw [hq'] at hc'
      have:w=cv':=by simpa using hc'
      subst this
      exact (hdefs dd hdd w hq').mono E
     | none=>
      rw [hq'] at hc'
      simp only [Option.none_or] at hc'
      split at hc'
      ·rename_i hcc
       cases hc'
       simp only [Bool.and_eq_true,beq_iff_eq] at hcc
       have:=O.apart m hm (pos,qual) hdef dd hdd (by have:=hcc.1;exact_mod_cast this) (by have:=hcc.2;exact_mod_cast this)
       rw [← this];exact codeOk
      ·cases hc'
  ·refine bc fun hbc=>?_
   obtain ⟨qs,g,t,f⟩:=hi.tabs m hm
   refine hbc ?_
   clear hbc
   exact ⟨qs,kk _ _ hmn g,t,fun dd hdd cv' hc'=>(f dd hdd cv' hc').mono E⟩
theorem ev_lambda (O:C.Ok3) {n:Nest} (hn:n∈C.nest) {params:Arguments} {body:Expr} {scope:Scope} {cap:List (Str×Addr)} {pos:Pos} {Q:V→Store→Prop} (hdef:(pos,K.qual ++ "<lambda>")∈n.defs) (hcode:K.code=.ref n.code)
  (hcap:CapL ρ scope.names [] cap) (h0:params.defaults=[]) (h1:params.kw_defaults=[])
  (h:∀ a,σ a=none→Q (.loc a) (upd σ a (some (.func ⟨"<lambda>", K.qual ++ "<lambda>", params,.expr body,scope⟩ cap none)))):EvP K ρ σ (.Lambda params body scope pos) Q:=fun A env s ha hr hi QM hq=>by
 rw [arm_eval_Lambda,defaultsOf_eq,h0,h1]
 show wpAny _ _ (do let dv ← evalAll [];let kdv ← holding dv (evalAllOpt []);makeFunction "<lambda>" (env.qual ++ "<lambda>") params (.expr body) scope env dv kdv [] pos pos.line) _ _ _
 refine wpAny_bind (wpAny_evalAll_nil (wpAny_bind (wpAny_holding (wpAny_pure ?_))))
 rw [makeFunction_eq]
 simp only [List.zip_nil_right,List.filterMap_nil,List.isEmpty_nil,if_true,pure_bind]
 rw [hr.qual]
 exact mk_fn O hn (fun b e=>by cases e) hdef hcode hcap hr hi fun a s' hs i' e'=>hq _ _ _ s' (h a hs) i' e' (.loc a)
theorem st_def (O:C.Ok3) {n:Nest} (hn:n∈C.nest) {name:Str} {params:Arguments} {body:List Stmt} {scope:Scope} {cap:List (Str×Addr)} {pos:Pos} {c:Addr} {Q:Fl→Fm→Store→Prop} (hdef:(pos,K.qual++name)∈n.defs) (hcode:K.code=.ref n.code)
  (hcap:CapL ρ scope.names [] cap) (hdoc:docOf body=none) (h0:params.defaults=[]) (h1:params.kw_defaults=[]) (h2:params.kwonlyargs=[]) (hann:∀ env,annTrees params none env=[])
  (hx:(name,Slot.sh c)∈ρ) (hk:K.names.lookup name=some .cell) {ov:Option V} (hc:σ c=some (.cell ov))
  (h:∀ a,σ a=none→Q .next ρ (upd (upd σ a (some (.func ⟨name,K.qual++name,params,.stmts body,scope⟩ cap none))) c (some (.cell (some (.loc a)))))):StP K ρ σ (.FunctionDef name params body [] none [] scope none name pos) Q:=fun A env s ha hr hi QM hq=>by
 have hqn:qualnameIn env name name=K.qual++name:=by
  unfold qualnameIn
  have:env.kindOf name=some .cell:=(congrArg (·.lookup name) hr.names).trans hk
  rw [this,hr.qual];rfl
 rw [exec_def,defaultsOf_eq,h0,h1,hann env,hqn]
 refine wpAny_bind (wpAny_standAt (wpAny_bind (wpAny_holding ?_)))
 refine wpAny_bind (wpAny_evalAll_nil (wpAny_bind (wpAny_holding (wpAny_pure ?_))))
 refine wpAny_holding ?_
 show wpAny _ _ (do let ann ← evalNamed [];makeFunction name (K.qual++name) params (.stmts body) scope env [] [] ann pos pos.line) _ _ _
 refine wpAny_bind (wpAny_pure ?_)
 rw [makeFunction_eq,h2]
 simp only [List.zip_nil_right,List.filterMap_nil,List.isEmpty_nil,if_true,pure_bind]
 refine mk_fn O hn (fun b e=>by cases e;exact hdoc) hdef hcode hcap hr hi fun a s' hs i' e'=>?_
 have nca:c≠a:=fun q=>by rw [q,hs] at hc;cases hc
 refine wpAny_bind (wpAny_standAt (wpAny_bind (wpAny_bindName (store_shared hx hk ((upd_ne σ _ nca).trans hc) (hr.mono e') i' (.loc a) fun s'' i'' e''=>wpAny_pure ?_))))
 exact hq .next .next ρ _ s'' (h a hs) trivial (hr.mono (e'.trans e'')) i'' (e'.trans e'').toF
end
end Mine
end
section
open PySem PySem.W PyProof.Rows PySem.Calls
namespace Mine
structure FnB (f:Addr) (R:FnRec) (code:Value):Prop where
 nt:f∉C.tabs
 is:FnIs C.h1 f R [] code
 ct:∀ c,code=.ref c→c∉C.tabs
section
variable {K:Kx} {ρ:Fm} {σ:Store} {d:Nat} {Q:V→Store→Prop}
theorem FnB.at {f:Addr} {R:FnRec} {code:Value} (x:FnB f R code) {s:Shared} (i:Inv σ s):FnIs s.heap f R [] code:=by
 refine bc fun hbc=>?_
 obtain ⟨nt,⟨⟨o,fd,e,r⟩,c,oc,vs,t,ec,g,q⟩,ct⟩:=x
 refine hbc ?_
 clear hbc
 exact ⟨⟨o,fd,i.base _ _ e nt,r⟩,c,oc,vs,t,ec,i.base _ _ g (ct c ec),q⟩
theorem FnB.keep {f:Addr} {R:FnRec} {code:Value} (x:FnB f R code):KeepOk σ (.raw (.ref f)):=by
 refine bc fun hbc=>?_
 obtain ⟨nt,⟨⟨o,fd,e,hd,_⟩,_⟩,_⟩:=x
 refine hbc ?_
 clear hbc
 exact keep_fn e nt hd
theorem cv_fn (O:C.Ok2) {f:Addr} {R:FnRec} {code:Value} {body:List Stmt} {names:List Str} {args:List V} (hf:FnB f R code) (hb:R.body=.stmts body) (hbind:Binds R names) (hnd:names.Nodup) (hlen:args.length=names.length)
  (hloc:∀ x∈names,R.scope.names.lookup x=some .local) (hcell:∀ x∈R.scope.names,x.2≠.cell) (hk:R.scope.kind=.function) (hco:R.scope.isCoroutine=false) (hgen:R.scope.isGenerator=false)
  (h:ExP (KxOf R code d) (pslots names args) σ body (RetQ Q)):CallV (d + 1) (.raw (.ref f)) args σ Q:=fun A s v vs ha hi hv hr QM hq=>by
 obtain ⟨_,rfl⟩:=Rel.inv hv
 exact wpAny_call (call_plain O (caps:=[]) (cap:=[]) hb hbind hnd hlen hloc hcell (fun x c e=>by simp at e) (fun x y c e=>by simp at e) (fun p hp=>by cases hp) hk hco hgen (by simpa using h) ha hi hr (hf.at hi) hq)
theorem cv_fnC (O:C.Ok2) {f:Addr} {R:FnRec} {code:Value} {body:List Stmt} {names emps:List Str} {args:List V} (hf:FnB f R code) (hb:R.body=.stmts body) (hbind:Binds R names) (hnd:names.Nodup) (hlen:args.length=names.length)
  (hloc:∀ x∈names,R.scope.names.lookup x=some .local∨(R.scope.names.lookup x=some .cell∧∀ n,((cellsFrom n R.scope.names []).lookup x).isSome=true))
  (hemp:∀ x∈emps,x∉names∧R.scope.names.lookup x=some .cell∧∀ n,((cellsFrom n R.scope.names []).lookup x).isSome=true)
  (hk:R.scope.kind=.function) (hco:R.scope.isCoroutine=false) (hgen:R.scope.isGenerator=false)
  (h:ExP (KxOf R code d) (pslots names args++emps.map fun x=>(x,.emp)) σ body (RetQ Q)):CallV (d + 1) (.raw (.ref f)) args σ Q:=fun A s v vs ha hi hv hr QM hq=>by
 obtain ⟨_,rfl⟩:=Rel.inv hv
 exact wpAny_call (call_cells O hb hbind hnd hlen hloc hemp hk hco hgen h ha hi hr (hf.at hi) hq)
theorem func_is {s:Shared} (i:Inv σ s) {a:Addr} {R:FnRec} {cap:List (Str×Addr)} {dd:Option Addr} (h:σ a=some (.func R cap dd)):∃ code,FnIs s.heap a R cap code:=by
 refine bc fun hbc=>?_
 obtain ⟨o,fd,e,c,dct,hd,f1,f2,f3,f4,f5,f6,f7,f8,f9,f10,f11,f12⟩:=(i.own a _ h).2
 refine hbc ?_
 clear hbc
 exact ⟨fd.code,⟨o,fd,e,hd,f3,f4,f5,f6,f7,f8,f9,f10,f2,rfl⟩,f11⟩
theorem cv_loc (O:C.Ok2) {a:Addr} {R:FnRec} {cap:List (Str×Addr)} {dd:Option Addr} {body:List Stmt} {names:List Str} {args:List V} {caps:Fm} (hf:σ a=some (.func R cap dd)) (hb:R.body=.stmts body) (hbind:Binds R names) (hnd:names.Nodup)
  (hlen:args.length=names.length) (hloc:∀ x∈names,R.scope.names.lookup x=some .local) (hcell:∀ x∈R.scope.names,x.2≠.cell) (hcap:∀ x c,cap.lookup x=some c→∃ o,σ c=some (.cell o))
  (hinj:∀ x y c,cap.lookup x=some c→cap.lookup y=some c→x=y) (hcaps:∀ p∈caps,∃ c,p.2=.sh c∧cap.lookup p.1=some c∧R.scope.names.lookup p.1=some .free)
  (hk:R.scope.kind=.function) (hco:R.scope.isCoroutine=false) (hgen:R.scope.isGenerator=false)
  (h:∀ code,ExP (KxOf R code d) (pslots names args++caps) σ body (RetQ Q)):CallV (d + 1) (.loc a) args σ Q:=fun A s v vs ha hi hv hr QM hq=>by
 obtain ⟨_,rfl⟩:=Rel.inv hv
 refine bc fun hbc=>?_
 obtain ⟨code,hfi⟩:=func_is hi hf
 refine hbc ?_
 clear hbc
 exact wpAny_call (call_plain O hb hbind hnd hlen hloc hcell hcap hinj hcaps hk hco hgen (h code) ha hi hr hfi hq)
theorem cv_lam (O:C.Ok2) {a:Addr} {R:FnRec} {cap:List (Str×Addr)} {dd:Option Addr} {body:Expr} {names:List Str} {args:List V} {caps:Fm} (hfn:σ a=some (.func R cap dd)) (hb:R.body=.expr body) (hbind:Binds R names) (hnd:names.Nodup)
  (hlen:args.length=names.length) (hloc:∀ x∈names,R.scope.names.lookup x=some .local) (hcell:∀ x∈R.scope.names,x.2≠.cell) (hcap:∀ x c,cap.lookup x=some c→∃ o,σ c=some (.cell o))
  (hinj:∀ x y c,cap.lookup x=some c→cap.lookup y=some c→x=y) (hcaps:∀ p∈caps,∃ c,p.2=.sh c∧cap.lookup p.1=some c∧R.scope.names.lookup p.1=some .free)
  (hk:R.scope.kind=.function) (hco:R.scope.isCoroutine=false) (hgen:R.scope.isGenerator=false)
  (h:∀ code,EvP (KxOf R code d) (pslots names args++caps) σ body Q):CallV (d + 1) (.loc a) args σ Q:=fun A s v vs ha hi hv hr QM hq=>by
 obtain ⟨_,rfl⟩:=Rel.inv hv
 refine bc fun hbc=>?_
 obtain ⟨code,hf⟩:=func_is hi hfn
 obtain ⟨o,fd,ho,hd,f1,f2,f3,f4,f5,f6,f7,f8,f9,f10⟩:=hf.get
 refine hbc ?_
 clear hbc
 have hvs:vs.length=names.length:=hr.length.trans hlen
 have hdep:A.depth < recursionLimit:=by
  have:=ha.2.1
  show A.depth < 1000
  lia
 refine wpAny_call (kla_callFunE (fd:=fd) (body:=body) hdep ho hd (by rw [f3];exact hco) (by rw [f3];exact hgen) (f2.trans hb) (by rw [f10,f9];exact hf.cr) ?_)
 rw [hbind fd f1 f6 f7 vs hvs]
 refine wpAny_pure (wpAny_newFunctionEnv (by rw [f3];exact hcell) (fun x hx=>by rw [f3];exact hloc _ (List.of_mem_zip hx).1) (fun h₀ hns hsb=>⟨(hi.nolimit O).fresh _ hsb,kla_codeExpr ?_⟩) (by rw [f3];exact hk))
 have LN:s.heap.get? s.heap.objs.size=none:=get?_ge (Nat.le_refl _)
 have hk₀:∀ b o,s.heap.get? b=some o→h₀.get? b=some o:=fun b o e=>hsb.extBut b o (fun q=>by rw [q,LN] at e;cases e) (Heap.get?_push_of_some _ e)
 have g₀:∀ b o,s.heap.get? b=some o→(({ s with heap:=h₀,toks:=s.toks + (names.zip vs).length }:Shared)).heap.get? b=some o:=hk₀
 have i₀:Inv σ { s with heap:=h₀,toks:=s.toks + (names.zip vs).length }:=hi.grow g₀ rfl rfl
 have rep:Rep (KxOf R code d) (callEnv fd s.heap.objs.size a) (pslots names args++caps) σ h₀:=by
  refine ⟨by show fd.scope.kind=_;rw [f3];exact hk,by show fd.scope.names=_;rw [f3];rfl,f4,f8,by show fd.qualname++_=_;rw [f9];rfl,f10,⟨_,hns⟩,⟨hi.off LN,hi.notTab hi.size,hi.size⟩,fun x c hc=>?_,fun x y c hx hy=>?_,fun p hp=>?_⟩
  ·rw [show (callEnv fd s.heap.objs.size a).cells=fd.closure from rfl,f5] at hc
   refine bc fun hbc=>?_
   obtain ⟨oc,hoc⟩:=hcap x c hc
   refine hbc ?_
   clear hbc
   have lo:=(hi.own c _ hoc).1
   refine ⟨fun q=>?_,lo,hi.notTab lo,fun q=>(by exact absurd (hoc.symm.trans q) (Option.some_ne_none _)),fun o' q=>(by obtain rfl:=Option.some.inj (hoc.symm.trans q);exact ⟨oc,rfl⟩)⟩
   rw [show (callEnv fd s.heap.objs.size a).locals=s.heap.objs.size from rfl] at q
   rw [← q,hi.off LN] at hoc;cases hoc
  ·rw [show (callEnv fd s.heap.objs.size a).cells=fd.closure from rfl,f5] at hx hy
   exact hinj x y c hx hy
  ·rcases List.mem_append.mp hp with hp | hp
   ·refine bc fun hbc=>?_
    obtain ⟨b,e,m⟩:=mem_pslots hp
    refine hbc ?_
    clear hbc
    rw [e] at hp ⊢
    refine bc fun hbc=>?_
    obtain ⟨v,hv,rv⟩:=zip_reverse_lookup hnd hr hp
    refine hbc ?_
    clear hbc
    exact .inl ⟨hloc _ m,_,v,hns,hv,rv.mono (Ext.grow hk₀).seq⟩
   ·refine bc fun hbc=>?_
    obtain ⟨c,e1,e2,e3⟩:=hcaps p hp
    refine hbc ?_
    clear hbc
    rw [show p=(p.1,Slot.sh c) from by rw [← e1]]
    exact ⟨.inr e3,by show fd.closure.lookup _=_;rw [f5];exact e2,hcap _ _ e2⟩
 exact wpAny_mono (h code (A.deeper (callEnv fd s.heap.objs.size a)) (callEnv fd s.heap.objs.size a) _ ha.call rep i₀ (fun v s'=>∃ pv σ',Q pv σ'∧Inv σ' s'∧Ext σ s.heap σ' s'.heap∧Rel σ' s'.heap v pv)
  fun v pv σ' s' q i' e' r'=>⟨pv,σ',q,i',(Ext.grow hk₀).trans e',r'⟩) (fun v s' x=>by obtain ⟨pv,σ',q,i',E,rv⟩:=x;exact hq _ pv σ' s' q i' E rv) fun _ _ x=>x.elim
end
end Mine
end
section
open PySem PySem.W PyProof.Rows PySem.Calls PySem.Spec PySem.SeqAt
namespace Mine
open Ia Ib
section
variable {K:Kx} {ρ:Fm} {σ:Store} {d:Nat} {Q:V→Store→Prop}
theorem cmp_in {a b:V} {da:PyData} {ds:List PyData} (ha:Dat σ a da) (hb:Dat σ b (.list ds)) (sa:shaped da=true) (sb:shaped (.list ds)=true) (hm:∀ y∈ds,noMix y da=true) (q:Q (.bool (decide (countIn da ds≠0))) σ):M2 d (compareOp .In) a b σ Q:=fun A s x y hA hi hx hy QM hq=>by
 refine bc fun hbc=>?_
 obtain ⟨as,ra⟩:=ha.reads hi hx
 obtain ⟨bs,rb⟩:=hb.reads hi hy
 refine hbc ?_
 clear hbc
 exact in_list_dataH rb ra sb sa hA.units hm (hq _ _ _ _ q hi .refl (.bool _))
theorem cmp_notIn {a b:V} {da:PyData} {ds:List PyData} (ha:Dat σ a da) (hb:Dat σ b (.list ds)) (sa:shaped da=true) (sb:shaped (.list ds)=true) (hm:∀ y∈ds,noMix y da=true) (q:Q (.bool (!decide (countIn da ds≠0))) σ):M2 d (compareOp .NotIn) a b σ Q:=fun A s x y hA hi hx hy QM hq=>by
 refine bc fun hbc=>?_
 obtain ⟨as,ra⟩:=ha.reads hi hx
 obtain ⟨bs,rb⟩:=hb.reads hi hy
 refine hbc ?_
 clear hbc
 exact notIn_list_dataH rb ra sb sa hA.units hm (hq _ _ _ _ q hi .refl (.bool _))
theorem cmp_inT {a b:V} {da:PyData} {ds:List PyData} (ha:Dat σ a da) (hb:Dat σ b (.tuple ds)) (sa:shaped da=true) (sb:shaped (.tuple ds)=true) (hm:∀ y∈ds,noMix y da=true) (q:Q (.bool (decide (countIn da ds≠0))) σ):M2 d (compareOp .In) a b σ Q:=fun A s x y hA hi hx hy QM hq=>by
 refine bc fun hbc=>?_
 obtain ⟨as,ra⟩:=ha.reads hi hx
 obtain ⟨bs,rb⟩:=hb.reads hi hy
 refine hbc ?_
 clear hbc
 exact in_tuple_dataH rb ra sb sa hA.units hm (hq _ _ _ _ q hi .refl (.bool _))
theorem cmp_notInT {a b:V} {da:PyData} {ds:List PyData} (ha:Dat σ a da) (hb:Dat σ b (.tuple ds)) (sa:shaped da=true) (sb:shaped (.tuple ds)=true) (hm:∀ y∈ds,noMix y da=true) (q:Q (.bool (!decide (countIn da ds≠0))) σ):M2 d (compareOp .NotIn) a b σ Q:=fun A s x y hA hi hx hy QM hq=>by
 refine bc fun hbc=>?_
 obtain ⟨as,ra⟩:=ha.reads hi hx
 obtain ⟨bs,rb⟩:=hb.reads hi hy
 refine hbc ?_
 clear hbc
 exact notIn_tuple_dataH rb ra sb sa hA.units hm (hq _ _ _ _ q hi .refl (.bool _))
theorem cmp_inS {x y:List Nat} (q:Q (.bool (Txt.contains ⟨y.toArray⟩ ⟨x.toArray⟩)) σ):M2 d (compareOp .In) (.str x) (.str y) σ Q:=fun A s a b hA hi hx hy QM hq=>by
 obtain ⟨_,rfl⟩:=Rel.inv hx;obtain ⟨_,rfl⟩:=Rel.inv hy
 exact P.in_str (hq _ _ _ _ q hi .refl (.bool _))
theorem bin_cat {a b:V} {xs ys:List V} (ha:LV σ a xs) (hb:LV σ b ys) (hl:xs.length + ys.length≤2 ^ 24) (q:Q (.lst (xs++ys)) σ):M2 d (binaryOp .Add) a b σ Q:=fun A s x y hA hi hx hy QM hq=>by
 refine bc fun hbc=>?_
 obtain ⟨p,i1,n1,rfl,h1,r1⟩:=ha.at hi hx
 obtain ⟨p',i2,n2,rfl,h2,r2⟩:=hb.at hi hy
 refine hbc ?_
 clear hbc
 have g:∀ o b o',s.heap.get? b=some o'→(s.heap.push o).get? b=some o':=fun o b o' e=>Heap.get?_push_of_some _ e
 have e1:i1.size=xs.length:=by rw [← r1.length];simp
 have e2:i2.size=ys.length:=by rw [← r2.length];simp
 refine P.add_list h1 h2 (hq _ _ _ _ q (hi.grow (s':={ s with heap:=_ }) (g _) rfl rfl) (Ext.grow (g _)) (new_lst (items:=i1.toList++i2.toList) (n:=0) hi (r1.append r2) (get?_ge (Nat.le_refl _)) hi.size (g _) ?_)) (by rw [e1,e2];exact hl)
 have:(i1.toList++i2.toList).toArray=i1++i2:=by simp
 rw [this];exact Heap.get?_push_size _ rfl
theorem rels_rep {h:Heap} {items:List Value} {vs:List V} (r:Rels σ h items vs):∀ n:Nat,Rels σ h (List.replicate n items).flatten (List.replicate n vs).flatten
 | 0=>.nil
 | n + 1=>by rw [List.replicate_succ,List.replicate_succ,List.flatten_cons,List.flatten_cons];exact r.append (rels_rep r n)
theorem foldl_appV (l:List (Array Value)):∀ a:Array Value,(l.foldl (fun x1 x2=>x1++x2) a).toList=a.toList++(l.map Array.toList).flatten:=by
 induction l with
 | nil=>intro a;simp
 | cons x l ih=>intro a;simp [ih]
set_option tactic.hygienic true in
theorem mul_row {a:V} {xs:List V} {n:Nat} (ha:LV σ a xs) (hl:n * xs.length≤2 ^ 24) (hn:n≤2 ^ 24) {A:Around} {s:Shared} {x y:Value} (hi:Inv σ s) (hx:Rel σ s.heap x a) (hy:Rel σ s.heap y (.int n)) {QM:Value→Shared→Prop}
  (hq:∀ items:Array Value,Rels σ s.heap items.toList (List.replicate n xs).flatten→QM (.ref s.heap.objs.size) { s with heap:=s.heap.push { cls:=.type "list", data:=.seq items } }):wpAny (model C.prog C.w) A (binaryOp .Mult x y) QM Bot s:=by
 refine bc fun hbc=>?_
 obtain ⟨p,it,k,rfl,h1,r1⟩:=ha.at hi hx
 refine hbc ?_
 clear hbc
 obtain ⟨_,rfl⟩:=Rel.inv hy
 rename_i u
 have e1:it.size=xs.length:=by rw [← r1.length];simp
 have hsz:it.size * (n:Int).toNat≤2 ^ 24:=by rw [e1,Nat.mul_comm];simpa using hl
 have q1:(n:Int).toNat=n:=by simp
 have q2:it.size * (n:Int).toNat≤16777216:=hsz
 generalize hz:(n:Int)=z at *
 have b1:-(9223372036854775808:Int)≤z:=by lia
 have b2:z < 9223372036854775808:=by lia
 have key:=AutoListH.list___mul___list_int_3 p it k z u (by simp [Builtin.List.listFitsIndex];lia) (by lia) (by simp [Builtin.List.listTooLong,sizeLine];walk_at "l")
 refine wpAny_binaryOp_repeat_ref (T := "list") (U := "int") (by decide) ⟨_,h1,rfl⟩ (fun s'=>typeIs_int s' z u) noFill_list_mul F.fills_int_mul F.slot_int_rmul repeat_list F.slot_int_index.lookup
  (call_meets F.slot_int_rmul (typeIs_int s z u) F.entry_int_rmul (F.args_int_rmul_2 _ _) (int___rmul___int_list z u p it k)
   ⟨h1,rfl,⟨_,h1,rfl⟩,call_meets F.slot_list_mul ⟨_,h1,rfl⟩ F.entry_list_mul (F.args_list_mul_2 _ _)
    key ⟨h1,?_⟩⟩)
 refine hq _ ?_
 rw [foldl_appV]
 have:((List.replicate (if it.isEmpty=true then 0 else z.toNat) it).map Array.toList).flatten=(List.replicate n it.toList).flatten:=by
  by_cases he:it.isEmpty=true
  ·have h0:it=#[]:=by simpa using he
   subst h0
   simp
  ·rw [if_neg he,q1];simp
 rw [this]
 simpa using rels_rep r1 n
theorem bin_mul {a:V} {xs:List V} {n:Nat} (ha:LV σ a xs) (hl:n * xs.length≤2 ^ 24) (hn:n≤2 ^ 24) (q:Q (.lst (List.replicate n xs).flatten) σ):M2 d (binaryOp .Mult) a (.int n) σ Q:=fun A s x y hA hi hx hy QM hq=>by
 have g:∀ o b o',s.heap.get? b=some o'→(s.heap.push o).get? b=some o':=fun o b o' e=>Heap.get?_push_of_some _ e
 refine mul_row ha hl hn hi hx hy fun items r=>?_
 obtain ⟨items⟩:=items
 exact hq _ _ _ _ q (hi.grow (s':={ s with heap:=_ }) (g _) rfl rfl) (Ext.grow (g _)) (new_lst hi r (get?_ge (Nat.le_refl _)) hi.size (g _) (Heap.get?_push_size _ rfl))
theorem bin_mulO {a:V} {xs:List V} {n:Nat} (ha:LV σ a xs) (hl:n * xs.length≤2 ^ 24) (hn:n≤2 ^ 24) (q:∀ p,σ p=none→Q (.loc p) (upd σ p (some (.list (List.replicate n xs).flatten)))):M2 d (binaryOp .Mult) a (.int n) σ Q:=fun A s x y hA hi hx hy QM hq=>by
 have g:∀ o b o',s.heap.get? b=some o'→(s.heap.push o).get? b=some o':=fun o b o' e=>Heap.get?_push_of_some _ e
 refine mul_row ha hl hn hi hx hy fun items r=>?_
 have hne:=get?_ge (Nat.le_refl s.heap.objs.size)
 have:=hi.new (s':={ s with heap:=s.heap.push (lstO items 0) }) (p:=.list (List.replicate n xs).flatten) hne hi.size (g _) ⟨items,0,Heap.get?_push_size _ rfl,r.mono ⟨fun b o e _ _ _=>g _ b o e,fun b o e _ hb _=>by
  rw [upd_ne σ _ (fun z=>by rw [z,hne] at e;cases e)];exact hb⟩⟩ rfl rfl
 exact hq _ _ _ _ (q _ (hi.off hne)) this.1 this.2 (.loc _)
open Builtin in
inductive Ibin:Operator→V→V→V→Prop where
 | add (a b:Int):Ibin .Add (.int a) (.int b) (.int (a + b))
 | sub (a b:Int):Ibin .Sub (.int a) (.int b) (.int (a - b))
 | shl (a n:Int) (hn:0≤n) (h:(Builtin.Int.intBits a:Int) + n≤2 ^ 27):Ibin .LShift (.int a) (.int n) (.int (a * 2 ^ n.toNat))
 | shr (a n:Int) (hn:0≤n):Ibin .RShift (.int a) (.int n) (.int (a.fdiv (2 ^ n.toNat)))
 | cat (x y:List Nat) (h:x.length + y.length≤2 ^ 24):Ibin .Add (.str x) (.str y) (.str (x++y))
theorem ibin_ {op:Operator} {a b v:V} (h:Ibin op a b v) (q:Q v σ):M2 d (inplaceOp op) a b σ Q:=
 (Ibin.casesOn (motive:=fun op a b v _=>Q v σ→M2 d (inplaceOp op) a b σ Q) h
  (fun a b q=>m2_ii q fun h=>P.iadd_int (h _ _))
  (fun a b q=>m2_ii q fun h=>P.isub_int (h _ _))
  (fun a n hn h' q=>m2_ii q fun h=>ilshift_int hn h' (h _ _))
  (fun a n hn q=>m2_ii q fun h=>irshift_int hn (h _ _))
  (fun x y h' q=>m2_ss q fun h=>iadd_str h (by show x.toArray.size + y.toArray.size≤2 ^ 24;simpa using h'))) q
theorem setItem_own {s:Shared} {A:Around} {a:Addr} {vs:List V} {k:Int} {t:Tok} {v:Value} {pv:V} (hi:Inv σ s) (hs:σ a=some (.list vs)) (h0:0≤k) (hk:k.toNat < vs.length) (hl:vs.length < 2 ^ 25) (hv:Rel σ s.heap v pv) {QM:Unit→Shared→Prop}
  (hq:∀ s',Inv (upd σ a (some (.list (vs.set k.toNat pv)))) s'→Ext σ s.heap (upd σ a (some (.list (vs.set k.toNat pv)))) s'.heap→QM () s'):wpAny (model C.prog C.w) A (setItem (.ref a) (.int k t) v) QM Bot s:=by
 refine bc fun hbc=>?_
 obtain ⟨items,n,ho,hrs⟩:=(hi.own _ _ hs).2
 refine hbc ?_
 clear hbc
 have hl':s.heap.IsList a items:=⟨_,ho,rfl,n,rfl⟩
 have hsz:items.size=vs.length:=by rw [← hrs.length];simp
 unfold setItem
 try with_reducible refine wpAny_holding ?_
 first | refine wpAny_bind (wpAny_pure ?_) | skip
 refine wpAny_bind (wpAny_sequenceKey hl'.typeIs (by decide) ?_)
 refine wpAny_bind (wpAny_callSpecial?_slot (name:=Str.ofString "__setitem__") hl'.typeIs slot_list_setitem
  (wpAny_call_entry slot_list_setitem hl'.typeIs entry_list_setitem ?_ (args_list_setitem _ _ _)))
 show wpAny _ _ (Builtin.List.listSubscript? (.int k t) >>= _) _ _ s
 refine wpAny_bind (wpAny_listSubscript_int (fitsIndex_of h0 (by lia)) ?_)
 refine bc fun hbc=>?_
 obtain ⟨j,eq0⟩:=Int.eq_ofNat_of_zero_le h0
 refine hbc ?_
 clear hbc
 subst eq0
 have hj:j < items.size:=by rw [hsz];simpa using hk
 have hx':items[j]?=some items[j]:=Array.getElem?_eq_getElem hj
 show wpAny _ _ ((seqItemAt a j >>= fun r=>pure (r.map (j,·))) >>= _) _ _ s
 refine wpAny_bind (wpAny_bind (wpAny_seqItemAt ho rfl (wpAny_pure ?_)))
 rw [hx']
 show wpAny _ _ (setSeqItemAt a j v >>= _) _ _ s
 have hu:IsL (s.heap.update a (Obj.mapSeq (·.setIfInBounds j v))) a _ _:=IsL.update ho _
 have hset:∀ {l:List Value} {pl:List V} (j:Nat),Rels σ s.heap l pl→Rels σ s.heap (l.set j v) (pl.set j pv):=fun j r=>
  r.ind (P:=fun l pl=>∀ j,Rels σ s.heap (l.set j v) (pl.set j pv)) (fun _=>.nil) (fun _ _ _ _ h1 h2 ih j=>j.casesOn (.cons hv h2) fun j=>.cons h1 (ih j)) j
 obtain ⟨i',e'⟩:=set_list (tk:=s.toks) hi hs (Heap.SameBut.update s.heap a _).extBut hu (vs':=vs.set (j:Int).toNat pv) (by
  have:(items.setIfInBounds j v).toList=items.toList.set j v:=by simp
  rw [this];exact hset j hrs)
 refine wpAny_bind (wpAny_setSeqItemAt ho rfl ?_)
 first
  | exact wpAny_bind (wpAny_pure (wpAny_pure ⟨.none,rfl,wpAny_pure (hq { s with heap:=_ } i' e')⟩))
  | exact wpAny_pure ⟨.none,rfl,wpAny_pure (hq { s with heap:=_ } i' e')⟩
theorem as_item {o i:Expr} {pos:Pos} {pv:V} {Q:Fm→Store→Prop}
  (h:EvP K ρ σ o (fun ov σ₁=>EvP K ρ σ₁ i (fun iv σ₂=>∃ a vs k,ov=.loc a∧iv=.int k∧σ₂ a=some (.list vs)∧0≤k∧k.toNat < vs.length∧vs.length < 2 ^ 25∧Q ρ (upd σ₂ a (some (.list (vs.set k.toNat pv))))))):
  AsP K ρ σ (.Subscript o i pos) pv Q:=fun A env s v ha hr hi hv QM hq=>by
 rw [arm_assign_Subscript]
 refine wpAny_bind (wpAny_holding (h A env s ha hr hi _ fun x ox σ₁ s₁ h₁ i₁ e₁ r₁=>wpAny_bind (wpAny_holding (h₁ A env s₁ ha (hr.mono e₁) i₁ _ fun y oy σ₂ s₂ h₂ i₂ e₂ r₂=>wpAny_bind (wpAny_standAt ?_)))))
 refine bc fun hbc=>?_
 obtain ⟨a,vs,k,rfl,rfl,hs,h0,hk,hl,q⟩:=h₂
 refine hbc ?_
 clear hbc
 obtain ⟨_,rfl⟩:=Rel.inv r₁;cases r₂
 refine wpAny_bind (wpAny_holding (setItem_own i₂ hs h0 hk hl (hv.mono (e₁.trans e₂).seq) fun s₃ i₃ e₃=>?_))
 have E:=(e₁.trans e₂).trans e₃
 exact wpAny_release' (hq ρ _ s₃ q (hr.mono E) i₃ E.toF)
theorem st_assignT {t e:Expr} {pos:Pos} {Q:Fl→Fm→Store→Prop} (h:EvP K ρ σ e (fun v σ₁=>AsP K ρ σ₁ t v (fun ρ' σ'=>Q .next ρ' σ')))
  (he:autoParam (∀ env,(assignEach [t] env).map (·.2)=[assign t env]) aI)
  (hs:autoParam (∀ env,swapsWithSole [t] e pos.line env=pure false) aI) (hw:autoParam (∀ env:Env,env.scope.kind=.function→env.scope.names=K.names→swappedStores [t] e env=pure none) aI):StP K ρ σ (.Assign [t] e pos) Q:=fun A env s ha hr hi QM hq=>
 wpAny_Assign_stores (h A env s ha hr hi _ fun v pv σ₁ s₁ h₁ i₁ e₁ r₁=>by
  rw [he env]
  show wpAny _ A (assign t env v) _ _ s₁
  exact h₁ A env s₁ v ha (hr.mono e₁) i₁ r₁ _ fun ρ' σ' s' q hr' i' e'=>hq .next .next ρ' σ' s' q trivial hr' i' (e₁.toF.trans e')) (hs env) (hw env hr.kind hr.names)
noncomputable def SwapP (K:Kx) (Q:Fm→Prop):Fm→List Str→List V→Prop
 | ρ,[],[]=>Q ρ
 | ρ,x :: xs,v :: vs=>Stores K ρ x∧∃ ρ',Upd ρ x (.val v) ρ'∧SwapP K Q ρ' xs vs
 | _,_,_=>False
theorem swap_order {A:Around} {env:Env} {Q:Fm→Prop}:∀ {xs:List Str} {pl:List V} {vs:List Value} {ρ:Fm} {s:Shared},SwapP K Q ρ xs pl→Rep K env ρ σ s.heap→Inv σ s→Rels σ s.heap vs pl→
  ∀ {QM:Unit→Shared→Prop},(∀ ρ' s',Q ρ'→Rep K env ρ' σ s'.heap→Inv σ s'→ExtF env σ s.heap σ s'.heap→QM () s')→wpAny (model C.prog C.w) A (assignInOrder (xs.map fun n=>bindName env n) vs) QM Bot s:=by
 intro xs
 induction xs with
 | nil=>
  intro pl vs ρ s h hr hi hrs QM hq
  cases pl with
  | nil=>
   obtain rfl:=hrs.inv
   exact wpAny_assignInOrder_none (hq ρ s h hr hi .refl)
  | cons=>exact h.elim
 | cons x xs ih=>
  intro pl vs ρ s h hr hi hrs QM hq
  cases pl with
  | nil=>exact h.elim
  | cons p pl=>
   refine bc fun hbc=>?_
   obtain ⟨v,vs,eq0,hv,hl⟩:=hrs.inv
   obtain ⟨hk,ρ',hu,h'⟩:=h
   refine hbc ?_
   clear hbc
   subst eq0
   exact wpAny_assignInOrder_more (wpAny_bindName (store_name hk hr hi hv hu fun s' hr' hi' e'=>ih h' hr' hi' (hl.mono (e'.seq hr)) fun ρ'' s'' q hr'' hi'' e''=>hq ρ'' s'' q hr'' hi'' (e'.trans e'')))
theorem Rels.rev {h:Heap} {l:List Value} {pl:List V} (r:Rels σ h l pl):Rels σ h l.reverse pl.reverse:=
 r.ind (P:=fun l pl=>Rels σ h l.reverse pl.reverse) .nil fun v p l pl hv _ ih=>by rw [List.reverse_cons,List.reverse_cons];exact ih.append (.cons hv .nil)
set_option tactic.hygienic true in
theorem st_assign_swap {t e:Expr} {names:List Str} {pos:Pos} {Q:Fl→Fm→Store→Prop} (h:EvP K ρ σ e (fun v σ₁=>∃ vs,v=.tup vs∧vs.length=names.length∧SwapP K (fun ρ'=>Q .next ρ' σ₁) ρ names.reverse vs.reverse))
  (hw:∀ env:Env,env.scope.kind=.function→env.scope.names=K.names→swappedStores [t] e env=pure (some names))
  (hs:autoParam (∀ env,swapsWithSole [t] e pos.line env=pure false) aI):StP K ρ σ (.Assign [t] e pos) Q:=fun A env s ha hr hi QM hq=>by
 rw [exec_Assign_arm]
 refine wpAny_bind (wpAny_standAt ?_)
 rw [hs env]
 refine wpAny_bind (wpAny_pure ?_)
 refine ifn (by decide) ?_
 refine wpAny_bind (h A env s ha hr hi _ fun v pv σ₁ s₁ h₁ i₁ e₁ r₁=>?_)
 refine bc fun hbc=>?_
 obtain ⟨vs,rfl,hlen,sw⟩:=h₁
 refine hbc ?_
 clear hbc
 rw [hw env hr.kind hr.names]
 refine wpAny_bind (wpAny_pure ?_)
 cases r₁ with
 | tup ho hσ ht hrs=>
  rename_i a items n
  have hl:names.length=items.toArray.size:=by rw [List.size_toArray,hrs.length,hlen]
  show wpAny (model C.prog C.w) A (do
    rule "assign.swapped-stores"
    let items ← unpackItems (.ref a) names.length none
    assignInOrder (names.reverse.map fun n=>bindName env n) items.reverse
    (pure Flow.next:Sem Flow)) QM Bot s₁
  refine wpAny_bind (wpAny_rule (wpAny_bind ?_))
  rw [hl]
  refine wpAny_unpackItems_tuple ha.1 ⟨_,ho,rfl,n,rfl⟩ fun h' e=>?_
  have g:∀ b o',s₁.heap.get? b=some o'→h'.get? b=some o':=fun b o' q=>e b o' (fun q'=>by subst q';(rw [Heap.get?_size] at q;cases q)) q
  have E:Ext σ₁ s₁.heap σ₁ h':=Ext.grow g
  refine wpAny_bind (swap_order (s:={ s₁ with heap:=h' }) sw ((hr.mono e₁).mono E) (i₁.grow (s':={ s₁ with heap:=h' }) g rfl rfl) (by simpa using (hrs.mono E.seq).rev) fun ρ' s' q hr' hi' e'=>wpAny_pure ?_)
  exact hq .next .next ρ' σ₁ s' q trivial hr' hi' ((e₁.trans E).toF.trans e')
end
end Mine
end
section
open PySem PySem.W PyProof.Rows PySem.Calls
namespace Mine
structure FragOk (F:Frag):Prop where
 inn:F.In C.h1
 nt:∀ a o,F.lookup a=some o→a∉C.tabs
section
variable {K:Kx} {ρ:Fm} {σ:Store} {d:Nat} {Q:V→Store→Prop} {F:Frag}
theorem FragOk.at (x:FragOk F) {s:Shared} (i:Inv σ s):F.In s.heap:=fun a o e=>i.base a o (x.inn a o e) (x.nt a o e)
theorem EntR.find {h:Heap} {es:List DictEntry} {at_:List (Str×V)} (x:EntR σ h es at_) (name:Str):match at_.lookup name with
  | some pv=>∃ v,getL name es=some (some v)∧Rel σ h v pv
  | none=>getL name es=some none:=by
 induction x with
 | nil=>rfl
 | @cons y t hs v pv es at_ hv hl ih=>
  rw [List.lookup_cons]
  have key:(DictEntry.mk hs (.str y t) v).key.isStr name=(name == y):=by
   show (y == name)=(name == y)
   exact BEq.comm
  cases hy:name == y with
  | true=>
   simp only
   refine ⟨v,?_,hv⟩
   unfold getL
   rw [List.find?_cons,key,hy]
  | false=>
   simp only
   have:getL name (⟨hs,.str y t,v⟩ :: es)=getL name es:=by
    unfold getL
    rw [List.find?_cons,key,hy]
    simp only [List.any_cons]
    rfl
   rw [this];exact ih
theorem inst_at {s:Shared} {x dx c:Addr} {at_:List (Str×V)} (i:Inv σ s) (hx:σ x=some (.inst c dx)) (hd:σ dx=some (.ns at_)):∃ es n,InstAt s.heap x (instObj c dx) c (some (dictOf es n))∧EntR σ s.heap es at_:=by
 refine bc fun hbc=>?_
 obtain ⟨es,n,e,r⟩:=(i.own dx _ hd).2
 refine hbc ?_
 clear hbc
 exact ⟨es,n,⟨(i.own x _ hx).2,rfl,rfl,e⟩,r⟩
theorem get_inst (O:FragOk F) {x dx c:Addr} {at_:List (Str×V)} {name:Str} {pv:V} {expr:Bool} (hx:σ x=some (.inst c dx)) (hd:σ dx=some (.ns at_)) (hl:at_.lookup name=some pv) (hg:plainGet F c name=true) (hh:hasDictIn F c=true)
  (ha:findIn F (.ref c) name=some none) (hv:∀ v h,Rel σ h v pv→handedIn v=true) (q:Q pv σ):M1 d (fun o=>getAttr o name expr) (.loc x) σ Q:=fun A s o hA hi hr QM hq=>by
 obtain ⟨_,rfl⟩:=Rel.inv hr
 refine bc fun hbc=>?_
 obtain ⟨es,n,I,r⟩:=inst_at hi hx hd
 refine hbc ?_
 clear hbc
 have fd:=r.find name
 rw [hl] at fd
 refine bc fun hbc=>?_
 obtain ⟨v,e,rv⟩:=fd
 refine hbc ?_
 clear hbc
 exact get_value (O.at hi) I (plainGet_of hg).1 (findObj_own (attr:=none) hh ha rfl e) (hv v _ rv) (hq v pv σ { s with toks:=s.toks + 1 } q hi.toks .refl rv)
theorem ev_attr {value:Expr} {attr:Str} {pos:Pos} (h:EvP K ρ σ value (fun o σ₁=>M1 K.d (fun o=>getAttr o attr true) o σ₁ Q)) (hbase:autoParam (∀ env,attributeBase value attr env (eval value env)=eval value env) aI):
  EvP K ρ σ (.Attribute value attr pos) Q:=fun A env s ha hr hi QM hq=>by
 show wpAny _ _ (do
  let o ← attributeBase value attr env (eval value env)
  standAt pos.atName
  let r ← holding [o] (getAttr o attr true)
  letTemporaryGo value o r
  pure r) _ _ _
 rw [hbase]
 exact wpAny_bind (h A env s ha hr hi _ fun o po σ₁ s₁ h₁ i₁ e₁ r₁=>wpAny_bind (wpAny_standAt (wpAny_bind (wpAny_holding (h₁ A s₁ o ha i₁ r₁ _ fun v pv σ₂ s₂ q i₂ e₂ r₂=>
  wpAny_bind (wpAny_letTemporaryGo (wpAny_pure (hq v pv σ₂ s₂ q i₂ (e₁.trans e₂) r₂))))))))
theorem get_method (O:FragOk F) {x dx c f:Addr} {at_:List (Str×V)} {name:Str} {expr:Bool} (hx:σ x=some (.inst c dx)) (hd:σ dx=some (.ns at_)) (hl:at_.lookup name=none) (hg:plainGet F c name=true) (hh:hasDictIn F c=true)
  (ha:findIn F (.ref c) name=some (some (.ref f))) (hf:typeIn F (.ref f)=some (.type "function")) (hfo:findObj F c none name=some (.bind (.builtin "function.__get__") (.ref f)))
  (q:∀ a,σ a=none→Q (.loc a) (upd σ a (some (.bound (.ref f) (.loc x))))):M1 d (fun o=>getAttr o name expr) (.loc x) σ Q:=fun A s o hA hi hr QM hq=>by
 obtain ⟨_,rfl⟩:=Rel.inv hr
 refine bc fun hbc=>?_
 obtain ⟨es,n,I,r⟩:=inst_at hi hx hd
 refine hbc ?_
 clear hbc
 have fd:=r.find name
 rw [hl] at fd
 have hfo':findObj F c (some (dictOf es n)) name=some (.bind (.builtin "function.__get__") (.ref f)):=by
  refine bc fun hbc=>?_
  obtain ⟨cd,hc,hd'⟩:=any_some hh
  refine hbc ?_
  clear hbc
  have o1:W.ownOf cd (some (dictOf es n)) name=some none:=by unfold W.ownOf;rw [if_pos hd'];exact fd
  have o2:W.ownOf cd none name=some none:=by unfold W.ownOf;rw [if_pos hd']
  unfold findObj at hfo ⊢
  rw [hc] at hfo ⊢
  simp only [Option.bind_some] at hfo ⊢
  rw [o1];rw [o2] at hfo;exact hfo
 have hne:=get?_ge (Nat.le_refl s.heap.objs.size)
 have g:∀ b o',s.heap.get? b=some o'→(s.heap.push (methodObj (.ref f) (.ref x))).get? b=some o':=fun b o' e=>Heap.get?_push_of_some _ e
 refine bc fun hbc=>?_
 obtain ⟨i',e'⟩:=hi.new (s':={ s with heap:=s.heap.push (methodObj (.ref f) (.ref x)),toks:=s.toks + 1 }) (p:=.bound (.ref f) (.loc x)) hne hi.size g ⟨.ref x,Heap.get?_push_size _ rfl,.loc x⟩ rfl rfl
 refine hbc ?_
 clear hbc
 refine get_bind (O.at hi) I (plainGet_of hg).1 hfo' (plainGet_of hg).2 (wpAny_call (fn_get (s:={ s with toks:=s.toks + 1 }) (O.at (s:={ s with toks:=s.toks + 1 }) hi.toks) hf ?_))
 exact wpAny_pure (hq (.ref s.heap.objs.size) _ _ { s with heap:=s.heap.push (methodObj (.ref f) (.ref x)),toks:=s.toks + 1 } (q _ (hi.off hne)) i' e' (.loc _))
noncomputable def CodeV (d:Nat) (f:Value) (args:List V) (σ:Store) (Q:V→Store→Prop):Prop:=
 ∀ (A:Around) (s:Shared) (vs:List Value),AOk d A→Inv σ s→Rels σ s.heap vs args→∀ QM:Value→Shared→Prop,
  (∀ v pv σ' s',Q pv σ'→Inv σ' s'→Ext σ s.heap σ' s'.heap→Rel σ' s'.heap v pv→QM v s')→codeAny (model C.prog C.w) A (.call f ⟨vs,[]⟩) (Back QM Bot) s
theorem CodeV.call {f:Value} {args:List V} (h:CodeV d f args σ Q):CallV d (.raw f) args σ Q:=fun A s fv vs ha hi hf hr QM hq=>by
 obtain ⟨_,rfl⟩:=Rel.inv hf;exact wpAny_call (h A s vs ha hi hr QM hq)
theorem code_fn (O:C.Ok2) {f:Addr} {R:FnRec} {code:Value} {body:List Stmt} {names:List Str} {args:List V} (hf:FnB f R code) (hb:R.body=.stmts body) (hbind:Binds R names) (hnd:names.Nodup) (hlen:args.length=names.length)
  (hloc:∀ x∈names,R.scope.names.lookup x=some .local) (hcell:∀ x∈R.scope.names,x.2≠.cell) (hk:R.scope.kind=.function) (hco:R.scope.isCoroutine=false) (hgen:R.scope.isGenerator=false)
  (h:ExP (KxOf R code d) (pslots names args) σ body (RetQ Q)):CodeV (d + 1) (.ref f) args σ Q:=fun A s vs ha hi hr QM hq=>
 call_plain O (caps:=[]) (cap:=[]) hb hbind hnd hlen hloc hcell (fun x c e=>by simp at e) (fun x y c e=>by simp at e) (fun p hp=>by cases hp) hk hco hgen (by simpa using h) ha hi hr (hf.at hi) hq
theorem cv_bound {a:Addr} {f:Value} {self:V} {args:List V} (hb:σ a=some (.bound f self)) (h:CodeV d f (self :: args) σ Q):CallV d (.loc a) args σ Q:=fun A s fv vs ha hi hf hr QM hq=>by
 obtain ⟨_,rfl⟩:=Rel.inv hf
 refine bc fun hbc=>?_
 obtain ⟨v,e,rv⟩:=(hi.own a _ hb).2
 refine hbc ?_
 clear hbc
 exact wpAny_call (method_call e (h A s (v :: vs) ha hi (.cons rv hr) QM hq))
theorem keep_cls (O:FragOk F) {c:Addr} (hk:keepIn F (.ref c)=true):KeepOk σ (.raw (.ref c)):=fun s f hi hr M A E Q h=>by
 obtain ⟨_,rfl⟩:=Rel.inv hr
 refine bc fun hbc=>?_
 obtain ⟨k,_,L⟩:=looks_keep (M:=M) hk (O.at hi)
 refine hbc ?_
 clear hbc
 exact L.here (h k)
theorem AOk.under {A:Around} {c:Addr} {vs:List Value} (h:AOk (d + 1) A):AOk d (A.under (.builtin "type.__call__" ⟨.ref c :: vs,[]⟩)):=by
 refine bc fun hbc=>?_
 obtain ⟨h1,h2,h3⟩:=h
 refine hbc ?_
 clear hbc
 refine ⟨h1,?_,?_⟩
 ·rw [depth_under_kw];lia
 ·have:(A.under (.builtin "type.__call__" ⟨.ref c :: vs,[]⟩)).units≤A.units + 9:=by
   show A.units + (Code.builtin "type.__call__" ⟨.ref c :: vs,[]⟩).cUnits≤_
   have:(Code.builtin "type.__call__" ⟨.ref c :: vs,[]⟩).cUnits≤9:=by
    simp only [Code.cUnits]
    have:(Code.builtin "type.__call__" ⟨.ref c :: vs,[]⟩).frames≤2:=by first | exact Nat.le_of_ble_eq_true rfl | (show (0:Nat)≤2;lia) | (show (1:Nat)≤2;lia)
    lia
   lia
  lia
theorem cv_make (O:FragOk F) {c fI:Addr} {args:List V} (hm:makesIn F c=true) (hi0:findIn F (.ref c) "__init__" = some (some (.ref fI))) (hf:typeIn F (.ref fI)=some (.type "function"))
  (h:∀ x dx,σ x=none→σ dx=none→x≠dx→CodeV d (.ref fI) (.loc x :: args) (upd (upd σ dx (some (.ns []))) x (some (.inst c dx))) (fun v σ'=>v=.none∧Q (.loc x) σ')):CallV (d + 1) (.raw (.ref c)) args σ Q:=fun A s fv vs ha hi hfv hr QM hq=>by
 cases hfv
 refine bc fun hbc=>?_
 obtain ⟨hh,g,dr,t,os⟩:=s
 refine hbc ?_
 clear hbc
 refine wpAny_call (make_core (makes_of (O.at hi) hm) (looks_findIn (O.at hi) hi0) (fun self=>bind_fn (O.at hi) self hf) (.inl rfl) ?_)
 have n1:hh.get? hh.objs.size=none:=get?_ge (Nat.le_refl _)
 have n2:hh.get? (hh.objs.size + 1)=none:=get?_ge (Nat.le_succ _)
 refine bc fun hbc=>?_
 obtain ⟨i1,e1⟩:=hi.new (s':=⟨hh.push emptyDict,g,dr,t,os⟩) (p:=.ns []) n1 hi.size (fun b o e=>Heap.get?_push_of_some _ e) ⟨[],0,Heap.get?_push_size _ rfl,.nil⟩ rfl rfl
 refine hbc ?_
 clear hbc
 have hx:((hh.push emptyDict).push (instObj c hh.objs.size)).get? (hh.objs.size + 1)=some (instObj c hh.objs.size):=by
  have:((hh.push emptyDict).push (instObj c hh.objs.size)).get? (hh.push emptyDict).objs.size=some (instObj c hh.objs.size):=Heap.get?_push_size _ rfl
  rwa [Heap.size_push] at this
 have n3:(hh.push emptyDict).get? (hh.objs.size + 1)=none:=get?_ge (by rw [Heap.size_push];exact Nat.le_refl _)
 refine bc fun hbc=>?_
 obtain ⟨i2,e2⟩:=i1.new (s':=⟨(hh.push emptyDict).push (instObj c hh.objs.size),g,dr,t,os⟩) (a:=hh.objs.size + 1) (p:=.inst c hh.objs.size) n3 (Nat.le_trans hi.size (Nat.le_succ _)) (fun b o e=>Heap.get?_push_of_some _ e) hx rfl rfl
 refine hbc ?_
 clear hbc
 refine codeAny_mono (h (hh.objs.size + 1) hh.objs.size (hi.off n2) (hi.off n1) (Nat.succ_ne_self _) _ _ _ ha.under i2 (.cons (.loc _) (hr.mono (e1.trans e2).seq)) (fun v s'=>v=.none∧QM (.ref (hh.objs.size + 1)) s') fun v pv σ' s' q i' e' r'=>?_) fun r s' z=>?_
 ·refine bc fun hbc=>?_
  obtain ⟨eq0,q⟩:=q
  refine hbc ?_
  clear hbc
  subst eq0
  cases r'
  exact ⟨rfl,hq _ _ σ' s' q i' ((e1.trans e2).trans e') (.loc _)⟩
 ·rcases r with e | (v | _ | _ | _)<;>exact z
end
end Mine
end
section
open PySem PySem.W PyProof.Rows PySem.Calls
namespace Mine
section
variable {K:Kx} {ρ:Fm} {σ:Store} {d:Nat} {Q:V→Store→Prop} {F:Frag}
noncomputable def putA (name:Str) (pv:V):List (Str×V)→List (Str×V)
 | []=>[(name,pv)]
 | (m,w) :: r=>if m == name then (m,pv) :: r else (m,w) :: putA name pv r
theorem EntR.put {h:Heap} {es:List DictEntry} {at_:List (Str×V)} {name:Str} {t:Tok} {hs:Int} {v:Value} {pv:V} (x:EntR σ h es at_) (hv:Rel σ h v pv):EntR σ h (putL name hs (.str name t) v es) (putA name pv at_):=by
 induction x with
 | nil=>exact .cons hv .nil
 | @cons y u hs' w pw es at_ hw hl ih=>
  unfold putL putA
  show EntR σ h (if (y == name)=true then _ else _) _
  cases hy:y == name with
  | true=>exact .cons hv hl
  | false=>exact .cons hw ih
theorem EntR.len {h:Heap} {es:List DictEntry} {at_:List (Str×V)} (x:EntR σ h es at_):es.length=at_.length:=by
 induction x with
 | nil=>rfl
 | cons _ _ ih=>simp [ih]
theorem putL_len (name:Str) (hs:Int) (k v:Value):∀ es:List DictEntry,(putL name hs k v es).length≤es.length + 1
 | []=>by simp [putL]
 | e :: r=>by
  unfold putL
  split
  ·simp
  ·simpa using putL_len name hs k v r
set_option tactic.hygienic true in
theorem set_inst (O:FragOk F) {x dx c:Addr} {at_:List (Str×V)} {name:Str} {pv:V} {A:Around} {s:Shared} {v:Value} (hx:σ x=some (.inst c dx)) (hd:σ dx=some (.ns at_)) (hi:Inv σ s) (hv:Rel σ s.heap v pv)
  (hs:findIn F (.ref c) "__setattr__" = some (some (.builtin "object.__setattr__"))) (hp:plainOver F c=true) (ht:takerIn F c name=some none) (hh:hasDictIn F c=true) (hl:at_.length < 900) {QM:Unit→Shared→Prop}
  (hq:∀ s',Inv (upd σ dx (some (.ns (putA name pv at_)))) s'→Ext σ s.heap (upd σ dx (some (.ns (putA name pv at_)))) s'.heap→QM () s'):wpAny (model C.prog C.w) A (setAttr (.ref x) name v) QM Bot s:=by
 refine bc fun hbc=>?_
 obtain ⟨es,n,I,r⟩:=inst_at hi hx hd
 refine hbc ?_
 clear hbc
 have len:=r.len
 have fd:=r.find name
 have gl:(getL name es).isSome=true:=by
  cases hq':at_.lookup name with
  | none=>rw [hq'] at fd;rw [fd];rfl
  | some w=>rw [hq'] at fd;obtain ⟨v',e,_⟩:=fd;rw [e];rfl
 refine set_plain (O.at hi) I hs (osa_open (s:={ s with toks:=s.toks + 1 }) (O.at (s:={ s with toks:=s.toks + 1 }) hi.toks) I hp ht fun b=>?_)
 refine bc fun hbc=>?_
 obtain ⟨cd,hc,hd'⟩:=any_some hh
 refine hbc ?_
 clear hbc
 have D:s.heap.get? dx=some (dictOf es n):=by
  refine bc fun hbc=>?_
  obtain ⟨es',n',e,r'⟩:=(hi.own dx _ hd).2
  refine hbc ?_
  clear hbc
  have:=I.dict
  exact this
 have hxx:=(hi.own x _ hx).2
 let f:=Obj.putName name (PyData.keyHash C.w.params name) (.str name (s.toks + 1)) v
 have D':(s.heap.update dx f).get? dx=some (dictOf (putL name (PyData.keyHash C.w.params name) (.str name (s.toks + 1)) v es) (putN name es n)):=by
  rw [Heap.get?_update_self f D (by show (Obj.putName _ _ _ _ _).isFreed=false;rw [putName_dict];rfl)]
  show some (Obj.putName _ _ _ _ _)=_
  rw [putName_dict]
 have hz:(putL name (PyData.keyHash C.w.params name) (.str name (s.toks + 1)) v es).length≤1000:=by
  have:=putL_len name (PyData.keyHash C.w.params name) (.str name (s.toks + 1)) v es
  rw [len] at this;lia
 have hsq:SeqKeep σ s.heap (upd σ dx (some (.ns (putA name pv at_)))) (s.heap.update dx f):=⟨fun b o e _ hb _=>((Heap.SameBut.update s.heap dx f).2 b (fun q=>by rw [q,hd] at hb;cases hb)).trans e,fun b o e _ hb _=>by
  rw [upd_ne σ _ (fun q=>by rw [q,hd] at hb;cases hb)];exact hb⟩
 refine wpAny_bind (wpAny_pure (wpAny_bind (wpAny_bind (wpAny_loadPart hxx (wpAny_bind ((looks_clsIn (O.at (s:={ s with toks:=s.toks + 1 }) hi.toks) hc).here ?_))))))
 rw [hd']
 refine wpAny_pure (a:=some dx) (wpAny_bind (wpAny_pure (wpAny_bind ?_)))
 unfold nsSet
 refine wpAny_bind (wpAny_bind (wpAny_askSetting (wpAny_pure (wpAny_bind (wpAny_mkText (wpAny_bind (wpAny_loadPart D ?_)))))))
 dsimp only
 have c:(!es.toArray.any (·.key.isStr name) && es.toArray.any (·.refKey))=false:=by
  rw [← Array.any_toList,← Array.any_toList]
  unfold getL at gl
  split at gl
  ·rename_i en he
   rw [List.any_eq_true.mpr ⟨en,List.mem_of_find?_eq_some he,List.find?_some he⟩];rfl
  ·split at gl
   ·cases gl
   ·rename_i z;rw [Bool.not_eq_true] at z;rw [z,Bool.and_false]
 rw [aRefKeyMayBeTheName_at,c]
 refine wpAny_updatePart D ?_
 refine wpAny_bind (wpAny_lookBehind D' (pastItsLine_dict (by rw [List.size_toArray,sizeLine_eq];walk_at "l")) ?_)
 refine bc fun hbc=>?_
 obtain ⟨i',e'⟩:=hi.set (s':={ s with heap:=s.heap.update dx f,toks:=s.toks + 1 + 1 }) (p':=.ns (putA name pv at_)) hd (Heap.SameBut.update s.heap dx f).extBut (fun v e=>by cases e) ⟨_,_,D',(r.put hv).mono hsq⟩ rfl rfl
 refine hbc ?_
 clear hbc
 exact wpAny_pure (hq _ i' e')
structure Stor (F:Frag) (c:Addr) (name:Str):Prop where
 set:findIn F (.ref c) "__setattr__" = some (some (.builtin "object.__setattr__"))
 over:plainOver F c=true
 taker:takerIn F c name=some none
 dict:hasDictIn F c=true
theorem as_attr (O:FragOk F) {o:Expr} {attr:Str} {pos:Pos} {pv:V} {Q:Fm→Store→Prop}
  (h:EvP K ρ σ o (fun ov σ₁=>∃ x dx c at_,ov=.loc x∧σ₁ x=some (.inst c dx)∧σ₁ dx=some (.ns at_)∧Stor F c attr∧at_.length < 900∧Q ρ (upd σ₁ dx (some (.ns (putA attr pv at_)))))):
  AsP K ρ σ (.Attribute o attr pos) pv Q:=fun A env s v ha hr hi hv QM hq=>by
 rw [arm_assign_Attribute]
 refine wpAny_bind (wpAny_holding (h A env s ha hr hi _ fun ov po σ₁ s₁ h₁ i₁ e₁ r₁=>wpAny_bind (wpAny_standAt ?_)))
 refine bc fun hbc=>?_
 obtain ⟨x,dx,c,at_,rfl,hx,hd,S,hl,q⟩:=h₁
 refine hbc ?_
 clear hbc
 obtain ⟨_,rfl⟩:=Rel.inv r₁
 refine wpAny_bind (wpAny_holding (set_inst O hx hd i₁ (hv.mono e₁.seq) S.set S.over S.taker S.dict hl fun s₂ i₂ e₂=>?_))
 exact wpAny_release' (hq ρ _ s₂ q (hr.mono (e₁.trans e₂)) i₂ (e₁.trans e₂).toF)
theorem st_augAttr (O:FragOk F) {o value:Expr} {attr:Str} {tpos pos:Pos} {op:Operator} {Q:Fl→Fm→Store→Prop}
  (h:EvP K ρ σ o (fun ov σ₁=>M1 K.d (fun o=>getAttr o attr true) ov σ₁ (fun a σ₂=>EvP K ρ σ₂ value (fun b σ₃=>M2 K.d (inplaceOp op) a b σ₃ (fun r σ₄=>∃ x dx c at_,ov=.loc x∧σ₄ x=some (.inst c dx)∧σ₄ dx=some (.ns at_)∧Stor F c attr∧at_.length < 900∧
   Q .next ρ (upd σ₄ dx (some (.ns (putA attr r at_))))))))):StP K ρ σ (.AugAssign (.Attribute o attr tpos) op value pos) Q:=fun A env s ha hr hi QM hq=>by
 rw [arm_exec_AugAssign_2]
 refine wpAny_bind (wpAny_standAt (wpAny_bind (h A env s ha hr hi _ fun ov po σ₁ s₁ h₁ i₁ e₁ r₁=>wpAny_bind (wpAny_holding (wpAny_bind (wpAny_standAt (wpAny_bind (h₁ A s₁ ov ha i₁ r₁ _ fun old po' σ₂ s₂ h₂ i₂ e₂ r₂=>
  wpAny_bind (wpAny_holding (h₂ A env s₂ ha (hr.mono (e₁.trans e₂)) i₂ _ fun v pv σ₃ s₃ h₃ i₃ e₃ r₃=>wpAny_bind (wpAny_standAt (wpAny_operating (h₃ A s₃ old v ha i₃ (r₂.mono e₃.seq) r₃ _ fun r pr σ₄ s₄ q i₄ e₄ r₄=>?_)))))))))))))
 refine bc fun hbc=>?_
 obtain ⟨x,dx,c,at_,rfl,hx,hd,S,hl,q⟩:=q
 refine hbc ?_
 clear hbc
 obtain ⟨_,rfl⟩:=Rel.inv r₁
 have E:=((e₁.trans e₂).trans e₃).trans e₄
 refine wpAny_bind (wpAny_standAt (wpAny_bind (wpAny_holding (set_inst O hx hd i₄ r₄ S.set S.over S.taker S.dict hl fun s₅ i₅ e₅=>wpAny_bind (wpAny_release' (wpAny_pure ?_))))))
 exact hq .next .next ρ _ s₅ q trivial (hr.mono (E.trans e₅)) i₅ (E.trans e₅).toF
end
end Mine
end
section
open PySem PySem.W PyProof.Rows PySem.Calls
namespace Mine
open Ia Ib
section
variable {K:Kx} {ρ:Fm} {σ:Store} {d:Nat} {Q:V→Store→Prop}
theorem cont_next {rest:List Stmt} {Q:Fl→Fm→Store→Prop} (h:ExP K ρ σ rest Q):Cont K rest Q .next ρ σ:=h
theorem cont_ret {rest:List Stmt} {Q:Fl→Fm→Store→Prop} {v:V} (h:Q (.ret v) ρ σ):Cont K rest Q (.ret v) ρ σ:=h
theorem cont_brk {rest:List Stmt} {Q:Fl→Fm→Store→Prop} (h:Q .brk ρ σ):Cont K rest Q .brk ρ σ:=h
theorem cont_cont {rest:List Stmt} {Q:Fl→Fm→Store→Prop} (h:Q .cont ρ σ):Cont K rest Q .cont ρ σ:=h
theorem retq_ret {v:V} (h:Q v σ):RetQ Q (.ret v) ρ σ:=h
theorem retq_next (h:Q .none σ):RetQ Q .next ρ σ:=h
theorem evs_nil {Q:List V→Store→Prop} (h:Q [] σ):EvsP K ρ [] σ Q:=h
theorem evs_cons {e:Expr} {r:List Expr} {Q:List V→Store→Prop} (h:EvP K ρ σ e (fun pv σ₁=>EvsP K ρ r σ₁ (fun pl σ₂=>Q (pv :: pl) σ₂))):EvsP K ρ (e :: r) σ Q:=h
theorem evo_none (h:Q .none σ):EvO K ρ σ none Q:=h
theorem evo_some {e:Expr} (h:EvP K ρ σ e Q):EvO K ρ σ (some e) Q:=h
theorem ass_nil {Q:Fm→Store→Prop} (h:Q ρ σ):AssP K Q ρ σ [] []:=h
theorem ifs_nil' {Q:Bool→Store→Prop} (h:Q true σ):IfsP K ρ [] σ Q:=h
theorem ifs_cons' {c:Expr} {r:List Expr} {Q:Bool→Store→Prop} (h:TsP K ρ σ c (fun b σ₁=>if b then IfsP K ρ r σ₁ Q else Q false σ₁)):IfsP K ρ (c :: r) σ Q:=h
theorem swap_nil {Q:Fm→Prop} (h:Q ρ):SwapP K Q ρ [] []:=h
theorem swap_cons {Q:Fm→Prop} {x:Str} {xs:List Str} {v:V} {vs:List V} {ρ':Fm} (hk:Stores K ρ x) (hu:Upd ρ x (.val v) ρ') (h:SwapP K Q ρ' xs vs):SwapP K Q ρ (x :: xs) (v :: vs):=⟨hk,ρ',hu,h⟩
theorem ite_true' {A B:Prop} (h:A):if true=true then A else B:=by simpa using h
theorem ite_false' {A B:Prop} (h:B):if false=true then A else B:=by simpa using h
theorem ite_dec {p:Prop} [Decidable p] {A B:Prop} (h1:p→A) (h2:¬ p→B):if decide p=true then A else B:=by
 by_cases h:p
 ·simpa [h] using h1 h
 ·simpa [h] using h2 h
theorem ite_beq {α:Type} [BEq α] [LawfulBEq α] {a b:α} {A B:Prop} (h1:a=b→A) (h2:a≠b→B):if (a == b)=true then A else B:=by
 by_cases h:a=b
 ·simpa [h] using h1 h
 ·simpa [h] using h2 h
theorem ite_gen {b:Bool} {A B:Prop} (h1:b=true→A) (h2:b=false→B):if b=true then A else B:=by
 cases b
 ·simpa using h2 rfl
 ·simpa using h1 rfl
theorem stores_local {x:Str} (h:K.names.lookup x=some .local):Stores K ρ x:=.inl h
theorem stores_cell {x:Str} {sl:Slot} (h:K.names.lookup x=some .cell) (hm:(x,sl)∈ρ) (hs:∀ c,sl≠.sh c):Stores K ρ x:=.inr ⟨h,sl,hm,hs⟩
theorem st_assign' {x:Str} {e:Expr} {pos' pos:Pos} {Q:Fl→Fm→Store→Prop} (hk:Stores K ρ x) (h:EvP K ρ σ e (fun v σ₁=>∃ ρ',Upd ρ x (.val v) ρ'∧Q .next ρ' σ₁))
  (hs:autoParam (∀ env,swapsWith e (some (.Name x pos')) pos.line env=pure false) aI):StP K ρ σ (.Assign [.Name x pos'] e pos) Q:=st_assign hk h hs
theorem tsb {P:Bool→Prop} {b:Bool} (h:P b):∃ b',V.bool b=.bool b'∧P b':=⟨b,rfl,h⟩
theorem tb_lst {a:V} {vs:List V} {Q:Bool→Store→Prop} (h:LV σ a vs) (hl:vs.length < 2 ^ 25) (q:Q (!vs.isEmpty) σ):M1B d a σ Q:=fun A s x ha hi hx QM hq=>by
 refine bc fun hbc=>?_
 obtain ⟨b,items,n,rfl,ho,hrs⟩:=h.at hi hx
 refine hbc ?_
 clear hbc
 have hlen:=hrs.length
 simp only [Array.length_toList] at hlen
 refine wpAny_truthy_list ⟨_,ho,rfl,_,rfl⟩ (by lia) ?_
 have e:(!items.isEmpty)=!vs.isEmpty:=by
  unfold Array.isEmpty
  cases vs with
  | nil=>simp at hlen;simp [hlen]
  | cons=>simp at hlen;simp [hlen]
 rw [e];exact hq _ _ _ q hi.toks .refl
noncomputable def compB (kn:List (Str×NameKind)) (rn:List Str) (scope:Scope) (cn:List Str):Bool:=
 (scope.kind == .function) && scope.names.all (fun x=>x.2 != .cell) && scope.names.all (fun x=>x.2 != .local || scope.names.lookup x.1 == some .local) &&
 scope.names.all (fun x=>x.2 != .free || (rn.contains x.1 && kn.lookup x.1 != some .local)) && cn.all (fun x=>scope.names.lookup x == some .free)
theorem CompOk.mk' {scope:Scope} {caps:Fm} (h:compB K.names (ρ.map (·.1)) scope (caps.map (·.1))=true) (hc:∀ p∈caps,p∈ρ∧p.2≠.emp):CompOk K ρ scope caps:=by
 unfold compB at h
 simp only [Bool.and_eq_true,List.all_eq_true,Bool.or_eq_true,bne_iff_ne,beq_iff_eq,List.contains_iff_mem] at h
 refine bc fun hbc=>?_
 obtain ⟨⟨⟨⟨h1,h2⟩,h3⟩,h4⟩,h5⟩:=h
 refine hbc ?_
 clear hbc
 refine ⟨h1,h2,fun x hx e=>?_,fun x hx e=>?_,fun p hp=>⟨(hc p hp).1,h5 _ (List.mem_map_of_mem hp),(hc p hp).2⟩⟩
 ·rcases h3 x hx with h | h
  ·exact absurd e h
  ·exact h
 ·rcases h4 x hx with h | ⟨h,h'⟩
  ·exact absurd e h
  ·refine bc fun hbc=>?_
   obtain ⟨⟨y,sl⟩,hp,rfl⟩:=List.mem_map.mp h
   refine hbc ?_
   clear hbc
   exact ⟨sl,hp,h'⟩
end
end Mine
end
section
open PySem PySem.W PyProof.Rows PySem.Calls
namespace Mine
open Ia Ib
theorem slot_rev_next:PySem.Slot "list_reverseiterator" "__next__" "list_reverseiterator.__next__" :=
 .of (owner := "list_reverseiterator") (n := "__next__") (by rw [typeLookup_type,builtinLookup_eq_fast];kernel_rfl) (by decide +kernel) (by decide +kernel) (by decide +kernel)
  (by first | exact .inl (by decide +kernel) | exact .inr (by decide +kernel)) (by rw [isSubtype_type];kernel_rfl)
theorem entry_rev_next:entryFor table "list_reverseiterator.__next__" = some Builtin.«list_reverseiterator.__next__»:=entryFor_of_tree (by kernel_rfl)
theorem args_rev_next (a:Value):argsOk "list_reverseiterator.__next__" ⟨[a],[]⟩:=by unfold argsOk;kernel_rfl
theorem slot_rev_iter:PySem.Slot "list_reverseiterator" "__iter__" "list_reverseiterator.__iter__" :=
 .of (owner := "list_reverseiterator") (n := "__iter__") (by rw [typeLookup_type,builtinLookup_eq_fast];kernel_rfl) (by decide +kernel) (by decide +kernel) (by decide +kernel)
  (by first | exact .inl (by decide +kernel) | exact .inr (by decide +kernel)) (by rw [isSubtype_type];kernel_rfl)
theorem entry_rev_iter:entryFor table "list_reverseiterator.__iter__" = some Builtin.«dict_keyiterator.__iter__»:=
 entryFor_alias (id' := "dict_keyiterator.__iter__") (by kernel_rfl) (by first | rfl | decide +kernel | (unfold String.splitOn;simp +decide [String.splitOnAux])) (by decide +kernel) (by kernel_rfl)
theorem args_rev_iter (a:Value):argsOk "list_reverseiterator.__iter__" ⟨[a],[]⟩:=by unfold argsOk;kernel_rfl
theorem slot_cit_next:PySem.Slot "callable_iterator" "__next__" "callable_iterator.__next__" :=
 .of (owner := "callable_iterator") (n := "__next__") (by rw [typeLookup_type,builtinLookup_eq_fast];kernel_rfl) (by decide +kernel) (by decide +kernel) (by decide +kernel)
  (by first | exact .inl (by decide +kernel) | exact .inr (by decide +kernel)) (by rw [isSubtype_type];kernel_rfl)
theorem entry_cit_next:entryFor table "callable_iterator.__next__" = some Builtin.«callable_iterator.__next__»:=entryFor_of_tree (by kernel_rfl)
theorem args_cit_next (a:Value):argsOk "callable_iterator.__next__" ⟨[a],[]⟩:=by unfold argsOk;kernel_rfl
theorem slot_cit_iter:PySem.Slot "callable_iterator" "__iter__" "callable_iterator.__iter__" :=
 .of (owner := "callable_iterator") (n := "__iter__") (by rw [typeLookup_type,builtinLookup_eq_fast];kernel_rfl) (by decide +kernel) (by decide +kernel) (by decide +kernel)
  (by first | exact .inl (by decide +kernel) | exact .inr (by decide +kernel)) (by rw [isSubtype_type];kernel_rfl)
theorem entry_cit_iter:entryFor table "callable_iterator.__iter__" = some Builtin.«dict_keyiterator.__iter__»:=
 entryFor_alias (id' := "dict_keyiterator.__iter__") (by kernel_rfl) (by first | rfl | decide +kernel | (unfold String.splitOn;simp +decide [String.splitOnAux])) (by decide +kernel) (by kernel_rfl)
theorem args_cit_iter (a:Value):argsOk "callable_iterator.__iter__" ⟨[a],[]⟩:=by unfold argsOk;kernel_rfl
section
variable {prog:Program} {w:World} {A:Around} {E:Value→Shared→Prop} {s:Shared}
theorem pyIter_rev {it:Addr} {o:Obj} {Q:Value→Shared→Prop} (ho:s.heap.get? it=some o) (hc:o.cls=.type "list_reverseiterator") (h:Q (.ref it) s):wpAny (model prog w) A (pyIter (.ref it)) Q E s:=by
 have hT:s.TypeIs (.ref it) "list_reverseiterator" := ⟨o,ho,hc⟩
 refine wpAny_pyIter_slot hT slot_rev_iter (wpAny_call_entry slot_rev_iter hT entry_rev_iter ?_ (args_rev_iter _))
 show wpAny _ _ (do ret (.ref it)) _ _ s
 exact wpAny_pure ⟨_,rfl, "list_reverseiterator", _,hT,slot_rev_next.lookup,h⟩
theorem pyIter_cit {it:Addr} {o:Obj} {Q:Value→Shared→Prop} (ho:s.heap.get? it=some o) (hc:o.cls=.type "callable_iterator") (h:Q (.ref it) s):wpAny (model prog w) A (pyIter (.ref it)) Q E s:=by
 have hT:s.TypeIs (.ref it) "callable_iterator" := ⟨o,ho,hc⟩
 refine wpAny_pyIter_slot hT slot_cit_iter (wpAny_call_entry slot_cit_iter hT entry_cit_iter ?_ (args_cit_iter _))
 show wpAny _ _ (do ret (.ref it)) _ _ s
 exact wpAny_pure ⟨_,rfl, "callable_iterator", _,hT,slot_cit_next.lookup,h⟩
theorem stop_iter {α:Type} {P:α→Shared→Prop} {h₁:Heap} {Q:Option Value→Shared→Prop} (hh:A.handled=none) (hQ:∀ h',(∀ b o,h₁.get? b=some o→h'.get? b=some o)→Q none { s with heap:=h' }):
  wpAny (model prog w) A.in1 (Builtin.SmallTypes.stopIteration:Sem α) P (fun e s'=>wpAny (model prog w) A (do if ← isInstance e (.type "StopIteration") then pure none else throw e) Q E s') { s with heap:=h₁ }:=by
 show wpAny _ _ (newExc (.type "StopIteration") [] >>= _) _ _ _
 refine wpAny_bind ?_
 simp only [newExc,newTuple]
 refine wpAny_bind (wpAny_newObj_type ?_ (by size_fits))
 refine wpAny_bind (m:=firstArgMember _ _) (wpAny_of_eq (a:=Value.none) (by first | rfl | (simp only [firstArgMember];rfl)) ?_)
 refine wpAny_newObj_type ?_ (by size_fits)
 simp only [raiseNew]
 refine wpAny_bind (wpAny_handled ?_)
 rw [show A.in1.handled=none from hh]
 refine wpAny_bind (wpAny_pure (wpAny_throw ?_))
 refine wpAny_bind (wpAny_isInstance (T := "StopIteration") (b:=true) ⟨_,Heap.get?_push_size _ rfl,rfl⟩ isSubtype_stop ?_)
 exact wpAny_pure (hQ _ fun b o e=>Heap.get?_push_of_some _ (Heap.get?_push_of_some _ e))
theorem rev_item {it l:Addr} {i:Nat} {items:Array Value} {n:Nat} {x:Value} {Q:Option Value→Shared→Prop} (ho:s.heap.get? it=some (revO (.ref l) i)) (hl:s.heap.get? l=some (lstO items n)) (hx:items[i]?=some x)
  (hQ:∀ h',h'.get? it=some (revO (.ref l) (i - 1))→Heap.SameBut it s.heap h'→Q (some x) { s with heap:=h' }):wpAny (model prog w) A (pyNext (.ref it)) Q E s:=by
 have hT:s.TypeIs (.ref it) "list_reverseiterator" := ⟨_,ho,rfl⟩
 unfold pyNext
 refine wpAny_bind (wpAny_attempt (wpAny_callSpecial?_slot (name:=Str.ofString "__next__") hT slot_rev_next (wpAny_call_entry slot_rev_next hT entry_rev_next ?_ (args_rev_next _))))
 show wpAny _ _ (field (.ref it) 1 >>= _) _ _ s
 refine wpAny_bind (wpAny_field ho rfl (x:=.int i 0) rfl ?_)
 show wpAny _ _ (if (i:Int) < 0 then _ else _) _ _ s
 refine ifn (by walk_at "l") ?_
 show wpAny _ _ (field (.ref it) 0 >>= _) _ _ s
 refine wpAny_bind (wpAny_field ho rfl (x:=.ref l) rfl ?_)
 show wpAny _ _ (seqItems? (.ref l) >>= _) _ _ s
 refine wpAny_bind (wpAny_seqItems hl rfl ?_)
 simp only [Int.toNat_natCast,hx]
 refine wpAny_bind (wpAny_setField ho rfl (by simp) (wpAny_pure ⟨x,rfl,wpAny_pure (hQ _ ?_ (Heap.SameBut.update ..))⟩))
 exact Heap.get?_update_self _ ho (Obj.isFreed_of_fields (Obj.data_mapFields rfl _))
theorem rev_end {it:Addr} {v:Value} {Q:Option Value→Shared→Prop} (hh:A.handled=none) (ho:s.heap.get? it=some (revO v (-1)))
  (hQ:∀ h',(∀ b o,s.heap.get? b=some o→h'.get? b=some o)→Q none { s with heap:=h' }):wpAny (model prog w) A (pyNext (.ref it)) Q E s:=by
 have hT:s.TypeIs (.ref it) "list_reverseiterator" := ⟨_,ho,rfl⟩
 unfold pyNext
 refine wpAny_bind (wpAny_attempt (wpAny_callSpecial?_slot (name:=Str.ofString "__next__") hT slot_rev_next (wpAny_call_entry slot_rev_next hT entry_rev_next ?_ (args_rev_next _))))
 show wpAny _ _ (field (.ref it) 1 >>= _) _ _ s
 refine wpAny_bind (wpAny_field ho rfl (x:=.int (-1) 0) rfl ?_)
 show wpAny _ _ (if (-1:Int) < 0 then _ else _) _ _ s
 refine ifp (by walk_at "l") ?_
 refine wpAny_bind (wpAny_rule ?_)
 exact wpAny_bind (stop_iter (s:=s) (h₁:=s.heap) (Q:=Q) (E:=E) hh hQ)
end
end Mine
namespace Mine
section
variable {prog:Program} {w:World} {A:Around} {E:Value→Shared→Prop} {s:Shared}
theorem borrowed_eq (f:Value) (pos:List Value):callBorrowed f pos=(call f pos).keep [borrowed]:=by
 unfold callBorrowed call runValue run
 simp only [bind,Sem.bind,Sem.keep]
 congr 1
 funext r
 cases r with
 | error e=>rfl
 | ok f=>cases f<;>rfl
theorem bor_meth {b fn:Addr} {fo:Obj} {fd:FuncData} {v:Value} {Q:Bool→Shared→Prop} (hb:s.heap.get? b=some (methodObj (.ref fn) v)) (hf:s.heap.get? fn=some fo) (hfd:fo.data=.func fd) (h:Q true s):
  wpAny (model prog w) A (borrowsExactly (.ref b)) Q E s:=by
 unfold borrowsExactly
 refine wpAny_bind (wpAny_load hb ?_)
 show wpAny _ _ (if (Value.type "method" == Value.type "method")=true then _ else _) _ _ s
 rw [if_pos (by decide)]
 show wpAny _ _ (do match (← load fn).data with | .func _=>pure true | _=>pure false) _ _ s
 refine wpAny_bind (wpAny_load hf ?_)
 rw [hfd];exact wpAny_pure h
theorem cit_next {it b fn:Addr} {fo:Obj} {fd:FuncData} {v:Value} {u:Str} {tu:Tok} {Q:Option Value→Shared→Prop} (hh:A.handled=none) (ho:s.heap.get? it=some (citO (.ref b) (.str u tu) (.bool false)))
  (hb:s.heap.get? b=some (methodObj (.ref fn) v)) (hf:s.heap.get? fn=some fo) (hfd:fo.data=.func fd)
  (hc:wpAny (model prog w) A.in1 (call (.ref b) []) (fun r s₁=>∃ tu' v',s₁.heap.get? it=some (citO (.ref b) (.str u tu') (.bool false))∧s₁.heap.get? b=some (methodObj (.ref fn) v')∧s₁.heap.get? fn=some fo∧∃ x t,r=.str x t∧
   (if u=x then ∀ h',h'.get? it=some (citO .none .none (.bool true))→(∀ b o,b≠it→s₁.heap.get? b=some o→h'.get? b=some o)→Q none { s₁ with heap:=h' } else Q (some r) s₁)) (fun _ _=>False) s):
  wpAny (model prog w) A (pyNext (.ref it)) Q E s:=by
 have hT:s.TypeIs (.ref it) "callable_iterator" := ⟨_,ho,rfl⟩
 unfold pyNext
 refine wpAny_bind (wpAny_attempt (wpAny_callSpecial?_slot (name:=Str.ofString "__next__") hT slot_cit_next (wpAny_call_entry slot_cit_next hT entry_cit_next ?_ (args_cit_next _))))
 show wpAny _ _ (field (.ref it) 2 >>= _) _ _ s
 refine wpAny_bind (wpAny_field ho rfl (x:=.bool false) rfl ?_)
 rw [if_neg (by decide)]
 show wpAny _ _ (field (.ref it) 0 >>= _) _ _ s
 refine wpAny_bind (wpAny_field ho rfl (x:=.ref b) rfl ?_)
 refine wpAny_bind (wpAny_attempt ?_)
 unfold callOutOfASlot
 refine wpAny_bind (bor_meth hb hf hfd ?_)
 rw [if_pos rfl,borrowed_eq]
 refine wpAny_keep (wpAny_mono hc (fun r s₁ h=>?_) fun _ _ x=>x.elim)
 refine bc fun hbc=>?_
 obtain ⟨tu',v',h1,h2,h3,x,t,eq0,hr⟩:=h
 refine hbc ?_
 clear hbc
 subst eq0
 refine wpAny_bind (wpAny_field h1 rfl (x:=.bool false) rfl ?_)
 rw [if_neg (by decide)]
 refine wpAny_bind (wpAny_field h1 rfl (x:=.str u tu') rfl (wpAny_bind (wpAny_holding (eqBool_str ?_))))
 by_cases hux:u=x
 ·rw [if_pos hux] at hr
  rw [if_neg (by simp [hux])]
  refine wpAny_bind (wpAny_rule (wpAny_bind ?_))
  show wpAny _ _ (field (.ref it) 0 >>= fun f=>slotLetsGo "callable_iterator.__next__" f _ >>= fun _=>(do setField (.ref it) 0 .none;setField (.ref it) 1 .none;setField (.ref it) 2 (.bool true))) _ _ _
  refine wpAny_bind (wpAny_field h1 rfl (x:=.ref b) rfl (wpAny_bind ?_))
  unfold slotLetsGo
  refine wpAny_bind (bor_meth h2 h3 hfd ?_)
  rw [if_pos rfl]
  refine wpAny_pure ?_
  refine wpAny_bind (wpAny_setField_rec h1 (by simp) fun h₁ g1 b1=>wpAny_bind (wpAny_setField_rec (s:={ s₁ with heap:=h₁ }) g1 (by simp) fun h₂ g2 b2=>wpAny_setField_rec (s:={ s₁ with heap:=h₂ }) g2 (by simp) fun h₃ g3 b3=>?_))
  exact stop_iter (s:=s₁) (h₁:=h₃) hh fun h' k=>hr h' (k _ _ g3) fun b o hne e=>k _ _ (b3.extBut b o hne (b2.extBut b o hne (b1.extBut b o hne e)))
 ·rw [if_neg hux] at hr
  rw [if_pos (by simp [hux])]
  exact wpAny_pure ⟨_,rfl,wpAny_pure hr⟩
end
end Mine
namespace Mine
theorem mro_reversed:mroOf (.type "reversed")=pure [.type "reversed", .type "object"]:=by rw [mroOf_type];kernel_rfl
theorem lookup_reversed_new:typeLookup (.type "reversed") "__new__" = pure (some (.builtin "reversed.__new__")):=by rw [typeLookup_type,builtinLookup_eq_fast];kernel_rfl
theorem made_reversed:Bind.madeBy (.type "reversed")=pure (some "reversed.__new__"):=madeBy_type mro_reversed lookup_reversed_new (by decide +kernel)
theorem typeCall_reversed (a:Value):checkTypeCall "reversed" ⟨[a],[]⟩=pure ():=by kernel_rfl
theorem newCall_reversed (a:Value):checkBuiltinCall "reversed.__new__" ⟨[.type "reversed", a],[]⟩=pure ():=by kernel_rfl
theorem entry_reversed_new:entryFor table "reversed.__new__" = some Builtin.«reversed.__new__»:=entryFor_of_tree (by kernel_rfl)
theorem sub_rev_rev:isSubtype (.type "reversed") (.type "reversed")=pure true:=by rw [isSubtype_type];kernel_rfl
theorem sub_rev_not:isSubtype (.type "list_reverseiterator") (.type "reversed")=pure false:=by rw [isSubtype_type];kernel_rfl
section
variable {prog:Program} {w:World} {A:Around} {E:Value→Shared→Prop} {s:Shared}
theorem reversed_new {l:Addr} {items:Array Value} {n:Nat} {Q:Value→Shared→Prop} (hl:s.heap.get? l=some (lstO items n))
  (h:∀ h',h'.get? s.heap.objs.size=some (revO (.ref l) ((items.size:Int) - 1))→(∀ b o,s.heap.get? b=some o→h'.get? b=some o)→Q (.ref s.heap.objs.size) { s with heap:=h' }):
  wpAny (model prog w) A (Builtin.«reversed.__new__» ⟨[.type "reversed", .ref l],[]⟩) (fun fin s'=>∃ v,fin=.done (.ret v)∧Q v s') E s:=by
 have hT:s.TypeIs (.ref l) "list" := ⟨_,hl,rfl⟩
 have hsub:=sub_rev_rev
 have hlook:=F.slot_list_reversed.lookup
 have hbind:=F.slot_list_reversed.bind (.ref l)
 unfold Builtin.«reversed.__new__»
 repeat (any_goals (first | assumption | wp_step))
 refine codeAny_call_builtin F.slot_list_reversed.plain F.entry_list_reversed (F.slot_list_reversed.check _ _ _ _ _ _ _ _ hT (F.args_list_reversed_1 _) ?_)
 unfold Builtin.«list.__reversed__»
 repeat (any_goals (first | assumption | wp_step))
 exact ⟨_,rfl,h _ (Heap.get?_push_size _ rfl) fun b o e=>Heap.get?_push_of_some _ e⟩
theorem call_reversed {l:Addr} {items:Array Value} {n:Nat} {Q:Value→Shared→Prop} (hl:s.heap.get? l=some (lstO items n))
  (h:∀ h',h'.get? s.heap.objs.size=some (revO (.ref l) ((items.size:Int) - 1))→(∀ b o,s.heap.get? b=some o→h'.get? b=some o)→Q (.ref s.heap.objs.size) { s with heap:=h' }):
  wpAny (model prog w) A (call (.type "reversed") [.ref l]) Q E s:=by
 have hmro:=mro_reversed
 have hmade:=made_reversed
 have hsub:=sub_rev_rev
 have hct:=typeCall_reversed (.ref l)
 refine wpAny_call (codeAny_of_tree ?_)
 show wpAny _ _ (callAny (.type "reversed") _) _ _ _
 refine wpAny_pure ⟨Code.quiet_builtin _ (by decide +kernel),codeAny_builtin F.entry_type_call ?_⟩
 rw [Around.under_plain (weight_type_call_type "reversed" [.ref l] []) (units_type_call_type "reversed" [.ref l] [])]
 have h1:(Value.type "reversed" == Value.type "type")=false:=by decide +kernel
 have h2:((Manifest.find? "reversed").bind (·.mro.findSome? fun t=>(Manifest.find? t).bind fun b=>if b.noNew then some true else if b.attrs.any (·.1 == "__new__") then some false else none)).getD false=false:=by decide +kernel
 repeat (any_goals (first | assumption | wp_step))
 refine codeAny_call_builtin (by decide +kernel) entry_reversed_new (wpAny_of_eq (newCall_reversed _) (wpAny_mono (reversed_new (Q:=fun v s'=>∃ h',v=.ref s.heap.objs.size∧s'={ s with heap:=h' }∧h'.get? s.heap.objs.size=some (revO (.ref l) ((items.size:Int) - 1))∧∀ b o,s.heap.get? b=some o→h'.get? b=some o) hl
  fun h' g k=>⟨h',rfl,rfl,g,k⟩) (fun fin s' hx=>?_) fun _ _ x=>x))
 refine bc fun hbc=>?_
 obtain ⟨v,eq0,h',eq1,eq2,g,k⟩:=hx
 refine hbc ?_
 clear hbc
 subst eq0 eq1 eq2
 refine wpAny_bind (wpAny_isInstance (T := "list_reverseiterator") (b:=false) ⟨_,g,rfl⟩ sub_rev_not ?_)
 rw [if_pos (by decide)]
 exact wpAny_bind (wpAny_rule (wpAny_pure (h h' g k)))
theorem args_iter2 (a b:Value):argsOk "iter" ⟨[a,b],[]⟩:=by unfold argsOk;kernel_rfl
theorem call_iter2 {f u:Value} {Q:Value→Shared→Prop} (hs:∀ (A:Around) (E:Value→Shared→Prop) (Q:Option Value→Shared→Prop),(∀ x,Q (some x) s)→wpAny (model prog w) A (specialOf f "__call__") Q E s)
  (h:∀ h',h'.get? s.heap.objs.size=some (citO f u (.bool false))→(∀ b o,s.heap.get? b=some o→h'.get? b=some o)→Q (.ref s.heap.objs.size) { s with heap:=h' }):
  wpAny (model prog w) A (call (.builtin "iter") [f,u]) Q E s:=by
 refine call_function_entry (by decide +kernel) (by decide +kernel) kdk_entry_iter (args_iter2 _ _) ?_
 unfold Builtin.«iter»
 refine wpAny_bind (m:=someArgs "iter" 1 2 _) (wpAny_of_eq (a:=[f,u]) (by first | rfl | kernel_rfl!) ?_)
 refine wpAny_bind (hs _ _ _ fun x=>?_)
 rw [if_neg (by simp)]
 refine wpAny_bind (wpAny_rule (wpAny_bind ?_))
 show wpAny _ _ (newObj (.type "callable_iterator") (.fields #[f,u,.bool false]) none) _ _ _
 refine wpAny_newObj_type ?_
 exact wpAny_pure ⟨_,rfl,h _ (Heap.get?_push_size _ rfl) fun b o e=>Heap.get?_push_of_some _ e⟩
end
end Mine
end
section
open PySem PySem.W PyProof.Rows PySem.Calls
namespace Mine
open Ia Ib
theorem slot_fn_setattr:PySem.Slot "function" "__setattr__" "object.__setattr__" :=
 .of (owner := "object") (n := "__setattr__") (by rw [typeLookup_type,builtinLookup_eq_fast];kernel_rfl) (by decide +kernel) (by decide +kernel) (by decide +kernel)
  (by first | exact .inl (by decide +kernel) | exact .inr (by decide +kernel)) (by rw [isSubtype_type];kernel_rfl)
theorem mro_function:mroOf (.type "function")=pure [.type "function", .type "object"]:=by rw [mroOf_type];kernel_rfl
theorem fn_no_read:typeLookup (.type "function") "read" = pure none:=by rw [typeLookup_type,builtinLookup_eq_fast];kernel_rfl
theorem fn_getattribute:typeLookup (.type "function") "__getattribute__" = pure (some (.builtin "object.__getattribute__")):=by rw [typeLookup_type,builtinLookup_eq_fast];kernel_rfl
theorem fn_no_getattr:typeLookup (.type "function") "__getattr__" = pure none:=by rw [typeLookup_type,builtinLookup_eq_fast];kernel_rfl
theorem refuse_fn (a:Addr):refuseLoop (.ref a) "__setattr__" [.type "function", .type "object"]=pure ():=by kernel_rfl
section
variable {prog:Program} {w:World} {A:Around} {E:Value→Shared→Prop} {s:Shared}
theorem setAttr_fn {a:Addr} {fd:FuncData} {sl:Array (Option Value)} {v:Value} {Q:Unit→Shared→Prop} (ho:s.heap.get? a=some ⟨.type "function", none,.func fd,sl⟩)
  (h:∀ h' tk hs tk' n,h'.get? a=some ⟨.type "function", some s.heap.objs.size,.func fd,sl⟩→h'.get? s.heap.objs.size=some (dictOf [⟨hs,.str "read" tk',v⟩] n)→
   (∀ b o,b≠a→s.heap.get? b=some o→h'.get? b=some o)→Q () { s with heap:=h',toks:=tk }):wpAny (model prog w) A (setAttr (.ref a) "read" v) Q E s:=by
 have hT:s.TypeIs (.ref a) "function" := ⟨_,ho,rfl⟩
 unfold setAttr
 refine wpAny_bind (wpAny_mkText (wpAny_bind (wpAny_callSpecial?_slot (name:=Str.ofString "__setattr__") (s:={ s with toks:=s.toks + 1 }) hT slot_fn_setattr (wpAny_call_entry slot_fn_setattr (s:={ s with toks:=s.toks + 1 }) hT PySem.F.store_object.entry ?_ (PySem.F.store_object.args _ _ _)))))
 rw [osa_eq,refuse_eq]
 refine wpAny_bind (wpAny_bind (wpAny_typeOf (s:={ s with toks:=s.toks + 1 }) hT (wpAny_bind (wpAny_of_eq mro_function ?_))))
 rw [refuse_fn]
 refine wpAny_pure (wpAny_bind (wpAny_typeOf (s:={ s with toks:=s.toks + 1 }) hT (wpAny_bind (wpAny_of_eq fn_no_read (wpAny_bind (wpAny_pure ?_))))))
 dsimp only
 refine wpAny_bind (m:=ownStreamTells _ _) (wpAny_of_eq (a:=()) (by kernel_rfl) ?_)
 refine ifn (by decide) ?_
 refine wpAny_bind ?_
 show wpAny _ _ (instanceDict a true) _ _ _
 unfold instanceDict
 refine wpAny_bind (wpAny_loadPart (s:={ s with toks:=s.toks + 1 }) ho ?_)
 dsimp only
 have hD:typeHasDict (.type "function")=true:=by kernel_rfl
 have hF:finalisedInACycleAlone "function" = false:=by kernel_rfl
 refine ifn (by rw [hD];decide) ?_
 refine wpAny_bind (wpAny_alloc (wpAny_bind (wpAny_update (o:=⟨.type "function", none,.func fd,sl⟩) (Heap.get?_push_of_some _ ho) ?_)))
 have g1:=Heap.get?_update_self (f:=fun o:Obj=>{ o with dict:=some s.heap.objs.size }) (h:=s.heap.push { cls:=.type "dict", data:=.dict #[] }) (Heap.get?_push_of_some _ ho) rfl
 have gd:((s.heap.push { cls:=.type "dict", data:=.dict #[] }).update a fun o:Obj=>{ o with dict:=some s.heap.objs.size }).get? s.heap.objs.size=some (dictOf [] 0):=
  ((Heap.SameBut.update _ a _).2 _ (fun q=>by rw [← q] at ho;exact absurd (Heap.lt_size ho) (Nat.lt_irrefl _))).trans (Heap.get?_push_size _ rfl)
 have gk:∀ b o,b≠a→s.heap.get? b=some o→((s.heap.push { cls:=.type "dict", data:=.dict #[] }).update a fun o:Obj=>{ o with dict:=some s.heap.objs.size }).get? b=some o:=fun b o hne e=>
  ((Heap.SameBut.update _ a _).2 b hne).trans (Heap.get?_push_of_some _ e)
 have hne:s.heap.objs.size≠a:=fun q=>by rw [← q] at ho;exact absurd (Heap.lt_size ho) (Nat.lt_irrefl _)
 revert g1 gd gk
 show _→_→_→wpAny _ _ _ _ _ { s with heap:=(s.heap.push { cls:=.type "dict", data:=.dict #[] }).update a fun o:Obj=>{ o with dict:=some s.heap.objs.size },toks:=s.toks + 1 }
 generalize (s.heap.push { cls:=.type "dict", data:=.dict #[] }).update a (fun o:Obj=>{ o with dict:=some s.heap.objs.size })=H1
 intro g1 gd gk
 show wpAny _ _ (dictMade (.type "function") a s.heap.objs.size) _ _ _
 generalize hdd:s.heap.objs.size=dd at *
 unfold dictMade
 dsimp only
 rw [hF]
 refine ifn (by decide) ?_
 refine wpAny_pure (wpAny_bind (m:=Builtin.ObjectAttr.newKeyGuard _ _ _) (wpAny_pure (wpAny_bind ?_)))
 unfold nsSet
 refine wpAny_bind (wpAny_bind (wpAny_askSetting (wpAny_pure (wpAny_bind (wpAny_mkText (wpAny_bind (wpAny_loadPart (s:={ s with heap:=H1,toks:=s.toks + 1 + 1 }) gd ?_)))))))
 dsimp only
 have c:aRefKeyMayBeTheName (Str.ofString "read") ([]:List DictEntry).toArray=false:=by rw [aRefKeyMayBeTheName_at];simp
 rw [c,if_neg (by decide)]
 let f:=Obj.putName "read" (PyData.keyHash w.params "read") (.str "read" (s.toks + 1)) v
 have D':(H1.update dd f).get? dd=some (dictOf (putL "read" (PyData.keyHash w.params "read") (.str "read" (s.toks + 1)) v []) (putN "read" [] 0)):=by
  rw [Heap.get?_update_self f gd (by show (Obj.putName _ _ _ _ _).isFreed=false;rw [putName_dict];rfl)]
  show some (Obj.putName _ _ _ _ _)=_
  rw [putName_dict]
 refine wpAny_updatePart gd ?_
 refine wpAny_bind (wpAny_lookBehind D' (pastItsLine_dict (by show (putL _ _ _ _ []).toArray.size≤_;simp [putL])) ?_)
 refine wpAny_pure ⟨_,rfl,wpAny_pure (h _ _ _ _ _ (((Heap.SameBut.update _ dd _).2 a (Ne.symm hne)).trans g1) D' fun b o hb e=>?_)⟩
 refine ((Heap.SameBut.update _ dd _).2 b (fun q=>?_)).trans (gk b o hb e)
 rw [q,← hdd] at e
 exact absurd (Heap.lt_size e) (Nat.lt_irrefl _)
theorem args_oga (a b:Value):argsOk "object.__getattribute__" ⟨[a,b],[]⟩:=by unfold argsOk;kernel_rfl
theorem slot_fn_getattr:PySem.Slot "function" "__getattribute__" "object.__getattribute__" :=
 .of (owner := "object") (n := "__getattribute__") (by rw [typeLookup_type,builtinLookup_eq_fast];kernel_rfl) (by decide +kernel) (by decide +kernel) (by decide +kernel)
  (by first | exact .inl (by decide +kernel) | exact .inr (by decide +kernel)) (by rw [isSubtype_type];kernel_rfl)
theorem getAttr_fn {a d:Addr} {fd:FuncData} {sl:Array (Option Value)} {v:Value} {es:List DictEntry} {n:Nat} {expr:Bool} {Q:Value→Shared→Prop} (ho:s.heap.get? a=some ⟨.type "function", some d,.func fd,sl⟩)
  (hd:s.heap.get? d=some (dictOf es n)) (hl:getL "read" es=some (some v)) (hv:handedIn v=true) (h:Q v { s with toks:=s.toks + 1 }):wpAny (model prog w) A (getAttr (.ref a) "read" expr) Q E s:=by
 have hT:({ s with toks:=s.toks + 1 }:Shared).TypeIs (.ref a) "function" := ⟨_,ho,rfl⟩
 unfold getAttr
 refine wpAny_bind (wpAny_mkText ?_)
 unfold getAttrBy
 refine wpAny_holding (wpAny_bind (wpAny_typeOf hT (wpAny_bind (wpAny_of_eq fn_getattribute ?_))))
 dsimp only
 refine ifn (by decide) ?_
 unfold getAttrByItsOwn
 refine wpAny_bind (m:=hookBefore _) (wpAny_of_eq (a:=none) (by kernel_rfl) (wpAny_bind (wpAny_attempt (wpAny_holding ?_))))
 unfold callGetattribute
 refine ifn (by simp [onTheHeap]) ?_
 unfold boundAndCalled
 refine wpAny_bind (wpAny_of_eq (slot_fn_getattr.bind _) (wpAny_call_entry slot_fn_getattr hT F.entry_object_getattribute ?_ (args_oga _ _)))
 refine wpAny_bind (m:=slotArgs _ _ _) (wpAny_of_eq (a:=(.ref a,[.str "read" s.toks])) (by rfl) ?_)
 refine wpAny_bind (m:=Builtin.ObjectAttr.attrName _) (wpAny_pure (wpAny_bind (wpAny_typeOf hT (wpAny_bind ?_))))
 unfold Builtin.ObjectAttr.find
 refine wpAny_bind (wpAny_of_eq fn_no_read (wpAny_bind (m:=Builtin.ObjectAttr.getOf _) (wpAny_pure (wpAny_bind (m:=Builtin.ObjectAttr.dataDescriptor? _ _) (wpAny_pure ?_)))))
 dsimp only
 unfold Builtin.ObjectAttr.ownThenClass
 refine wpAny_bind ?_
 show wpAny _ _ (do Builtin.ObjectAttr.inDict "read" (← Builtin.ObjectAttr.ownDict a)) _ _ _
 refine wpAny_bind ?_
 unfold Builtin.ObjectAttr.ownDict
 refine wpAny_bind (wpAny_loadPart (s:={ s with toks:=s.toks + 1 }) ho ?_)
 dsimp only
 unfold instanceDict
 refine wpAny_bind (wpAny_loadPart (s:={ s with toks:=s.toks + 1 }) ho ?_)
 dsimp only
 refine wpAny_pure ?_
 have hX:Frag.In [(d,dictOf es n)] s.heap:=fun b o e=>by
  by_cases h:b=d
  ·subst h;simp at e;rw [← e];exact hd
  ·rw [List.lookup_cons,beq_false_of_ne h] at e;cases e
 show wpAny _ _ (nsGet d "read") _ _ _
 refine Looks.here (s:={ s with toks:=s.toks + 1 }) (looks_nsIn (K:=[(d,dictOf es n)]) hX (ns:=d) (name := "read") (r:=some v) (by unfold nsIn;rw [List.lookup_cons,beq_self_eq_true];exact hl)) ?_
 refine wpAny_bind (wpAny_rule (wpAny_pure ?_))
 refine wpAny_pure ⟨v,rfl,?_⟩
 rw [handedOut_of hv]
 exact wpAny_pure h
theorem getMethod_fn {a d:Addr} {fd:FuncData} {sl:Array (Option Value)} {v:Value} {es:List DictEntry} {n:Nat} {pl:Sem Bool} {Q:Value×List Value→Shared→Prop} (ho:s.heap.get? a=some ⟨.type "function", some d,.func fd,sl⟩)
  (hd:s.heap.get? d=some (dictOf es n)) (hl:getL "read" es=some (some v)) (hv:handedIn v=true) (h:Q (v,[]) { s with toks:=s.toks + 1 }):wpAny (model prog w) A (getMethod (.ref a) "read" pl) Q E s:=by
 have hT:s.TypeIs (.ref a) "function" := ⟨_,ho,rfl⟩
 unfold getMethod
 refine wpAny_bind (wpAny_specialOf hT fn_getattribute ?_)
 dsimp only
 refine ifn (by decide +kernel) ?_
 refine wpAny_bind (wpAny_specialOf hT fn_no_getattr ?_)
 refine ifn (by simp) ?_
 refine wpAny_bind (wpAny_specialOf hT fn_no_read ?_)
 dsimp only
 refine wpAny_bind (getAttr_fn ho hd hl hv ?_)
 exact wpAny_pure h
end
section
variable {K:Kx} {ρ:Fm} {σ:Store} {d:Nat} {Q:V→Store→Prop}
theorem slots_fn {o:Obj} {fd:FuncData} {d:Option Addr} (hc:o.cls=.type "function") (hd:o.dict=d) (hf:o.data=.func fd):o=⟨.type "function", d,.func fd,o.slots⟩:=by
 obtain ⟨c,d',dt,sl⟩:=o;cases hc;cases hd;cases hf;rfl
theorem as_attrF {o:Expr} {pos:Pos} {pv:V} {Q:Fm→Store→Prop}
  (h:EvP K ρ σ o (fun ov σ₁=>∃ x f cap,ov=.loc x∧σ₁ x=some (.func f cap none)∧∀ dx,σ₁ dx=none→dx≠x→Q ρ (upd (upd σ₁ dx (some (.ns [("read", pv)]))) x (some (.func f cap (some dx)))))):
  AsP K ρ σ (.Attribute o "read" pos) pv Q:=fun A env s v ha hr hi hv QM hq=>by
 rw [arm_assign_Attribute]
 refine wpAny_bind (wpAny_holding (h A env s ha hr hi _ fun ov po σ₁ s₁ h₁ i₁ e₁ r₁=>wpAny_bind (wpAny_standAt ?_)))
 refine bc fun hbc=>?_
 obtain ⟨x,f,cap,rfl,hx,q⟩:=h₁
 obtain ⟨_,rfl⟩:=Rel.inv r₁
 obtain ⟨ob,fd,ho,hc,hd,hdat,f1,f2,f3,f4,f5,f6,f7,f8,f9,f10,f11⟩:=(i₁.own x _ hx).2
 refine hbc ?_
 clear hbc
 rw [slots_fn hc hd hdat] at ho
 have hn:s₁.heap.get? s₁.heap.objs.size=none:=get?_ge (Nat.le_refl _)
 have hne:s₁.heap.objs.size≠x:=fun z=>by rw [z,ho] at hn;cases hn
 refine wpAny_bind (wpAny_holding (setAttr_fn ho fun h' tk hs tk' n g1 g2 gk=>?_))
 have hv₁:=hv.mono e₁.seq
 have no:σ₁ s₁.heap.objs.size=none:=i₁.off hn
 have E:Ext σ₁ s₁.heap (upd (upd σ₁ s₁.heap.objs.size (some (.ns [("read", pv)]))) x (some (.func f cap (some s₁.heap.objs.size)))) h':=
  ⟨fun b o e hb _=>gk b o (fun z=>by rw [z,hx] at hb;cases hb) e,fun b o e hb _=>by
   rw [upd_ne _ _ (fun z=>by rw [z,hx] at hb;cases hb),upd_ne _ _ (fun z=>by rw [z,hn] at e;cases e)];exact hb,fun c v hc=>⟨v,by
   rw [upd_ne _ _ (fun z=>by rw [z,hx] at hc;cases hc),upd_ne _ _ (fun z=>by rw [z,no] at hc;cases hc)];exact hc⟩⟩
 refine wpAny_release' (hq ρ _ { s₁ with heap:=h',toks:=tk } (q _ no hne) (hr.mono (e₁.trans E)) (i₁.step (s':={ s₁ with heap:=h',toks:=tk }) E (fun b p hb=>?_) (fun nn hnn o e=>gk _ o (fun z=>?_) e) rfl rfl) (e₁.trans E).toF)
 ·by_cases h1:b=x
  ·subst h1
   (rw [upd_self] at hb;cases hb)
   refine .inr ⟨(i₁.own _ _ hx).1,?_⟩
   exact ⟨_,fd,g1,rfl,rfl,rfl,f1,f2,f3,f4,f5,f6,f7,f8,f9,f10,f11.mono E⟩
  ·rw [upd_ne _ _ h1] at hb
   by_cases h2:b=s₁.heap.objs.size
   ·subst h2
    (rw [upd_self] at hb;cases hb)
    exact .inr ⟨i₁.size,_,_,g2,.cons (hv₁.mono E.seq) .nil⟩
   ·rw [upd_ne _ _ h2] at hb
    exact .inl ⟨hb,fun o e=>gk b o h1 e⟩
 ·exact absurd (i₁.tabLt nn hnn) (Nat.not_lt.mpr (z ▸ (i₁.own x _ hx).1))
theorem ev_methF {o:Expr} {apos pos:Pos} {args:List Expr}
  (h:EvP K ρ σ o (fun ov σ₁=>∃ x f cap dx at_ g,ov=.loc x∧σ₁ x=some (.func f cap (some dx))∧σ₁ dx=some (.ns at_)∧at_.lookup ("read" : Str)=some (V.loc g)∧
   EvsP K ρ args σ₁ (fun pl σ₂=>KeepOk σ₂ (.loc g)∧CallV K.d (.loc g) pl σ₂ Q))) {pl:Sem Bool}
  (he:autoParam (∀ env,eval (.Call (.Attribute o "read" apos) args [] pos) env=(do
   let ov ← eval o env
   standAt apos.atName
   let (f,first) ← holding [ov] (getMethod ov "read" pl)
   callWith pos f first (backTo pos (starEach args env)) (backToKw pos (keywordEach [] env)))) aI)
  (hse:autoParam (∀ env,backTo pos (starEach args env)=args.map fun e=>(false,eval e env)) aI):EvP K ρ σ (.Call (.Attribute o "read" apos) args [] pos) Q:=fun A env s ha hr hi QM hq=>by
 refine methodCall_KW (pl:=pl) (h A env s ha hr hi _ fun ov po σ₁ s₁ h₁ i₁ e₁ r₁=>?_) (he env)
 refine bc fun hbc=>?_
 obtain ⟨x,f,cap,dx,at_,g,rfl,hx,hd,hl,hE⟩:=h₁
 obtain ⟨_,rfl⟩:=Rel.inv r₁
 obtain ⟨ob,fd,ho,hc,hdi,hdat,_⟩:=(i₁.own x _ hx).2
 refine hbc ?_
 clear hbc
 rw [slots_fn hc hdi hdat] at ho
 refine bc fun hbc=>?_
 obtain ⟨es,n,hdo,hes⟩:=(i₁.own dx _ hd).2
 refine hbc ?_
 clear hbc
 have fd:=hes.find "read"
 rw [hl] at fd
 refine bc fun hbc=>?_
 obtain ⟨v,hg,rv⟩:=fd
 refine hbc ?_
 clear hbc
 obtain ⟨_,rfl⟩:=Rel.inv rv
 refine getMethod_fn ho hdo hg rfl ?_
 exact callWith_ (s:={ s₁ with toks:=s₁.toks + 1 }) (fv:=.loc g) (pre:=[]) (hse env) hE ha (hr.mono e₁) i₁.toks (.loc g) .nil fun v pv σ₂ s₂ q i₂ e₂ r₂=>hq v pv σ₂ s₂ q i₂ (e₁.trans e₂) r₂
end
end Mine
end
section
open PySem PySem.W PyProof.Rows PySem.Calls
namespace Mine
open Ia Ib
section
variable {prog:Program} {w:World} {A:Around} {E:Value→Shared→Prop} {s:Shared}
theorem cit_end {it:Addr} {v u:Value} {Q:Option Value→Shared→Prop} (hh:A.handled=none) (ho:s.heap.get? it=some (citO v u (.bool true)))
  (hQ:∀ h',(∀ b o,s.heap.get? b=some o→h'.get? b=some o)→Q none { s with heap:=h' }):wpAny (model prog w) A (pyNext (.ref it)) Q E s:=by
 have hT:s.TypeIs (.ref it) "callable_iterator" := ⟨_,ho,rfl⟩
 unfold pyNext
 refine wpAny_bind (wpAny_attempt (wpAny_callSpecial?_slot (name:=Str.ofString "__next__") hT slot_cit_next (wpAny_call_entry slot_cit_next hT entry_cit_next ?_ (args_cit_next _))))
 show wpAny _ _ (field (.ref it) 2 >>= _) _ _ s
 refine wpAny_bind (wpAny_field ho rfl (x:=.bool true) rfl ?_)
 refine ifp (by decide) ?_
 exact wpAny_bind (wpAny_rule (wpAny_bind (stop_iter (s:=s) (h₁:=s.heap) (Q:=Q) (E:=E) hh hQ)))
theorem meth_callable:∃ x,typeLookup (.type "method") "__call__" = pure (some x):=⟨.builtin "method.__call__", by rw [typeLookup_type,builtinLookup_eq_fast];kernel_rfl⟩
end
noncomputable def IsIt:PObj→Prop
 | .riter _ _=>True
 | .citer _ _=>True
 | .cend=>True
 | _=>False
noncomputable def ORel (σ:Store) (h:Heap):Option Value→Option V→Prop
 | none,none=>True
 | some v,some pv=>Rel σ h v pv
 | _,_=>False
noncomputable def NxP (d:Nat) (a:Addr) (σ:Store) (Qn:Option V→Store→Prop):Prop:=
 ∀ (A:Around) (s:Shared),AOk d A→Inv σ s→∀ QM:Option Value→Shared→Prop,(∀ ov pov σ' s',Qn pov σ'→Inv σ' s'→Ext σ s.heap σ' s'.heap→ORel σ' s'.heap ov pov→QM ov s')→wpAny (model C.prog C.w) A (pyNext (.ref a)) QM Bot s
section
variable {K:Kx} {ρ:Fm} {σ:Store} {d:Nat} {Q:V→Store→Prop} {Qn:Option V→Store→Prop}
theorem IsIt.obj {s:Shared} (i:Inv σ s) {a:Addr} {p:PObj} (h:σ a=some p) (hp:IsIt p):∃ o vs,s.heap.get? a=some o∧(o.cls=.type "list_reverseiterator" ∨ o.cls=.type "callable_iterator")∧o.data=.fields vs:=by
 have:=(i.own a p h).2
 cases p<;>try exact hp.elim
 ·obtain ⟨v,u,e,_⟩:=this;exact ⟨_,_,e,.inr rfl,rfl⟩
 ·exact ⟨_,_,this,.inr rfl,rfl⟩
 ·obtain ⟨l,e,_⟩:=this;exact ⟨_,_,e,.inl rfl,rfl⟩
theorem own_goI {M:Model} {target:Expr} {it:Addr} {v:Value} {A:Around} {E:Value→Shared→Prop} {s:Shared} {Q:Unit→Shared→Prop} (i:Inv σ s) {p:PObj} (hp:σ it=some p) (hI:IsIt p) (h:Q () s):wpAny M A (letOwnedTupleGo target (.ref it) v) Q E s:=by
 refine bc fun hbc=>?_
 obtain ⟨o,vs,e,c,d⟩:=IsIt.obj i hp hI
 refine hbc ?_
 clear hbc
 have main:wpAny M A (do
  let (.ref r,.ref a):=((Value.ref it,v):Value×Value) | return
  let o ← load r
  match o.cls,o.data with
  | .type n,.fields vs=>
   if ["enumerate", "zip", "dict_itemiterator", "dict_reverseitemiterator", "odict_iterator", "itertools.zip_longest", "itertools.pairwise"].contains n && vs[0]? == some (rawInt a) then
    rule "for.unpacks-the-owned-tuple"
    updateField r 0 .none
  | _,_=>pure ()) Q E s:=by
  cases v<;>first | exact wpAny_pure h | skip
  refine wpAny_bind (wpAny_load e ?_)
  have n1:["enumerate", "zip", "dict_itemiterator", "dict_reverseitemiterator", "odict_iterator", "itertools.zip_longest", "itertools.pairwise"].contains "list_reverseiterator" = false:=by decide +kernel
  have n2:["enumerate", "zip", "dict_itemiterator", "dict_reverseitemiterator", "odict_iterator", "itertools.zip_longest", "itertools.pairwise"].contains "callable_iterator" = false:=by decide +kernel
  rcases c with c | c<;>rw [c,d]<;>(simp only [n1,n2,Bool.false_and,Bool.false_eq_true,if_false];exact wpAny_pure h)
 unfold letOwnedTupleGo
 cases target<;>first | exact wpAny_pure h | exact main
theorem iter_own {s:Shared} {A:Around} {a:Addr} {p:PObj} (i:Inv σ s) (h:σ a=some p) (hp:IsIt p) {QM:Value→Shared→Prop} (hq:QM (.ref a) s):wpAny (model C.prog C.w) A (pyIter (.ref a)) QM Bot s:=by
 refine bc fun hbc=>?_
 obtain ⟨o,vs,e,c,d⟩:=IsIt.obj i h hp
 refine hbc ?_
 clear hbc
 rcases c with c | c
 ·exact pyIter_rev e c hq
 ·exact pyIter_cit e c hq
theorem nx_rev {a:Addr} {vs:List V} {i:Nat} (hs:σ a=some (.riter vs i)) (hi:i≤vs.length) (h0:i=0→Qn none σ) (h1:∀ j x,i=j + 1→vs[j]?=some x→Qn (some x) (upd σ a (some (.riter vs j)))):NxP d a σ Qn:=fun A s ha i₀ QM hq=>by
 refine bc fun hbc=>?_
 obtain ⟨l,ho,hr⟩:=(i₀.own a _ hs).2
 refine hbc ?_
 clear hbc
 cases i with
 | zero=>exact rev_end ha.1 ho fun h' k=>hq none none σ _ (h0 rfl) (i₀.grow (s':={ s with heap:=h' }) k rfl rfl) (Ext.grow k) trivial
 | succ j=>
  refine bc fun hbc=>?_
  obtain ⟨items,n,hl,hrs⟩:=hr.lst_inv
  have hj:j < vs.length:=hi
  obtain ⟨v,hv,rv⟩:=hrs.get (List.getElem?_eq_getElem hj)
  refine hbc ?_
  clear hbc
  have ho':s.heap.get? a=some (revO (.ref l) (j:Int)):=by rw [ho];congr 3;lia
  refine rev_item ho' hl (by rw [← Array.getElem?_toList];exact hv) fun h' g sb=>?_
  have hsq:SeqKeep σ s.heap (upd σ a (some (.riter vs j))) h':=⟨fun b o e _ hb _=>(sb.2 b (fun q=>by rw [q,hs] at hb;cases hb)).trans e,fun b o e _ hb _=>by
   rw [upd_ne σ _ (fun q=>by rw [q,hs] at hb;cases hb)];exact hb⟩
  refine bc fun hbc=>?_
  obtain ⟨i',e'⟩:=i₀.set (s':={ s with heap:=h' }) (p':=.riter vs j) hs sb.extBut (fun v e=>by cases e) ⟨l,g,hr.mono hsq⟩ rfl rfl
  refine hbc ?_
  clear hbc
  exact hq (some v) (some vs[j]) _ _ (h1 j _ rfl (List.getElem?_eq_getElem hj)) i' e' (rv.mono e'.seq)
theorem nx_cend {a:Addr} (hs:σ a=some .cend) (h:Qn none σ):NxP d a σ Qn:=fun A s ha i₀ QM hq=>
 cit_end ha.1 (i₀.own a _ hs).2 fun h' k=>hq none none σ _ h (i₀.grow (s':={ s with heap:=h' }) k rfl rfl) (Ext.grow k) trivial
theorem AOk.in1 {A:Around} (h:AOk (d + 1) A):AOk d A.in1:=by
 refine bc fun hbc=>?_
 obtain ⟨h1,h2,h3⟩:=h
 refine hbc ?_
 clear hbc
 refine ⟨h1,?_,?_⟩
 ·show A.depth + d≤990;lia
 ·show A.units + 1 + 10 * d≤9800;lia
set_option tactic.hygienic true in
theorem nx_cit {a b fn:Addr} {u:List Nat} {self:V} {fo:Obj} {fd:FuncData} (hs:σ a=some (.citer (.loc b) (.str u))) (hb:σ b=some (.bound (.ref fn) self)) (hf:C.h1.get? fn=some fo) (ht:fn∉C.tabs) (hfd:fo.data=.func fd)
  (h:CallV d (.loc b) [] σ (fun v σ₁=>σ₁ a=some (.citer (.loc b) (.str u))∧σ₁ b=some (.bound (.ref fn) self)∧∃ x,v=.str x∧(u=x→Qn none (upd σ₁ a (some .cend)))∧(u≠x→Qn (some (.str x)) σ₁))):NxP (d + 1) a σ Qn:=fun A s ha i₀ QM hq=>by
 refine bc fun hbc=>?_
 obtain ⟨v,uu,ho,rv,ru⟩:=(i₀.own a _ hs).2
 refine hbc ?_
 clear hbc
 obtain rfl:=Rel.inv rv
 refine bc fun hbc=>?_
 obtain ⟨_,eq0⟩:=Rel.inv ru
 obtain ⟨v,hbo,rself⟩:=(i₀.own b _ hb).2
 refine hbc ?_
 clear hbc
 subst eq0
 refine cit_next ha.1 ho hbo (i₀.base fn fo hf ht) hfd ?_
 refine h A.in1 s (.ref b) [] ha.in1 i₀ (.loc b) .nil _ fun r pr σ₁ s₁ q i₁ e₁ r₁=>?_
 refine bc fun hbc=>?_
 obtain ⟨hs₁,hb₁,x,rfl,q1,q2⟩:=q
 refine hbc ?_
 clear hbc
 obtain ⟨_,rfl⟩:=Rel.inv r₁
 rename_i t
 refine bc fun hbc=>?_
 obtain ⟨v1,uu1,ho1,rv1,ru1⟩:=(i₁.own a _ hs₁).2
 refine hbc ?_
 clear hbc
 obtain rfl:=Rel.inv rv1
 refine bc fun hbc=>?_
 obtain ⟨_,eq0⟩:=Rel.inv ru1
 obtain ⟨v2,hbo2,rself2⟩:=(i₁.own b _ hb₁).2
 refine hbc ?_
 clear hbc
 subst eq0
 refine ⟨_,_,ho1,hbo2,i₁.base fn fo hf ht,⟨x.toArray⟩,t,rfl,?_⟩
 by_cases hux:u=x
 ·subst hux
  refine ifp rfl ?_
  intro h' g k
  refine bc fun hbc=>?_
  obtain ⟨i',e'⟩:=i₁.set (s':={ s₁ with heap:=h' }) (p':=.cend) hs₁ k (fun v e=>by cases e) g rfl rfl
  refine hbc ?_
  clear hbc
  exact hq none none _ _ (q1 rfl) i' (e₁.trans e') trivial
 ·refine ifn (by intro z;apply hux;injection z with z;exact Array.toList_inj.mpr z) ?_
  exact hq (some _) (some _) _ _ (q2 hux) i₁ e₁ (.str x t)
set_option tactic.hygienic true in
theorem bi_reversed {vs:List V} (q:∀ a,σ a=none→Q (.loc a) (upd σ a (some (.riter vs vs.length)))):CallV d (.raw (.type "reversed")) [.lst vs] σ Q:=fun A s f l ha hi hf hr QM hq=>by
 refine bc fun hbc=>?_
 obtain ⟨x,eq0,hx⟩:=rels1 hr
 refine hbc ?_
 clear hbc
 subst eq0
 obtain ⟨_,rfl⟩:=Rel.inv hf
 cases hx with
 | lst ho hσ ht hrs=>
  rename_i b items n
  have hn:=get?_ge (Nat.le_refl s.heap.objs.size)
  refine call_reversed ho fun h' g k=>?_
  have e:(items.toArray.size:Int)=vs.length:=by rw [← hrs.length];simp
  obtain ⟨i',e'⟩:=hi.new (s':={ s with heap:=h' }) (p:=.riter vs vs.length) hn hi.size k ⟨b,by rw [← e];exact g,(Rel.lst ho hσ ht hrs).mono ⟨fun b o e _ _ _=>k b o e,fun b o e _ hb _=>by
   rw [upd_ne σ _ (fun z=>by rw [z,hn] at e;cases e)];exact hb⟩⟩ rfl rfl
  exact hq _ _ _ _ (q _ (hi.off hn)) i' e' (.loc _)
theorem bi_iter2 {b:Addr} {f:Value} {self:V} {u:List Nat} (hb:σ b=some (.bound f self)) (q:∀ a,σ a=none→Q (.loc a) (upd σ a (some (.citer (.loc b) (.str u))))):CallV d (.raw (.builtin "iter")) [.loc b,.str u] σ Q:=fun A s fv l ha hi hf hr QM hq=>by
 refine bc fun hbc=>?_
 obtain ⟨x,y,rfl,hx,hy⟩:=rels2 hr
 obtain ⟨_,rfl⟩:=Rel.inv hf;obtain ⟨_,rfl⟩:=Rel.inv hx;obtain ⟨_,rfl⟩:=Rel.inv hy
 obtain ⟨v,ho,_⟩:=(hi.own b _ hb).2
 refine hbc ?_
 clear hbc
 have hn:=get?_ge (Nat.le_refl s.heap.objs.size)
 refine call_iter2 (fun A E Q h=>?_) fun h' g k=>?_
 ·refine bc fun hbc=>?_
  obtain ⟨m,hm⟩:=meth_callable
  refine hbc ?_
  clear hbc
  exact wpAny_specialOf ⟨_,ho,rfl⟩ hm (h m)
 ·refine bc fun hbc=>?_
  obtain ⟨i',e'⟩:=hi.new (s':={ s with heap:=h' }) (p:=.citer (.loc b) (.str u)) hn hi.size k ⟨_,_,g,.loc b,.str u _⟩ rfl rfl
  refine hbc ?_
  clear hbc
  exact hq _ _ _ _ (q _ (hi.off hn)) i' e' (.loc _)
inductive ForO (K:Kx) (env:Env) (J:Nat→Fm→Store→Prop) (σ₁:Store) (h₁:Heap) (n:Nat) (s':Shared):Prop
 | mk (ρ₁:Fm) (σ₂:Store) (hJ:J n ρ₁ σ₂) (hr:Rep K env ρ₁ σ₂ s'.heap) (hi:Inv σ₂ s') (E:ExtF env σ₁ h₁ σ₂ s'.heap)
theorem st_forO {target iter:Expr} {b:List Stmt} {pos:Pos} {Q:Fl→Fm→Store→Prop}
  (h:EvP K ρ σ iter (fun v σ₁=>∃ a p,v=.loc a∧σ₁ a=some p∧IsIt p∧∃ (J:Nat→Fm→Store→Prop) (n:Nat),J n ρ σ₁∧∀ n ρ₁ σ₂,J n ρ₁ σ₂→
   NxP K.d a σ₂ (fun ox σ₃=>match ox with | none=>Q .next ρ₁ σ₃ | some x=>(∃ p,σ₃ a=some p∧IsIt p)∧AsP K ρ₁ σ₃ target x (fun ρ₂ σ₄=>ExP K ρ₂ σ₄ b (Turn J n Q)))))
  (hs:autoParam (∀ env x,foldedSetIterable iter env x=pure x) aI):StP K ρ σ (.For target iter b [] pos) Q:=fun A env s ha hr hi QM hq=>by
 refine wpAny_For (h A env s ha hr hi _ fun v pv σ₁ s₁ h₁ i₁ e₁ r₁=>?_) (hs env)
 refine bc fun hbc=>?_
 obtain ⟨a,p,rfl,hp,hI,J,n,hJ,turn⟩:=h₁
 refine hbc ?_
 clear hbc
 obtain ⟨_,rfl⟩:=Rel.inv r₁
 refine iter_own i₁ hp hI ?_
 refine codeAny_forLoop_any (ForO K env J σ₁ s₁.heap) ?_ n ⟨ρ,σ₁,hJ,hr.mono e₁,i₁,.refl⟩
 intro n s' hJ2
 refine bc fun hbc=>?_
 obtain ⟨ρ₁,σ₂,hJ,hr',hi',E'⟩:=hJ2
 refine hbc ?_
 clear hbc
 refine wpAny_mono (turn n ρ₁ σ₂ hJ A s' ha hi' _ fun ov pov σ₃ s₂ q i₂ e₂ r₂=>?_) (fun _ _ h=>h) fun _ _ x=>x.elim
 cases pov with
 | none=>
  cases ov with
  | some v=>exact r₂.elim
  | none=>exact wpAny_execs_nil (hq .next .next ρ₁ σ₃ s₂ q trivial (hr'.mono e₂) i₂ (e₁.toF.trans (E'.trans e₂.toF)))
 | some x=>
  cases ov with
  | none=>exact r₂.elim
  | some v=>
   refine bc fun hbc=>?_
   obtain ⟨⟨p',hp',hI'⟩,q⟩:=q
   refine hbc ?_
   clear hbc
   refine own_goI i₂ hp' hI' ?_
   refine wpAny_mono (q A env s₂ v ha (hr'.mono e₂) i₂ r₂ _ fun ρ₂ σ₄ s₃ q hr₃ i₃ E₃=>?_) (fun _ _ h=>h) fun _ _ x=>x.elim
   refine wpAny_mono (q A env s₃ ha hr₃ i₃ _ fun f fl ρ₃ σ₅ s₄ q rf hr₄ i₄ E₄=>?_) (fun _ _ h=>h) fun _ _ x=>x.elim
   have EE:=(((E'.trans e₂.toF).trans E₃).trans E₄)
   cases fl with
   | next=>cases f<;>first | exact rf.elim | (obtain ⟨m,hm,hJ⟩:=q;exact ⟨m,hm,ρ₃,σ₅,hJ,hr₄,i₄,EE⟩)
   | cont=>cases f<;>first | exact rf.elim | (obtain ⟨m,hm,hJ⟩:=q;exact ⟨m,hm,ρ₃,σ₅,hJ,hr₄,i₄,EE⟩)
   | brk=>cases f<;>first | exact rf.elim | exact hq .next .next ρ₃ σ₅ s₄ q trivial hr₄ i₄ (e₁.toF.trans EE)
   | ret v=>cases f<;>first | exact rf.elim | exact hq _ (.ret v) ρ₃ σ₅ s₄ q rf hr₄ i₄ (e₁.toF.trans EE)
end
end Mine
end
section
open PySem PySem.W PyProof.Rows PySem.Calls
namespace Mine
section
variable {K:Kx} {ρ:Fm} {σ:Store} {d:Nat} {Q:V→Store→Prop}
theorem ev_globalI (O:C.Ok) {x:Str} {pos:Pos} {i:Int} {t:Tok} (hk:K.names.lookup x=some .globalImplicit) (hv:C.mg x=some (.int i t)) (h:Q (.int i) σ) (hd:autoParam ((x == ("__debug__" : Str))=false) aD):
  EvP K ρ σ (.Name x pos) Q:=fun A env s ha hr hi QM hq=>
 Name_function_global hr.kind ((congrArg (·.lookup x) hr.names).trans hk) (loadGlobal_global (hr.glob ▸ hi.ns O.g O.gt) hv (hq _ _ _ _ h hi .refl (.int i t))) hd
noncomputable def fnB (R:FnRec) (names:List Str):Bool:=
 (R.scope.kind == .function) && !R.scope.isCoroutine && !R.scope.isGenerator && decide names.Nodup && names.all (fun x=>R.scope.names.lookup x == some .local) && R.scope.names.all (fun x=>x.2 != .cell)
theorem fnB.use {R:FnRec} {names:List Str} (h:fnB R names=true):R.scope.kind=.function∧R.scope.isCoroutine=false∧R.scope.isGenerator=false∧names.Nodup∧(∀ x∈names,R.scope.names.lookup x=some .local)∧∀ x∈R.scope.names,x.2≠.cell:=by
 unfold fnB at h
 simp only [Bool.and_eq_true,beq_iff_eq,Bool.not_eq_true',decide_eq_true_eq,List.all_eq_true,bne_iff_ne] at h
 refine bc fun hbc=>?_
 obtain ⟨⟨⟨⟨⟨h1,h2⟩,h3⟩,h4⟩,h5⟩,h6⟩:=h
 refine hbc ?_
 clear hbc
 exact ⟨h1,h2,h3,h4,h5,h6⟩
theorem cv_fn' (O:C.Ok2) {f:Addr} {R:FnRec} {code:Value} {body:List Stmt} {names:List Str} {args:List V} {ρ:Fm} (hf:FnB f R code) (hbind:Binds R names) (hck:fnB R names=true) (hb:R.body=.stmts body) (hρ:pslots names args=ρ) (hlen:args.length=names.length)
  (h:ExP (KxOf R code d) ρ σ body (RetQ Q)):CallV (d + 1) (.raw (.ref f)) args σ Q:=by
 refine bc fun hbc=>?_
 obtain ⟨h1,h2,h3,h4,h5,h6⟩:=fnB.use hck
 refine hbc ?_
 clear hbc
 subst hρ
 exact cv_fn O hf hb hbind h4 hlen h5 h6 h1 h2 h3 h
theorem code_fn' (O:C.Ok2) {f:Addr} {R:FnRec} {code:Value} {body:List Stmt} {names:List Str} {args:List V} {ρ:Fm} (hf:FnB f R code) (hbind:Binds R names) (hck:fnB R names=true) (hb:R.body=.stmts body) (hρ:pslots names args=ρ) (hlen:args.length=names.length)
  (h:ExP (KxOf R code d) ρ σ body (RetQ Q)):CodeV (d + 1) (.ref f) args σ Q:=by
 refine bc fun hbc=>?_
 obtain ⟨h1,h2,h3,h4,h5,h6⟩:=fnB.use hck
 refine hbc ?_
 clear hbc
 subst hρ
 exact code_fn O hf hb hbind h4 hlen h5 h6 h1 h2 h3 h
noncomputable def fnC (R:FnRec) (names emps:List Str):Bool:=
 (R.scope.kind == .function) && !R.scope.isCoroutine && !R.scope.isGenerator && decide names.Nodup && names.all (fun x=>R.scope.names.lookup x == some .local || R.scope.names.lookup x == some .cell) && emps.all (fun x=>!names.contains x && R.scope.names.lookup x == some .cell)
set_option tactic.hygienic true in
theorem cellsFrom_has:∀ {names:List (Str×NameKind)} {n:Nat} {acc:List (Str×Addr)} {x:Str},(names.lookup x=some .cell∨(acc.lookup x).isSome=true)→((cellsFrom n names acc).lookup x).isSome=true:=by
 intro names
 induction names with
 | nil=>intro n acc x h;exact h.elim (fun h=>nomatch h) id
 | cons p r ih=>
  intro n acc x h
  refine bc fun hbc=>?_
  obtain ⟨y,k⟩:=p
  refine hbc ?_
  clear hbc
  unfold cellsFrom
  by_cases hxy:x=y
  ·subst hxy
   split
   ·exact ih (.inr (by simp))
   ·rename_i hk
    rcases h with h | h
    ·rw [List.lookup_cons,beq_self_eq_true] at h;cases h;simp at hk
    ·exact ih (.inr h)
  ·have e:(x == y)=false:=by simpa using hxy
   have h':r.lookup x=some .cell∨(acc.lookup x).isSome=true:=by
    rcases h with h | h
    ·rw [List.lookup_cons,e] at h;exact .inl h
    ·exact .inr h
   split
   ·refine ih ?_
    rcases h' with h | h
    ·exact .inl h
    ·exact .inr (by rw [List.lookup_cons,e];exact h)
   ·exact ih h'
theorem cv_fnC' (O:C.Ok2) {f:Addr} {R:FnRec} {code:Value} {body:List Stmt} {names emps:List Str} {args:List V} {ρ:Fm} (hf:FnB f R code) (hbind:Binds R names) (hck:fnC R names emps=true) (hb:R.body=.stmts body) (hρ:(pslots names args++emps.map fun x=>(x,.emp))=ρ) (hlen:args.length=names.length)
  (h:ExP (KxOf R code d) ρ σ body (RetQ Q)):CallV (d + 1) (.raw (.ref f)) args σ Q:=by
 unfold fnC at hck
 simp only [Bool.and_eq_true,beq_iff_eq,Bool.not_eq_true',decide_eq_true_eq,List.all_eq_true,Bool.or_eq_true] at hck
 refine bc fun hbc=>?_
 obtain ⟨⟨⟨⟨⟨h1,h2⟩,h3⟩,h4⟩,h5⟩,h6⟩:=hck
 refine hbc ?_
 clear hbc
 subst hρ
 refine cv_fnC O hf hb hbind h4 hlen (fun x hx=>?_) (fun x hx=>⟨?_,(h6 x hx).2,fun n=>cellsFrom_has (.inl (h6 x hx).2)⟩) h1 h2 h3 h
 ·rcases h5 x hx with q | q
  ·exact .inl q
  ·exact .inr ⟨q,fun n=>cellsFrom_has (.inl q)⟩
 ·have:=(h6 x hx).1
  intro q
  (rw [List.contains_iff_mem.mpr q] at this;cases this)
inductive Frz (σ σ':Store):V→V→Prop where
 | same (v:V) (h:∀ a,v≠.loc a):Frz σ σ' v v
 | lst {a:Addr} {vs:List V} (h:σ' a=some (.list vs)) (hn:σ a=none):Frz σ σ' (.loc a) (.lst vs)
theorem CallV.pure {fv:V} {args:List V} (h:CallV d fv args σ (fun v σ'=>(∀ a o,σ a=some o→σ' a=some o)∧∃ v',Frz σ σ' v v'∧Q v' σ)):CallV d fv args σ Q:=fun A s f vs ha hi hf hr QM hq=>
 h A s f vs ha hi hf hr QM fun v pv σ' s' q i' e' r'=>by
  refine bc fun hbc=>?_
  obtain ⟨sub,v',fz,q⟩:=q
  refine hbc ?_
  clear hbc
  have E2:Ext σ' s'.heap σ s'.heap→True:=fun _=>trivial
  have free:∀ a,σ' a=none→σ a=none:=fun a hn=>by
   cases hs:σ a with
   | none=>rfl
   | some o=>exact absurd ((sub a o hs).symm.trans hn) (Option.some_ne_none _)
  have sq:SeqKeep σ' s'.heap σ s'.heap:=⟨fun _ _ e _ _ _=>e,fun a o e _ hn _=>free a hn⟩
  have i'':Inv σ s':=by
   refine ⟨i'.base,i'.top,fun a o ho=>⟨(i'.own a o (sub a o ho)).1,ObjRel.swap sq (fun cd q y=>?_) (i'.own a o (sub a o ho)).2⟩,i'.tabLt,fun n hn=>?_,i'.gens,i'.os⟩
   ·exact ⟨y.1,fun c e=>⟨free c (y.2 c e).1,(y.2 c e).2⟩⟩
   ·refine bc fun hbc=>?_
    obtain ⟨ps,g,t,f⟩:=i'.tabs n hn
    refine hbc ?_
    clear hbc
    exact ⟨ps,g,t,fun d hd cv hc=>have y:=f d hd cv hc;⟨y.1,fun c e=>⟨free c (y.2 c e).1,(y.2 c e).2⟩⟩⟩
  have E:Ext σ s.heap σ s'.heap:=⟨fun a o g hs ht=>e'.keep a o g hs ht,fun a o g hs ht=>hs,fun c v hc=>⟨v,hc⟩⟩
  refine hq v v' σ s' q i'' E ?_
  revert r'
  clear q
  cases fz with
  | same _ hne=>exact fun r'=>r'.mono sq
  | lst hl hn=>
   intro r'
   obtain rfl:=r'.inv
   refine bc fun hbc=>?_
   obtain ⟨items,n,ho,hrs⟩:=(i'.own _ _ hl).2
   obtain ⟨items⟩:=items
   refine hbc ?_
   clear hbc
   exact .lst ho hn (i'.notTab (i'.own _ _ hl).1) (hrs.mono sq)
theorem mem_of_lookup' {β:Type} {x:Str} {v:β}:∀ {l:List (Str×β)},l.lookup x=some v→(x,v)∈l
 | (y,w) :: r,h=>by
  rw [List.lookup_cons] at h
  by_cases hxy:x=y
  ·subst hxy;(rw [beq_self_eq_true] at h;cases h);exact List.mem_cons_self
  ·rw [show (x == y)=false by simpa using hxy] at h;exact List.mem_cons_of_mem _ (mem_of_lookup' h)
theorem lookup_of_mem {β:Type} {x:Str} {v:β}:∀ {l:List (Str×β)},(l.map (·.1)).Nodup→(x,v)∈l→l.lookup x=some v
 | (y,w) :: r,hn,h=>by
  rw [List.lookup_cons]
  have hn':=List.nodup_cons.mp hn
  rcases List.mem_cons.mp h with e | hm
  ·cases e;rw [beq_self_eq_true]
  ·have:x≠y:=fun q=>by
    rw [q] at hm
    exact hn'.1 (List.mem_map.mpr ⟨(y,v),hm,rfl⟩)
   rw [show (x == y)=false by simpa using this];exact lookup_of_mem hn'.2 hm
theorem nodup_inj {β:Type} {x y:Str} {c:β}:∀ {l:List (Str×β)},(l.map (·.2)).Nodup→(x,c)∈l→(y,c)∈l→x=y
 | (z,w) :: r,hn,h1,h2=>by
  have hn':=List.nodup_cons.mp hn
  rcases List.mem_cons.mp h1 with e1 | m1<;>rcases List.mem_cons.mp h2 with e2 | m2
  ·cases e1;cases e2;rfl
  ·cases e1;exact absurd (List.mem_map.mpr ⟨(y,c),m2,rfl⟩) hn'.1
  ·cases e2;exact absurd (List.mem_map.mpr ⟨(x,c),m1,rfl⟩) hn'.1
  ·exact nodup_inj hn'.2 m1 m2
noncomputable def fnL (R:FnRec) (names caps:List Str):Bool:=
 fnB R names && decide caps.Nodup && caps.all (fun x=>R.scope.names.lookup x == some .free)
theorem cv_loc' (O:C.Ok2) {a:Addr} {R:FnRec} {cap:List (Str×Addr)} {dd:Option Addr} {body:List Stmt} {names:List Str} {args:List V} {ρ:Fm} (hf:σ a=some (.func R cap dd)) (hbind:Binds R names) (hck:fnL R names (cap.map (·.1))=true) (hb:R.body=.stmts body)
  (hlen:args.length=names.length) (hcell:∀ p∈cap,∃ o,σ p.2=some (.cell o)) (hnd:(cap.map (·.2)).Nodup) (hρ:(pslots names args++cap.map fun p=>(p.1,.sh p.2))=ρ)
  (h:∀ code,ExP (KxOf R code d) ρ σ body (RetQ Q)):CallV (d + 1) (.loc a) args σ Q:=by
 unfold fnL at hck
 simp only [Bool.and_eq_true,decide_eq_true_eq,List.all_eq_true,beq_iff_eq] at hck
 refine bc fun hbc=>?_
 obtain ⟨⟨h0,h7⟩,h8⟩:=hck
 obtain ⟨h1,h2,h3,h4,h5,h6⟩:=fnB.use h0
 refine hbc ?_
 clear hbc
 subst hρ
 refine cv_loc O hf hb hbind h4 hlen h5 h6 (fun x c e=>hcell _ (mem_of_lookup' e)) (fun x y c e1 e2=>nodup_inj hnd (mem_of_lookup' e1) (mem_of_lookup' e2)) (fun p hp=>?_) h1 h2 h3 h
 refine bc fun hbc=>?_
 obtain ⟨q,hq,eq0⟩:=List.mem_map.mp hp
 refine hbc ?_
 clear hbc
 subst eq0
 exact ⟨q.2,rfl,lookup_of_mem h7 hq,h8 _ (List.mem_map_of_mem hq)⟩
theorem cv_lam' (O:C.Ok2) {a:Addr} {R:FnRec} {cap:List (Str×Addr)} {dd:Option Addr} {body:Expr} {names:List Str} {args:List V} {ρ:Fm} (hf:σ a=some (.func R cap dd)) (hbind:Binds R names) (hck:fnL R names (cap.map (·.1))=true) (hb:R.body=.expr body)
  (hlen:args.length=names.length) (hcell:∀ p∈cap,∃ o,σ p.2=some (.cell o)) (hnd:(cap.map (·.2)).Nodup) (hρ:(pslots names args++cap.map fun p=>(p.1,.sh p.2))=ρ)
  (h:∀ code,EvP (KxOf R code d) ρ σ body Q):CallV (d + 1) (.loc a) args σ Q:=by
 unfold fnL at hck
 simp only [Bool.and_eq_true,decide_eq_true_eq,List.all_eq_true,beq_iff_eq] at hck
 refine bc fun hbc=>?_
 obtain ⟨⟨h0,h7⟩,h8⟩:=hck
 obtain ⟨h1,h2,h3,h4,h5,h6⟩:=fnB.use h0
 refine hbc ?_
 clear hbc
 subst hρ
 refine cv_lam O hf hb hbind h4 hlen h5 h6 (fun x c e=>hcell _ (mem_of_lookup' e)) (fun x y c e1 e2=>nodup_inj hnd (mem_of_lookup' e1) (mem_of_lookup' e2)) (fun p hp=>?_) h1 h2 h3 h
 refine bc fun hbc=>?_
 obtain ⟨q,hq,eq0⟩:=List.mem_map.mp hp
 refine hbc ?_
 clear hbc
 subst eq0
 exact ⟨q.2,rfl,lookup_of_mem h7 hq,h8 _ (List.mem_map_of_mem hq)⟩
theorem upd_none {o:PObj} {a b:Addr} (h:upd σ a (some o) b=none):b≠a∧σ b=none:=by
 by_cases e:b=a
 ·subst e;(rw [upd_self] at h;cases h)
 ·exact ⟨e,by rwa [upd_ne σ _ e] at h⟩
noncomputable def Sub (σ σ':Store):Prop:=∀ a o,σ a=some o→σ' a=some o
theorem Sub.refl:Sub σ σ:=fun _ _ h=>h
theorem Sub.upd {σ':Store} {a:Addr} {o:Option PObj} (h:Sub σ σ') (hn:σ a=none):Sub σ (upd σ' a o):=fun b p hb=>by
 rw [upd_ne _ _ (fun q=>by rw [q,hn] at hb;cases hb)];exact h b p hb
theorem upd_of {o:Option PObj} {a b:Addr} {p:Option PObj} (h:b≠a) (e:σ b=p):upd σ a o b=p:=by rw [upd_ne _ _ h];exact e
end
end Mine
end
section
open PySem PySem.W PyProof.Rows PySem.Calls
namespace Mine
theorem bitAnd_nat (a b:Nat):Builtin.bitAnd a b=((a &&& b:Nat):Int):=by
 unfold Builtin.bitAnd
 rw [decide_eq_true (Int.natCast_nonneg a),decide_eq_true (Int.natCast_nonneg b)]
 simp only [Int.toNat_natCast]
theorem bitOr_nat (a b:Nat):Builtin.bitOr a b=((a ||| b:Nat):Int):=by
 unfold Builtin.bitOr Builtin.bitAnd
 have h (x:Nat):decide (0≤Builtin.bitNot x)=false:=by unfold Builtin.bitNot;simp;lia
 have h2 (x:Nat):Builtin.bitNot (Builtin.bitNot x)=x:=by unfold Builtin.bitNot;walk_at "l"
 rw [h,h]
 simp only [h2,Int.toNat_natCast]
theorem or_add_of_and:∀ (a b:Nat),a &&& b=0→a ||| b=a + b:=by
 intro a
 induction a using Nat.strongRecOn with
 | _ a ih=>
  intro b h
  by_cases ha:a=0
  ·subst ha;simp
  ·have h2:(a / 2) &&& (b / 2)=0:=by rw [← Nat.and_div_two,h]
   have i:=ih (a / 2) (by lia) (b / 2) h2
   have d:(a ||| b) / 2=a / 2 + b / 2:=by rw [Nat.or_div_two,i]
   have q0:¬ (a % 2=1∧b % 2=1):=fun hh=>by
    have:=Nat.and_mod_two_eq_one.2 hh
    rw [h] at this;cases this
   have q1:(a ||| b) % 2=1↔a % 2=1∨b % 2=1:=Nat.or_mod_two_eq_one
   have m:(a ||| b) % 2=a % 2 + b % 2:=by
    rcases Nat.mod_two_eq_zero_or_one a with b1 | b1<;>rcases Nat.mod_two_eq_zero_or_one b with b2 | b2
    ·rw [b1,b2]
     rcases Nat.mod_two_eq_zero_or_one (a ||| b) with b3 | b3
     ·exact b3
     ·rcases q1.1 b3 with e | e
      ·exact absurd (b1.symm.trans e) (by decide)
      ·exact absurd (b2.symm.trans e) (by decide)
    ·rw [q1.2 (.inr b2),b1,b2]
    ·rw [q1.2 (.inl b1),b1,b2]
    ·exact absurd ⟨b1,b2⟩ q0
   rw [← Nat.div_add_mod (a ||| b) 2,d,m,Nat.mul_add,Nat.add_add_add_comm,Nat.div_add_mod,Nat.div_add_mod]
theorem or_eq_xor_add_and (a b:Nat):a ||| b=(a ^^^ b) + (a &&& b):=by
 have h1:(a ^^^ b) &&& (a &&& b)=0:=by
  apply Nat.eq_of_testBit_eq;intro i
  simp only [Nat.testBit_and,Nat.testBit_xor,Nat.zero_testBit]
  cases a.testBit i<;>cases b.testBit i<;>rfl
 have h2:a ||| b=(a ^^^ b) ||| (a &&& b):=by
  apply Nat.eq_of_testBit_eq;intro i
  simp only [Nat.testBit_and,Nat.testBit_xor,Nat.testBit_or]
  cases a.testBit i<;>cases b.testBit i<;>rfl
 rw [h2];exact or_add_of_and _ _ h1
theorem bitXor_nat (a b:Nat):Builtin.bitXor a b=((a ^^^ b:Nat):Int):=by
 unfold Builtin.bitXor
 rw [bitOr_nat,bitAnd_nat,or_eq_xor_add_and];simp
theorem shr_nat (a n:Nat):(a:Int).fdiv (2 ^ ((n:Int).toNat))=((a / 2 ^ n:Nat):Int):=by
 rw [Int.toNat_natCast,Int.fdiv_eq_ediv_of_nonneg _ (by exact_mod_cast Nat.zero_le (2^n))]
 simp
theorem shl_nat (a n:Nat):(a:Int) * (2 ^ ((n:Int).toNat))=((a * 2 ^ n:Nat):Int):=by
 rw [Int.toNat_natCast];simp
noncomputable def nbits (a:Nat):Nat:=if a=0 then 0 else a.log2 + 1
theorem intBits_nat (a:Nat):Builtin.Int.intBits a=nbits a:=by
 unfold Builtin.Int.intBits nbits;simp
set_option tactic.hygienic true in
theorem nbits_le {a k:Nat} (h:a < 2 ^ k):nbits a≤k:=by
 unfold nbits
 split
 ·exact Nat.zero_le _
 ·rename_i h0
  exact (Nat.log2_lt h0).mpr h
set_option tactic.hygienic true in
theorem lt_nbits (a:Nat):a < 2 ^ nbits a:=by
 unfold nbits
 split
 ·rename_i h;subst h;decide
 ·exact Nat.lt_log2_self
theorem xor_low (x s:Nat):x ^^^ (x / 2 ^ s * 2 ^ s)=x % 2 ^ s:=by
 apply Nat.eq_of_testBit_eq;intro i
 rw [Nat.testBit_xor,Nat.testBit_mod_two_pow,← Nat.shiftLeft_eq,Nat.testBit_shiftLeft,← Nat.shiftRight_eq_div_pow,Nat.testBit_shiftRight]
 by_cases h:i < s
 ·simp [h,Nat.not_le.mpr h]
 ·have e:s + (i - s)=i:=by lia
  have g:s≤i:=by lia
  simp [h,g,e]
noncomputable def d2i (n:Nat):List Nat→Nat
 | []=>0
 | d :: r=>d + 2 ^ n * d2i n r
noncomputable def i2d (n:Nat):Nat→Nat→List Nat
 | 0,_=>[]
 | k + 1,x=>x % 2 ^ n :: i2d n k (x / 2 ^ n)
theorem i2d_length (n:Nat):∀ k x,(i2d n k x).length=k
 | 0,_=>rfl
 | k + 1,x=>by simp [i2d,i2d_length n k]
theorem d2i_append (n:Nat):∀ xs ys,d2i n (xs++ys)=d2i n xs + 2 ^ (n * xs.length) * d2i n ys
 | [],ys=>by simp [d2i]
 | x :: xs,ys=>by
  simp only [List.cons_append,d2i,d2i_append n xs ys,List.length_cons]
  rw [Nat.mul_add,← Nat.mul_assoc,← Nat.pow_add,Nat.add_assoc,Nat.mul_add n,Nat.mul_one,Nat.add_comm n]
theorem i2d_add (n:Nat):∀ a b x,i2d n (a + b) x=i2d n a x++i2d n b (x / 2 ^ (n * a))
 | 0,b,x=>by simp [i2d]
 | a + 1,b,x=>by
  rw [Nat.add_right_comm]
  simp only [i2d,List.cons_append]
  rw [i2d_add n a b,Nat.div_div_eq_div_mul,← Nat.pow_add,Nat.mul_add,Nat.mul_one,Nat.add_comm n]
theorem i2d_mod (n:Nat):∀ a x,i2d n a (x % 2 ^ (n * a))=i2d n a x
 | 0,x=>rfl
 | a + 1,x=>by
  simp only [i2d]
  have e:2 ^ (n * (a + 1))=2 ^ n * 2 ^ (n * a):=by rw [Nat.mul_add,Nat.mul_one,Nat.add_comm,Nat.pow_add]
  rw [e,Nat.mod_mul_right_mod,← i2d_mod n a (x / 2 ^ n),Nat.mod_mul_right_div_self]
theorem d2i_i2d (n:Nat):∀ k x,d2i n (i2d n k x)=x % 2 ^ (n * k)
 | 0,x=>by simp [d2i,i2d,Nat.mod_one]
 | k + 1,x=>by
  simp only [i2d,d2i,d2i_i2d n k]
  have e:2 ^ (n * (k + 1))=2 ^ n * 2 ^ (n * k):=by rw [Nat.mul_add,Nat.mul_one,Nat.add_comm,Nat.pow_add]
  rw [e,Nat.mod_mul]
theorem i2d_lt (n:Nat):∀ k x,∀ d∈i2d n k x,d < 2 ^ n
 | 0,_,_,h=>by cases h
 | k + 1,x,d,h=>by
  rcases List.mem_cons.mp h with rfl | h
  ·exact Nat.mod_lt _ (Nat.two_pow_pos n)
  ·exact i2d_lt n k _ d h
theorem d2i_lt (n:Nat):∀ xs:List Nat,(∀ x∈xs,x < 2 ^ n)→d2i n xs < 2 ^ (n * xs.length)
 | [],_=>by simp [d2i]
 | x :: xs,h=>by
  have h1:=h x List.mem_cons_self
  have h2:=d2i_lt n xs fun y hy=>h y (List.mem_cons_of_mem _ hy)
  simp only [d2i,List.length_cons]
  have e:2 ^ (n * (xs.length + 1))=2 ^ n * 2 ^ (n * xs.length):=by rw [Nat.mul_add,Nat.mul_one,Nat.add_comm,Nat.pow_add]
  rw [e]
  calc x + 2 ^ n * d2i n xs < 2 ^ n + 2 ^ n * d2i n xs:=by lia
   _=2 ^ n * (d2i n xs + 1):=by rw [Nat.mul_add,Nat.mul_one,Nat.add_comm]
   _≤2 ^ n * 2 ^ (n * xs.length):=Nat.mul_le_mul_left _ h2
end Mine
end
section
open PySem PySem.W PyProof.Rows PySem.Calls
namespace Mine
section
variable {K:Kx} {ρ:Fm} {σ:Store} {d:Nat} {Q:V→Store→Prop}
theorem bn_add (a b:Nat) (q:Q (.int ((a + b:Nat):Int)) σ):M2 d (binaryOp .Add) (.int (a:Int)) (.int (b:Int)) σ Q:=bin_ (.add _ _) (by simpa using q)
theorem bn_addL (a k:Nat) (q:Q (.int ((a + (OfNat.ofNat k):Nat):Int)) σ):M2 d (binaryOp .Add) (.int (a:Int)) (.int (OfNat.ofNat k)) σ Q:=bn_add a k q
theorem bn_addR (k b:Nat) (q:Q (.int (((OfNat.ofNat k) + b:Nat):Int)) σ):M2 d (binaryOp .Add) (.int (OfNat.ofNat k)) (.int (b:Int)) σ Q:=bn_add k b q
theorem bn_sub (a b:Nat) (h:b≤a) (q:Q (.int ((a - b:Nat):Int)) σ):M2 d (binaryOp .Sub) (.int (a:Int)) (.int (b:Int)) σ Q:=bin_ (.sub _ _) (by rw [← Int.ofNat_sub h];exact q)
theorem bn_subL (a k:Nat) (h:(OfNat.ofNat k)≤a) (q:Q (.int ((a - (OfNat.ofNat k):Nat):Int)) σ):M2 d (binaryOp .Sub) (.int (a:Int)) (.int (OfNat.ofNat k)) σ Q:=bn_sub a k h q
theorem bn_mul (a b:Nat) (h:IntMulOk a b) (q:Q (.int ((a * b:Nat):Int)) σ):M2 d (binaryOp .Mult) (.int (a:Int)) (.int (b:Int)) σ Q:=bin_ (.mul _ _ h) (by simpa using q)
theorem bn_mulR (k b:Nat) (h:IntMulOk ((OfNat.ofNat k):Nat) b) (q:Q (.int (((OfNat.ofNat k) * b:Nat):Int)) σ):M2 d (binaryOp .Mult) (.int (OfNat.ofNat k)) (.int (b:Int)) σ Q:=bn_mul k b h q
theorem fdivN (a b:Nat):(a:Int).fdiv b=((a / b:Nat):Int):=by rw [Int.fdiv_eq_ediv_of_nonneg _ (Int.natCast_nonneg b)];rfl
theorem fmodN (a b:Nat):(a:Int).fmod b=((a % b:Nat):Int):=by rw [Int.fmod_eq_emod_of_nonneg _ (Int.natCast_nonneg b)];rfl
theorem bn_fdiv (a b:Nat) (h:b≠0) (hp:b.log2 < 9000) (q:Q (.int ((a / b:Nat):Int)) σ):M2 d (binaryOp .FloorDiv) (.int (a:Int)) (.int (b:Int)) σ Q:=bin_ (.fdiv _ _ (by lia) (by simpa using hp)) (by rw [fdivN];exact q)
theorem bn_fdivL (a k:Nat) (h:(OfNat.ofNat k)≠0) (hp:(OfNat.ofNat k).log2 < 9000) (q:Q (.int ((a / (OfNat.ofNat k):Nat):Int)) σ):M2 d (binaryOp .FloorDiv) (.int (a:Int)) (.int (OfNat.ofNat k)) σ Q:=bn_fdiv a k h hp q
theorem bn_mod (a b:Nat) (h:b≠0) (hp:b.log2 < 9000) (q:Q (.int ((a % b:Nat):Int)) σ):M2 d (binaryOp .Mod) (.int (a:Int)) (.int (b:Int)) σ Q:=bin_ (.mod _ _ (by lia) (by simpa using hp)) (by rw [fmodN];exact q)
theorem bn_modL (a k:Nat) (h:(OfNat.ofNat k)≠0) (hp:(OfNat.ofNat k).log2 < 9000) (q:Q (.int ((a % (OfNat.ofNat k):Nat):Int)) σ):M2 d (binaryOp .Mod) (.int (a:Int)) (.int (OfNat.ofNat k)) σ Q:=bn_mod a k h hp q
theorem bn_and (a b:Nat) (q:Q (.int ((a &&& b:Nat):Int)) σ):M2 d (binaryOp .BitAnd) (.int (a:Int)) (.int (b:Int)) σ Q:=bin_ (.and _ _) (by rw [bitAnd_nat];exact q)
theorem bn_and1 (a:Nat) (q:Q (.int ((a % 2:Nat):Int)) σ):M2 d (binaryOp .BitAnd) (.int (a:Int)) (.int 1) σ Q:=bn_and a 1 (by rw [Nat.and_one_is_mod];exact q)
theorem bn_xor (a b:Nat) (q:Q (.int ((a ^^^ b:Nat):Int)) σ):M2 d (binaryOp .BitXor) (.int (a:Int)) (.int (b:Int)) σ Q:=bin_ (.xor _ _) (by rw [bitXor_nat];exact q)
theorem bn_or (a b:Nat) (q:Q (.int ((a ||| b:Nat):Int)) σ):M2 d (binaryOp .BitOr) (.int (a:Int)) (.int (b:Int)) σ Q:=bin_ (.or _ _) (by rw [bitOr_nat];exact q)
theorem bn_shl (a n:Nat) (h:nbits a + n≤2 ^ 27) (q:Q (.int ((a * 2 ^ n:Nat):Int)) σ):M2 d (binaryOp .LShift) (.int (a:Int)) (.int (n:Int)) σ Q:=
 bin_ (.shl _ _ (Int.natCast_nonneg n) (by rw [intBits_nat];lia)) (by rw [shl_nat];exact q)
theorem bn_shlR (k n:Nat) (h:nbits (OfNat.ofNat k) + n≤2 ^ 27) (q:Q (.int (((OfNat.ofNat k) * 2 ^ n:Nat):Int)) σ):M2 d (binaryOp .LShift) (.int (OfNat.ofNat k)) (.int (n:Int)) σ Q:=bn_shl k n h q
theorem bn_shr (a n:Nat) (q:Q (.int ((a / 2 ^ n:Nat):Int)) σ):M2 d (binaryOp .RShift) (.int (a:Int)) (.int (n:Int)) σ Q:=bin_ (.shr _ _ (Int.natCast_nonneg n)) (by rw [shr_nat];exact q)
theorem bn_shr1 (a:Nat) (q:Q (.int ((a / 2:Nat):Int)) σ):M2 d (binaryOp .RShift) (.int (a:Int)) (.int 1) σ Q:=bn_shr a 1 (by simpa using q)
theorem bn_pow (a n:Nat) (h:nbits a * n≤2 ^ 27) (q:Q (.int ((a ^ n:Nat):Int)) σ):M2 d (binaryOp .Pow) (.int (a:Int)) (.int (n:Int)) σ Q:=
 bin_ (.pow _ _ (Int.natCast_nonneg n) (by rw [intBits_nat];exact_mod_cast h)) (by rw [Int.toNat_natCast];simpa using q)
theorem bn_powR (k n:Nat) (h:nbits (OfNat.ofNat k) * n≤2 ^ 27) (q:Q (.int (((OfNat.ofNat k) ^ n:Nat):Int)) σ):M2 d (binaryOp .Pow) (.int (OfNat.ofNat k)) (.int (n:Int)) σ Q:=bn_pow k n h q
theorem in_add (a b:Nat) (q:Q (.int ((a + b:Nat):Int)) σ):M2 d (inplaceOp .Add) (.int (a:Int)) (.int (b:Int)) σ Q:=ibin_ (.add _ _) (by simpa using q)
theorem in_addL (a k:Nat) (q:Q (.int ((a + (OfNat.ofNat k):Nat):Int)) σ):M2 d (inplaceOp .Add) (.int (a:Int)) (.int (OfNat.ofNat k)) σ Q:=in_add a k q
theorem in_shl (a n:Nat) (h:nbits a + n≤2 ^ 27) (q:Q (.int ((a * 2 ^ n:Nat):Int)) σ):M2 d (inplaceOp .LShift) (.int (a:Int)) (.int (n:Int)) σ Q:=
 ibin_ (.shl _ _ (Int.natCast_nonneg n) (by rw [intBits_nat];lia)) (by rw [shl_nat];exact q)
theorem in_shr (a n:Nat) (q:Q (.int ((a / 2 ^ n:Nat):Int)) σ):M2 d (inplaceOp .RShift) (.int (a:Int)) (.int (n:Int)) σ Q:=ibin_ (.shr _ _ (Int.natCast_nonneg n)) (by rw [shr_nat];exact q)
theorem in_shr1 (a:Nat) (q:Q (.int ((a / 2:Nat):Int)) σ):M2 d (inplaceOp .RShift) (.int (a:Int)) (.int 1) σ Q:=in_shr a 1 (by simpa using q)
theorem in_shl1 (a:Nat) (h:nbits a + 1≤2 ^ 27) (q:Q (.int ((a * 2:Nat):Int)) σ):M2 d (inplaceOp .LShift) (.int (a:Int)) (.int 1) σ Q:=in_shl a 1 h (by simpa using q)
theorem natEq (a b:Nat):(((a:Int) == (b:Int)):Bool)=(a == b):=by
 by_cases h:a=b
 ·subst h;simp
 ·rw [beq_false_of_ne h,beq_false_of_ne (by lia)]
theorem natNe (a b:Nat):(((a:Int) != (b:Int)):Bool)=(a != b):=by unfold bne;rw [natEq]
theorem cn_eq (a b:Nat) (q:Q (.bool (a == b)) σ):M2 d (compareOp .Eq) (.int (a:Int)) (.int (b:Int)) σ Q:=cmp_ (.eq _ _) (by rw [natEq];exact q)
theorem cn_eqL (a k:Nat) (q:Q (.bool (a == (OfNat.ofNat k))) σ):M2 d (compareOp .Eq) (.int (a:Int)) (.int (OfNat.ofNat k)) σ Q:=cn_eq a k q
theorem cn_lt (a b:Nat) (q:Q (.bool (decide (a < b))) σ):M2 d (compareOp .Lt) (.int (a:Int)) (.int (b:Int)) σ Q:=cmp_ (.lt _ _) (by simpa using q)
theorem cn_ltL (a k:Nat) (q:Q (.bool (decide (a < (OfNat.ofNat k)))) σ):M2 d (compareOp .Lt) (.int (a:Int)) (.int (OfNat.ofNat k)) σ Q:=cn_lt a k q
theorem cn_gt (a b:Nat) (q:Q (.bool (decide (b < a))) σ):M2 d (compareOp .Gt) (.int (a:Int)) (.int (b:Int)) σ Q:=cmp_ (.gt _ _) (by simpa using q)
theorem cn_gtL (a k:Nat) (q:Q (.bool (decide ((OfNat.ofNat k) < a))) σ):M2 d (compareOp .Gt) (.int (a:Int)) (.int (OfNat.ofNat k)) σ Q:=cn_gt a k q
theorem mulOk_small {a b:Nat} (h:a < 2 ^ 64∨b < 2 ^ 64):IntMulOk (a:Int) (b:Int):=by
 rcases h with h | h
 ·exact .of_left (intBits_le_64 (by have:(0:Int)≤a:=Int.natCast_nonneg a;have:(0:Int) < 2 ^ 64:=(by decide);lia) (by exact_mod_cast h))
 ·exact .of_right (intBits_le_64 (by have:(0:Int)≤b:=Int.natCast_nonneg b;have:(0:Int) < 2 ^ 64:=(by decide);lia) (by exact_mod_cast h))
theorem bn_divmod {a b:Nat} (hb:b≠0) (hp:Builtin.divisionGoesByPylong (a:Int) (b:Int)=false) (q:Q (.tup [.int ((a / b:Nat):Int),.int ((a % b:Nat):Int)]) σ):CallV d (.raw (.builtin "divmod")) [.int (a:Int),.int (b:Int)] σ Q:=
 bi_divmod (by lia) hp (by rw [fdivN,fmodN];exact q)
theorem bn_bitlen {a:Nat} (q:Q (.int (nbits a:Nat)) σ):CallV d (.raw (.builtin "int.bit_length")) [.int (a:Int)] σ Q:=bi_bitlen (by rw [intBits_nat];exact q)
theorem gn_lst {pv:V} {vs:List V} {i:Nat} {x:V} (h:LV σ pv vs) (hx:vs[i]?=some x) (hl:vs.length < 2 ^ 25) (q:Q x σ):M2 d getItem pv (.int (i:Int)) σ Q:=gi_lst h (Int.natCast_nonneg i) (by rw [Int.toNat_natCast];exact hx) hl q
theorem gn_str {x:List Nat} {i c:Nat} (hx:x[i]?=some c) (hl:x.length < 2 ^ 25) (q:Q (.str [c]) σ):M2 d getItem (.str x) (.int (i:Int)) σ Q:=gi_str (Int.natCast_nonneg i) (by rw [Int.toNat_natCast];exact hx) hl q
theorem tn_int {a:Nat} {Q:Bool→Store→Prop} (q:Q (a != 0) σ):M1B d (.int (a:Int)) σ Q:=tb_int (by
 have:=natNe a 0
 rw [show ((0:Nat):Int)=0 from rfl] at this
 rw [this];exact q)
theorem len_1 {v0:V} {B:Prop} (h:B):([v0]:List V).length≤2 ^ 24∧B:=⟨by simp,h⟩
theorem len_2 {v0 v1:V} {B:Prop} (h:B):([v0,v1]:List V).length≤2 ^ 24∧B:=⟨by simp,h⟩
theorem len_3 {v0 v1 v2:V} {B:Prop} (h:B):([v0,v1,v2]:List V).length≤2 ^ 24∧B:=⟨by simp,h⟩
theorem len_4 {v0 v1 v2 v3:V} {B:Prop} (h:B):([v0,v1,v2,v3]:List V).length≤2 ^ 24∧B:=⟨by simp,h⟩
theorem len_5 {v0 v1 v2 v3 v4:V} {B:Prop} (h:B):([v0,v1,v2,v3,v4]:List V).length≤2 ^ 24∧B:=⟨by simp,h⟩
theorem len_7 {v0 v1 v2 v3 v4 v5 v6:V} {B:Prop} (h:B):([v0,v1,v2,v3,v4,v5,v6]:List V).length≤2 ^ 24∧B:=⟨by simp,h⟩
noncomputable def Has (ρ l:Fm):Prop:=∀ p∈l,p∈ρ
theorem Has.nil:Has ρ []:=fun p h=>by cases h
theorem Has.cons {p:Str×Slot} {l:Fm} (h:p∈ρ) (t:Has ρ l):Has ρ (p :: l):=fun q hq=>by
 rcases List.mem_cons.mp hq with rfl | hq
 ·exact h
 ·exact t q hq
theorem AsP.sub {ρ':Fm} {t:Expr} {v:V} {Q:Fm→Store→Prop} (h:AsP K ρ' σ t v Q) (hs:Has ρ ρ'):AsP K ρ σ t v Q:=fun A env s x ha hr hi hv QM hq=>h A env s x ha (hr.sub hs) hi hv QM hq
theorem TsP.sub {ρ':Fm} {e:Expr} {Q:Bool→Store→Prop} (h:TsP K ρ' σ e Q) (hs:Has ρ ρ'):TsP K ρ σ e Q:=fun A env s ha hr hi QM hq=>h A env s ha (hr.sub hs) hi QM hq
theorem ExP.has {ρ':Fm} {ss:List Stmt} {Q:Fl→Fm→Store→Prop} (h:ExP K ρ' σ ss Q) (hs:Has ρ ρ'):ExP K ρ σ ss Q:=h.sub hs
theorem turn_next {J:Nat→Fm→Store→Prop} {n m:Nat} {Q:Fl→Fm→Store→Prop} (hm:m < n) (h:J m ρ σ):Turn J n Q .next ρ σ:=⟨m,hm,h⟩
theorem turn_cont {J:Nat→Fm→Store→Prop} {n m:Nat} {Q:Fl→Fm→Store→Prop} (hm:m < n) (h:J m ρ σ):Turn J n Q .cont ρ σ:=⟨m,hm,h⟩
theorem log2_lt_of {b k:Nat} (h0:b≠0) (h:b < 2 ^ k):b.log2 < k:=(Nat.log2_lt h0).mpr h
theorem ev_lit_e {k:Nat} {pos:Pos} (h:Q (.str []) σ):EvP K ρ σ (.Constant (.str "") k pos) Q:=by
 refine ev_str ?_
 rw [show (Str.ofString "").cps.toList=[] by decide +kernel];exact h
theorem ev_lit_bs {k:Nat} {pos:Pos} (h:Q (.str [92]) σ):EvP K ρ σ (.Constant (.str "\\") k pos) Q:=by
 refine ev_str ?_
 rw [show (Str.ofString "\\").cps.toList=[92] by decide +kernel];exact h
theorem ev_lit_dq {k:Nat} {pos:Pos} (h:Q (.str [34]) σ):EvP K ρ σ (.Constant (.str "\"") k pos) Q:=by
 refine ev_str ?_
 rw [show (Str.ofString "\"").cps.toList=[34] by decide +kernel];exact h
theorem ev_lit_nl {k:Nat} {pos:Pos} (h:Q (.str [10]) σ):EvP K ρ σ (.Constant (.str "\n") k pos) Q:=by
 refine ev_str ?_
 rw [show (Str.ofString "\n").cps.toList=[10] by decide +kernel];exact h
theorem ev_lit_sp {k:Nat} {pos:Pos} (h:Q (.str [32]) σ):EvP K ρ σ (.Constant (.str " ") k pos) Q:=by
 refine ev_str ?_
 rw [show (Str.ofString " ").cps.toList=[32] by decide +kernel];exact h
theorem ev_lit_h {k:Nat} {pos:Pos} (h:Q (.str [104]) σ):EvP K ρ σ (.Constant (.str "h") k pos) Q:=by
 refine ev_str ?_
 rw [show (Str.ofString "h").cps.toList=[104] by decide +kernel];exact h
theorem ev_lit_p {k:Nat} {pos:Pos} (h:Q (.str [112]) σ):EvP K ρ σ (.Constant (.str "p") k pos) Q:=by
 refine ev_str ?_
 rw [show (Str.ofString "p").cps.toList=[112] by decide +kernel];exact h
end
end Mine
end
section
open PySem PySem.W PyProof.Rows PySem.Calls
namespace Mine
section
variable {K:Kx} {ρ:Fm} {σ:Store} {d:Nat} {Q:V→Store→Prop}
noncomputable def TurnK (J:Nat→Fm→Store→Prop) (k:Nat) (Q:Fl→Fm→Store→Prop):Fl→Fm→Store→Prop
 | .next,ρ₃,σ₃=>J (k + 1) ρ₃ σ₃
 | .cont,ρ₃,σ₃=>J (k + 1) ρ₃ σ₃
 | .brk,ρ₃,σ₃=>Q .next ρ₃ σ₃
 | .ret v,ρ₃,σ₃=>Q (.ret v) ρ₃ σ₃
theorem turnk_next {J:Nat→Fm→Store→Prop} {k:Nat} {Q:Fl→Fm→Store→Prop} (h:J (k + 1) ρ σ):TurnK J k Q .next ρ σ:=h
theorem st_forL {target iter:Expr} {b:List Stmt} {pos:Pos} {Q:Fl→Fm→Store→Prop}
  (h:EvP K ρ σ iter (fun v σ₁=>∃ items,Items v items∧∃ J:Nat→Fm→Store→Prop,J 0 ρ σ₁∧
   (∀ k x ρ₁ σ₂,items[k]?=some x→J k ρ₁ σ₂→AsP K ρ₁ σ₂ target x (fun ρ₂ σ₃=>ExP K ρ₂ σ₃ b (TurnK J k Q)))∧
   (∀ ρ₁ σ₂,J items.length ρ₁ σ₂→Q .next ρ₁ σ₂)))
  (hs:autoParam (∀ env x,foldedSetIterable iter env x=pure x) aI):StP K ρ σ (.For target iter b [] pos) Q:=by
 refine st_for (h.mono fun v σ₁ hh=>?_) hs
 refine bc fun hbc=>?_
 obtain ⟨items,hit,J,h0,turn,done⟩:=hh
 refine hbc ?_
 clear hbc
 refine ⟨items,hit,fun r ρ₁ σ₂=>∃ k,r=items.drop k∧k≤items.length∧J k ρ₁ σ₂,⟨0,rfl,Nat.zero_le _,h0⟩,?_,?_⟩
 ·intro x r ρ₁ σ₂ hJ4
  refine bc fun hbc=>?_
  obtain ⟨k,hr,hk,hJ⟩:=hJ4
  refine hbc ?_
  clear hbc
  have hx:items[k]?=some x:=by rw [← List.head?_drop,← hr];rfl
  have hr':r=items.drop (k + 1):=by rw [← List.tail_drop,← hr];rfl
  have hlt:k < items.length:=by
   rcases Nat.lt_or_ge k items.length with h | h
   ·exact h
   ·exact absurd ((List.getElem?_eq_none h).symm.trans hx) (Option.some_ne_none _).symm
  intro A env s v ha hr hi hv QM hq
  refine turn k x ρ₁ σ₂ hx hJ A env s v ha hr hi hv QM fun ρ' σ' s' q=>hq ρ' σ' s' (q.mono fun f ρ₂ σ₃ hf=>?_)
  cases f with
  | next=>exact ⟨k + 1,hr',hlt,hf⟩
  | cont=>exact ⟨k + 1,hr',hlt,hf⟩
  | brk=>exact hf
  | ret v=>exact hf
 ·intro ρ₁ σ₂ hJ2
  refine bc fun hbc=>?_
  obtain ⟨k,hr,hk,hJ⟩:=hJ2
  refine hbc ?_
  clear hbc
  have:k=items.length:=by
   have:=List.drop_eq_nil_iff.mp hr.symm;lia
  subst this
  exact done ρ₁ σ₂ hJ
theorem rngL_one (n:Nat):∀ a:Nat,rngL (a:Int) n 1=(List.range n).map fun i=>V.int ((a + i:Nat):Int):=by
 induction n with
 | zero=>intro a;rfl
 | succ n ih=>
  intro a
  rw [List.range_succ_eq_map,List.map_cons,List.map_map]
  unfold rngL
  rw [show (a:Int) + 1=((a + 1:Nat):Int) by lia,ih (a + 1)]
  congr 1
  exact List.map_congr_left fun i _=>by simp;walk_at "l"
theorem items_rng (a b:Nat) (hb:b < 2 ^ 60) (hab:a < 2 ^ 60):Items (.rng (a:Int) (b:Int) 1) ((List.range (b - a)).map fun i=>V.int ((a + i:Nat):Int)):=by
 have h:=Items.rng (a:Int) (b:Int) 1 (small_one (by lia) (by lia) (by lia) (by lia))
 have e:(Builtin.Range.rangeSize (a:Int) (b:Int) 1).toNat=b - a:=by
  unfold Builtin.Range.rangeSize
  split<;>split<;>lia
 rw [e,rngL_one] at h;exact h
theorem items_rng0 (b:Nat) (hb:b < 2 ^ 60):Items (.rng 0 (b:Int) 1) ((List.range b).map fun i=>V.int ((i:Nat):Int)):=by
 have h:=items_rng 0 b hb (by walk_at "l")
 simpa using h
noncomputable def Slot.full:Slot→Bool
 | .emp=>false
 | _=>true
theorem compOk {scope:Scope} {caps:Fm} (h:compB K.names (ρ.map (·.1)) scope (caps.map (·.1))=true) (hc:Has ρ caps) (he:caps.all (fun p=>p.2.full)=true):CompOk K ρ scope caps:=
 .mk' h fun p hp=>⟨hc p hp,fun e=>by have:=List.all_eq_true.mp he p hp;(rw [e] at this;cases this)⟩
theorem ifs_mono {ρ:Fm}:∀ {ifs:List Expr} {σ:Store} {Q Q':Bool→Store→Prop},(∀ b σ',Q b σ'→Q' b σ')→IfsP K ρ ifs σ Q→IfsP K ρ ifs σ Q'
 | [],σ,Q,Q',k,h=>k _ _ h
 | c :: r,σ,Q,Q',k,h=>TsP.mono h fun b σ' hb=>by
  cases b
  ·simp only [Bool.false_eq_true,if_false] at hb ⊢;exact k _ _ hb
  ·simp only [if_true] at hb ⊢;exact ifs_mono k hb
noncomputable def JX {α:Type} (xs:List α) (f:α→V) (F:List α→List V) (σ:Store):List V→List V→Store→Prop:=fun r acc σ₂=>∃ a b,a++b=xs∧b.map f=r∧F a=acc∧σ=σ₂
theorem jx_step {α:Type} {xs:List α} {f:α→V} {F:List α→List V} {P:V→List V→List V→Store→Addr→Prop} (h:∀ a y b,a++y :: b=xs→∀ D,σ D=none→P (f y) (b.map f) (F a) σ D):
  ∀ x r acc σ₂ D,JX xs f F σ (x :: r) acc σ₂→σ₂ D=none→P x r acc σ₂ D:=by
 intro x r acc σ₂ D hJ hD
 obtain ⟨a,b,h1,h2,h3,h4⟩:=hJ
 cases b with
 | nil=>cases h2
 | cons y b=>
  injection h2 with e1 e2
  subst h3 h4 e1 e2
  exact h a y b h1 D hD
theorem jx_end {α:Type} {xs:List α} {f:α→V} {F:List α→List V} {acc:List V} {σ₂:Store} (h:JX xs f F σ [] acc σ₂):acc=F xs∧σ₂=σ:=by
 obtain ⟨a,b,h1,h2,h3,h4⟩:=h
 have:b=[]:=by cases b with
  | nil=>rfl
  | cons=>cases h2
 rw [this,List.append_nil] at h1
 exact ⟨h1 ▸ h3.symm,h4.symm⟩
theorem jx_0 {α:Type} {xs:List α} {f:α→V} {F:List α→List V} {acc:List V} (h:F []=acc):JX xs f F σ (xs.map f) acc σ:=⟨[],xs,rfl,rfl,h,rfl⟩
theorem jx_next {α:Type} {xs:List α} {f:α→V} {F:List α→List V} {acc:List V} {a b:List α} {y:α} (h:a++y :: b=xs) (e:F (a++[y])=acc):JX xs f F σ (b.map f) acc σ:=⟨a++[y],b,by rw [List.append_assoc];exact h,rfl,e,rfl⟩
theorem jx_mem {α:Type} {xs a b:List α} {y:α} (h:a++y :: b=xs):y∈xs:=h ▸ List.mem_append_right _ List.mem_cons_self
theorem jx_len {α:Type} {xs a b:List α} {y:α} (h:a++y :: b=xs):a.length < xs.length:=by rw [← h,List.length_append,List.length_cons];exact Nat.lt_add_of_pos_right (Nat.succ_pos _)
theorem dis_ne {caps fr:Fm} (h:(caps.all fun p=>fr.all fun q=>p.1 != q.1)=true):∀ p∈caps,∀ q∈fr,p.1≠q.1:=fun p hp q hq=>by
 have:=List.all_eq_true.mp (List.all_eq_true.mp h p hp) q hq
 simpa using this
theorem fm_len {α:Type} (pr:α→Bool) (g:α→V) (a:List α):((a.filter pr).map g).length≤a.length:=by rw [List.length_map];exact List.length_filter_le _ _
theorem fm_app {α:Type} (pr:α→Bool) (g:α→V) (a:List α) (y:α):((a++[y]).filter pr).map g=(a.filter pr).map g++if pr y=true then [g y] else []:=by
 rw [List.filter_append,List.map_append,List.filter_cons,List.filter_nil]
 split<;>rfl
theorem turnT {ρ:Fm} {ifs:List Expr} {elt:Expr} {D:Addr} {acc:List V} {J:List V→Store→Prop} (b:Bool) (v:V) (hD:σ D=none) (hl:acc.length < 2 ^ 24)
  (h:IfsP K ρ ifs (accS σ D acc) (fun ok σ₃=>σ₃=accS σ D acc∧ok=b∧(b=true→EvP K ρ (accS σ D acc) elt (fun w σ₄=>w=v∧σ₄=accS σ D acc)))) (hJ:J (acc++if b=true then [v] else []) σ):
  IfsP K ρ ifs (accS σ D acc) (fun ok σ₃=>if ok=true then EvP K ρ σ₃ elt (fun v σ₄=>acc.length < 2 ^ 24∧∃ σ₅,σ₄=accS σ₅ D acc∧σ₅ D=none∧J (acc++[v]) σ₅) else ∃ σ₅,σ₃=accS σ₅ D acc∧σ₅ D=none∧J acc σ₅):=by
 refine ifs_mono (fun ok σ₃ hh=>?_) h
 obtain ⟨e1,e2,h3⟩:=hh
 rw [e1,e2]
 cases b with
 | true=>
  rw [if_pos rfl] at hJ ⊢
  exact (h3 rfl).mono fun w σ₄ h=>⟨hl,σ,h.2,hD,h.1 ▸ hJ⟩
 | false=>
  rw [if_neg (by decide)] at hJ ⊢
  exact ⟨σ,rfl,hD,by rw [List.append_nil] at hJ;exact hJ⟩
theorem pureT {α:Type} {scope:Scope} {caps:Fm} {target elt:Expr} {ifs:List Expr} (xs:List α) (f:α→V) (fr:α→Fm) (pr:α→Bool) (g:α→V) (hlen:xs.length < 2 ^ 24)
  (he:∀ x∈xs,TgtP (KxC K scope) target (f x) (fr x)∧(caps.all fun p=>(fr x).all fun q=>p.1 != q.1)=true∧
   ∀ D acc,σ D=none→IfsP (KxC K scope) (fr x++caps) ifs (accS σ D acc) (fun ok σ₃=>σ₃=accS σ D acc∧ok=pr x∧(pr x=true→EvP (KxC K scope) (fr x++caps) (accS σ D acc) elt (fun v σ₄=>v=g x∧σ₄=accS σ D acc)))):
  CompTurn K scope caps target elt ifs (JX xs f (fun a=>(a.filter pr).map g) σ):=
 jx_step fun a y b hab D hD=>
  ⟨fr y,(he y (jx_mem hab)).1,dis_ne (he y (jx_mem hab)).2.1,turnT (J:=fun acc' σ'=>JX xs f (fun a=>(a.filter pr).map g) σ (b.map f) acc' σ') (pr y) (g y) hD (Nat.lt_of_le_of_lt (fm_len pr g a) (Nat.lt_trans (jx_len hab) hlen)) ((he y (jx_mem hab)).2.2 D _ hD) (jx_next hab (fm_app pr g a y))⟩
theorem ev_compTF {α:Type} {elt target iter:Expr} {ifs:List Expr} {scope:Scope} {pos:Pos} (caps:Fm) (ok:CompOk K ρ scope caps) (f:α→V) (fr:α→Fm) (pr:α→Bool) (g:α→V)
  (h:EvP K ρ σ iter (fun v σ₁=>∃ xs:List α,Items v (xs.map f)∧xs.length < 2 ^ 24∧(∀ x∈xs,TgtP (KxC K scope) target (f x) (fr x)∧(caps.all fun p=>(fr x).all fun q=>p.1 != q.1)=true∧
   ∀ D acc,σ₁ D=none→IfsP (KxC K scope) (fr x++caps) ifs (accS σ₁ D acc) (fun ok σ₃=>σ₃=accS σ₁ D acc∧ok=pr x∧(pr x=true→EvP (KxC K scope) (fr x++caps) (accS σ₁ D acc) elt (fun v σ₄=>v=g x∧σ₄=accS σ₁ D acc))))∧
   Q (.lst ((xs.filter pr).map g)) σ₁))
  (hs:autoParam (∀ env x,foldedSetIterable iter env x=pure x) aI):EvP K ρ σ (.ListComp elt [⟨target,iter,ifs,0⟩] scope pos) Q:=
 ev_comp caps ok (h.mono fun v σ₁ h=>h.elim fun xs h=>⟨xs.map f,h.1,_,jx_0 rfl,pureT xs f fr pr g h.2.1 h.2.2.1,fun acc σ₂ hJ=>by obtain ⟨rfl,rfl⟩:=jx_end hJ;exact h.2.2.2⟩) hs
theorem ev_compT {α:Type} {elt target iter:Expr} {scope:Scope} {pos:Pos} (caps:Fm) (ok:CompOk K ρ scope caps) (f:α→V) (fr:α→Fm) (g:α→V)
  (h:EvP K ρ σ iter (fun v σ₁=>∃ xs:List α,Items v (xs.map f)∧xs.length < 2 ^ 24∧(∀ x∈xs,TgtP (KxC K scope) target (f x) (fr x)∧(caps.all fun p=>(fr x).all fun q=>p.1 != q.1)=true∧
   ∀ D acc,σ₁ D=none→EvP (KxC K scope) (fr x++caps) (accS σ₁ D acc) elt (fun v σ₄=>v=g x∧σ₄=accS σ₁ D acc))∧
   Q (.lst (xs.map g)) σ₁))
  (hs:autoParam (∀ env x,foldedSetIterable iter env x=pure x) aI):EvP K ρ σ (.ListComp elt [⟨target,iter,[],0⟩] scope pos) Q:=
 ev_compTF caps ok f fr (fun _=>true) g (h.mono fun v σ₁ h=>h.elim fun xs h=>⟨xs,h.1,h.2.1,fun x hx=>⟨(h.2.2.1 x hx).1,(h.2.2.1 x hx).2.1,fun D acc hD=>ifs_nil' ⟨rfl,rfl,fun _=>(h.2.2.1 x hx).2.2 D acc hD⟩⟩,by rw [List.filter_eq_self.mpr fun _ _=>rfl];exact h.2.2.2⟩) hs
theorem tgt_name {x:Str} {pos:Pos} {v:V} (h:K.names.lookup x=some .local):TgtP K (.Name x pos) v [(x,.val v)]:=.name x pos v h
theorem as_nameF {x:Str} {pos:Pos} {pv:V} {ρ':Fm} {Q:Fm→Store→Prop} (hk:K.names.lookup x=some .cell) (hm:(x,Slot.emp)∈ρ) (hu:Upd ρ x (.val pv) ρ') (h:Q ρ' σ):AsP K ρ σ (.Name x pos) pv Q:=as_name (stores_cell hk hm (by intro c e;cases e)) hu h
theorem get_range {α:Type} (xs:List α):∀ m,(List.range m).filterMap (xs[·]?)=xs.take m:=by
 intro m
 induction m with
 | zero=>rfl
 | succ m ih=>
  rw [List.range_succ,List.filterMap_append,ih,List.filterMap_cons,List.filterMap_nil]
  rcases Nat.lt_or_ge m xs.length with h | h
  ·rw [List.getElem?_eq_getElem h,List.take_succ_eq_append_getElem h]
  ·rw [List.getElem?_eq_none h]
   simp [List.take_of_length_le h,List.take_of_length_le (Nat.le_succ_of_le h)]
theorem mm_nat (m L:Nat):max 0 (min (m:Int) L)=((min m L:Nat):Int):=(Int.max_eq_right (Int.le_min.mpr ⟨Int.natCast_nonneg _,Int.natCast_nonneg _⟩)).trans ((Nat.le_total m L).elim (fun h=>by rw [Nat.min_eq_left h,Int.min_eq_left (Int.ofNat_le.mpr h)]) fun h=>by rw [Nat.min_eq_right h,Int.min_eq_right (Int.ofNat_le.mpr h)])
theorem cnt_nat (p q:Nat):(if (p:Int) < (q:Int) then ((q:Int) - (p:Int) + 1 - 1) / 1 else 0).toNat=q - p:=by split<;>lia
theorem sub_min {m L:Nat}:L - min m L=L - m:=by
 rcases Nat.le_total m L with h | h
 ·rw [Nat.min_eq_left h]
 ·rw [Nat.min_eq_right h,Nat.sub_self,Nat.sub_eq_zero_of_le h]
theorem sub1_lt {m n:Nat} (h:m < n):n - 1 - m < n:=Nat.lt_of_le_of_lt (Nat.sub_le _ _) (Nat.sub_lt (Nat.zero_lt_of_lt h) Nat.one_pos)
theorem picks_take {α:Type} (xs:List α) (m:Nat):(picks none (some (m:Int)) none xs.length).filterMap (xs[·]?)=xs.take m:=by
 have e:picks none (some (m:Int)) none xs.length=List.range (min m xs.length):=by
  unfold picks sliceBounds sliceRange
  simp only [Option.getD_none,show ((1:Int) > 0) from by decide,if_true,show ¬ ((m:Int) < 0) from by walk_at "l", if_false]
  rw [mm_nat]
  have h2:=cnt_nat 0 (min m xs.length)
  rw [Nat.sub_zero] at h2
  rw [show (if (0:Int) < ((min m xs.length:Nat):Int) then (((min m xs.length:Nat):Int) - 0 + 1 - 1) / 1 else 0).toNat=min m xs.length from h2]
  conv=>rhs;rw [← List.map_id (List.range _)]
  exact List.map_congr_left fun k _=>by simp
 rw [e,get_range]
 rcases Nat.le_total m xs.length with h | h
 ·rw [Nat.min_eq_left h]
 ·rw [Nat.min_eq_right h,List.take_length,List.take_of_length_le h]
end
end Mine
end
section
open PySem PySem.W PyProof.Rows PySem.Calls
namespace Mine
section
variable {K:Kx} {ρ:Fm} {σ:Store} {Q:V→Store→Prop} {R:Fl→Fm→Store→Prop}
theorem ev_list0 {pos:Pos} (h:Q (.lst []) σ):EvP K ρ σ (.List [] pos) Q:=ev_list (evs_nil ⟨by simp,h⟩)
theorem ev_list0O {pos:Pos} (h:∀ a,σ a=none→Q (.loc a) (upd σ a (some (.list [])))):EvP K ρ σ (.List [] pos) Q:=ev_listO (evs_nil ⟨by simp,h⟩)
theorem gm_read {o:Expr} {ap pos:Pos} {args:List Expr} (h:EvP K ρ σ (.Call (.Attribute o "read" ap) args [] pos) Q):EvP K ρ σ (.Call (.Attribute o "read" ap) args [] pos) Q:=h
theorem g_upd {x:Str} {sl:Slot} {P:Fm→Prop} (h:∃ ρ',Upd ρ x sl ρ'∧P ρ'):∃ ρ',Upd ρ x sl ρ'∧P ρ':=h
end
theorem mem1 {p a0:Str×Slot} {l:Fm}:p∈a0 :: p :: l:=List.mem_cons_of_mem _ List.mem_cons_self
theorem mem2 {p a0 a1:Str×Slot} {l:Fm}:p∈a0 :: a1 :: p :: l:=List.mem_cons_of_mem _ (List.mem_cons_of_mem _ List.mem_cons_self)
theorem mem3 {p a0 a1 a2:Str×Slot} {l:Fm}:p∈a0 :: a1 :: a2 :: p :: l:=List.mem_cons_of_mem _ (List.mem_cons_of_mem _ (List.mem_cons_of_mem _ List.mem_cons_self))
theorem mem4 {p a0 a1 a2 a3:Str×Slot} {l:Fm}:p∈a0 :: a1 :: a2 :: a3 :: p :: l:=List.mem_cons_of_mem _ (List.mem_cons_of_mem _ (List.mem_cons_of_mem _ (List.mem_cons_of_mem _ List.mem_cons_self)))
theorem mem5 {p a0 a1 a2 a3 a4:Str×Slot} {l:Fm}:p∈a0 :: a1 :: a2 :: a3 :: a4 :: p :: l:=List.mem_cons_of_mem _ (List.mem_cons_of_mem _ (List.mem_cons_of_mem _ (List.mem_cons_of_mem _ (List.mem_cons_of_mem _ List.mem_cons_self))))
theorem mem6 {p a0 a1 a2 a3 a4 a5:Str×Slot} {l:Fm}:p∈a0 :: a1 :: a2 :: a3 :: a4 :: a5 :: p :: l:=List.mem_cons_of_mem _ (List.mem_cons_of_mem _ (List.mem_cons_of_mem _ (List.mem_cons_of_mem _ (List.mem_cons_of_mem _ (List.mem_cons_of_mem _ List.mem_cons_self)))))
theorem mem7 {p a0 a1 a2 a3 a4 a5 a6:Str×Slot} {l:Fm}:p∈a0 :: a1 :: a2 :: a3 :: a4 :: a5 :: a6 :: p :: l:=List.mem_cons_of_mem _ (List.mem_cons_of_mem _ (List.mem_cons_of_mem _ (List.mem_cons_of_mem _ (List.mem_cons_of_mem _ (List.mem_cons_of_mem _ (List.mem_cons_of_mem _ List.mem_cons_self))))))
theorem mem8 {p a0 a1 a2 a3 a4 a5 a6 a7:Str×Slot} {l:Fm}:p∈a0 :: a1 :: a2 :: a3 :: a4 :: a5 :: a6 :: a7 :: p :: l:=List.mem_cons_of_mem _ (List.mem_cons_of_mem _ (List.mem_cons_of_mem _ (List.mem_cons_of_mem _ (List.mem_cons_of_mem _ (List.mem_cons_of_mem _ (List.mem_cons_of_mem _ (List.mem_cons_of_mem _ List.mem_cons_self)))))))
noncomputable def fdP (fd:FuncData) (R:FnRec):FuncData:={ fd with params:=R.params,defaults:=.none,kwdefaults:=.none }
theorem fdP_eq {fd:FuncData} {R:FnRec} (h1:fd.params=R.params) (h2:fd.defaults=.none) (h3:fd.kwdefaults=.none):fd=fdP fd R:=by
 cases fd
 dsimp only at h1 h2 h3
 subst h1 h2 h3
 rfl
theorem binds_1 {R:FnRec} {x:Str} (h:∀ fd v,bindArgs (fdP fd R) ⟨[v],[]⟩=pure [(x,v)]):Binds R [x]:=by
 intro fd h1 h2 h3 vs hl
 rw [fdP_eq h1 h2 h3]
 obtain ⟨v,rfl⟩:=List.length_eq_one_iff.1 hl
 exact h fd v
theorem binds_2 {R:FnRec} {x y:Str} (h:∀ fd v w,bindArgs (fdP fd R) ⟨[v,w],[]⟩=pure [(x,v),(y,w)]):Binds R [x,y]:=by
 intro fd h1 h2 h3 vs hl
 rw [fdP_eq h1 h2 h3]
 obtain ⟨v,t,rfl⟩:=List.exists_cons_of_length_eq_add_one hl
 obtain ⟨w,rfl⟩:=List.length_eq_one_iff.1 (Nat.succ.inj hl)
 exact h fd v w
theorem binds_3 {R:FnRec} {x y z:Str} (h:∀ fd v w u,bindArgs (fdP fd R) ⟨[v,w,u],[]⟩=pure [(x,v),(y,w),(z,u)]):Binds R [x,y,z]:=by
 intro fd h1 h2 h3 vs hl
 rw [fdP_eq h1 h2 h3]
 obtain ⟨v,t,rfl⟩:=List.exists_cons_of_length_eq_add_one hl
 obtain ⟨w,t,rfl⟩:=List.exists_cons_of_length_eq_add_one (Nat.succ.inj hl)
 obtain ⟨u,rfl⟩:=List.length_eq_one_iff.1 (Nat.succ.inj (Nat.succ.inj hl))
 exact h fd v w u
noncomputable def strEq (x y:Str):Bool:=decide (x=y)
theorem rest_keep {ρ:Fm} {x y:Str} {s:Slot} (r':Fm) (h:Rest ρ x r') (hne:strEq y x=false):Rest ((y,s) :: ρ) x ((y,s) :: r'):=.keep h (of_decide_eq_false hne)
theorem rest_drop {ρ:Fm} {x:Str} {q:Str×Slot} (r':Fm) (h:Rest ρ x r'):Rest (q :: ρ) x r':=.drop h
theorem upd_mk {ρ:Fm} {x:Str} {s:Slot} (r':Fm) (h:Rest ρ x r'):Upd ρ x s ((x,s) :: r'):=.mk h
theorem upd_exE {ρ:Fm} {x:Str} {v:V} {P:Fm→Prop} (r':Fm) (hr:Rest ρ x r') (h:P ((x,.val v) :: r')):∃ ρ',Upd ρ x (.val v) ρ'∧P ρ':=⟨_,.mk hr,h⟩
theorem capl_free {ρ:Fm} {n:Str} {r:List (Str×NameKind)} {cs:List (Str×Addr)} (c:Addr) (out:List (Str×Addr)) (h:(n,Slot.sh c)∈ρ) (t:CapL ρ r ((n,c) :: cs) out):CapL ρ ((n,.free) :: r) cs out:=.free h t
theorem capl_other {ρ:Fm} {n:Str} {k:NameKind} {r:List (Str×NameKind)} {cs:List (Str×Addr)} (out:List (Str×Addr)) (h:k≠.free) (t:CapL ρ r cs out):CapL ρ ((n,k) :: r) cs out:=.other h t
end Mine
end
section
open PySem PySem.W PyProof.Rows PySem.Calls
namespace Mine
theorem binds_4 {R:FnRec} {x y z t:Str} (h:∀ fd a b c e,bindArgs (fdP fd R) ⟨[a,b,c,e],[]⟩=pure [(x,a),(y,b),(z,c),(t,e)]):Binds R [x,y,z,t]:=by
 intro fd h1 h2 h3 vs hl
 rw [fdP_eq h1 h2 h3]
 obtain ⟨a,l,rfl⟩:=List.exists_cons_of_length_eq_add_one hl
 obtain ⟨b,l,rfl⟩:=List.exists_cons_of_length_eq_add_one (Nat.succ.inj hl)
 obtain ⟨c,l,rfl⟩:=List.exists_cons_of_length_eq_add_one (Nat.succ.inj (Nat.succ.inj hl))
 obtain ⟨e,rfl⟩:=List.length_eq_one_iff.1 (Nat.succ.inj (Nat.succ.inj (Nat.succ.inj hl)))
 exact h fd a b c e
theorem binds_6 {R:FnRec} {x y z t u v:Str} (h:∀ fd a b c e f g,bindArgs (fdP fd R) ⟨[a,b,c,e,f,g],[]⟩=pure [(x,a),(y,b),(z,c),(t,e),(u,f),(v,g)]):Binds R [x,y,z,t,u,v]:=by
 intro fd h1 h2 h3 vs hl
 rw [fdP_eq h1 h2 h3]
 obtain ⟨a,l,rfl⟩:=List.exists_cons_of_length_eq_add_one hl
 obtain ⟨b,l,rfl⟩:=List.exists_cons_of_length_eq_add_one (Nat.succ.inj hl)
 obtain ⟨c,l,rfl⟩:=List.exists_cons_of_length_eq_add_one (Nat.succ.inj (Nat.succ.inj hl))
 obtain ⟨e,l,rfl⟩:=List.exists_cons_of_length_eq_add_one (Nat.succ.inj (Nat.succ.inj (Nat.succ.inj hl)))
 obtain ⟨f,l,rfl⟩:=List.exists_cons_of_length_eq_add_one (Nat.succ.inj (Nat.succ.inj (Nat.succ.inj (Nat.succ.inj hl))))
 obtain ⟨g,rfl⟩:=List.length_eq_one_iff.1 (Nat.succ.inj (Nat.succ.inj (Nat.succ.inj (Nat.succ.inj (Nat.succ.inj hl)))))
 exact h fd a b c e f g
section
variable (K:Kx) (ρ:Fm)
noncomputable abbrev QB2 (op:Operator) (Q:V→Store→Prop) (a:V):V→Store→Prop:=fun b σ₂=>M2 K.d (binaryOp op) a b σ₂ Q
noncomputable abbrev QB1 (op:Operator) (r:Expr) (Q:V→Store→Prop):V→Store→Prop:=fun a σ₁=>EvP K ρ σ₁ r (QB2 K op Q a)
noncomputable abbrev QC2 (op:CmpOp) (Q:V→Store→Prop) (a:V):V→Store→Prop:=fun b σ₂=>M2 K.d (compareOp op) a b σ₂ Q
noncomputable abbrev QC1 (op:CmpOp) (r:Expr) (Q:V→Store→Prop):V→Store→Prop:=fun a σ₁=>EvP K ρ σ₁ r (QC2 K op Q a)
noncomputable abbrev QTb (Q:Bool→Store→Prop):V→Store→Prop:=fun v σ₃=>∃ b,v=.bool b∧Q b σ₃
noncomputable abbrev QUn (op:UnaryOp) (Q:V→Store→Prop):V→Store→Prop:=fun a σ₁=>M1 K.d (unaryOp op) a σ₁ Q
noncomputable abbrev QNot (Q:Bool→Store→Prop):Bool→Store→Prop:=fun c σ₁=>Q (!c) σ₁
noncomputable def QSif (b o:List Stmt) (Q:Fl→Fm→Store→Prop):Bool→Store→Prop:=fun c σ₁=>if c=true then ExP K ρ σ₁ b Q else ExP K ρ σ₁ o Q
noncomputable def QIfe (a b:Expr) (Q:V→Store→Prop):Bool→Store→Prop:=fun c σ₁=>if c=true then EvP K ρ σ₁ a Q else EvP K ρ σ₁ b Q
noncomputable def QAnd (r:List Expr) (pos:Pos) (Q:Bool→Store→Prop):Bool→Store→Prop:=fun c σ₁=>if c=true then TsP K ρ σ₁ (.BoolOp .And r pos) Q else Q false σ₁
noncomputable def QOr (r:List Expr) (pos:Pos) (Q:Bool→Store→Prop):Bool→Store→Prop:=fun c σ₁=>if c=true then Q true σ₁ else TsP K ρ σ₁ (.BoolOp .Or r pos) Q
noncomputable abbrev QVal (Q:Bool→Store→Prop):V→Store→Prop:=fun v σ₁=>M1B K.d v σ₁ Q
noncomputable abbrev QF2 (Q:V→Store→Prop) (fv:V):List V→Store→Prop:=fun pl σ₂=>KeepOk σ₂ fv∧CallV K.d fv pl σ₂ Q
noncomputable abbrev QF1 (args:List Expr) (Q:V→Store→Prop):V→Store→Prop:=fun fv σ₁=>EvsP K ρ args σ₁ (QF2 K Q fv)
noncomputable abbrev QM2 (id:String) (Q:V→Store→Prop) (ov:V):List V→Store→Prop:=fun pl σ₂=>CallV K.d (.raw (.builtin id)) (ov :: pl) σ₂ Q
noncomputable abbrev QM1 (T id:String) (args:List Expr) (Q:V→Store→Prop):V→Store→Prop:=fun ov σ₁=>TyOf σ₁ ov T∧EvsP K ρ args σ₁ (QM2 K id Q ov)
noncomputable abbrev QTup (Q:V→Store→Prop):List V→Store→Prop:=fun vs σ₁=>vs.length≤2 ^ 24∧Q (.tup vs) σ₁
noncomputable abbrev QLst (Q:V→Store→Prop):List V→Store→Prop:=fun vs σ₁=>vs.length≤2 ^ 24∧Q (.lst vs) σ₁
noncomputable abbrev QS2 (Q:V→Store→Prop) (o:V):V→Store→Prop:=fun i σ₂=>SubTy σ₂ o∧M2 K.d getItem o i σ₂ Q
noncomputable abbrev QS1 (slice:Expr) (Q:V→Store→Prop):V→Store→Prop:=fun o σ₁=>EvP K ρ σ₁ slice (QS2 K Q o)
noncomputable abbrev QL3 (Q:V→Store→Prop) (a b:V):V→Store→Prop:=fun c σ₃=>∃ lo hi st,PartV a lo∧PartV b hi∧PartV c st∧Q (.slc lo hi st) σ₃
noncomputable abbrev QL2 (t:Option Expr) (Q:V→Store→Prop) (a:V):V→Store→Prop:=fun b σ₂=>EvO K ρ σ₂ t (QL3 Q a b)
noncomputable abbrev QL1 (u t:Option Expr) (Q:V→Store→Prop):V→Store→Prop:=fun a σ₁=>EvO K ρ σ₁ u (QL2 K ρ t Q a)
noncomputable abbrev QE2 (Q:List V→Store→Prop) (pv:V):List V→Store→Prop:=fun pl σ₂=>Q (pv :: pl) σ₂
noncomputable abbrev QE1 (r:List Expr) (Q:List V→Store→Prop):V→Store→Prop:=fun pv σ₁=>EvsP K ρ r σ₁ (QE2 Q pv)
noncomputable abbrev QAt (attr:Str) (Q:V→Store→Prop):V→Store→Prop:=fun o σ₁=>M1 K.d (fun o=>getAttr o attr true) o σ₁ Q
noncomputable abbrev QAsg (x:Str) (Q:Fl→Fm→Store→Prop):V→Store→Prop:=fun v σ₁=>∃ ρ',Upd ρ x (.val v) ρ'∧Q .next ρ' σ₁
noncomputable abbrev QAug (op:Operator) (a:V) (x:Str) (Q:Fl→Fm→Store→Prop):V→Store→Prop:=fun b σ₂=>M2 K.d (inplaceOp op) a b σ₂ (QAsg ρ x Q)
noncomputable abbrev QRet (Q:Fl→Fm→Store→Prop):V→Store→Prop:=fun v σ₁=>Q (.ret v) ρ σ₁
noncomputable abbrev QExp (Q:Fl→Fm→Store→Prop):V→Store→Prop:=fun _ σ₁=>Q .next ρ σ₁
noncomputable abbrev QNx (Q:Fl→Fm→Store→Prop):Fm→Store→Prop:=fun ρ' σ'=>Q .next ρ' σ'
noncomputable abbrev QAsT (t:Expr) (Q:Fl→Fm→Store→Prop):V→Store→Prop:=fun v σ₁=>AsP K ρ σ₁ t v (QNx Q)
noncomputable abbrev QAs (Q:Fm→Store→Prop) (ts:List Expr) (vs:List V):Fm→Store→Prop:=fun ρ₁ σ₁=>AssP K Q ρ₁ σ₁ ts vs
end
section
variable {K:Kx} {ρ:Fm} {σ:Store} {d:Nat} {Q:V→Store→Prop}
theorem ev_binQ {l r:Expr} {op:Operator} {pos:Pos} (h:EvP K ρ σ l (QB1 K ρ op r Q)):EvP K ρ σ (.BinOp l op r pos) Q:=ev_bin h
theorem ev_cmpQ {l r:Expr} {op:CmpOp} {pos:Pos} (h:EvP K ρ σ l (QC1 K ρ op r Q)) (hm:autoParam (behindInMarks op r=false) aW):EvP K ρ σ (.Compare l [op] [r] pos) Q:=ev_cmp h hm
theorem ts_cmpQ {l r:Expr} {op:CmpOp} {pos:Pos} {Q:Bool→Store→Prop} (h:EvP K ρ σ l (QC1 K ρ op r (QTb Q))) (hm:autoParam (behindInMarks op r=false) aW):TsP K ρ σ (.Compare l [op] [r] pos) Q:=ts_cmp h hm
theorem ev_unQ {x:Expr} {op:UnaryOp} {pos:Pos} (h:EvP K ρ σ x (QUn K op Q)):EvP K ρ σ (.UnaryOp op x pos) Q:=ev_un h
theorem ts_notQ {x:Expr} {pos:Pos} {Q:Bool→Store→Prop} (h:TsP K ρ σ x (QNot Q)):TsP K ρ σ (.UnaryOp .Not x pos) Q:=ts_not h
theorem st_ifQ {t:Expr} {b o:List Stmt} {pos:Pos} {Q:Fl→Fm→Store→Prop} (h:TsP K ρ σ t (QSif K ρ b o Q)):StP K ρ σ (.If t b o pos) Q:=st_if h
theorem ev_ifexpQ {t a b:Expr} {pos:Pos} (h:TsP K ρ σ t (QIfe K ρ a b Q)):EvP K ρ σ (.IfExp t a b pos) Q:=ev_ifexp h
theorem ts_andQ {x:Expr} {r:List Expr} {pos:Pos} {Q:Bool→Store→Prop} (h:TsP K ρ σ x (QAnd K ρ r pos Q)):TsP K ρ σ (.BoolOp .And (x :: r) pos) Q:=ts_and h
theorem ts_orQ {x:Expr} {r:List Expr} {pos:Pos} {Q:Bool→Store→Prop} (h:TsP K ρ σ x (QOr K ρ r pos Q)):TsP K ρ σ (.BoolOp .Or (x :: r) pos) Q:=ts_or h
theorem q_sif {b o:List Stmt} {Q:Fl→Fm→Store→Prop} {c:Bool} (h:if c=true then ExP K ρ σ b Q else ExP K ρ σ o Q):QSif K ρ b o Q c σ:=h
theorem q_ife {a b:Expr} {c:Bool} (h:if c=true then EvP K ρ σ a Q else EvP K ρ σ b Q):QIfe K ρ a b Q c σ:=h
theorem q_and {r:List Expr} {pos:Pos} {Q:Bool→Store→Prop} {c:Bool} (h:if c=true then TsP K ρ σ (.BoolOp .And r pos) Q else Q false σ):QAnd K ρ r pos Q c σ:=h
theorem q_or {r:List Expr} {pos:Pos} {Q:Bool→Store→Prop} {c:Bool} (h:if c=true then Q true σ else TsP K ρ σ (.BoolOp .Or r pos) Q):QOr K ρ r pos Q c σ:=h
theorem tbQ {Q:Bool→Store→Prop} {b:Bool} (h:Q b σ):QTb Q (.bool b) σ:=⟨b,rfl,h⟩
theorem ts_valQ {e:Expr} {Q:Bool→Store→Prop} (h:EvP K ρ σ e (QVal K Q))
  (he:autoParam (∀ env whole,isTrue e env whole=(do let v ← whole;standAt e.pos;holding [v] (truthy v))) aI):TsP K ρ σ e Q:=ts_val h he
theorem ev_callQ {x:Str} {np pos:Pos} {args:List Expr} (h:EvP K ρ σ (.Name x np) (QF1 K ρ args Q))
  (hse:autoParam (∀ env,backTo pos (starEach args env)=args.map fun e=>(false,eval e env)) aI):EvP K ρ σ (.Call (.Name x np) args [] pos) Q:=ev_call h hse
theorem ev_tupleQ {elts:List Expr} {k:Nat} {pos:Pos} (h:EvsP K ρ elts σ (QTup Q))
  (hse:autoParam (∀ env,backTo pos (starEach elts env)=elts.map fun e=>(false,eval e env)) aI):EvP K ρ σ (.Tuple elts k pos) Q:=ev_tuple h hse
theorem ev_listQ {elts:List Expr} {pos:Pos} (h:EvsP K ρ elts σ (QLst Q))
  (hse:autoParam (∀ env,backTo pos (starEach elts env)=elts.map fun e=>(false,eval e env)) aI):EvP K ρ σ (.List elts pos) Q:=ev_list h hse
theorem ev_slcQ {l u t:Option Expr} {p:Pos} (h:EvO K ρ σ l (QL1 K ρ u t Q)):EvP K ρ σ (.Slice l u t p) Q:=ev_slc h
theorem ev_subQ {value slice:Expr} {pos:Pos} (h:EvP K ρ σ value (QS1 K ρ slice Q)):EvP K ρ σ (.Subscript value slice pos) Q:=ev_sub h
theorem evs_consQ {e:Expr} {r:List Expr} {Q:List V→Store→Prop} (h:EvP K ρ σ e (QE1 K ρ r Q)):EvsP K ρ (e :: r) σ Q:=h
theorem ev_attrQ {value:Expr} {attr:Str} {pos:Pos} (h:EvP K ρ σ value (QAt K attr Q)) (hbase:autoParam (∀ env,attributeBase value attr env (eval value env)=eval value env) aI):
  EvP K ρ σ (.Attribute value attr pos) Q:=ev_attr h hbase
theorem ev_methQ {T id:String} {o:Expr} {name:Str} {apos pos:Pos} {args:List Expr} (m:Meth T name id) (h:EvP K ρ σ o (QM1 K ρ T id args Q))
  (hbase:autoParam (∀ env,attributeBase o name env (eval o env)=eval o env) aI)
  (hfew:autoParam (∀ env,((backTo pos (starEach args env)).all (fun x=>!x.1) && (backToKw pos (keywordEach [] env)).all (fun x=>x.1.isSome)
   && decide (args.length + ([]:List Keyword).length + (if ([]:List Keyword).isEmpty then 0 else 1) < 30))=true) aI)
  (hline:autoParam ((apos.endLine == pos.line)=true) aR)
  (hse:autoParam (∀ env,backTo pos (starEach args env)=args.map fun e=>(false,eval e env)) aI):EvP K ρ σ (.Call (.Attribute o name apos) args [] pos) Q:=ev_meth m h hbase hfew hline hse
theorem st_assignQ {x:Str} {e:Expr} {pos' pos:Pos} {Q:Fl→Fm→Store→Prop} (hk:K.names.lookup x=some .local) (h:EvP K ρ σ e (QAsg ρ x Q))
  (hs:autoParam (∀ env,swapsWith e (some (.Name x pos')) pos.line env=pure false) aI):StP K ρ σ (.Assign [.Name x pos'] e pos) Q:=st_assign' (stores_local hk) h hs
theorem upd_asg {x:Str} {v:V} {Q:Fl→Fm→Store→Prop} (r':Fm) (hr:Rest ρ x r') (h:Q .next ((x,.val v) :: r') σ):QAsg ρ x Q v σ:=⟨_,.mk hr,h⟩
noncomputable def freshB (ρ:Fm) (x:Str):Bool:=ρ.all fun p=>!strEq p.1 x
theorem upd_mkN {x:Str} {s:Slot} (hx:freshB ρ x=true):Upd ρ x s ((x,s) :: ρ):=fun p hp=>by
 rcases List.mem_cons.mp hp with rfl | hp
 ·exact .inl rfl
 ·refine .inr ⟨hp,fun e=>?_⟩
  have:=List.all_eq_true.mp hx p hp
  rw [show strEq p.1 x=true from decide_eq_true e] at this
  exact absurd this (by decide)
theorem upd_asgN {x:Str} {v:V} {Q:Fl→Fm→Store→Prop} (hx:freshB ρ x=true) (h:Q .next ((x,.val v) :: ρ) σ):QAsg ρ x Q v σ:=⟨_,upd_mkN hx,h⟩
theorem st_augQ {x:Str} {a:V} {op:Operator} {e:Expr} {pos' pos:Pos} {Q:Fl→Fm→Store→Prop} (hk:Stores K ρ x) (hx:(x,Slot.val a)∈ρ) (h:EvP K ρ σ e (QAug K ρ op a x Q))
  (hn:autoParam ((x == ("__classdict__" : Str))=false) aD):StP K ρ σ (.AugAssign (.Name x pos') op e pos) Q:=st_aug hk hx h hn
theorem st_retQ {e:Expr} {pos:Pos} {Q:Fl→Fm→Store→Prop} (h:EvP K ρ σ e (QRet ρ Q)):StP K ρ σ (.Return (some e) pos) Q:=st_ret h
theorem st_exprQ {e:Expr} {pos:Pos} {Q:Fl→Fm→Store→Prop} (h:EvP K ρ σ e (QExp ρ Q)) (hs:autoParam (∀ env,swapsWith e none pos.line env=pure false) aI):StP K ρ σ (.Expr e pos) Q:=st_expr h hs
theorem st_assignTQ {t e:Expr} {pos:Pos} {Q:Fl→Fm→Store→Prop} (h:EvP K ρ σ e (QAsT K ρ t Q))
  (he:autoParam (∀ env,(assignEach [t] env).map (·.2)=[assign t env]) aI)
  (hs:autoParam (∀ env,swapsWithSole [t] e pos.line env=pure false) aI) (hw:autoParam (∀ env:Env,env.scope.kind=.function→env.scope.names=K.names→swappedStores [t] e env=pure none) aI):StP K ρ σ (.Assign [t] e pos) Q:=st_assignT h he hs hw
theorem ass_consQ {Q:Fm→Store→Prop} {t:Expr} {ts:List Expr} {v:V} {vs:List V} (h:AsP K ρ σ t v (QAs K Q ts vs)):AssP K Q ρ σ (t :: ts) (v :: vs):=h
end
end Mine
end
section
open PySem PySem.W PyProof.Rows PySem.Calls
namespace Mine
section
variable {K:Kx} {ρ:Fm} {σ:Store} {d:Nat} {Q:V→Store→Prop}
theorem compTurn_in (elt t1 i1 t2 i2:Expr) (ifs:List Expr) (scope:Scope) (pos:Pos) (it acc:Value) (env:Env):
  compTurn (.ListComp elt [⟨t1,i1,[],0⟩,⟨t2,i2,ifs,0⟩] scope pos) 1 it acc env=(do
   standAt i2.pos
   match ← pyNext it with
   | none=>pure (.done .next)
   | some v=>
    letOwnedTupleGo t2 it v
    assign t2 env v
    let mut ok:=true
    for c in ifs do
     if ok then ok ← isTrue c env (eval c env)
    if ok then
     (do let _ ← call (.builtin "list.append") [acc,← eval elt env])
    again (.compLoop (.ListComp elt [⟨t1,i1,[],0⟩,⟨t2,i2,ifs,0⟩] scope pos) 1 it acc env)):=by rfl
theorem compTurn_out (elt t1 i1 t2 i2:Expr) (ifs:List Expr) (scope:Scope) (pos:Pos) (it acc:Value) (env:Env):
  compTurn (.ListComp elt [⟨t1,i1,[],0⟩,⟨t2,i2,ifs,0⟩] scope pos) 0 it acc env=(do
   standAt i1.pos
   match ← pyNext it with
   | none=>pure (.done .next)
   | some v=>
    letOwnedTupleGo t1 it v
    assign t1 env v
    let mut ok:=true
    for c in ([]:List Expr) do
     if ok then ok ← isTrue c env (eval c env)
    if ok then
     let x ← eval i2 env
     standAt i2.pos
     let x ← foldedSetIterable i2 env x
     let _ ← runOwn (.compStart (.ListComp elt [⟨t1,i1,[],0⟩,⟨t2,i2,ifs,0⟩] scope pos) 1 (← holding [x] (pyIter x)) acc env) env
    again (.compLoop (.ListComp elt [⟨t1,i1,[],0⟩,⟨t2,i2,ifs,0⟩] scope pos) 0 it acc env)):=by rfl
theorem compLoop_in {R:Result→Shared→Prop} {A:Around} {s:Shared} {elt t1 i1 t2 i2:Expr} {ifs:List Expr} {scope:Scope} {pos:Pos} {it acc:Value} {env:Env} {prog:Program} {w:World} (I:Nat→Shared→Prop)
  (turn:∀ n s,I n s→wpAny (model prog w) A (pyNext it) (fun r s₁=>match r with
   | none=>R (.ok .next) s₁
   | some v=>wpAny (model prog w) A (letOwnedTupleGo t2 it v) (fun _ s₁'=>wpAny (model prog w) A (assign t2 env v) (fun _ s₂=>
     wpAny (model prog w) A (forIn ifs true fun c r=>if r=true then do let ok ← isTrue c env (eval c env);pure (ForInStep.yield ok) else pure (ForInStep.yield r)) (fun ok s₃=>
      if ok=true then wpAny (model prog w) A (eval elt env) (fun x s₄=>
       wpAny (model prog w) A (PySem.call (.builtin "list.append") [acc,x]) (fun _ s₅=>∃ m,m < n∧I m s₅) Bot s₄) Bot s₃
      else ∃ m,m < n∧I m s₃) Bot s₂) Bot s₁') Bot s₁) Bot s)
  (n:Nat) (h:I n s):codeAny (model prog w) A (.compLoop (.ListComp elt [⟨t1,i1,[],0⟩,⟨t2,i2,ifs,0⟩] scope pos) 1 it acc env) R s:=by
 refine codeAny_loop rfl I (fun n s hI=>?_) n h
 show wpAny _ A ((compTurn (.ListComp elt [⟨t1,i1,[],0⟩,⟨t2,i2,ifs,0⟩] scope pos) 1 it acc env).onRaise (fun x=>do noteFrame x env;theTreesLotGoes x)) _ _ s
 refine wpAny_noted ?_
 rw [compTurn_in]
 refine wpAny_bind (wpAny_standAt (wpAny_bind (wpAny_mono (turn n s hI) (fun r s₁ h₁=>?_) fun _ _ x=>x.elim)))
 cases r with
 | none=>exact wpAny_pure h₁
 | some v=>
  refine wpAny_bind (wpAny_mono h₁ (fun _ s₁' h₁'=>?_) fun _ _ x=>x.elim)
  refine wpAny_bind (wpAny_mono h₁' (fun _ s₂ h₂=>wpAny_bind (wpAny_mono h₂ (fun ok s₃ h₃=>?_) fun _ _ x=>x.elim)) fun _ _ x=>x.elim)
  cases ok with
  | false=>exact wpAny_pure ⟨rfl,h₃⟩
  | true=>
   exact wpAny_bind (wpAny_bind (wpAny_mono h₃ (fun x s₄ h₄=>wpAny_bind (wpAny_mono h₄ (fun _ s₅ h₅=>wpAny_pure (wpAny_pure ⟨rfl,h₅⟩)) fun _ _ x=>x.elim)) fun _ _ x=>x.elim))
theorem compLoop_out {R:Result→Shared→Prop} {A:Around} {s:Shared} {elt t1 i1 t2 i2:Expr} {ifs:List Expr} {scope:Scope} {pos:Pos} {it acc:Value} {env:Env} {prog:Program} {w:World} (I:Nat→Shared→Prop)
  (hs:∀ x,foldedSetIterable i2 env x=pure x)
  (turn:∀ n s,I n s→wpAny (model prog w) A (pyNext it) (fun r s₁=>match r with
   | none=>R (.ok .next) s₁
   | some v=>wpAny (model prog w) A (letOwnedTupleGo t1 it v) (fun _ s₁'=>wpAny (model prog w) A (assign t1 env v) (fun _ s₂=>
     wpAny (model prog w) A (eval i2 env) (fun x s₃=>wpAny (model prog w) A (pyIter x) (fun it2 s₄=>
      codeAny (model prog w) A (.compStart (.ListComp elt [⟨t1,i1,[],0⟩,⟨t2,i2,ifs,0⟩] scope pos) 1 it2 acc env) (fun r s₅=>r=.ok .next∧∃ m,m < n∧I m s₅) s₄) Bot s₃) Bot s₂) Bot s₁') Bot s₁) Bot s)
  (n:Nat) (h:I n s):codeAny (model prog w) A (.compLoop (.ListComp elt [⟨t1,i1,[],0⟩,⟨t2,i2,ifs,0⟩] scope pos) 0 it acc env) R s:=by
 refine codeAny_loop rfl I (fun n s hI=>?_) n h
 show wpAny _ A ((compTurn (.ListComp elt [⟨t1,i1,[],0⟩,⟨t2,i2,ifs,0⟩] scope pos) 0 it acc env).onRaise (fun x=>do noteFrame x env;theTreesLotGoes x)) _ _ s
 refine wpAny_noted ?_
 rw [compTurn_out]
 refine wpAny_bind (wpAny_standAt (wpAny_bind (wpAny_mono (turn n s hI) (fun r s₁ h₁=>?_) fun _ _ x=>x.elim)))
 cases r with
 | none=>exact wpAny_pure h₁
 | some v=>
  refine wpAny_bind (wpAny_mono h₁ (fun _ s₁' h₁'=>?_) fun _ _ x=>x.elim)
  refine wpAny_bind (wpAny_mono h₁' (fun _ s₂ h₂=>wpAny_bind (wpAny_pure ?_)) fun _ _ x=>x.elim)
  refine wpAny_bind (wpAny_mono h₂ (fun x s₃ h₃=>wpAny_bind (wpAny_standAt (wpAny_bind (wpAny_of_eq (hs x) (wpAny_bind (wpAny_holding (wpAny_mono h₃ (fun it2 s₄ h₄=>?_) fun _ _ x=>x.elim))))))) fun _ _ x=>x.elim)
  refine wpAny_bind (wpAny_runOwn (h:=none) (codeAny_mono h₄ fun r s₅ h₅=>?_))
  refine bc fun hbc=>?_
  obtain ⟨eq0,h₅⟩:=h₅
  refine hbc ?_
  clear hbc
  subst eq0
  exact wpAny_pure ⟨rfl,h₅⟩
theorem compStart_in {R:Result→Shared→Prop} {A:Around} {s:Shared} {elt t1 i1 t2 i2:Expr} {ifs:List Expr} {scope:Scope} {pos:Pos} {it acc:Value} {env:Env} {prog:Program} {w:World}
  (h0:codeAny (model prog w) A (.compLoop (.ListComp elt [⟨t1,i1,[],0⟩,⟨t2,i2,ifs,0⟩] scope pos) 1 it acc env) R s)
  (h:wpAny (model prog w) A (pyIter it) (fun it' s'=>codeAny (model prog w) A (.compLoop (.ListComp elt [⟨t1,i1,[],0⟩,⟨t2,i2,ifs,0⟩] scope pos) 1 it' acc env) R s') Bot s):
  codeAny (model prog w) A (.compStart (.ListComp elt [⟨t1,i1,[],0⟩,⟨t2,i2,ifs,0⟩] scope pos) 1 it acc env) R s:=by
 refine codeAny_of_tree ?_
 show wpAny _ _ ((compStart (.ListComp elt [⟨t1,i1,[],0⟩,⟨t2,i2,ifs,0⟩] scope pos) 1 it acc env).onRaise (fun x=>do noteFrame x env;standAt theWindowsPlace)) _ _ s
 refine wpAny_notedAt ?_
 unfold compStart
 show wpAny _ _ (ask >>= _) _ _ s
 refine wpAny_bind (wpAny_askSetting (wpAny_ite ?_))
 split
 ·exact wpAny_bind (wpAny_pure (wpAny_pure (And.intro rfl h0)))
 ·refine wpAny_bind (wpAny_rule ?_)
  show wpAny _ _ (standAt i2.pos >>= _) _ _ s
  exact wpAny_bind (wpAny_standAt (wpAny_bind (wpAny_mono h (fun it' s' h'=>wpAny_pure (And.intro rfl h')) fun _ _ x=>x.elim)))
end
structure ExtX (L:Addr) (σ:Store) (h:Heap) (σ':Store) (h':Heap):Prop where
 keep:∀ a o,a≠L→h.get? a=some o→σ a=none→a∉C.tabs→h'.get? a=some o
 free:∀ a o,a≠L→h.get? a=some o→σ a=none→a∉C.tabs→σ' a=none
 cell:∀ c v,σ c=some (.cell v)→∃ v',σ' c=some (.cell v')
section
variable {K:Kx} {ρ:Fm} {σ:Store} {d:Nat} {Q:V→Store→Prop} {L:Addr}
theorem ExtX.of {σ':Store} {h h':Heap} (x:Ext σ h σ' h'):ExtX L σ h σ' h':=⟨fun a o _ e hs ht=>x.keep a o e hs ht,fun a o _ e hs ht=>x.free a o e hs ht,x.cell⟩
theorem ExtX.trans {σ₁ σ₂:Store} {h h₁ h₂:Heap} (x:ExtX L σ h σ₁ h₁) (y:ExtX L σ₁ h₁ σ₂ h₂):ExtX L σ h σ₂ h₂:=
 ⟨fun a o n e hs ht=>y.keep a o n (x.keep a o n e hs ht) (x.free a o n e hs ht) ht,fun a o n e hs ht=>y.free a o n (x.keep a o n e hs ht) (x.free a o n e hs ht) ht,fun c v e=>(x.cell c v e).elim fun _ e'=>y.cell c _ e'⟩
theorem ExtX.loc {h h':Heap} (x:ExtL L σ h h'):ExtX L σ h σ h':=⟨fun a o n e _ _=>x.keep a o n e,fun a o _ _ hs _=>hs,fun c v e=>⟨v,e⟩⟩
theorem ExtX.but {σ':Store} {h h₁ h₂:Heap} {a:Addr} (e:ExtX L σ h σ' h₁) (k:∀ b o,b≠a→h₁.get? b=some o→h₂.get? b=some o) (hn:h.get? a=none):ExtX L σ h σ' h₂:=
 ⟨fun b o n g hs ht=>k b o (fun q=>by rw [q,hn] at g;cases g) (e.keep b o n g hs ht),e.free,e.cell⟩
theorem ExtX.acc {σ₁ σ₂ σ₅:Store} {h₁ h' h'':Heap} {D:Addr} {acc acc':List V} (E:Ext σ₁ h₁ σ₂ h') (F:ExtX L (accS σ₂ D acc) h' (accS σ₅ D acc') h'') (hD:h₁.get? D=none) (hL:h₁.get? L=none) (h2:σ₂ D=none) (h5:σ₅ D=none):Ext σ₁ h₁ σ₅ h'':=by
 have ne:∀ a o,h₁.get? a=some o→a≠D:=fun a o e q=>by rw [q,hD] at e;cases e
 have nl:∀ a o,h₁.get? a=some o→a≠L:=fun a o e q=>by rw [q,hL] at e;cases e
 refine ⟨fun a o e hs ht=>F.keep a o (nl a o e) (E.keep a o e hs ht) ((accS_ne (ne a o e)).trans (E.free a o e hs ht)) ht,fun a o e hs ht=>?_,fun c v e=>?_⟩
 ·have:=F.free a o (nl a o e) (E.keep a o e hs ht) ((accS_ne (ne a o e)).trans (E.free a o e hs ht)) ht
  rwa [accS_ne (ne a o e)] at this
 ·refine bc fun hbc=>?_
  obtain ⟨v',e'⟩:=E.cell c v e
  have hc:c≠D:=fun q=>by rw [q,h2] at e';cases e'
  obtain ⟨v'',e''⟩:=F.cell c v' ((accS_ne hc).trans e')
  refine hbc ?_
  clear hbc
  exact ⟨v'',by rwa [accS_ne hc] at e''⟩
theorem Itr.keepX {σ':Store} {h h':Heap} {it:Addr} {r:List V} (x:Itr σ h it r) (hL:it≠L) (e:ExtX L σ h σ' h') (hq:SeqKeep σ h σ' h'):Itr σ' h' it r:=by
 refine bc fun hbc=>?_
 obtain ⟨o,vs,g,d,_⟩:=x.st.obj
 refine hbc ?_
 clear hbc
 exact ⟨x.st.mono (fun o' g'=>e.keep it o' hL g' x.un x.nt) hq,e.free it o hL g x.un x.nt,x.lo,x.nt⟩
theorem ExtX.seq {env:Env} {h h':Heap} {σ':Store} (hr:Rep K env ρ σ h) (x:ExtX env.locals σ h σ' h'):SeqKeep σ h σ' h':=
 ⟨fun a o e f hs ht=>x.keep a o (fun q=>Foot.notFixed hr hs e f (.inl q)) e hs ht,fun a o e f hs ht=>x.free a o (fun q=>Foot.notFixed hr hs e f (.inl q)) e hs ht⟩
noncomputable def CompTurnK (K:Kx) (caps:Fm) (target elt:Expr) (ifs:List Expr) (J:List V→List V→Store→Prop):Prop:=
 ∀ x r acc σ₂ D,J (x :: r) acc σ₂→σ₂ D=none→∃ fr,TgtP K target x fr∧(∀ p∈caps,∀ q∈fr,p.1≠q.1)∧
    IfsP K (fr++caps) ifs (accS σ₂ D acc) (fun ok σ₃=>if ok=true then EvP K (fr++caps) σ₃ elt (fun v σ₄=>acc.length < 2 ^ 24∧∃ σ₅,σ₄=accS σ₅ D acc∧σ₅ D=none∧J r (acc++[v]) σ₅)
     else ∃ σ₅,σ₃=accS σ₅ D acc∧σ₅ D=none∧J r acc σ₅)
inductive CompJX (K:Kx) (env:Env) (caps:Fm) (J:List V→List V→Store→Prop) (D it:Addr) (σ:Store) (h₁:Heap) (n:Nat) (s':Shared):Prop
 | mk (r acc:List V) (σ₂:Store) (e:n=r.length) (hJ:J r acc σ₂) (hd:σ₂ D=none) (hI:Itr (accS σ₂ D acc) s'.heap it r) (hr:Rep K env caps (accS σ₂ D acc) s'.heap) (hi:Inv (accS σ₂ D acc) s') (E:ExtX env.locals σ h₁ (accS σ₂ D acc) s'.heap)
theorem inner_loop {elt t1 i1 t2 i2:Expr} {ifs:List Expr} {scope:Scope} {pos:Pos} {caps:Fm} {A:Around} {env:Env} {s₁:Shared} {D:Addr} {acc₀:List V} (ha:AOk K.d A) (hr₁:Rep K env caps (accS σ D acc₀) s₁.heap) (i₁:Inv (accS σ D acc₀) s₁) (hd₀:σ D=none)
  {items:List V} {pv:V} {v:Value} (hit:Items pv items) (r₁:Rel (accS σ D acc₀) s₁.heap v pv) (J:List V→List V→Store→Prop) (hJ:J items acc₀ σ) (turn:CompTurnK K caps t2 elt ifs J) {QM:Result→Shared→Prop}
  (fin:∀ acc σ₂ s',J [] acc σ₂→σ₂ D=none→Inv (accS σ₂ D acc) s'→Rep K env caps (accS σ₂ D acc) s'.heap→ExtX env.locals (accS σ D acc₀) s₁.heap (accS σ₂ D acc) s'.heap→QM (.ok .next) s'):
  wpAny (model C.prog C.w) A (pyIter v) (fun it s₄=>codeAny (model C.prog C.w) A (.compStart (.ListComp elt [⟨t1,i1,[],0⟩,⟨t2,i2,ifs,0⟩] scope pos) 1 it (.ref D) env) QM s₄) Bot s₁:=by
 refine itr_iter hit r₁ i₁ ha fun it h₂ fr₂ g₂ hI=>?_
 have i₂:Inv (accS σ D acc₀) { s₁ with heap:=h₂ }:=i₁.grow (s':={ s₁ with heap:=h₂ }) g₂ rfl rfl
 have hr₂:Rep K env caps (accS σ D acc₀) h₂:=hr₁.mono (Ext.grow g₂)
 have hitL:it≠env.locals:=fun q=>by obtain ⟨m,o,_,_,e,_⟩:=hr₁.loc;rw [← q,fr₂] at e;cases e
 have loop:codeAny (model C.prog C.w) A (.compLoop (.ListComp elt [⟨t1,i1,[],0⟩,⟨t2,i2,ifs,0⟩] scope pos) 1 (.ref it) (.ref D) env) QM { s₁ with heap:=h₂ }:=by
  refine compLoop_in (CompJX K env caps J D it (accS σ D acc₀) s₁.heap) ?_ items.length ⟨items,acc₀,σ,rfl,hJ,hd₀,hI,hr₂,i₂,.of (Ext.grow g₂)⟩
  intro n s' hJ2
  refine bc fun hbc=>?_
  obtain ⟨r,acc,σ₂,eq0,hJ,hd,hI,hrc,hi',hE⟩:=hJ2
  refine hbc ?_
  clear hbc
  subst eq0
  refine itr_next hI ha (fun e h'' k=>?_) (fun x r' e v h'' tk k rv hI'=>?_)
  ·subst e
   have nd:=hI.nd
   exact fin acc σ₂ { s' with heap:=h'' } hJ hd (hi'.poke (s':={ s' with heap:=h'' }) k rfl rfl) (hrc.poke k nd) (hE.but k.keep fr₂)
  ·subst e
   have nd:=hI.nd
   have hrc':=hrc.poke k nd
   have hi'':=hi'.poke (s':={ s' with heap:=h'',toks:=tk }) k rfl rfl
   have hE':=hE.but k.keep fr₂
   refine bc fun hbc=>?_
   obtain ⟨fr,ht,hdis,body⟩:=turn x r' acc σ₂ D hJ hd
   refine hbc ?_
   clear hbc
   refine own_go (s:={ s' with heap:=h'',toks:=tk }) hI'.st ?_
   refine as_local (s:={ s' with heap:=h'',toks:=tk }) (d:=K.d) ht ha hdis hrc' hi'' rv fun s₂ hrc₂ hi₂ eL=>?_
   have hE₂:=hE'.trans (ExtX.loc eL)
   have hI₂:Itr (accS σ₂ D acc) s₂.heap it r':=hI'.keepX hitL (ExtX.loc eL) (eL.seq hrc')
   refine ifs_ (K:=K) ha body hrc₂ hi₂ fun ok σ₃ s₃ q₃ i₃ e₃=>?_
   cases ok with
   | false=>
    refine bc fun hbc=>?_
    obtain ⟨σ₅,eq0,h5,hJ'⟩:=q₃
    refine hbc ?_
    clear hbc
    subst eq0
    exact ⟨r'.length,by simp,r',acc,σ₅,rfl,hJ',h5,hI₂.keep hrc₂ e₃.toF,(hrc₂.mono e₃).sub (fun p hp=>List.mem_append_right _ hp),i₃,hE₂.trans (.of e₃)⟩
   | true=>
    refine q₃ A env s₃ ha (hrc₂.mono e₃) i₃ _ fun v pv σ₄ s₄ q₄ i₄ e₄ r₄=>?_
    refine bc fun hbc=>?_
    obtain ⟨hlen,σ₅,eq0,h5,hJ'⟩:=q₄
    refine hbc ?_
    clear hbc
    subst eq0
    refine bi_append (d:=K.d) (Q:=fun v σ'=>σ'=accS σ₅ D (acc++[pv])) accS_self hlen accS_accS A s₄ _ _ ha i₄ (.raw _) (.cons (.loc D) (.cons r₄ .nil)) _ fun v' pv' σ₆ s₆ q₆ i₆ e₆ r₆=>?_
    subst q₆
    have EE:=(e₃.trans e₄).trans e₆
    exact ⟨r'.length,by simp,r',acc++[pv],σ₅,rfl,hJ',h5,hI₂.keep hrc₂ EE.toF,(hrc₂.mono EE).sub (fun p hp=>List.mem_append_right _ hp),i₆,hE₂.trans (.of EE)⟩
 exact compStart_in loop (itr_self (s:={ s₁ with heap:=h₂ }) hI.st loop)
end
structure CompSt (K:Kx) (env:Env) (scope:Scope) (caps:Fm) (σ:Store) (h₁:Heap) (items:List V) (D L it:Addr) (s':Shared):Prop where
 nDL:D≠L
 nIL:it≠L
 nID:it≠D
 inv:Inv (accS σ D []) s'
 rep:Rep (KxC K scope) (cenvOf env scope L) caps (accS σ D []) s'.heap
 itr:Itr (accS σ D []) s'.heap it items
 gI:h₁.get? it=none
 gD:h₁.get? D=none
 gL:h₁.get? L=none
 sD:σ D=none
 lo:C.h1.objs.size≤D
 ext:Ext σ h₁ σ s'.heap
section
variable {K:Kx} {ρ:Fm} {σ:Store} {d:Nat} {Q:V→Store→Prop}
theorem comp_pre {elt target iter:Expr} {ifs:List Expr} {gs:List Comprehension} {scope:Scope} {pos:Pos} (caps:Fm) (ok:CompOk K ρ scope caps) {A:Around} {env:Env} {s₁:Shared} (ha:AOk K.d A) (hr₁:Rep K env ρ σ s₁.heap) (i₁:Inv σ s₁)
  {items:List V} {pv:V} {v:Value} (hit:Items pv items) (r₁:Rel σ s₁.heap v pv) {RR:Value→Addr→Result→Shared→Prop}
  (loop:∀ D L it s',CompSt K env scope caps σ s₁.heap items D L it s'→codeAny (model C.prog C.w) A (.compLoop (.ListComp elt (⟨target,iter,ifs,0⟩ :: gs) scope pos) 0 (.ref it) (.ref D) (cenvOf env scope L)) (RR (.ref D) L) s'):
  wpAny (model C.prog C.w) A (pyIter v) (fun it s₂=>wpAny (model C.prog C.w) A (newList []) (fun acc s₃=>wpAny (model C.prog C.w) A (newFunctionEnv scope env.globals (closL env.cells scope.names []) [] env.qual none .none (some env)) (fun cenv s₄=>
   codeAny (model C.prog C.w) A (.compStart (.ListComp elt (⟨target,iter,ifs,0⟩ :: gs) scope pos) 0 it acc { cenv with scope:=relabel scope env }) (RR acc cenv.locals) s₄) Bot s₃) Bot s₂) Bot s₁:=by
 refine bc fun hbc=>?_
 obtain ⟨hk,hcell,hnames,hfree,hcaps⟩:=ok
 refine hbc ?_
 clear hbc
 refine itr_iter hit r₁ i₁ ha fun it h₂ fr₂ g₂ hI=>?_
 have i₂:Inv σ { s₁ with heap:=h₂ }:=i₁.grow (s':={ s₁ with heap:=h₂ }) g₂ rfl rfl
 have hr₂:Rep K env ρ σ h₂:=hr₁.mono (Ext.grow g₂)
 refine wpAny_newObj_type (wpAny_newFunctionEnv hcell (by intro y hy;simp at hy) (fun h₄ hns hsb=>?_) hk)
 dsimp only at hns hsb ⊢
 generalize hH3:h₂.push { cls:=.type "list", dict:=none,data:=.seq ([]:List Value).toArray }=H3 at hns hsb ⊢
 have hD:h₂.get? h₂.objs.size=none:=get?_ge (Nat.le_refl _)
 have hC:H3.objs.size=h₂.objs.size + 1:=by rw [← hH3,Heap.size_push]
 have hDC:h₂.objs.size≠H3.objs.size:=by rw [hC];exact Nat.ne_of_lt (Nat.lt_succ_self _)
 have hCn:h₂.get? H3.objs.size=none:=get?_ge (by rw [hC];exact Nat.le_succ _)
 have g₄:∀ b o,h₂.get? b=some o→h₄.get? b=some o:=fun b o e=>hsb.extBut b o (fun q=>by rw [q,hCn] at e;cases e) (Heap.get?_push_of_some _ (hH3 ▸ Heap.get?_push_of_some _ e))
 have hDo:h₄.get? h₂.objs.size=some (lstO #[] 0):=hsb.extBut _ _ hDC (Heap.get?_push_of_some _ (hH3 ▸ Heap.get?_push_size _ rfl))
 refine bc fun hbc=>?_
 obtain ⟨i₄,E₄⟩:=i₂.new (s':={ s₁ with heap:=h₄ }) (p:=.list []) hD i₂.size g₄ ⟨#[],0,hDo,.nil⟩ rfl rfl
 refine hbc ?_
 clear hbc
 have i₄':Inv (accS σ h₂.objs.size []) { s₁ with heap:=h₄,toks:=s₁.toks + ([]:List (Str×Value)).length }:=i₄.toks
 have hr₄:Rep K env ρ (accS σ h₂.objs.size []) h₄:=hr₂.mono E₄
 have hLs:σ H3.objs.size=none:=i₂.off hCn
 have hL:(accS σ h₂.objs.size []) H3.objs.size=none:=(upd_ne σ _ (Ne.symm hDC)).trans hLs
 have hlo:C.h1.objs.size≤H3.objs.size:=by rw [hC];exact Nat.le_trans i₂.size (Nat.le_succ _)
 have rc:Rep (KxC K scope) (cenvOf env scope H3.objs.size) caps (accS σ h₂.objs.size []) h₄:=
  comp_rep hr₄ hk hfree hcaps (by simpa using hns) hL hlo (i₂.notTab hlo) fun x c hc q=>hr₂.cellEx i₂ hc (q ▸ hCn)
 have hitD:it≠h₂.objs.size:=fun q=>by obtain ⟨o,_,e,_⟩:=hI.st.obj;rw [q,hD] at e;cases e
 have hitC:it≠H3.objs.size:=fun q=>by obtain ⟨o,_,e,_⟩:=hI.st.obj;rw [q,hCn] at e;cases e
 have hI₄:Itr (accS σ h₂.objs.size []) h₄ it items:=⟨hI.st.mono (fun o e=>g₄ it o e) E₄.seq,(upd_ne σ _ hitD).trans hI.un,hI.lo,hI.nt⟩
 have hfresh:∀ a o,s₁.heap.get? a=some o→a≠it∧a≠h₂.objs.size∧a≠H3.objs.size:=fun a o e=>
  ⟨fun q=>(by rw [q,fr₂] at e;cases e),fun q=>(by have:=g₂ a o e;rw [q,hD] at this;cases this),fun q=>(by have:=g₂ a o e;rw [q,hCn] at this;cases this)⟩
 have n1:s₁.heap.get? h₂.objs.size=none:=by
  cases q:s₁.heap.get? h₂.objs.size with
  | none=>rfl
  | some o=>exact absurd rfl (hfresh _ o q).2.1
 have n2:s₁.heap.get? H3.objs.size=none:=by
  cases q:s₁.heap.get? H3.objs.size with
  | none=>rfl
  | some o=>exact absurd rfl (hfresh _ o q).2.2
 have lp:=loop h₂.objs.size H3.objs.size it { s₁ with heap:=h₄,toks:=s₁.toks + ([]:List (Str×Value)).length } ⟨hDC,hitC,hitD,i₄',rc,hI₄,fr₂,n1,n2,i₂.off hD,i₂.size,Ext.grow fun b o e=>g₄ b o (g₂ b o e)⟩
 exact codeAny_compStart_list lp (itr_self (s:={ s₁ with heap:=h₄,toks:=s₁.toks + ([]:List (Str×Value)).length }) hI₄.st lp)
noncomputable def CompTurn2 (K:Kx) (caps:Fm) (t1 i2 t2 elt:Expr) (ifs:List Expr) (J:List V→List V→Store→Prop):Prop:=
 ∀ x r acc σ₂ D,J (x :: r) acc σ₂→σ₂ D=none→∃ fr,TgtP K t1 x fr∧(∀ p∈caps,∀ q∈fr,p.1≠q.1)∧
  EvP K (fr++caps) (accS σ₂ D acc) i2 (fun v σ₃=>σ₃=accS σ₂ D acc∧∃ items,Items v items∧∃ J2:List V→List V→Store→Prop,J2 items acc σ₂∧CompTurnK K (fr++caps) t2 elt ifs J2∧∀ acc' σ₆,J2 [] acc' σ₆→J r acc' σ₆)
theorem comp_core2 {elt t1 i1 t2 i2:Expr} {ifs:List Expr} {scope:Scope} {pos:Pos} (caps:Fm) (ok:CompOk K ρ scope caps) {A:Around} {env:Env} {s₁:Shared} (ha:AOk K.d A) (hr₁:Rep K env ρ σ s₁.heap) (i₁:Inv σ s₁)
  {items:List V} {pv:V} {v:Value} (hit:Items pv items) (r₁:Rel σ s₁.heap v pv) (J:List V→List V→Store→Prop) (hJ:J items [] σ) (turn:CompTurn2 (KxC K scope) caps t1 i2 t2 elt ifs J) {RR:Value→Addr→Result→Shared→Prop}
  (hs:∀ env x,foldedSetIterable i2 env x=pure x)
  (fin:∀ D L acc σ₂ s',J [] acc σ₂→σ₂ D=none→Inv (accS σ₂ D acc) s'→Rep (KxC K scope) (cenvOf env scope L) caps (accS σ₂ D acc) s'.heap→Ext σ s₁.heap σ₂ s'.heap→s₁.heap.get? L=none→D≠L→C.h1.objs.size≤D→RR (.ref D) L (.ok .next) s'):
  wpAny (model C.prog C.w) A (pyIter v) (fun it s₂=>wpAny (model C.prog C.w) A (newList []) (fun acc s₃=>wpAny (model C.prog C.w) A (newFunctionEnv scope env.globals (closL env.cells scope.names []) [] env.qual none .none (some env)) (fun cenv s₄=>
   codeAny (model C.prog C.w) A (.compStart (.ListComp elt [⟨t1,i1,[],0⟩,⟨t2,i2,ifs,0⟩] scope pos) 0 it acc { cenv with scope:=relabel scope env }) (RR acc cenv.locals) s₄) Bot s₃) Bot s₂) Bot s₁:=by
 refine comp_pre caps ok ha hr₁ i₁ hit r₁ fun D L it s' S=>?_
 refine compLoop_out (CompJ (KxC K scope) (cenvOf env scope L) caps J D it σ s₁.heap) (hs _) ?_ items.length ⟨items,[],σ,rfl,hJ,S.sD,S.itr,S.rep,S.inv,S.ext⟩
 have n1:=S.gD
 have n2:=S.gL
 have fr₂:=S.gI
 have hitC:=S.nIL
 have hDC:=S.nDL
 have hDlo:=S.lo
 clear S
 intro n s' hJ2
 refine bc fun hbc=>?_
 obtain ⟨r,acc,σ₂,eq0,hJ,hd,hI,hrc,hi',hE⟩:=hJ2
 refine hbc ?_
 clear hbc
 subst eq0
 refine itr_next hI ha (fun e h'' k=>?_) (fun x r' e v h'' tk k rv hI'=>?_)
 ·subst e
  have nd:=hI.nd
  exact fin D L acc σ₂ { s' with heap:=h'' } hJ hd (hi'.poke (s':={ s' with heap:=h'' }) k rfl rfl) (hrc.poke k nd) (hE.but k.keep fr₂) n2 hDC hDlo
 ·subst e
  have nd:=hI.nd
  have hrc':=hrc.poke k nd
  have hi'':=hi'.poke (s':={ s' with heap:=h'',toks:=tk }) k rfl rfl
  have hE':=hE.but k.keep fr₂
  refine bc fun hbc=>?_
  obtain ⟨fr,ht,hdis,body⟩:=turn x r' acc σ₂ D hJ hd
  refine hbc ?_
  clear hbc
  refine own_go (s:={ s' with heap:=h'',toks:=tk }) hI'.st ?_
  refine as_local (s:={ s' with heap:=h'',toks:=tk }) (d:=K.d) ht ha hdis hrc' hi'' rv fun s₂ hrc₂ hi₂ eL=>?_
  have hE₂:Ext σ s₁.heap σ₂ s₂.heap:=hE'.but eL.keep n2
  have hI₂:Itr (accS σ₂ D acc) s₂.heap it r':=hI'.keepX hitC (ExtX.loc eL) (eL.seq hrc')
  refine body A (cenvOf env scope L) s₂ ha hrc₂ hi₂ _ fun v pv σ₃ s₃ q₃ i₃ e₃ r₃=>?_
  refine bc fun hbc=>?_
  obtain ⟨eq0,its2,hit2,J2,hJ2,turn2,done2⟩:=q₃
  refine hbc ?_
  clear hbc
  subst eq0
  have hrc₃:=hrc₂.mono e₃
  have hI₃:=hI₂.keep hrc₂ e₃.toF
  refine inner_loop (K:=KxC K scope) ha hrc₃ i₃ hd hit2 r₃ J2 hJ2 turn2 fun acc' σ₆ s₆ q₆ h6 i₆ r₆ e₆=>?_
  have F:=(ExtX.of (L:=L) e₃).trans e₆
  exact ⟨rfl,r'.length,by simp,r',acc',σ₆,rfl,done2 _ _ q₆,h6,hI₃.keepX hitC e₆ (ExtX.seq hrc₃ e₆),r₆.sub (fun p hp=>List.mem_append_right _ hp),i₆,ExtX.acc hE₂ F n1 n2 hd h6⟩
theorem st_assign_comp2 {y:Str} {elt t1 i1 t2 i2:Expr} {ifs:List Expr} {scope:Scope} {pos py spos:Pos} {Q:Fl→Fm→Store→Prop} (caps:Fm) (ok:CompOk K ρ scope caps) (hy:K.names.lookup y=some .local)
  (h:EvP K ρ σ i1 (fun v σ₁=>∃ items,Items v items∧∃ J:List V→List V→Store→Prop,J items [] σ₁∧CompTurn2 (KxC K scope) caps t1 i2 t2 elt ifs J∧(∀ acc σ₂,J [] acc σ₂→∃ ρ',Upd ρ y (.val (.lst acc)) ρ'∧Q .next ρ' σ₂)))
  (hline:autoParam ((py.line == pos.line)=true) aR) (hnot:autoParam ((scope.names.any fun (n,k)=>n == y && (k == .local || k == .cell))=false) aK)
  (hs:autoParam (∀ env x,foldedSetIterable i1 env x=pure x) aI) (hs2:autoParam (∀ env x,foldedSetIterable i2 env x=pure x) aI):StP K ρ σ (.Assign [.Name y py] (.ListComp elt [⟨t1,i1,[],0⟩,⟨t2,i2,ifs,0⟩] scope pos) spos) Q:=fun A env s ha hr hi QM hq=>by
 have hsw:swapsWith (.ListComp elt [⟨t1,i1,[],0⟩,⟨t2,i2,ifs,0⟩] scope pos) (some (.Name y py)) spos.line env=pure true:=by
  have hk:env.kindOf y=some .local:=(congrArg (·.lookup y) hr.names).trans hy
  have hb:env.blockKind=.function:=by unfold Env.blockKind;rw [hr.kind];rfl
  have hl:(py.line == (Expr.ListComp elt [⟨t1,i1,[],0⟩,⟨t2,i2,ifs,0⟩] scope pos).pos.line)=true:=hline
  show (pure (env.blockKind == .function && env.kindOf y == some .local && py.line == (Expr.ListComp elt [⟨t1,i1,[],0⟩,⟨t2,i2,ifs,0⟩] scope pos).pos.line && !(scope.names.any fun (n,k)=>n == y && (k == .local || k == .cell))):Sem Bool)=_
  rw [hk,hb,hl,hnot];rfl
 rw [exec_Assign_Name_used _ _ _ _ hsw]
 refine wpAny_bind (wpAny_standAt (wpAny_bind ?_))
 show wpAny _ A (do let _ ← comprehension (.ListComp elt [⟨t1,i1,[],0⟩,⟨t2,i2,ifs,0⟩] scope pos) scope env _ (newList []) false (eval i1 env) (some (assign (.Name y py) env))) _ _ s
 have hclos:closureFor scope env=pure (closL env.cells scope.names []):=closureFor_ok scope fun x hx hf=>(ok.free x hx hf).cell hr
 refine wpAny_bind (wpAny_mono (wpAny_comprehension_free (g:=⟨t1,i1,[],0⟩) (gs:=[⟨t2,i2,ifs,0⟩]) (use:=some (assign (.Name y py) env)) (Q:=fun _ s'=>QM .next s') rfl (hs env) hclos ok.kind ok.names ?_) (fun _ s' hq=>wpAny_pure (wpAny_pure hq)) fun _ _ e=>e)
 refine h A env s ha hr hi _ fun v pv σ₁ s₁ h₁ i₁ e₁ r₁=>?_
 refine bc fun hbc=>?_
 obtain ⟨items,hit,J,hJ,turn,done⟩:=h₁
 refine hbc ?_
 clear hbc
 have hr₁:=hr.mono e₁
 refine comp_core2 caps ok ha hr₁ i₁ hit r₁ J hJ turn hs2 fun D L acc σ₂ s' hJ hd hi' hrc hE n2 hDC hDlo=>?_
 refine bc fun hbc=>?_
 obtain ⟨hi4,E4⟩:=hi'.drop hd (fun v e=>by cases e)
 obtain ⟨its,n,ho,hrs⟩:=(hi'.own D _ accS_self).2
 obtain ⟨its⟩:=its
 obtain ⟨ρ',hu,hQ⟩:=done acc σ₂ hJ
 refine hbc ?_
 clear hbc
 have hLs:σ₂ L=none:=by have:=hrc.locF.1;rwa [accS_ne (Ne.symm hDC)] at this
 have nL:env.locals≠L:=fun q=>by obtain ⟨m,o,_,_,e,_⟩:=hr₁.loc;rw [q,n2] at e;cases e
 have nc:∀ x c,env.cells.lookup x=some c→c≠L:=fun x c hc q=>hr₁.cellEx i₁ hc (q ▸ n2)
 refine bc fun hbc=>?_
 obtain ⟨m,hm⟩:=hrc.loc
 refine hbc ?_
 clear hbc
 show wpAny _ A (assign (.Name y py) env (.ref D)) _ _ _
 refine wpAny_assign_Name (store_local hy (hr₁.mono hE) hi4 (.lst ho hd (hi4.notTab hDlo) (hrs.mono E4.seq)) hu fun s₂ hr₂ hi₂ eL=>?_)
 have hm2:s₂.heap.Ns L m:=by
  refine bc fun hbc=>?_
  obtain ⟨o,es,ep,e,q⟩:=hm
  refine hbc ?_
  clear hbc
  exact ⟨o,es,ep,eL.keep L o (Ne.symm nL) e,q⟩
 refine ⟨m,hm2,fun h3 sb=>?_⟩
 have k2:=Poke.ofNs (σ:=σ₂) (env:=cenvOf env scope L) hm2 hLs hrc.locF.2.2 sb.extBut
 have E1:ExtF env σ₁ s₁.heap σ₂ s₂.heap:=⟨fun a o e hs ht hf=>eL.keep a o (fun q=>hf (.inl q)) (hE.keep a o e hs ht),fun a o e hs ht _=>hE.free a o e hs ht,hE.cell⟩
 exact hq .next .next ρ' σ₂ { s₂ with heap:=h3 } hQ trivial (hr₂.pokeNe k2 nL nc) (hi₂.poke (s':={ s₂ with heap:=h3 }) k2 rfl rfl) (e₁.toF.trans (E1.poke k2 n2))
end
section
variable {K:Kx} {ρ:Fm} {σ:Store} {d:Nat} {Q:V→Store→Prop}
theorem flat_le {α β:Type} (ys:α→List β) (pr:α→β→Bool) (el:α→β→V):∀ l:List α,(l.flatMap fun x=>((ys x).filter (pr x)).map (el x)).length≤(l.flatMap ys).length:=by
 intro l
 induction l with
 | nil=>exact Nat.le_refl _
 | cons a l ih=>
  rw [List.flatMap_cons,List.flatMap_cons,List.length_append,List.length_append,List.length_map]
  exact Nat.add_le_add (List.length_filter_le _ _) ih
theorem flat_lt {α β:Type} {xs a b:List α} {x:α} {c e:List β} {y:β} (ys:α→List β) (pr:α→β→Bool) (el:α→β→V) (h:a++x :: b=xs) (h2:c++y :: e=ys x):
  ((a.flatMap fun x=>((ys x).filter (pr x)).map (el x))++(c.filter (pr x)).map (el x)).length < (xs.flatMap ys).length:=by
 have h3:=flat_le ys pr el a
 have h4:=fm_len (pr x) (el x) c
 have h5:=jx_len h2
 rw [← h,List.flatMap_append,List.flatMap_cons,List.length_append,List.length_append,List.length_append]
 exact Nat.lt_of_lt_of_le (Nat.add_lt_add_of_le_of_lt h3 (Nat.lt_of_le_of_lt h4 h5)) (Nat.add_le_add_left (Nat.le_add_right _ _) _)
theorem pure2 {α β:Type} {caps:Fm} {t1 i2 t2 elt:Expr} {ifs:List Expr} (xs:List α) (f:α→V) (fr:α→Fm) (ys:α→List β) (g:β→V) (fr2:β→Fm) (pr:α→β→Bool) (el:α→β→V) (hlen:(xs.flatMap ys).length < 2 ^ 24)
  (h:∀ x∈xs,TgtP K t1 (f x) (fr x)∧(caps.all fun p=>(fr x).all fun q=>p.1 != q.1)=true∧(∀ D acc,σ D=none→EvP K (fr x++caps) (accS σ D acc) i2 (fun v σ'=>σ'=accS σ D acc∧Items v ((ys x).map g)))∧
   ∀ y∈ys x,TgtP K t2 (g y) (fr2 y)∧((fr x++caps).all fun p=>(fr2 y).all fun q=>p.1 != q.1)=true∧∀ D acc,σ D=none→IfsP K (fr2 y++(fr x++caps)) ifs (accS σ D acc) (fun ok σ₃=>σ₃=accS σ D acc∧ok=pr x y∧(pr x y=true→EvP K (fr2 y++(fr x++caps)) (accS σ D acc) elt (fun v σ₄=>v=el x y∧σ₄=accS σ D acc)))):
  ∃ J:List V→List V→Store→Prop,J (xs.map f) [] σ∧CompTurn2 K caps t1 i2 t2 elt ifs J∧∀ acc σ₂,J [] acc σ₂→acc=xs.flatMap (fun x=>((ys x).filter (pr x)).map (el x))∧σ₂=σ:=
 ⟨JX xs f (fun a=>a.flatMap fun x=>((ys x).filter (pr x)).map (el x)) σ,jx_0 rfl,jx_step fun a x b hab D hD=>
  ⟨fr x,(h x (jx_mem hab)).1,dis_ne (h x (jx_mem hab)).2.1,((h x (jx_mem hab)).2.2.1 D _ hD).mono fun v σ₃ q=>⟨q.1,_,q.2,JX (ys x) g (fun c=>(a.flatMap fun x=>((ys x).filter (pr x)).map (el x))++(c.filter (pr x)).map (el x)) σ,jx_0 (List.append_nil _),
   jx_step fun c y e hce D' hD'=>
    ⟨fr2 y,((h x (jx_mem hab)).2.2.2 y (jx_mem hce)).1,dis_ne ((h x (jx_mem hab)).2.2.2 y (jx_mem hce)).2.1,turnT (J:=fun acc' σ'=>JX (ys x) g (fun c=>(a.flatMap fun x=>((ys x).filter (pr x)).map (el x))++(c.filter (pr x)).map (el x)) σ (e.map g) acc' σ') (pr x y) (el x y) hD' (Nat.lt_trans (flat_lt ys pr el hab hce) hlen) (((h x (jx_mem hab)).2.2.2 y (jx_mem hce)).2.2 D' _ hD')
     (jx_next hce (by rw [fm_app,List.append_assoc]))⟩,
   fun acc' σ₆ hJ=>by obtain ⟨rfl,rfl⟩:=jx_end hJ;exact jx_next hab (by rw [List.flatMap_append,List.flatMap_cons,List.flatMap_nil,List.append_nil])⟩⟩,
  fun acc σ₂=>jx_end⟩
theorem st_assign_comp2P {α β:Type} {z:Str} {elt t1 i1 t2 i2:Expr} {ifs:List Expr} {scope:Scope} {pos py spos:Pos} {Q:Fl→Fm→Store→Prop} (caps:Fm) (ok:CompOk K ρ scope caps) (hy:K.names.lookup z=some .local) (f:α→V) (fr:α→Fm) (ys:α→List β) (g:β→V) (fr2:β→Fm) (pr:α→β→Bool) (el:α→β→V)
  (h:EvP K ρ σ i1 (fun v σ₁=>∃ xs:List α,Items v (xs.map f)∧(xs.flatMap ys).length < 2 ^ 24∧(∀ x∈xs,TgtP (KxC K scope) t1 (f x) (fr x)∧(caps.all fun p=>(fr x).all fun q=>p.1 != q.1)=true∧(∀ D acc,σ₁ D=none→EvP (KxC K scope) (fr x++caps) (accS σ₁ D acc) i2 (fun v σ'=>σ'=accS σ₁ D acc∧Items v ((ys x).map g)))∧
   ∀ y∈ys x,TgtP (KxC K scope) t2 (g y) (fr2 y)∧((fr x++caps).all fun p=>(fr2 y).all fun q=>p.1 != q.1)=true∧∀ D acc,σ₁ D=none→IfsP (KxC K scope) (fr2 y++(fr x++caps)) ifs (accS σ₁ D acc) (fun ok σ₃=>σ₃=accS σ₁ D acc∧ok=pr x y∧(pr x y=true→EvP (KxC K scope) (fr2 y++(fr x++caps)) (accS σ₁ D acc) elt (fun v σ₄=>v=el x y∧σ₄=accS σ₁ D acc))))∧(∃ ρ',Upd ρ z (.val (.lst (xs.flatMap fun x=>((ys x).filter (pr x)).map (el x)))) ρ'∧Q .next ρ' σ₁)))
  (hline:autoParam ((py.line == pos.line)=true) aR) (hnot:autoParam ((scope.names.any fun (n,k)=>n == z && (k == .local || k == .cell))=false) aK)
  (hs:autoParam (∀ env x,foldedSetIterable i1 env x=pure x) aI) (hs2:autoParam (∀ env x,foldedSetIterable i2 env x=pure x) aI):StP K ρ σ (.Assign [.Name z py] (.ListComp elt [⟨t1,i1,[],0⟩,⟨t2,i2,ifs,0⟩] scope pos) spos) Q:=by
 refine st_assign_comp2 caps ok hy (h.mono fun v σ₁ hh=>?_) hline hnot hs hs2
 refine bc fun hbc=>?_
 obtain ⟨xs,hit,hlen,he,hQ⟩:=hh
 obtain ⟨J,h0,ht,hd⟩:=pure2 xs f fr ys g fr2 pr el hlen he
 refine hbc ?_
 clear hbc
 exact ⟨_,hit,J,h0,ht,fun acc σ₂ hJ=>by obtain ⟨rfl,rfl⟩:=hd acc σ₂ hJ;exact hQ⟩
end
end Mine
end
section
open PySem PySem.W PyProof.Rows PySem.Calls
namespace Mine
theorem nfe_cell {M:Model} {A:Around} {E:Value→Shared→Prop} {s:Shared} {scope:Scope} {globals:Addr} {closure:List (Str×Addr)} {qual:Str} {func:Option Addr} {code:Value} {outer:Env} {builtins:Addr} {Q:Env→Shared→Prop} {x:Str}
  (hc:∀ n cl,cellsFrom n scope.names cl=(x,n) :: cl) (hp:∀ h,pushCells h scope.names=h.push { cls:=.type "cell", data:=.cell none })
  (hQ:Q (newEnv scope s.heap.objs.size globals ((x,s.heap.objs.size + 1) :: closure) qual func code (some outer) builtins) { s with heap:=(s.heap.push { cls:=.type "dict", data:=.dict #[] }).push { cls:=.type "cell", data:=.cell none } }):
  wpAny M A (newFunctionEnv scope globals closure [] qual func code (some outer) builtins) Q E s:=by
 simp only [newFunctionEnv,Option.isSome_some,if_true]
 refine wpAny_bind (wpAny_alloc ?_)
 refine wpAny_bind (wpAny_layCells _ (fun name kind cells=>by cases hkc:kind == NameKind.cell<;>simp [hkc]) _ _ _ _ ?_)
 rw [show ({ s with heap:=s.heap.push { cls:=.type "dict", data:=.dict #[] } }:Shared).heap.objs.size=s.heap.objs.size + 1 from Heap.size_push ..,hc,hp]
 exact wpAny_bind (wpAny_pure (wpAny_pure hQ))
section
variable {K:Kx} {ρ:Fm} {σ:Store} {d:Nat} {Q:V→Store→Prop}
theorem store_own {x:Str} {ρ':Fm} {v:Value} {pv:V} {A:Around} {env:Env} {s:Shared} {c:Addr} (hk:K.names.lookup x=some .cell) (hcl:env.cells.lookup x=some c) (hsc:σ c=none)
  (hr:Rep K env ρ σ s.heap) (hi:Inv σ s) (hv:Rel σ s.heap v pv) (hu:Upd ρ x (.val pv) ρ') {QM:Unit→Shared→Prop}
  (hq:∀ s',Rep K env ρ' σ s'.heap→Inv σ s'→ExtL c σ s.heap s'.heap→SeqKeep σ s.heap σ s'.heap→QM () s'):wpAny (model C.prog C.w) A (storeName env x v) QM Bot s:=by
 refine bc fun hbc=>?_
 obtain ⟨m,hm⟩:=hr.loc
 obtain ⟨h1,h2,h3,h4,h5⟩:=hr.cells x c hcl
 obtain ⟨v₀,hv₀⟩:=h4 hsc
 refine hbc ?_
 clear hbc
 refine wpAny_storeName_cell hr.kind ((congrArg (·.lookup x) hr.names).trans hk) hcl hv₀ (fun h' hn hs=>?_)
 have k:Poke σ c s.heap h':=⟨fun b o hb e=>(hs.2 b hb).trans e,fun o e=>⟨hsc,h2,by
  refine bc fun hbc=>?_
  obtain ⟨o',e',d⟩:=hv₀
  refine hbc ?_
  clear hbc
  have:=e.symm.trans e'
  obtain rfl:=Option.some.inj this
  exact ⟨fun q=>(by rcases q with ⟨_,_,q⟩ | ⟨_,_,q⟩<;>exact (datN (d.symm.trans q) rfl).elim),fun vs q=>(datN (d.symm.trans q) rfl).elim⟩⟩⟩
 have hns:∀ m,s.heap.Ns env.locals m→h'.Ns env.locals m:=fun m y=>nsTr y fun _ e=>(hs.2 _ h1).trans e
 have hce:∀ c' v,c'≠c→s.heap.IsCell c' v→h'.IsCell c' v:=fun c v hne y=>cellTr y fun _ e=>(hs.2 _ hne).trans e
 refine hq _ ⟨hr.kind,hr.names,hr.glob,hr.blt,hr.qual,hr.code,⟨_,hns m hm⟩,hr.locF,fun y c' hc'=>?_,hr.cinj,fun p hp=>?_⟩ (hi.poke k rfl rfl) ⟨k.keep⟩ k.seq
 ·refine bc fun hbc=>?_
  obtain ⟨g1,g2,g3,g4,g5⟩:=hr.cells y c' hc'
  refine hbc ?_
  clear hbc
  refine ⟨g1,g2,g3,fun e=>?_,g5⟩
  by_cases hcc:c'=c
  ·subst hcc;exact ⟨_,hn⟩
  ·obtain ⟨v,q⟩:=g4 e;exact ⟨v,hce _ _ hcc q⟩
 ·rcases hu p hp with rfl | ⟨hp,hne⟩
  ·exact .inr ⟨.inl hk,c,v,hcl,hn,hv.mono k.seq,hsc,h3⟩
  ·have hv':=hr.vars p hp
   refine bc fun hbc=>?_
   obtain ⟨y,sl⟩:=p
   refine hbc ?_
   clear hbc
   cases sl with
   | val pv'=>
    rcases hv' with ⟨h1,m₀,v',h2,h3,h4⟩ | ⟨h1,c',v',h2,h3,h4,h5,h6⟩
    ·exact .inl ⟨h1,m₀,v',hns m₀ h2,h3,h4.mono k.seq⟩
    ·exact .inr ⟨h1,c',v',h2,hce c' _ (fun q=>hne (hr.cinj y x c' h2 (q ▸ hcl))) h3,h4.mono k.seq,h5,h6⟩
   | sh c'=>exact hv'
   | emp=>obtain ⟨h1,c',h2,⟨v',h3⟩,h5,h6⟩:=hv';exact ⟨h1,c',h2,⟨v',hce c' _ (fun q=>hne (hr.cinj y x c' h2 (q ▸ hcl))) h3⟩,h5,h6⟩
theorem rep_cell {env:Env} {h:Heap} {x:Str} {c:Addr} (hr:Rep K env ρ σ h) (hk:K.names.lookup x=some .cell) (hc:h.IsCell c none) (hL:env.locals≠c) (lo:C.h1.objs.size≤c) (nt:c∉C.tabs) (hs:σ c=none)
  (hn:∀ y c',env.cells.lookup y=some c'→c'≠c) (hx:∀ p∈ρ,p.1≠x) (hz:env.cells.lookup x=none):Rep K { env with cells:=(x,c) :: env.cells } ((x,.emp) :: ρ) σ h:=by
 have l1:∀ y,y≠x→((x,c) :: env.cells).lookup y=env.cells.lookup y:=fun y hy=>by
  rw [List.lookup_cons,show (y == x)=false by simpa using hy]
 have l2:((x,c) :: env.cells).lookup x=some c:=by rw [List.lookup_cons,beq_self_eq_true]
 refine ⟨hr.kind,hr.names,hr.glob,hr.blt,hr.qual,hr.code,hr.loc,hr.locF,fun y c' hc'=>?_,fun y z c' hy hz'=>?_,fun p hp=>?_⟩
 ·by_cases hy:y=x
  ·subst hy
   obtain rfl:=Option.some.inj (l2.symm.trans hc')
   exact ⟨hL,lo,nt,fun _=>⟨_,hc⟩,fun o q=>(Option.some_ne_none _ (q.symm.trans hs)).elim⟩
  ·have h:=hr.cells y c' ((l1 y hy).symm.trans hc');exact ⟨h.1,h.2,h.3,h.4,h.5⟩
 ·by_cases h1:y=x<;>by_cases h2:z=x
  ·exact h1.trans h2.symm
  ·subst h1
   obtain rfl:=Option.some.inj (l2.symm.trans hy)
   exact absurd rfl (hn z _ ((l1 z h2).symm.trans hz'))
  ·subst h2
   obtain rfl:=Option.some.inj (l2.symm.trans hz')
   exact absurd rfl (hn y _ ((l1 y h1).symm.trans hy))
  ·exact hr.cinj y z c' ((l1 y h1).symm.trans hy) ((l1 z h2).symm.trans hz')
 ·rcases List.mem_cons.mp hp with rfl | hp
  ·exact ⟨hk,c,l2,⟨⟨none,rfl⟩,hc⟩,hs,nt⟩
  ·have hv:=hr.vars p hp
   have hne:=hx p hp
   refine bc fun hbc=>?_
   obtain ⟨y,sl⟩:=p
   refine hbc ?_
   clear hbc
   cases sl with
   | val pv=>
    rcases hv with ⟨h1,m,v,h2,h3,h4⟩ | ⟨h1,c',v,h2,h3,h4,h5,h6⟩
    ·exact .inl ⟨h1,m,v,h2,h3,h4⟩
    ·exact .inr ⟨h1,c',v,(l1 y hne).trans h2,h3,h4,h5,h6⟩
   | sh c'=>obtain ⟨h1,h2,h3⟩:=hv;exact ⟨h1,(l1 y hne).trans h2,h3⟩
   | emp=>obtain ⟨h1,c',h2,h3,h5,h6⟩:=hv;exact ⟨h1,c',(l1 y hne).trans h2,h3,h5,h6⟩
structure CompOkC (K:Kx) (ρ:Fm) (scope:Scope) (x:Str) (caps:Fm):Prop where
 kind:scope.kind=.function
 xk:scope.names.lookup x=some .cell
 names:∀ x∈scope.names,x.2=.local→scope.names.lookup x.1=some .local
 free:∀ x∈scope.names,x.2=.free→Freed K ρ x.1
 caps:∀ p∈caps,p∈ρ∧scope.names.lookup p.1=some .free∧p.2≠.emp
 nox:∀ y∈scope.names,y.2=.free→y.1≠x
 cf:∀ n cl,cellsFrom n scope.names cl=(x,n) :: cl
 pc:∀ h,pushCells h scope.names=h.push { cls:=.type "cell", data:=.cell none }
noncomputable def compBC (kn:List (Str×NameKind)) (rn:List Str) (scope:Scope) (x:Str) (cn:List Str):Bool:=
 (scope.kind == .function) && (scope.names.lookup x == some .cell) && scope.names.all (fun x=>x.2 != .local || scope.names.lookup x.1 == some .local) &&
 scope.names.all (fun y=>y.2 != .free || (rn.contains y.1 && kn.lookup y.1 != some .local && y.1 != x)) && cn.all (fun x=>scope.names.lookup x == some .free)
theorem compOkC {scope:Scope} {x:Str} {caps:Fm} (h:compBC K.names (ρ.map (·.1)) scope x (caps.map (·.1))=true) (hc:Has ρ caps) (he:caps.all (fun p=>p.2.full)=true)
  (cf:∀ n cl,cellsFrom n scope.names cl=(x,n) :: cl) (pc:∀ h,pushCells h scope.names=h.push { cls:=.type "cell", data:=.cell none }):CompOkC K ρ scope x caps:=by
 unfold compBC at h
 simp only [Bool.and_eq_true,List.all_eq_true,Bool.or_eq_true,bne_iff_ne,beq_iff_eq,List.contains_iff_mem] at h
 refine bc fun hbc=>?_
 obtain ⟨⟨⟨⟨h1,h2⟩,h3⟩,h4⟩,h5⟩:=h
 refine hbc ?_
 clear hbc
 refine ⟨h1,h2,fun x hx e=>?_,fun x hx e=>?_,fun p hp=>⟨hc p hp,h5 _ (List.mem_map_of_mem hp),fun e=>?_⟩,fun y hy e=>?_,cf,pc⟩
 ·rcases h3 x hx with h | h
  ·exact absurd e h
  ·exact h
 ·rcases h4 x hx with h | ⟨⟨h,h'⟩,_⟩
  ·exact absurd e h
  ·refine bc fun hbc=>?_
   obtain ⟨⟨y,sl⟩,hp,eq0⟩:=List.mem_map.mp h
   refine hbc ?_
   clear hbc
   subst eq0
   exact ⟨sl,hp,h'⟩
 ·have:=List.all_eq_true.mp he p hp
  rw [e] at this;exact absurd this (by decide)
 ·rcases h4 y hy with h | ⟨_,h⟩
  ·exact absurd e h
  ·exact h
noncomputable def CompTurnC (K:Kx) (x:Str) (caps:Fm) (elt:Expr) (ifs:List Expr) (J:List V→List V→Store→Prop):Prop:=
 ∀ y r acc σ₂ D,J (y :: r) acc σ₂→σ₂ D=none→
    IfsP K ((x,.val y) :: caps) ifs (accS σ₂ D acc) (fun ok σ₃=>if ok=true then EvP K ((x,.val y) :: caps) σ₃ elt (fun v σ₄=>acc.length < 2 ^ 24∧∃ σ₅,σ₄=accS σ₅ D acc∧σ₅ D=none∧J r (acc++[v]) σ₅)
     else ∃ σ₅,σ₃=accS σ₅ D acc∧σ₅ D=none∧J r acc σ₅)
noncomputable abbrev cenvX (env:Env) (scope:Scope) (L:Addr) (x:Str) (c:Addr):Env:={ cenvOf env scope L with cells:=(x,c) :: closL env.cells scope.names [] }
inductive CompJC (K:Kx) (env:Env) (x:Str) (c:Addr) (caps:Fm) (J:List V→List V→Store→Prop) (D it:Addr) (σ:Store) (h₁:Heap) (n:Nat) (s':Shared):Prop
 | mk (r acc:List V) (σ₂:Store) (sl:Slot) (e:n=r.length) (hJ:J r acc σ₂) (hd:σ₂ D=none) (hI:Itr (accS σ₂ D acc) s'.heap it r) (hsl:∀ c,sl≠.sh c) (hc:accS σ₂ D acc c=none) (hr:Rep K env ((x,sl) :: caps) (accS σ₂ D acc) s'.heap) (hi:Inv (accS σ₂ D acc) s') (E:Ext σ h₁ σ₂ s'.heap)
theorem comp_coreC {elt iter:Expr} {ifs:List Expr} {scope:Scope} {pos px:Pos} {x:Str} (caps:Fm) (ok:CompOkC K ρ scope x caps) {A:Around} {env:Env} {s₁:Shared} (ha:AOk K.d A) (hr₁:Rep K env ρ σ s₁.heap) (i₁:Inv σ s₁)
  {items:List V} {pv:V} {v:Value} (hit:Items pv items) (r₁:Rel σ s₁.heap v pv) (J:List V→List V→Store→Prop) (hJ:J items [] σ) (turn:CompTurnC (KxC K scope) x caps elt ifs J) {RR:Value→Addr→Result→Shared→Prop}
  (fin:∀ D L c acc σ₂ s',J [] acc σ₂→σ₂ D=none→Inv (accS σ₂ D acc) s'→Rep (KxC K scope) (cenvX env scope L x c) caps (accS σ₂ D acc) s'.heap→Ext σ s₁.heap σ₂ s'.heap→s₁.heap.get? L=none→D≠L→C.h1.objs.size≤D→RR (.ref D) L (.ok .next) s'):
  wpAny (model C.prog C.w) A (pyIter v) (fun it s₂=>wpAny (model C.prog C.w) A (newList []) (fun acc s₃=>wpAny (model C.prog C.w) A (newFunctionEnv scope env.globals (closL env.cells scope.names []) [] env.qual none .none (some env)) (fun cenv s₄=>
   codeAny (model C.prog C.w) A (.compStart (.ListComp elt [⟨.Name x px,iter,ifs,0⟩] scope pos) 0 it acc { cenv with scope:=relabel scope env }) (RR acc cenv.locals) s₄) Bot s₃) Bot s₂) Bot s₁:=by
 refine bc fun hbc=>?_
 obtain ⟨hk,hxk,hnames,hfree,hcaps,hnox,hcf,hpc⟩:=ok
 refine hbc ?_
 clear hbc
 have hxK:(KxC K scope).names.lookup x=some .cell:=by
  show (relN K scope.names).lookup x=_
  rw [relN_lookup_ne,hxk];rfl
 refine itr_iter hit r₁ i₁ ha fun it h₂ fr₂ g₂ hI=>?_
 have i₂:Inv σ { s₁ with heap:=h₂ }:=i₁.grow (s':={ s₁ with heap:=h₂ }) g₂ rfl rfl
 have hr₂:Rep K env ρ σ h₂:=hr₁.mono (Ext.grow g₂)
 refine wpAny_newObj_type (nfe_cell hcf hpc ?_)
 dsimp only
 generalize hH3:h₂.push { cls:=.type "list", dict:=none,data:=.seq ([]:List Value).toArray }=H3
 have hD:h₂.get? h₂.objs.size=none:=get?_ge (Nat.le_refl _)
 have hC:H3.objs.size=h₂.objs.size + 1:=by rw [← hH3,Heap.size_push]
 have hDC:h₂.objs.size≠H3.objs.size:=by rw [hC];exact Nat.ne_of_lt (Nat.lt_succ_self _)
 have hCn:h₂.get? H3.objs.size=none:=get?_ge (by rw [hC];exact Nat.le_succ _)
 have hcn:h₂.get? (H3.objs.size + 1)=none:=get?_ge (by rw [hC];exact Nat.le_succ_of_le (Nat.le_succ _))
 have hns:((H3.push { cls:=.type "dict", data:=.dict #[] }).push { cls:=.type "cell", data:=.cell none }).Ns H3.objs.size fun _=>none:=(Heap.Ns.new H3 (.type "dict")).keeps fun b o e=>Heap.get?_push_of_some _ e
 have hcell:((H3.push { cls:=.type "dict", data:=.dict #[] }).push { cls:=.type "cell", data:=.cell none }).IsCell (H3.objs.size + 1) none:=by
  rw [← Heap.size_push H3 { cls:=.type "dict", data:=.dict #[] }];exact ⟨_,Heap.get?_push_size _ rfl,rfl⟩
 have g₄:∀ b o,h₂.get? b=some o→((H3.push { cls:=.type "dict", data:=.dict #[] }).push { cls:=.type "cell", data:=.cell none }).get? b=some o:=fun b o e=>Heap.get?_push_of_some _ (Heap.get?_push_of_some _ (hH3 ▸ Heap.get?_push_of_some _ e))
 have hDo:((H3.push { cls:=.type "dict", data:=.dict #[] }).push { cls:=.type "cell", data:=.cell none }).get? h₂.objs.size=some (lstO #[] 0):=Heap.get?_push_of_some _ (Heap.get?_push_of_some _ (hH3 ▸ Heap.get?_push_size _ rfl))
 generalize (H3.push { cls:=.type "dict", data:=.dict #[] }).push { cls:=.type "cell", data:=.cell none }=h₄ at *
 refine bc fun hbc=>?_
 obtain ⟨i₄,E₄⟩:=i₂.new (s':={ s₁ with heap:=h₄ }) (p:=.list []) hD i₂.size g₄ ⟨#[],0,hDo,.nil⟩ rfl rfl
 refine hbc ?_
 clear hbc
 have hr₄:Rep K env ρ (accS σ h₂.objs.size []) h₄:=hr₂.mono E₄
 have hLs:σ H3.objs.size=none:=i₂.off hCn
 have hL:(accS σ h₂.objs.size []) H3.objs.size=none:=(upd_ne σ _ (Ne.symm hDC)).trans hLs
 have hlo:C.h1.objs.size≤H3.objs.size:=by rw [hC];exact Nat.le_trans i₂.size (Nat.le_succ _)
 have hcl:(accS σ h₂.objs.size []) (H3.objs.size + 1)=none:=(upd_ne σ _ (by rw [hC];lia)).trans (i₂.off hcn)
 have rc0:Rep (KxC K scope) (cenvOf env scope H3.objs.size) caps (accS σ h₂.objs.size []) h₄:=
  comp_rep hr₄ hk hfree hcaps hns hL hlo (i₂.notTab hlo) fun x c hc q=>hr₂.cellEx i₂ hc (q ▸ hCn)
 have look:∀ y c,(closL env.cells scope.names []).lookup y=some c→y≠x∧env.cells.lookup y=some c:=fun y c hc=>by
  rcases closL_mem (mem_of_lookup hc) with q | ⟨m,q⟩
  ·cases q
  ·refine bc fun hbc=>?_
   obtain ⟨c',hc'⟩:=(hfree _ m rfl).cell hr₂
   refine hbc ?_
   clear hbc
   rw [hc'] at q ⊢;exact ⟨hnox _ m rfl,congrArg some q.symm⟩
 have rc:Rep (KxC K scope) (cenvX env scope H3.objs.size x (H3.objs.size + 1)) ((x,.emp) :: caps) (accS σ h₂.objs.size []) h₄:=
  rep_cell rc0 hxK hcell (Nat.ne_of_lt (Nat.lt_succ_self _)) (Nat.le_succ_of_le hlo) (i₂.notTab (Nat.le_succ_of_le hlo)) hcl (fun y c' hc' q=>hr₂.cellEx i₂ (look y c' hc').2 (q ▸ hcn))
   (fun p hp e=>by have:=(hcaps p hp).2.1;rw [e,hxk] at this;cases this) (by
    show (closL env.cells scope.names []).lookup x=none
    cases q:(closL env.cells scope.names []).lookup x with
    | none=>rfl
    | some c=>exact absurd rfl (look x c q).1)
 have hitD:it≠h₂.objs.size:=fun q=>by obtain ⟨o,_,e,_⟩:=hI.st.obj;rw [q,hD] at e;cases e
 have hitC:it≠H3.objs.size:=fun q=>by obtain ⟨o,_,e,_⟩:=hI.st.obj;rw [q,hCn] at e;cases e
 have hitc:it≠H3.objs.size + 1:=fun q=>by obtain ⟨o,_,e,_⟩:=hI.st.obj;rw [q,hcn] at e;cases e
 have hI₄:Itr (accS σ h₂.objs.size []) h₄ it items:=⟨hI.st.mono (fun o e=>g₄ it o e) E₄.seq,(upd_ne σ _ hitD).trans hI.un,hI.lo,hI.nt⟩
 have nn:∀ a,h₂.get? a=none→s₁.heap.get? a=none:=fun a ha=>by
  cases q:s₁.heap.get? a with
  | none=>rfl
  | some o=>have:=g₂ a o q;rw [ha] at this;cases this
 have n1:=nn _ hD
 have n2:=nn _ hCn
 have n3:=nn _ hcn
 have d0:σ h₂.objs.size=none:=i₂.off hD
 have hDlo:C.h1.objs.size≤h₂.objs.size:=i₂.size
 have E₁₄:Ext σ s₁.heap σ h₄:=Ext.grow fun b o e=>g₄ b o (g₂ b o e)
 have hDc:h₂.objs.size≠H3.objs.size + 1:=by rw [hC];lia
 clear hr₄ rc0 hns hcell hDo E₄ hLs hL hlo hD hCn hcn hC
 revert i₄ rc hI₄ d0 E₁₄ hDlo hitD hitC hitc n1 n2 n3 hDC hcl hDc
 generalize H3.objs.size + 1=c
 generalize h₂.objs.size=D
 generalize H3.objs.size=L
 intro hDC i₄ hcl rc hitD hitC hitc hI₄ n1 n2 n3 d0 hDlo E₁₄ hDc
 have loop:codeAny (model C.prog C.w) A (.compLoop (.ListComp elt [⟨.Name x px,iter,ifs,0⟩] scope pos) 0 (.ref it) (.ref D) (cenvX env scope L x c))
   (RR (.ref D) L) { s₁ with heap:=h₄ }:=by
  refine compLoop_any (CompJC (KxC K scope) (cenvX env scope L x c) x c caps J D it σ s₁.heap) ?_ items.length ⟨items,[],σ,.emp,rfl,hJ,d0,hI₄,(by intro c e;cases e),hcl,rc,i₄,E₁₄⟩
  intro n s' hJ2
  refine bc fun hbc=>?_
  obtain ⟨r,acc,σ₂,sl,eq0,hJ,hd,hI,hsl,hcl,hrc,hi',hE⟩:=hJ2
  refine hbc ?_
  clear hbc
  subst eq0
  refine itr_next hI ha (fun e h'' k=>?_) (fun y r' e v h'' tk k rv hI'=>?_)
  ·subst e
   have nd:=hI.nd
   exact fin D L c acc σ₂ { s' with heap:=h'' } hJ hd (hi'.poke (s':={ s' with heap:=h'' }) k rfl rfl) ((hrc.poke k nd).sub fun p hp=>List.mem_cons_of_mem _ hp) (hE.but k.keep fr₂) n2 hDC hDlo
  ·subst e
   have nd:=hI.nd
   have hrc':=hrc.poke k nd
   have hi'':=hi'.poke (s':={ s' with heap:=h'',toks:=tk }) k rfl rfl
   have hE':=hE.but k.keep fr₂
   have body:=turn y r' acc σ₂ D hJ hd
   refine own_go (s:={ s' with heap:=h'',toks:=tk }) hI'.st ?_
   have hxc:(cenvX env scope L x c).cells.lookup x=some c:=by show ((x,c) :: _).lookup x=_;rw [List.lookup_cons,beq_self_eq_true]
   refine wpAny_assign_Name (store_own (ρ':=(x,.val y) :: caps) (s:={ s' with heap:=h'',toks:=tk }) hxK hxc hcl hrc' hi'' rv (fun p hp=>?_) fun s₂ hrc₂ hi₂ eL eS=>?_)
   ·rcases List.mem_cons.mp hp with rfl | hp
    ·exact .inl rfl
    ·exact .inr ⟨List.mem_cons_of_mem _ hp,fun e=>by have:=(hcaps p hp).2.1;rw [e,hxk] at this;cases this⟩
   have hE₂:Ext σ s₁.heap σ₂ s₂.heap:=hE'.but eL.keep n3
   have hI₂:Itr (accS σ₂ D acc) s₂.heap it r':=⟨hI'.st.mono (fun o e=>eL.keep it o hitc e) eS,hI'.un,hI'.lo,hI'.nt⟩
   have keepc:∀ {τ:Store} {h:Heap},Rep (KxC K scope) (cenvX env scope L x c) ((x,.val y) :: caps) τ h→τ c=none:=fun {τ h} hr=>by
    rcases hr.vars _ List.mem_cons_self with ⟨h1,_⟩ | ⟨_,c',_,h2,_,_,h5,_⟩
    ·have:=Option.some.inj (hxK.symm.trans h1);cases this
    ·obtain rfl:=Option.some.inj (hxc.symm.trans h2);exact h5
   refine ifs_ (K:=KxC K scope) ha body hrc₂ hi₂ fun ok σ₃ s₃ q₃ i₃ e₃=>?_
   cases ok with
   | false=>
    refine bc fun hbc=>?_
    obtain ⟨σ₅,eq0,h5,hJ'⟩:=q₃
    refine hbc ?_
    clear hbc
    subst eq0
    have hr₃:=hrc₂.mono e₃
    exact ⟨r'.length,by simp,r',acc,σ₅,.val y,rfl,hJ',h5,hI₂.keep hrc₂ e₃.toF,(by intro c e;cases e),keepc hr₃,hr₃,i₃,accExt hE₂ e₃ n1 hd h5⟩
   | true=>
    refine q₃ A (cenvX env scope L x c) s₃ ha (hrc₂.mono e₃) i₃ _ fun v pv σ₄ s₄ q₄ i₄ e₄ r₄=>?_
    refine bc fun hbc=>?_
    obtain ⟨hlen,σ₅,eq0,h5,hJ'⟩:=q₄
    refine hbc ?_
    clear hbc
    subst eq0
    refine bi_append (d:=K.d) (Q:=fun v σ'=>σ'=accS σ₅ D (acc++[pv])) accS_self hlen accS_accS A s₄ _ _ ha i₄ (.raw _) (.cons (.loc D) (.cons r₄ .nil)) _ fun v' pv' σ₆ s₆ q₆ i₆ e₆ r₆=>?_
    subst q₆
    have EE:=(e₃.trans e₄).trans e₆
    have hr₆:=hrc₂.mono EE
    exact ⟨r'.length,by simp,r',acc++[pv],σ₅,.val y,rfl,hJ',h5,hI₂.keep hrc₂ EE.toF,(by intro c e;cases e),keepc hr₆,hr₆,i₆,accExt hE₂ EE n1 hd h5⟩
 exact codeAny_compStart_list loop (itr_self (s:={ s₁ with heap:=h₄ }) hI₄.st loop)
theorem ev_compC {elt iter:Expr} {ifs:List Expr} {scope:Scope} {pos px:Pos} {x:Str} (caps:Fm) (ok:CompOkC K ρ scope x caps)
  (h:EvP K ρ σ iter (fun v σ₁=>∃ items,Items v items∧∃ J:List V→List V→Store→Prop,J items [] σ₁∧CompTurnC (KxC K scope) x caps elt ifs J∧(∀ acc σ₂,J [] acc σ₂→Q (.lst acc) σ₂)))
  (hs:autoParam (∀ env x,foldedSetIterable iter env x=pure x) aI):EvP K ρ σ (.ListComp elt [⟨.Name x px,iter,ifs,0⟩] scope pos) Q:=fun A env s ha hr hi QM hq=>by
 rw [eval_ListComp]
 have hclos:closureFor scope env=pure (closL env.cells scope.names []):=closureFor_ok scope fun x hx hf=>(ok.free x hx hf).cell hr
 refine wpAny_comprehension_free (use:=none) (g:=⟨.Name x px,iter,ifs,0⟩) (gs:=[]) rfl (hs env) hclos ok.kind ok.names ?_
 refine h A env s ha hr hi _ fun v pv σ₁ s₁ h₁ i₁ e₁ r₁=>?_
 refine bc fun hbc=>?_
 obtain ⟨items,hit,J,hJ,turn,done⟩:=h₁
 refine hbc ?_
 clear hbc
 refine comp_coreC caps ok ha (hr.mono e₁) i₁ hit r₁ J hJ turn fun D L c acc σ₂ s' hJ hd hi' hrc hE n2 hDC hDlo=>?_
 refine bc fun hbc=>?_
 obtain ⟨m,hm⟩:=hrc.loc
 refine hbc ?_
 clear hbc
 refine ⟨m,hm,fun h3 sb=>?_⟩
 have k2:=Poke.ofNs (env:=cenvX env scope L x c) hm hrc.locF.1 hrc.locF.2.2 sb.extBut
 have hi3:=hi'.poke (s':={ s' with heap:=h3 }) k2 rfl rfl
 refine bc fun hbc=>?_
 obtain ⟨hi4,E4⟩:=hi3.drop hd (fun v e=>by cases e)
 obtain ⟨its,n,ho,hrs⟩:=(hi3.own D _ accS_self).2
 obtain ⟨its⟩:=its
 refine hbc ?_
 clear hbc
 exact hq _ _ σ₂ _ (done acc σ₂ hJ) hi4 (e₁.trans (hE.but k2.keep n2)) (.lst ho hd (hi4.notTab hDlo) (hrs.mono E4.seq))
theorem st_assign_compC {y:Str} {elt iter:Expr} {ifs:List Expr} {scope:Scope} {pos py px spos:Pos} {x:Str} {Q:Fl→Fm→Store→Prop} (caps:Fm) (ok:CompOkC K ρ scope x caps) (hy:K.names.lookup y=some .local)
  (h:EvP K ρ σ iter (fun v σ₁=>∃ items,Items v items∧∃ J:List V→List V→Store→Prop,J items [] σ₁∧CompTurnC (KxC K scope) x caps elt ifs J∧(∀ acc σ₂,J [] acc σ₂→∃ ρ',Upd ρ y (.val (.lst acc)) ρ'∧Q .next ρ' σ₂)))
  (hline:autoParam ((py.line == pos.line)=true) aR) (hnot:autoParam ((scope.names.any fun (n,k)=>n == y && (k == .local || k == .cell))=false) aK)
  (hs:autoParam (∀ env x,foldedSetIterable iter env x=pure x) aI):StP K ρ σ (.Assign [.Name y py] (.ListComp elt [⟨.Name x px,iter,ifs,0⟩] scope pos) spos) Q:=fun A env s ha hr hi QM hq=>by
 have hsw:swapsWith (.ListComp elt [⟨.Name x px,iter,ifs,0⟩] scope pos) (some (.Name y py)) spos.line env=pure true:=by
  have hk:env.kindOf y=some .local:=(congrArg (·.lookup y) hr.names).trans hy
  have hb:env.blockKind=.function:=by unfold Env.blockKind;rw [hr.kind];rfl
  have hl:(py.line == (Expr.ListComp elt [⟨.Name x px,iter,ifs,0⟩] scope pos).pos.line)=true:=hline
  show (pure (env.blockKind == .function && env.kindOf y == some .local && py.line == (Expr.ListComp elt [⟨.Name x px,iter,ifs,0⟩] scope pos).pos.line && !(scope.names.any fun (n,k)=>n == y && (k == .local || k == .cell))):Sem Bool)=_
  rw [hk,hb,hl,hnot];rfl
 rw [exec_Assign_Name_used _ _ _ _ hsw]
 refine wpAny_bind (wpAny_standAt (wpAny_bind ?_))
 show wpAny _ A (do let _ ← comprehension (.ListComp elt [⟨.Name x px,iter,ifs,0⟩] scope pos) scope env _ (newList []) false (eval iter env) (some (assign (.Name y py) env))) _ _ s
 have hclos:closureFor scope env=pure (closL env.cells scope.names []):=closureFor_ok scope fun x hx hf=>(ok.free x hx hf).cell hr
 refine wpAny_bind (wpAny_mono (wpAny_comprehension_free (g:=⟨.Name x px,iter,ifs,0⟩) (gs:=[]) (use:=some (assign (.Name y py) env)) (Q:=fun _ s'=>QM .next s') rfl (hs env) hclos ok.kind ok.names ?_) (fun _ s' hq=>wpAny_pure (wpAny_pure hq)) fun _ _ e=>e)
 refine h A env s ha hr hi _ fun v pv σ₁ s₁ h₁ i₁ e₁ r₁=>?_
 refine bc fun hbc=>?_
 obtain ⟨items,hit,J,hJ,turn,done⟩:=h₁
 refine hbc ?_
 clear hbc
 have hr₁:=hr.mono e₁
 refine comp_coreC caps ok ha hr₁ i₁ hit r₁ J hJ turn fun D L c acc σ₂ s' hJ hd hi' hrc hE n2 hDC hDlo=>?_
 refine bc fun hbc=>?_
 obtain ⟨hi4,E4⟩:=hi'.drop hd (fun v e=>by cases e)
 obtain ⟨its,n,ho,hrs⟩:=(hi'.own D _ accS_self).2
 obtain ⟨its⟩:=its
 obtain ⟨ρ',hu,hQ⟩:=done acc σ₂ hJ
 refine hbc ?_
 clear hbc
 have hLs:σ₂ L=none:=by have:=hrc.locF.1;rwa [accS_ne (Ne.symm hDC)] at this
 have nL:env.locals≠L:=fun q=>by obtain ⟨m,o,_,_,e,_⟩:=hr₁.loc;rw [q,n2] at e;cases e
 have nc:∀ x c,env.cells.lookup x=some c→c≠L:=fun x c hc q=>hr₁.cellEx i₁ hc (q ▸ n2)
 refine bc fun hbc=>?_
 obtain ⟨m,hm⟩:=hrc.loc
 refine hbc ?_
 clear hbc
 show wpAny _ A (assign (.Name y py) env (.ref D)) _ _ _
 refine wpAny_assign_Name (store_local hy (hr₁.mono hE) hi4 (.lst ho hd (hi4.notTab hDlo) (hrs.mono E4.seq)) hu fun s₂ hr₂ hi₂ eL=>?_)
 have hm2:s₂.heap.Ns L m:=by
  refine bc fun hbc=>?_
  obtain ⟨o,es,ep,e,q⟩:=hm
  refine hbc ?_
  clear hbc
  exact ⟨o,es,ep,eL.keep L o (Ne.symm nL) e,q⟩
 refine ⟨m,hm2,fun h3 sb=>?_⟩
 have k2:=Poke.ofNs (σ:=σ₂) (env:=cenvX env scope L x c) hm2 hLs hrc.locF.2.2 sb.extBut
 have E1:ExtF env σ₁ s₁.heap σ₂ s₂.heap:=⟨fun a o e hs ht hf=>eL.keep a o (fun q=>hf (.inl q)) (hE.keep a o e hs ht),fun a o e hs ht _=>hE.free a o e hs ht,hE.cell⟩
 exact hq .next .next ρ' σ₂ { s₂ with heap:=h3 } hQ trivial (hr₂.pokeNe k2 nL nc) (hi₂.poke (s':={ s₂ with heap:=h3 }) k2 rfl rfl) (e₁.toF.trans (E1.poke k2 n2))
theorem pureC {α:Type} {caps:Fm} {x:Str} {elt:Expr} {ifs:List Expr} (xs:List α) (f:α→V) (pr:α→Bool) (g:α→V) (hlen:xs.length < 2 ^ 24)
  (he:∀ y∈xs,∀ D acc,σ D=none→IfsP K ((x,.val (f y)) :: caps) ifs (accS σ D acc) (fun ok σ₃=>σ₃=accS σ D acc∧ok=pr y∧(pr y=true→EvP K ((x,.val (f y)) :: caps) (accS σ D acc) elt (fun v σ₄=>v=g y∧σ₄=accS σ D acc)))):
  ∃ J:List V→List V→Store→Prop,J (xs.map f) [] σ∧CompTurnC K x caps elt ifs J∧∀ acc σ₂,J [] acc σ₂→acc=(xs.filter pr).map g∧σ₂=σ:=
 ⟨JX xs f (fun a=>(a.filter pr).map g) σ,jx_0 rfl,jx_step fun a y b hab D hD=>turnT (J:=fun acc' σ'=>JX xs f (fun a=>(a.filter pr).map g) σ (b.map f) acc' σ') (pr y) (g y) hD (Nat.lt_of_le_of_lt (fm_len pr g a) (Nat.lt_trans (jx_len hab) hlen)) (he y (jx_mem hab) D _ hD) (jx_next hab (fm_app pr g a y)),
  fun acc σ₂=>jx_end⟩
theorem ev_compCP {α:Type} {elt iter:Expr} {ifs:List Expr} {scope:Scope} {pos px:Pos} {x:Str} (caps:Fm) (ok:CompOkC K ρ scope x caps) (f:α→V) (pr:α→Bool) (g:α→V)
  (h:EvP K ρ σ iter (fun v σ₁=>∃ xs:List α,Items v (xs.map f)∧xs.length < 2 ^ 24∧(∀ y∈xs,∀ D acc,σ₁ D=none→IfsP (KxC K scope) ((x,.val (f y)) :: caps) ifs (accS σ₁ D acc)
   (fun ok σ₃=>σ₃=accS σ₁ D acc∧ok=pr y∧(pr y=true→EvP (KxC K scope) ((x,.val (f y)) :: caps) (accS σ₁ D acc) elt (fun v σ₄=>v=g y∧σ₄=accS σ₁ D acc))))∧Q (.lst ((xs.filter pr).map g)) σ₁))
  (hs:autoParam (∀ env x,foldedSetIterable iter env x=pure x) aI):EvP K ρ σ (.ListComp elt [⟨.Name x px,iter,ifs,0⟩] scope pos) Q:=by
 refine ev_compC caps ok (h.mono fun v σ₁ hh=>?_) hs
 refine bc fun hbc=>?_
 obtain ⟨xs,hit,hlen,he,hQ⟩:=hh
 obtain ⟨J,h0,ht,hd⟩:=pureC xs f pr g hlen he
 refine hbc ?_
 clear hbc
 exact ⟨_,hit,J,h0,ht,fun acc σ₂ hJ=>by obtain ⟨rfl,rfl⟩:=hd acc σ₂ hJ;exact hQ⟩
theorem st_assign_compCP {α:Type} {z:Str} {elt iter:Expr} {ifs:List Expr} {scope:Scope} {pos px py spos:Pos} {x:Str} {Q:Fl→Fm→Store→Prop} (caps:Fm) (ok:CompOkC K ρ scope x caps) (hy:K.names.lookup z=some .local) (f:α→V) (pr:α→Bool) (g:α→V)
  (h:EvP K ρ σ iter (fun v σ₁=>∃ xs:List α,Items v (xs.map f)∧xs.length < 2 ^ 24∧(∀ y∈xs,∀ D acc,σ₁ D=none→IfsP (KxC K scope) ((x,.val (f y)) :: caps) ifs (accS σ₁ D acc)
   (fun ok σ₃=>σ₃=accS σ₁ D acc∧ok=pr y∧(pr y=true→EvP (KxC K scope) ((x,.val (f y)) :: caps) (accS σ₁ D acc) elt (fun v σ₄=>v=g y∧σ₄=accS σ₁ D acc))))∧(∃ ρ',Upd ρ z (.val (.lst ((xs.filter pr).map g))) ρ'∧Q .next ρ' σ₁)))
  (hline:autoParam ((py.line == pos.line)=true) aR) (hnot:autoParam ((scope.names.any fun (n,k)=>n == z && (k == .local || k == .cell))=false) aK)
  (hs:autoParam (∀ env x,foldedSetIterable iter env x=pure x) aI):StP K ρ σ (.Assign [.Name z py] (.ListComp elt [⟨.Name x px,iter,ifs,0⟩] scope pos) spos) Q:=by
 refine st_assign_compC caps ok hy (h.mono fun v σ₁ hh=>?_) hline hnot hs
 refine bc fun hbc=>?_
 obtain ⟨xs,hit,hlen,he,hQ⟩:=hh
 obtain ⟨J,h0,ht,hd⟩:=pureC xs f pr g hlen he
 refine hbc ?_
 clear hbc
 exact ⟨_,hit,J,h0,ht,fun acc σ₂ hJ=>by obtain ⟨rfl,rfl⟩:=hd acc σ₂ hJ;exact hQ⟩
end
end Mine
end
section
open PySem PySem.W PyProof.Rows PySem.Calls
namespace Mine

noncomputable abbrev A_in_table_b1:Addr:=32
noncomputable abbrev cd_in_table_b1:Value:=.ref 31
noncomputable def F_in_table_b1:FnRec:=⟨"in_table_b1", "in_table_b1", sParams (stm 2),.stmts (sBody (stm 2)),sScope (stm 2)⟩

noncomputable abbrev A_map_table_b3:Addr:=78
noncomputable abbrev cd_map_table_b3:Value:=.ref 77
noncomputable def F_map_table_b3:FnRec:=⟨"map_table_b3", "map_table_b3", sParams (stm 4),.stmts (sBody (stm 4)),sScope (stm 4)⟩

noncomputable abbrev A__div2n1n:Addr:=85
noncomputable abbrev cd__div2n1n:Value:=.ref 84
noncomputable def F__div2n1n:FnRec:=⟨"_div2n1n", "_div2n1n", sParams (stm 7),.stmts (sBody (stm 7)),sScope (stm 7)⟩

noncomputable abbrev A__div3n2n:Addr:=92
noncomputable abbrev cd__div3n2n:Value:=.ref 91
noncomputable def F__div3n2n:FnRec:=⟨"_div3n2n", "_div3n2n", sParams (stm 8),.stmts (sBody (stm 8)),sScope (stm 8)⟩

noncomputable abbrev ix__int2digits:Nat:=9
noncomputable abbrev A__int2digits:Addr:=99
noncomputable abbrev cd__int2digits:Value:=.ref 98
noncomputable def F__int2digits:FnRec:=⟨"_int2digits", "_int2digits", sParams (stm 9),.stmts (sBody (stm 9)),sScope (stm 9)⟩

noncomputable abbrev ix__digits2int:Nat:=10
noncomputable abbrev A__digits2int:Addr:=106
noncomputable abbrev cd__digits2int:Value:=.ref 105
noncomputable def F__digits2int:FnRec:=⟨"_digits2int", "_digits2int", sParams (stm 10),.stmts (sBody (stm 10)),sScope (stm 10)⟩

noncomputable abbrev A__divmod_pos:Addr:=113
noncomputable abbrev cd__divmod_pos:Value:=.ref 112
noncomputable def F__divmod_pos:FnRec:=⟨"_divmod_pos", "_divmod_pos", sParams (stm 11),.stmts (sBody (stm 11)),sScope (stm 11)⟩

noncomputable abbrev A_int_divmod:Addr:=120
noncomputable abbrev cd_int_divmod:Value:=.ref 119
noncomputable def F_int_divmod:FnRec:=⟨"int_divmod", "int_divmod", sParams (stm 12),.stmts (sBody (stm 12)),sScope (stm 12)⟩

noncomputable abbrev A_m___init__:Addr:=134
noncomputable abbrev cd_m___init__:Value:=.ref 133
noncomputable def F_m___init__:FnRec:=⟨"__init__", "_netrclex.__init__", sParams (sMeth 14 0),.stmts (sBody (sMeth 14 0)),sScope (sMeth 14 0)⟩

noncomputable abbrev A_m__read_char:Addr:=141
noncomputable abbrev cd_m__read_char:Value:=.ref 140
noncomputable def F_m__read_char:FnRec:=⟨"_read_char", "_netrclex._read_char", sParams (sMeth 14 1),.stmts (sBody (sMeth 14 1)),sScope (sMeth 14 1)⟩

noncomputable abbrev A_m_get_token:Addr:=148
noncomputable abbrev cd_m_get_token:Value:=.ref 147
noncomputable def F_m_get_token:FnRec:=⟨"get_token", "_netrclex.get_token", sParams (sMeth 14 2),.stmts (sBody (sMeth 14 2)),sScope (sMeth 14 2)⟩

noncomputable abbrev A_m_push_token:Addr:=155
noncomputable abbrev cd_m_push_token:Value:=.ref 154
noncomputable def F_m_push_token:FnRec:=⟨"push_token", "_netrclex.push_token", sParams (sMeth 14 3),.stmts (sBody (sMeth 14 3)),sScope (sMeth 14 3)⟩

noncomputable abbrev A__law_grown:Addr:=167
noncomputable abbrev cd__law_grown:Value:=.ref 166
noncomputable def F__law_grown:FnRec:=⟨"_law_grown", "_law_grown", sParams (stm 16),.stmts (sBody (stm 16)),sScope (stm 16)⟩

noncomputable abbrev A__law_turned:Addr:=174
noncomputable abbrev cd__law_turned:Value:=.ref 173
noncomputable def F__law_turned:FnRec:=⟨"_law_turned", "_law_turned", sParams (stm 17),.stmts (sBody (stm 17)),sScope (stm 17)⟩

noncomputable abbrev A__law_ring:Addr:=179
noncomputable abbrev cd__law_ring:Value:=.ref 178
noncomputable def F__law_ring:FnRec:=⟨"_law_ring", "_law_ring", sParams (stm 18),.stmts (sBody (stm 18)),sScope (stm 18)⟩

noncomputable abbrev A__law_file:Addr:=184
noncomputable abbrev cd__law_file:Value:=.ref 183
noncomputable def F__law_file:FnRec:=⟨"_law_file", "_law_file", sParams (stm 19),.stmts (sBody (stm 19)),sScope (stm 19)⟩

noncomputable abbrev A__law_lexer:Addr:=191
noncomputable abbrev cd__law_lexer:Value:=.ref 190
noncomputable def F__law_lexer:FnRec:=⟨"_law_lexer", "_law_lexer", sParams (stm 20),.stmts (sBody (stm 20)),sScope (stm 20)⟩

noncomputable abbrev A__law_figures:Addr:=196
noncomputable abbrev cd__law_figures:Value:=.ref 195
noncomputable def F__law_figures:FnRec:=⟨"_law_figures", "_law_figures", sParams (stm 21),.stmts (sBody (stm 21)),sScope (stm 21)⟩

noncomputable abbrev A__law_number:Addr:=201
noncomputable abbrev cd__law_number:Value:=.ref 200
noncomputable def F__law_number:FnRec:=⟨"_law_number", "_law_number", sParams (stm 22),.stmts (sBody (stm 22)),sScope (stm 22)⟩

noncomputable abbrev A__law_divided:Addr:=208
noncomputable abbrev cd__law_divided:Value:=.ref 207
noncomputable def F__law_divided:FnRec:=⟨"_law_divided", "_law_divided", sParams (stm 23),.stmts (sBody (stm 23)),sScope (stm 23)⟩

noncomputable abbrev A__law_laps:Addr:=213
noncomputable abbrev cd__law_laps:Value:=.ref 212
noncomputable def F__law_laps:FnRec:=⟨"_law_laps", "_law_laps", sParams (stm 24),.stmts (sBody (stm 24)),sScope (stm 24)⟩

noncomputable abbrev A__law_pairs:Addr:=218
noncomputable abbrev cd__law_pairs:Value:=.ref 217
noncomputable def F__law_pairs:FnRec:=⟨"_law_pairs", "_law_pairs", sParams (stm 25),.stmts (sBody (stm 25)),sScope (stm 25)⟩

noncomputable abbrev A__law_down:Addr:=223
noncomputable abbrev cd__law_down:Value:=.ref 222
noncomputable def F__law_down:FnRec:=⟨"_law_down", "_law_down", sParams (stm 26),.stmts (sBody (stm 26)),sScope (stm 26)⟩

noncomputable abbrev A_law:Addr:=228
noncomputable abbrev cd_law:Value:=.ref 227
noncomputable def F_law:FnRec:=⟨"law", "law", sParams (stm 27),.stmts (sBody (stm 27)),sScope (stm 27)⟩

theorem mem_of_lookup'' {β:Type} {x:Addr} {v:β}:∀ {l:List (Addr×β)},l.lookup x=some v→(x,v)∈l
 | (y,w) :: r,h=>by
  rw [List.lookup_cons] at h
  by_cases hxy:x=y
  ·subst hxy;rw [beq_self_eq_true] at h;cases h;exact List.mem_cons_self
  ·rw [show (x == y)=false by simpa using hxy] at h;exact List.mem_cons_of_mem _ (mem_of_lookup'' h)
theorem B.tabs:C.tabs=tabL:=by unfold Ctx.tabs;rw [B.nest];rfl
theorem B.nt {a:Addr} (h:autoParam ((tabL.contains a)=false) aR):a∉C.tabs:=fun q=>by
 rw [B.tabs] at q
 have:=List.contains_iff_mem.mpr q
 rw [h] at this;cases this
theorem B.at {a:Addr} {o:Obj} (h:(endHeap C.w.params).get? a=some o):C.h1.get? a=some o:=by rw [B.h1];exact h
theorem ns_ok:∀ P:Params,((endHeap P).isNs mainGlobals,(endHeap P).isNs builtinsNs,(endHeap P).isNs cStatics,(endHeap P).nsMap cStatics "sys.recursionlimit")=(true,true,true,none):=by intro P;kernel_rfl
theorem B.ok2:C.Ok2:=by
 have e:=ns_ok C.w.params
 have e1:=(Prod.mk.inj e).1
 have e2:=(Prod.mk.inj (Prod.mk.inj e).2).1
 have e3:=(Prod.mk.inj (Prod.mk.inj (Prod.mk.inj e).2).2).1
 have e4:=(Prod.mk.inj (Prod.mk.inj (Prod.mk.inj e).2).2).2
 refine ⟨⟨?_,?_,B.nt,B.nt⟩,⟨(endHeap C.w.params).nsMap cStatics,?_,e4⟩,B.nt⟩
 ·rw [B.h1,B.mg];exact .of_isNs e1
 ·rw [B.h1,B.mb];exact .of_isNs e2
 ·rw [B.h1];exact .of_isNs e3

theorem bm_ok:∀ P:Params,((endHeap P).nsMap mainGlobals "__builtins__", (endHeap P).get? 4)=(some (.ref 4),some (boot_o_4 P)):=by intro P;kernel_rfl
theorem B.ok3:C.Ok3 where
 toOk2:=B.ok2
 heads:=fun n hn=>by
  rw [B.nest] at hn
  simp only [nestL,List.mem_cons,List.mem_nil_iff,or_false] at hn
  rcases hn with rfl | rfl | rfl
  ·exact ⟨codeHd_of_K (K:=[(98,o_98_5 C.w.params)]) (fun a o e=>by
    by_cases h:a=98
    ·subst h;cases e;exact B.at (by kernel_rfl)
    ·rw [List.lookup_cons,beq_false_of_ne h] at e;cases e) (by kernel_rfl),B.nt⟩
  ·exact ⟨codeHd_of_K (K:=[(105,o_105_5 C.w.params)]) (fun a o e=>by
    by_cases h:a=105
    ·subst h;cases e;exact B.at (by kernel_rfl)
    ·rw [List.lookup_cons,beq_false_of_ne h] at e;cases e) (by kernel_rfl),B.nt⟩
  ·exact ⟨codeHd_of_K (K:=[(190,o_190_7 C.w.params)]) (fun a o e=>by
    by_cases h:a=190
    ·subst h;cases e;exact B.at (by kernel_rfl)
    ·rw [List.lookup_cons,beq_false_of_ne h] at e;cases e) (by kernel_rfl),B.nt⟩
 inj:=fun n hn n' hn' e=>by
  rw [B.nest] at hn hn'
  simp only [nestL,List.mem_cons,List.mem_nil_iff,or_false] at hn hn'
  rcases hn with rfl | rfl | rfl<;>rcases hn' with rfl | rfl | rfl<;>first | rfl | cases e
 bi:=⟨4,_,(congrFun B.mg _).trans (Prod.mk.inj (bm_ok C.w.params)).1,by decide,by decide,B.nt,B.at (Prod.mk.inj (bm_ok C.w.params)).2,rfl,rfl,rfl⟩
 apart:=fun n hn d hd d' hd' e1 e2=>by
  rw [B.nest] at hn
  simp only [nestL,List.mem_cons,List.mem_nil_iff,or_false] at hn
  rcases hn with rfl | rfl | rfl
  ·simp only [N__int2digits,List.mem_cons,List.mem_nil_iff,or_false] at hd hd'
   rw [hd,hd']
  ·simp only [N__digits2int,List.mem_cons,List.mem_nil_iff,or_false] at hd hd'
   rw [hd,hd']
  ·simp only [N__law_lexer,List.mem_cons,List.mem_nil_iff,or_false] at hd hd'
   rcases hd with rfl | rfl<;>rcases hd' with rfl | rfl<;>first | rfl | (exact absurd e1 (by decide))

noncomputable def fnO (F:FnRec) (c:Addr) (dc mo:Value):Obj:=⟨.type "function", none,.func ⟨F.name,F.qual,F.params,F.body,F.scope,mainGlobals,[],.none,.none,dc,mo,none,.ref c,.none,builtinsNs⟩,⟨[]⟩⟩
noncomputable def fld1 (o:Obj):Option Value:=match o.data with | .fields vs=>vs[1]? | _=>none
theorem fld1_eq {o:Obj} {v:Value} (h:fld1 o=some v):∃ vs,o.data=.fields vs∧vs[1]?=some v:=by
 unfold fld1 at h
 split at h
 ·exact ⟨_,‹_›,h⟩
 ·cases h
theorem B.mkF {A c:Addr} {F:FnRec} {o oc:Obj} {dc mo:Value} {t:Tok} (h1:(endHeap C.w.params).get? A=some o) (e:o=fnO F c dc mo) (h2:(endHeap C.w.params).get? c=some oc) (h3:fld1 oc=some (.str F.qual t)) (n:(tabL.contains A || tabL.contains c)=false):FnB A F (.ref c):=by
 subst e
 have n:=Bool.or_eq_false_iff.mp n
 obtain ⟨vs,d1,d2⟩:=fld1_eq h3
 exact ⟨B.nt n.1,⟨⟨_,_,B.at h1,rfl,rfl,rfl,rfl,rfl,rfl,rfl,rfl,rfl,rfl,rfl⟩,⟨c,oc,vs,t,rfl,B.at h2,d1,d2⟩⟩,fun x q=>by cases q;exact B.nt n.2⟩
theorem B.f_in_table_b1:FnB A_in_table_b1 F_in_table_b1 cd_in_table_b1:=B.mkF (o:=o_32_3 C.w.params) (oc:=o_31_3 C.w.params) (by kernel_rfl) rfl (by kernel_rfl) rfl rfl
theorem B.f_map_table_b3:FnB A_map_table_b3 F_map_table_b3 cd_map_table_b3:=B.mkF (o:=o_78_5 C.w.params) (oc:=o_77_5 C.w.params) (by kernel_rfl) rfl (by kernel_rfl) rfl rfl
theorem B.f__div2n1n:FnB A__div2n1n F__div2n1n cd__div2n1n:=B.mkF (o:=o_85_5 C.w.params) (oc:=o_84_5 C.w.params) (by kernel_rfl) rfl (by kernel_rfl) rfl rfl
theorem B.f__div3n2n:FnB A__div3n2n F__div3n2n cd__div3n2n:=B.mkF (o:=o_92_5 C.w.params) (oc:=o_91_5 C.w.params) (by kernel_rfl) rfl (by kernel_rfl) rfl rfl
theorem B.f__int2digits:FnB A__int2digits F__int2digits cd__int2digits:=B.mkF (o:=o_99_5 C.w.params) (oc:=o_98_5 C.w.params) (by kernel_rfl) rfl (by kernel_rfl) rfl rfl
theorem B.f__digits2int:FnB A__digits2int F__digits2int cd__digits2int:=B.mkF (o:=o_106_5 C.w.params) (oc:=o_105_5 C.w.params) (by kernel_rfl) rfl (by kernel_rfl) rfl rfl
theorem B.f__divmod_pos:FnB A__divmod_pos F__divmod_pos cd__divmod_pos:=B.mkF (o:=o_113_5 C.w.params) (oc:=o_112_5 C.w.params) (by kernel_rfl) rfl (by kernel_rfl) rfl rfl
theorem B.f_int_divmod:FnB A_int_divmod F_int_divmod cd_int_divmod:=B.mkF (o:=o_120_5 C.w.params) (oc:=o_119_5 C.w.params) (by kernel_rfl) rfl (by kernel_rfl) rfl rfl
theorem B.f_m___init__:FnB A_m___init__ F_m___init__ cd_m___init__:=B.mkF (o:=o_134_6 C.w.params) (oc:=o_133_6 C.w.params) (by kernel_rfl) rfl (by kernel_rfl) rfl rfl
theorem B.f_m__read_char:FnB A_m__read_char F_m__read_char cd_m__read_char:=B.mkF (o:=o_141_6 C.w.params) (oc:=o_140_6 C.w.params) (by kernel_rfl) rfl (by kernel_rfl) rfl rfl
theorem B.f_m_get_token:FnB A_m_get_token F_m_get_token cd_m_get_token:=B.mkF (o:=o_148_6 C.w.params) (oc:=o_147_6 C.w.params) (by kernel_rfl) rfl (by kernel_rfl) rfl rfl
theorem B.f_m_push_token:FnB A_m_push_token F_m_push_token cd_m_push_token:=B.mkF (o:=o_155_6 C.w.params) (oc:=o_154_6 C.w.params) (by kernel_rfl) rfl (by kernel_rfl) rfl rfl
theorem B.f__law_grown:FnB A__law_grown F__law_grown cd__law_grown:=B.mkF (o:=o_167_6 C.w.params) (oc:=o_166_6 C.w.params) (by kernel_rfl) rfl (by kernel_rfl) rfl rfl
theorem B.f__law_turned:FnB A__law_turned F__law_turned cd__law_turned:=B.mkF (o:=o_174_6 C.w.params) (oc:=o_173_6 C.w.params) (by kernel_rfl) rfl (by kernel_rfl) rfl rfl
theorem B.f__law_ring:FnB A__law_ring F__law_ring cd__law_ring:=B.mkF (o:=o_179_7 C.w.params) (oc:=o_178_7 C.w.params) (by kernel_rfl) rfl (by kernel_rfl) rfl rfl
theorem B.f__law_file:FnB A__law_file F__law_file cd__law_file:=B.mkF (o:=o_184_7 C.w.params) (oc:=o_183_7 C.w.params) (by kernel_rfl) rfl (by kernel_rfl) rfl rfl
theorem B.f__law_lexer:FnB A__law_lexer F__law_lexer cd__law_lexer:=B.mkF (o:=o_191_7 C.w.params) (oc:=o_190_7 C.w.params) (by kernel_rfl) rfl (by kernel_rfl) rfl rfl
theorem B.f__law_figures:FnB A__law_figures F__law_figures cd__law_figures:=B.mkF (o:=o_196_7 C.w.params) (oc:=o_195_7 C.w.params) (by kernel_rfl) rfl (by kernel_rfl) rfl rfl
theorem B.f__law_number:FnB A__law_number F__law_number cd__law_number:=B.mkF (o:=o_201_7 C.w.params) (oc:=o_200_7 C.w.params) (by kernel_rfl) rfl (by kernel_rfl) rfl rfl
theorem B.f__law_divided:FnB A__law_divided F__law_divided cd__law_divided:=B.mkF (o:=o_208_7 C.w.params) (oc:=o_207_7 C.w.params) (by kernel_rfl) rfl (by kernel_rfl) rfl rfl
theorem B.f__law_laps:FnB A__law_laps F__law_laps cd__law_laps:=B.mkF (o:=o_213_7 C.w.params) (oc:=o_212_7 C.w.params) (by kernel_rfl) rfl (by kernel_rfl) rfl rfl
theorem B.f__law_pairs:FnB A__law_pairs F__law_pairs cd__law_pairs:=B.mkF (o:=o_218_7 C.w.params) (oc:=o_217_7 C.w.params) (by kernel_rfl) rfl (by kernel_rfl) rfl rfl
theorem B.f__law_down:FnB A__law_down F__law_down cd__law_down:=B.mkF (o:=o_223_7 C.w.params) (oc:=o_222_7 C.w.params) (by kernel_rfl) rfl (by kernel_rfl) rfl rfl
theorem B.f_law:FnB A_law F_law cd_law:=B.mkF (o:=o_228_7 C.w.params) (oc:=o_227_7 C.w.params) (by kernel_rfl) rfl (by kernel_rfl) rfl rfl
noncomputable abbrev A_cls:Addr:=158
noncomputable abbrev A_b1:Addr:=22
noncomputable abbrev A_b3:Addr:=33
theorem B.g_in_table_b1:C.mg "in_table_b1" = (some (.ref 32)):=(congrFun B.mg _).trans (by kernel_rfl)
theorem B.g_map_table_b3:C.mg "map_table_b3" = (some (.ref 78)):=(congrFun B.mg _).trans (by kernel_rfl)
theorem B.g__div2n1n:C.mg "_div2n1n" = (some (.ref 85)):=(congrFun B.mg _).trans (by kernel_rfl)
theorem B.g__div3n2n:C.mg "_div3n2n" = (some (.ref 92)):=(congrFun B.mg _).trans (by kernel_rfl)
theorem B.g__int2digits:C.mg "_int2digits" = (some (.ref 99)):=(congrFun B.mg _).trans (by kernel_rfl)
theorem B.g__digits2int:C.mg "_digits2int" = (some (.ref 106)):=(congrFun B.mg _).trans (by kernel_rfl)
theorem B.g__divmod_pos:C.mg "_divmod_pos" = (some (.ref 113)):=(congrFun B.mg _).trans (by kernel_rfl)
theorem B.g_int_divmod:C.mg "int_divmod" = (some (.ref 120)):=(congrFun B.mg _).trans (by kernel_rfl)
theorem B.g__law_grown:C.mg "_law_grown" = (some (.ref 167)):=(congrFun B.mg _).trans (by kernel_rfl)
theorem B.g__law_turned:C.mg "_law_turned" = (some (.ref 174)):=(congrFun B.mg _).trans (by kernel_rfl)
theorem B.g__law_ring:C.mg "_law_ring" = (some (.ref 179)):=(congrFun B.mg _).trans (by kernel_rfl)
theorem B.g__law_file:C.mg "_law_file" = (some (.ref 184)):=(congrFun B.mg _).trans (by kernel_rfl)
theorem B.g__law_lexer:C.mg "_law_lexer" = (some (.ref 191)):=(congrFun B.mg _).trans (by kernel_rfl)
theorem B.g__law_figures:C.mg "_law_figures" = (some (.ref 196)):=(congrFun B.mg _).trans (by kernel_rfl)
theorem B.g__law_number:C.mg "_law_number" = (some (.ref 201)):=(congrFun B.mg _).trans (by kernel_rfl)
theorem B.g__law_divided:C.mg "_law_divided" = (some (.ref 208)):=(congrFun B.mg _).trans (by kernel_rfl)
theorem B.g__law_laps:C.mg "_law_laps" = (some (.ref 213)):=(congrFun B.mg _).trans (by kernel_rfl)
theorem B.g__law_pairs:C.mg "_law_pairs" = (some (.ref 218)):=(congrFun B.mg _).trans (by kernel_rfl)
theorem B.g__law_down:C.mg "_law_down" = (some (.ref 223)):=(congrFun B.mg _).trans (by kernel_rfl)
theorem B.g_law:C.mg "law" = (some (.ref 228)):=(congrFun B.mg _).trans (by kernel_rfl)
theorem B.g__netrclex:C.mg "_netrclex" = (some (.ref 158)):=(congrFun B.mg _).trans (by kernel_rfl)
theorem B.g_b1_set:C.mg "b1_set" = (some (.ref 22)):=(congrFun B.mg _).trans (by kernel_rfl)
theorem B.g_b3_exceptions:C.mg "b3_exceptions" = (some (.ref 33)):=(congrFun B.mg _).trans (by kernel_rfl)
theorem B.g__DIV_LIMIT:C.mg "_DIV_LIMIT" = some (.int 4000 2217):=(congrFun B.mg _).trans (by kernel_rfl)
theorem B.n_ZeroDivisionError:C.mg "ZeroDivisionError" = none:=(congrFun B.mg _).trans (by kernel_rfl)
theorem B.b_ZeroDivisionError:C.mb "ZeroDivisionError" = some (.type "ZeroDivisionError"):=(congrFun B.mb _).trans (by kernel_rfl)
theorem B.n_chr:C.mg "chr" = none:=(congrFun B.mg _).trans (by kernel_rfl)
theorem B.b_chr:C.mb "chr" = some (.builtin "chr"):=(congrFun B.mb _).trans (by kernel_rfl)
theorem B.n_divmod:C.mg "divmod" = none:=(congrFun B.mg _).trans (by kernel_rfl)
theorem B.b_divmod:C.mb "divmod" = some (.builtin "divmod"):=(congrFun B.mb _).trans (by kernel_rfl)
theorem B.n_iter:C.mg "iter" = none:=(congrFun B.mg _).trans (by kernel_rfl)
theorem B.b_iter:C.mb "iter" = some (.builtin "iter"):=(congrFun B.mb _).trans (by kernel_rfl)
theorem B.n_len:C.mg "len" = none:=(congrFun B.mg _).trans (by kernel_rfl)
theorem B.b_len:C.mb "len" = some (.builtin "len"):=(congrFun B.mb _).trans (by kernel_rfl)
theorem B.n_list:C.mg "list" = none:=(congrFun B.mg _).trans (by kernel_rfl)
theorem B.b_list:C.mb "list" = some (.type "list"):=(congrFun B.mb _).trans (by kernel_rfl)
theorem B.n_max:C.mg "max" = none:=(congrFun B.mg _).trans (by kernel_rfl)
theorem B.b_max:C.mb "max" = some (.builtin "max"):=(congrFun B.mb _).trans (by kernel_rfl)
theorem B.n_min:C.mg "min" = none:=(congrFun B.mg _).trans (by kernel_rfl)
theorem B.b_min:C.mb "min" = some (.builtin "min"):=(congrFun B.mb _).trans (by kernel_rfl)
theorem B.n_ord:C.mg "ord" = none:=(congrFun B.mg _).trans (by kernel_rfl)
theorem B.b_ord:C.mb "ord" = some (.builtin "ord"):=(congrFun B.mb _).trans (by kernel_rfl)
theorem B.n_range:C.mg "range" = none:=(congrFun B.mg _).trans (by kernel_rfl)
theorem B.b_range:C.mb "range" = some (.type "range"):=(congrFun B.mb _).trans (by kernel_rfl)
theorem B.n_reversed:C.mg "reversed" = none:=(congrFun B.mg _).trans (by kernel_rfl)
theorem B.b_reversed:C.mb "reversed" = some (.type "reversed"):=(congrFun B.mb _).trans (by kernel_rfl)
theorem B.n_str:C.mg "str" = none:=(congrFun B.mg _).trans (by kernel_rfl)
theorem B.b_str:C.mb "str" = some (.type "str"):=(congrFun B.mb _).trans (by kernel_rfl)
theorem B.n_sum:C.mg "sum" = none:=(congrFun B.mg _).trans (by kernel_rfl)
theorem B.b_sum:C.mb "sum" = some (.builtin "sum"):=(congrFun B.mb _).trans (by kernel_rfl)
noncomputable def FR (P:Params):Frag:=[(158,o_158_6 P),(157,o_157_6 P),(134,o_134_6 P),(141,o_141_6 P),(148,o_148_6 P),(155,o_155_6 P)]
theorem fr_at:∀ P:Params,[(endHeap P).get? 158,(endHeap P).get? 157,(endHeap P).get? 134,(endHeap P).get? 141,(endHeap P).get? 148,(endHeap P).get? 155]=[some (o_158_6 P),some (o_157_6 P),some (o_134_6 P),some (o_141_6 P),some (o_148_6 P),some (o_155_6 P)]:=by intro P;kernel_rfl
theorem B.fr:FragOk (FR C.w.params) where
 inn:=Frag.in_of (as:=[158,157,134,141,148,155]) rfl (by rw [B.h1];exact fr_at C.w.params)
 nt:=fun a o e=>by
  have:=mem_of_lookup'' e
  simp only [FR,List.mem_cons,List.mem_nil_iff,or_false,Prod.mk.injEq] at this
  rcases this with ⟨rfl,_⟩ | ⟨rfl,_⟩ | ⟨rfl,_⟩ | ⟨rfl,_⟩ | ⟨rfl,_⟩ | ⟨rfl,_⟩<;>exact B.nt
theorem fr_cls:∀ P:Params,(plainGet (FR P) 158 "", hasDictIn (FR P) 158,makesIn (FR P) 158,keepIn (FR P) (.ref 158),plainOver (FR P) 158,findIn (FR P) (.ref 158) "__setattr__", findIn (FR P) (.ref 158) "__getattribute__", findIn (FR P) (.ref 158) "__getattr__")=(true,true,true,true,true,some (some (.builtin "object.__setattr__")),some (some (.builtin "object.__getattribute__")),some none):=by intro P;kernel_rfl
theorem fr_lineno:∀ P:Params,(findIn (FR P) (.ref 158) "lineno", takerIn (FR P) 158 "lineno")=(some none,some none):=by intro P;kernel_rfl
theorem fr_instream:∀ P:Params,(findIn (FR P) (.ref 158) "instream", takerIn (FR P) 158 "instream")=(some none,some none):=by intro P;kernel_rfl
theorem fr_whitespace:∀ P:Params,(findIn (FR P) (.ref 158) "whitespace", takerIn (FR P) 158 "whitespace")=(some none,some none):=by intro P;kernel_rfl
theorem fr_pushback:∀ P:Params,(findIn (FR P) (.ref 158) "pushback", takerIn (FR P) 158 "pushback")=(some none,some none):=by intro P;kernel_rfl
theorem fr_m___init__:∀ P:Params,(findIn (FR P) (.ref 158) "__init__", typeIn (FR P) (.ref 134))=(some (some (.ref 134)),some (.type "function")):=by intro P;kernel_rfl
theorem fr_m__read_char:∀ P:Params,(findIn (FR P) (.ref 158) "_read_char", typeIn (FR P) (.ref 141),findObj (FR P) 158 none "_read_char")=(some (some (.ref 141)),some (.type "function"),some (.bind (.builtin "function.__get__") (.ref 141))):=by intro P;kernel_rfl
theorem fr_m_get_token:∀ P:Params,(findIn (FR P) (.ref 158) "get_token", typeIn (FR P) (.ref 148),findObj (FR P) 158 none "get_token")=(some (some (.ref 148)),some (.type "function"),some (.bind (.builtin "function.__get__") (.ref 148))):=by intro P;kernel_rfl
theorem fr_m_push_token:∀ P:Params,(findIn (FR P) (.ref 158) "push_token", typeIn (FR P) (.ref 155),findObj (FR P) 158 none "push_token")=(some (some (.ref 155)),some (.type "function"),some (.bind (.builtin "function.__get__") (.ref 155))):=by intro P;kernel_rfl
theorem b1_at:∀ P:Params,(endHeap P).get? 22=some (o_22_2 P):=by intro P;kernel_rfl
noncomputable abbrev b1O:=o_22_2
theorem b3_at:∀ P:Params,(endHeap P).get? 33=some mainD:=by intro P;kernel_rfl
noncomputable def eParams:Expr→Arguments | .Lambda a _ _ _=>a | _=>default
noncomputable def eBody:Expr→Expr | .Lambda _ b _ _=>b | e=>e
noncomputable def eScope:Expr→Scope | .Lambda _ _ s _=>s | _=>default
noncomputable def sVal:Stmt→Expr | .Assign _ e _=>e | _=>.Tuple [] 0 default
noncomputable def R_lam0:FnRec:=⟨"<lambda>", "_law_lexer.<locals>.<lambda>", eParams (sVal (nthS (sBody (stm 20)) 1)),.expr (eBody (sVal (nthS (sBody (stm 20)) 1))),eScope (sVal (nthS (sBody (stm 20)) 1))⟩
noncomputable def R_lam1:FnRec:=⟨"<lambda>", "_law_lexer.<locals>.<lambda>", eParams (sVal (nthS (sBody (stm 20)) 2)),.expr (eBody (sVal (nthS (sBody (stm 20)) 2))),eScope (sVal (nthS (sBody (stm 20)) 2))⟩
end Mine
end
open PySem PySem.W PyProof.Rows PySem.Calls
namespace Mine
open Ia Ib
noncomputable def R_d2i:FnRec:=⟨"inner", "_digits2int.<locals>.inner", sParams (nthS (sBody (stm ix__digits2int)) 0),.stmts (sBody (nthS (sBody (stm ix__digits2int)) 0)),sScope (nthS (sBody (stm ix__digits2int)) 0)⟩
theorem bd_d2i:Binds R_d2i ["L", "R"]:=by walk_at "binds"
theorem ck_d2i:fnL R_d2i ["L", "R"] ["n", "inner", "digits"]=true:=by decide +kernel
theorem bd__digits2int:Binds F__digits2int ["digits", "n"]:=by walk_at "binds"
theorem ck__digits2int:fnC F__digits2int ["digits", "n"] ["inner"]=true:=by decide +kernel
section
theorem mid_facts {L R k:Nat} (hL:L < R) (h:L + 1≠R) (hk:R - L≤2 * 2 ^ k):L < (L + R) / 2∧(L + R) / 2 < R∧R - (L + R) / 2≤2 ^ k∧(L + R) / 2 - L≤2 ^ k:=by
 have h1:(L + R) / 2 * 2≤L + R:=Nat.div_mul_le_self _ _
 have h2:L + R < (L + R) / 2 * 2 + 2:=Nat.lt_div_mul_add (by decide)
 generalize (L + R) / 2=M at *
 have:=Nat.le_add_of_sub_le hk
 exact ⟨by lia,by lia,Nat.sub_le_of_le_add (by lia),Nat.sub_le_of_le_add (by lia)⟩
theorem in_d2i {ds:List Nat} {n:Nat} {c1 c2 c3 f:Addr} (hn:1≤n) (hds:∀ x∈ds,x < 2 ^ n) (hsz:n * ds.length≤2 ^ 20) (hnd:[c2,c3,c1].Nodup):∀ (k d:Nat) (hd:k + 1≤d) {σ:Store} {Q:V→Store→Prop} (L R:Nat),L < R→R≤ds.length→R - L≤2 ^ k→
  σ c1=some (.cell (some (.lst (ds.map fun x:Nat=>V.int x))))→σ c2=some (.cell (some (.int n)))→σ c3=some (.cell (some (.loc f)))→σ f=some (.func R_d2i [("n", c2),("inner", c3),("digits", c1)] none)→
  Q (.int (d2i n ((ds.drop L).take (R - L)))) σ→CallV d (.loc f) [.int L,.int R] σ Q:=by
 intro k
 induction k with
 | zero=>
  intro d hd σ Q L R hL hR hk h1 h2 h3 hf q
  refine CallV.le (d:=1) ?_ hd
  refine cv_loc' (d:=0) B.ok2 hf bd_d2i ck_d2i rfl rfl ?_ hnd rfl fun code=>?_
  ·intro p hp
   simp only [List.mem_cons,List.mem_nil_iff,or_false] at hp
   rcases hp with rfl | rfl | rfl
   ·exact ⟨_,h2⟩
   ·exact ⟨_,h3⟩
   ·exact ⟨_,h1⟩
  walk_at "start"
  walk_at "go"
  refine ite_beq (fun h=>?_) (fun h=>?_)
  ·walk_at "go"
   have hx:=hds _ (List.getElem_mem (show L < ds.length by lia))
   refine gn_lst (.fr _) (x:=.int ((ds[L]'(by lia):Nat):Int)) (by rw [List.getElem?_map,List.getElem?_eq_getElem (by lia)];rfl) (by rw [List.length_map];have:=Nat.le_mul_of_pos_left ds.length hn;walk_at "l") ?_
   walk_at "go"
   have:(ds.drop L).take (R - L)=[ds[L]'(by lia)]:=by
    rw [show R - L=1 by lia,List.drop_eq_getElem_cons (by lia)];rfl
   rw [this] at q
   simpa [d2i] using q
  ·simp at hk;lia
 | succ k ih=>
  intro d hd σ Q L R hL hR hk h1 h2 h3 hf q
  obtain ⟨d,rfl⟩:∃ d',d=d' + 1:=⟨d - 1,by lia⟩
  refine cv_loc' (d:=d) B.ok2 hf bd_d2i ck_d2i rfl rfl ?_ hnd rfl fun code=>?_
  ·intro p hp
   simp only [List.mem_cons,List.mem_nil_iff,or_false] at hp
   rcases hp with rfl | rfl | rfl
   ·exact ⟨_,h2⟩
   ·exact ⟨_,h3⟩
   ·exact ⟨_,h1⟩
  walk_at "start"
  walk_at "go"
  refine ite_beq (fun h=>?_) (fun h=>?_)
  ·walk_at "go"
   refine gn_lst (.fr _) (x:=.int ((ds[L]'(by lia):Nat):Int)) (by rw [List.getElem?_map,List.getElem?_eq_getElem (by lia)];rfl) (by rw [List.length_map];have:=Nat.le_mul_of_pos_left ds.length hn;walk_at "l") ?_
   walk_at "go"
   have:(ds.drop L).take (R - L)=[ds[L]'(by lia)]:=by
    rw [show R - L=1 by lia,List.drop_eq_getElem_cons (by lia)];rfl
   rw [this] at q
   simpa [d2i] using q
  have hl:ds.length≤2 ^ 20:=Nat.le_trans (Nat.le_mul_of_pos_left ds.length hn) hsz
  have hp:2 ^ (k + 1)=2 * 2 ^ k:=by rw [Nat.pow_succ,Nat.mul_comm]
  rw [hp] at hk
  obtain ⟨m1,m2,m3,m4⟩:=mid_facts hL h hk
  have hM:=Nat.le_trans (Nat.le_of_lt m2) hR
  walk_at "go"
  rotate_left;· exact mulOk_small (.inl (Nat.lt_of_le_of_lt (Nat.le_trans (Nat.sub_le _ _) (Nat.le_trans hM hl)) (by decide)))
  generalize (L + R) / 2=M at *
  refine ⟨keep_loc hf,ih d (by lia) _ _ (by walk_at "l") hR (by walk_at "l") h1 h2 h3 hf ?_⟩
  have hlen:((ds.drop (M)).take (R - M)).length=R - M:=by rw [List.length_take,List.length_drop];exact Nat.min_eq_left (Nat.sub_le_sub_right hR _)
  have hlt:=d2i_lt n ((ds.drop (M)).take (R - M)) fun x hx=>hds x (List.mem_of_mem_drop (List.mem_of_mem_take hx))
  rw [hlen] at hlt
  walk_at "go"
  rotate_left
  ·have h1:=nbits_le hlt
   have h2:n * (R - M)≤n * ds.length:=Nat.mul_le_mul_left _ (Nat.le_trans (Nat.sub_le _ _) hR)
   have h3:(M - L) * n≤n * ds.length:=by rw [Nat.mul_comm];exact Nat.mul_le_mul_left _ (Nat.le_trans (Nat.sub_le _ _) hM)
   exact Nat.le_trans (Nat.add_le_add (Nat.le_trans h1 (Nat.le_trans h2 hsz)) (Nat.le_trans h3 hsz)) (by decide)
  refine ⟨keep_loc hf,ih d (by lia) _ _ (by walk_at "l") (by lia) (by walk_at "l") h1 h2 h3 hf ?_⟩
  walk_at "go"
  have e:(ds.drop L).take (R - L)=(ds.drop L).take (M - L)++(ds.drop (M)).take (R - M):=by
   have:(ds.drop (M))=(ds.drop L).drop (M - L):=by rw [List.drop_drop];rw [Nat.add_sub_cancel' (Nat.le_of_lt m1)]
   rw [this,← List.take_add,sub3 (Nat.le_of_lt m1) (Nat.le_of_lt m2)]
  rw [e,d2i_append] at q
  have l2:((ds.drop L).take (M - L)).length=M - L:=by rw [List.length_take,List.length_drop];exact Nat.min_eq_left (Nat.sub_le_sub_right hM _)
  rw [l2] at q
  have e2:d2i n ((ds.drop (M)).take (R - M)) * 2 ^ ((M - L) * n) + d2i n ((ds.drop L).take (M - L))=d2i n ((ds.drop L).take (M - L)) + 2 ^ (n * (M - L)) * d2i n ((ds.drop (M)).take (R - M)):=by
   rw [Nat.mul_comm n,Nat.mul_comm (2 ^ _),Nat.add_comm]
  rw [e2];exact q
end
section
theorem cs__digits2int {d:Nat} (hd:40≤d) {ds:List Nat} {n:Nat} {σ:Store} {Q:V→Store→Prop} (hn:1≤n) (hds:∀ x∈ds,x < 2 ^ n) (hsz:n * ds.length≤2 ^ 20)
  (q:Q (.int (d2i n ds:Nat)) σ):CallV d (.raw (.ref A__digits2int)) [.lst (ds.map fun x:Nat=>V.int x),.int n] σ Q:=by
 have hl:ds.length≤2 ^ 20:=Nat.le_trans (Nat.le_mul_of_pos_left ds.length hn) hsz
 refine CallV.le (d:=40) (CallV.pure ?_) hd
 refine cv_fnC' (d:=39) B.ok2 B.f__digits2int bd__digits2int ck__digits2int rfl rfl rfl ?_
 walk_at "start"
 refine ex_share (x := "digits") (v:=?_) (r':=?_) ?_ ?_ ?_ fun c1 hc1=>?_;walk_at "share"
 refine ex_share (x := "n") (v:=?_) (r':=?_) ?_ ?_ ?_ fun c2 hc2=>?_;walk_at "share"
 refine ex_share0 (x := "inner") (r':=?_) ?_ ?_ fun c3 hc3=>?_;walk_at "share0"
 refine ex_cons (st_def B.ok3 (n:=N__digits2int) (cap:=?_) (by rw [B.nest];exact List.mem_cons_of_mem _ List.mem_cons_self) (by exact List.mem_cons_self) rfl ?_ rfl rfl rfl rfl (by intro _;rfl) (by walk_at "mem") (by decide +kernel) (upd_self ..) fun f hf=>?_)
 rotate_left;walk_at "capl"
 refine bc fun hbc=>?_
 obtain ⟨n21,hc2⟩:=upd_none hc2
 obtain ⟨n32,hc3⟩:=upd_none hc3
 obtain ⟨n31,hc3⟩:=upd_none hc3
 obtain ⟨nf3,hf⟩:=upd_none hf
 obtain ⟨nf2,hf⟩:=upd_none hf
 obtain ⟨nf1,hf⟩:=upd_none hf
 refine hbc ?_
 clear hbc
 refine cont_next ?_
 generalize hσ:upd (upd (upd (upd (upd σ c1 _) c2 _) c3 _) f _) c3 _=σ5
 have s1:σ5 c1=some (.cell (some (.lst (ds.map fun x:Nat=>V.int x)))):=by rw [← hσ];exact upd_of (Ne.symm n31) (upd_of (Ne.symm nf1) (upd_of (Ne.symm n31) (upd_of (Ne.symm n21) (upd_self ..))))
 have s2:σ5 c2=some (.cell (some (.int n))):=by rw [← hσ];exact upd_of (Ne.symm n32) (upd_of (Ne.symm nf2) (upd_of (Ne.symm n32) (upd_self ..)))
 have s3:σ5 c3=some (.cell (some (.loc f))):=by rw [← hσ];exact upd_self ..
 have sf:σ5 f=some (.func R_d2i [("n", c2),("inner", c3),("digits", c1)] none):=by rw [← hσ];exact upd_of nf3 (upd_self ..)
 have sub:Sub σ σ5:=by rw [← hσ];exact (((((Sub.refl.upd hc1).upd hc2).upd hc3).upd hf).upd hc3)
 have hnd:[c2,c3,c1].Nodup:=by simp [n21,n32,n31,Ne.symm n32,Ne.symm n31]
 walk_at "go"
 rotate_left;· rw [List.length_map];walk_at "l"
 refine ite_gen (fun h=>?_) (fun h=>?_)
 ·walk_at "go"
  rotate_left;· rw [List.length_map];walk_at "l"
  have h0:0 < ds.length:=by cases ds with | nil=>simp at h | cons=>simp
  refine ⟨keep_loc sf,CallV.le (d:=22) ?_ (by decide)⟩
  refine in_d2i hn hds hsz hnd 20 22 (by walk_at "l") 0 (ds.map fun x:Nat=>V.int x).length (by rw [List.length_map];exact h0) (by rw [List.length_map];exact Nat.le_refl _) (by rw [List.length_map];walk_at "l") s1 s2 s3 sf ?_
  walk_at "go"
  refine ⟨sub,_,.same _ (by intro a e;cases e),?_⟩
  have:(ds.drop 0).take ((ds.map fun x:Nat=>V.int x).length - 0)=ds:=by simp
  rw [this];exact q
 ·have:ds=[]:=by cases ds with | nil=>rfl | cons=>simp at h
  subst this
  walk_at "go"
  exact ⟨sub,_,.same _ (by intro a e;cases e),q⟩
end
noncomputable def R_i2d:FnRec:=⟨"inner", "_int2digits.<locals>.inner", sParams (nthS (sBody (stm ix__int2digits)) 1),.stmts (sBody (nthS (sBody (stm ix__int2digits)) 1)),sScope (nthS (sBody (stm ix__int2digits)) 1)⟩
theorem bd_i2d:Binds R_i2d ["x", "L", "R"]:=by walk_at "binds"
theorem ck_i2d:fnL R_i2d ["x", "L", "R"] ["n", "inner", "a_digits"]=true:=by decide +kernel
theorem bd__int2digits:Binds F__int2digits ["a", "n"]:=by walk_at "binds"
theorem ck__int2digits:fnC F__int2digits ["a", "n"] ["a_digits", "inner"]=true:=by decide +kernel
theorem upd_upd (σ:Store) (a:Addr) (o o':Option PObj):upd (upd σ a o) a o'=upd σ a o':=by
 funext b;unfold upd;split<;>rfl
noncomputable def putD (vs:List V) (L R:Nat) (ds:List Nat):List V:=vs.take L++ds.map (fun x:Nat=>V.int x)++vs.drop R
theorem putD_one (vs:List V) (L x:Nat) (h:L < vs.length):vs.set L (.int x)=putD vs L (L + 1) [x]:=by
 unfold putD
 rw [List.set_eq_take_append_cons_drop,if_pos h];simp
theorem putD_len (vs:List V) (L R:Nat) (ds:List Nat) (h:L≤R) (hR:R≤vs.length) (hd:ds.length=R - L):(putD vs L R ds).length=vs.length:=by
 unfold putD
 rw [List.length_append,List.length_append,List.length_take,List.length_map,List.length_drop,Nat.min_eq_left (Nat.le_trans h hR),hd,Nat.add_sub_cancel' h,Nat.add_sub_cancel' hR]
theorem putD_two (vs:List V) (L M R:Nat) (d1 d2:List Nat) (h1:L≤M) (h2:M≤R) (hR:R≤vs.length) (e1:d1.length=M - L) (e2:d2.length=R - M):putD (putD vs L M d1) M R d2=putD vs L R (d1++d2):=by
 unfold putD
 have l1:(List.take L vs++List.map (fun x:Nat=>V.int x) d1).length=M:=by simp;lia
 rw [List.take_append_of_le_length (by rw [l1];exact Nat.le_refl _),List.take_of_length_le (by rw [l1];exact Nat.le_refl _)]
 have:List.drop R (List.take L vs++List.map (fun x:Nat=>V.int x) d1++List.drop M vs)=List.drop R vs:=by
  rw [List.drop_append,l1,List.drop_eq_nil_of_le (by rw [l1];exact h2),List.drop_drop]
  simp;congr 1;lia
 rw [this];simp
section
theorem in_i2d {n:Nat} {c1 c2 c3 f p:Addr} (hn:1≤n) (hnd:[c2,c3,c1].Nodup):∀ (k d:Nat) (hd:k + 1≤d) {σ:Store} {Q:V→Store→Prop} (vs:List V) (x L R:Nat),L < R→R≤vs.length→R - L≤2 ^ k→n * vs.length≤2 ^ 20→x < 2 ^ (n * (R - L))→
  σ c1=some (.cell (some (.loc p)))→σ c2=some (.cell (some (.int n)))→σ c3=some (.cell (some (.loc f)))→σ f=some (.func R_i2d [("n", c2),("inner", c3),("a_digits", c1)] none)→σ p=some (.list vs)→
  Q .none (upd σ p (some (.list (putD vs L R (i2d n (R - L) x)))))→CallV d (.loc f) [.int x,.int L,.int R] σ Q:=by
 intro k
 induction k with
 | zero=>
  intro d hd σ Q vs x L R hL hR hk hsz hx h1 h2 h3 hf hp q
  have hl:vs.length≤2 ^ 20:=Nat.le_trans (Nat.le_mul_of_pos_left vs.length hn) hsz
  refine CallV.le (d:=1) ?_ hd
  refine cv_loc' (d:=0) B.ok2 hf bd_i2d ck_i2d rfl rfl ?_ hnd rfl fun code=>?_
  ·intro p hp
   simp only [List.mem_cons,List.mem_nil_iff,or_false] at hp
   rcases hp with rfl | rfl | rfl
   ·exact ⟨_,h2⟩
   ·exact ⟨_,h3⟩
   ·exact ⟨_,h1⟩
  walk_at "start"
  walk_at "go"
  refine ite_beq (fun h=>?_) (fun h=>?_)
  ·walk_at "go"
   refine ⟨p,vs,(L:Int),rfl,rfl,hp,Int.natCast_nonneg L,by simp;lia,by walk_at "l", ?_⟩
   walk_at "go"
   rw [Int.toNat_natCast,putD_one vs L x (by lia)]
   have:R - L=1:=by lia
   rw [this,Nat.mul_one] at hx
   rw [this] at q
   simp only [i2d,Nat.mod_eq_of_lt hx] at q
   rw [h];exact q
  ·simp at hk;lia
 | succ k ih=>
  intro d hd σ Q vs x L R hL hR hk hsz hx h1 h2 h3 hf hp q
  have hl:vs.length≤2 ^ 20:=Nat.le_trans (Nat.le_mul_of_pos_left vs.length hn) hsz
  obtain ⟨d,rfl⟩:∃ d',d=d' + 1:=⟨d - 1,by lia⟩
  refine cv_loc' (d:=d) B.ok2 hf bd_i2d ck_i2d rfl rfl ?_ hnd rfl fun code=>?_
  ·intro p hp
   simp only [List.mem_cons,List.mem_nil_iff,or_false] at hp
   rcases hp with rfl | rfl | rfl
   ·exact ⟨_,h2⟩
   ·exact ⟨_,h3⟩
   ·exact ⟨_,h1⟩
  have hpw:2 ^ (k + 1)=2 * 2 ^ k:=by rw [Nat.pow_succ,Nat.mul_comm]
  rw [hpw] at hk
  walk_at "start"
  walk_at "go"
  refine ite_beq (fun h=>?_) (fun h=>?_)
  ·walk_at "go"
   refine ⟨p,vs,(L:Int),rfl,rfl,hp,Int.natCast_nonneg L,by simp;lia,by walk_at "l", ?_⟩
   walk_at "go"
   rw [Int.toNat_natCast,putD_one vs L x (by lia)]
   have:R - L=1:=by lia
   rw [this,Nat.mul_one] at hx
   rw [this] at q
   simp only [i2d,Nat.mod_eq_of_lt hx] at q
   rw [h];exact q
  obtain ⟨m1,m2,m3,m4⟩:=mid_facts hL h hk
  have hM:=Nat.le_trans (Nat.le_of_lt m2) hR
  have hle:n * (R - L)≤n * vs.length:=Nat.mul_le_mul_left _ (Nat.le_trans (Nat.sub_le _ _) hR)
  have hle2:((L + R) / 2 - L) * n≤n * vs.length:=by rw [Nat.mul_comm];exact Nat.mul_le_mul_left _ (Nat.le_trans (Nat.sub_le _ _) hM)
  walk_at "go"
  rotate_left
  ·exact mulOk_small (.inl (Nat.lt_of_le_of_lt (Nat.le_trans (Nat.sub_le _ _) (Nat.le_trans hM hl)) (by decide)))
  ·have h8:=Nat.le_trans (nbits_le (Nat.lt_of_le_of_lt (Nat.div_le_self x (2 ^ (((L + R) / 2 - L) * n))) hx)) (Nat.le_trans hle hsz)
   have h9:=Nat.le_trans hle2 hsz
   walk_at "l"
  rw [xor_low]
  generalize (L + R) / 2=M at *
  have n1:c1≠p:=fun e=>by rw [e,hp] at h1;cases h1
  have n2:c2≠p:=fun e=>by rw [e,hp] at h2;cases h2
  have n3:c3≠p:=fun e=>by rw [e,hp] at h3;cases h3
  have nf:f≠p:=fun e=>by rw [e,hp] at hf;cases hf
  have ec:(M - L) * n=n * (M - L):=Nat.mul_comm _ _
  have hlen1:=putD_len vs L (M) (i2d n (M - L) x) (by walk_at "l") (by lia) (i2d_length ..)
  refine ⟨keep_loc hf,ih d (by lia) vs _ _ _ (by walk_at "l") (by lia) (by walk_at "l") hsz (by rw [ec];exact Nat.mod_lt _ (Nat.two_pow_pos _)) h1 h2 h3 hf hp ?_⟩
  rw [ec,i2d_mod]
  have h1':=upd_of (o:=some (.list (putD vs L (M) (i2d n (M - L) x)))) n1 h1
  have h2':=upd_of (o:=some (.list (putD vs L (M) (i2d n (M - L) x)))) n2 h2
  have h3':=upd_of (o:=some (.list (putD vs L (M) (i2d n (M - L) x)))) n3 h3
  have hf':=upd_of (o:=some (.list (putD vs L (M) (i2d n (M - L) x)))) nf hf
  walk_at "go"
  refine ⟨keep_loc hf',ih d (by lia) (putD vs L (M) (i2d n (M - L) x)) _ _ _ (by walk_at "l") (by lia) (by walk_at "l") (by rw [hlen1];exact hsz) ?_ h1' h2' h3' hf' (upd_self ..) ?_⟩
  ·rw [Nat.div_lt_iff_lt_mul (Nat.two_pow_pos _),← Nat.pow_add,← Nat.mul_add]
   exact Nat.lt_of_lt_of_le hx (Nat.pow_le_pow_right (by decide) (Nat.mul_le_mul_left _ (Nat.le_of_eq ((Nat.add_comm _ _).trans (sub3 (Nat.le_of_lt m1) (Nat.le_of_lt m2)).symm.symm).symm)))
  walk_at "go"
  rw [upd_upd,putD_two _ _ _ _ _ _ (by walk_at "l") (by walk_at "l") hR (i2d_length ..) (i2d_length ..),← i2d_add]
  rw [sub3 (Nat.le_of_lt m1) (Nat.le_of_lt m2)];exact q
end
section
noncomputable def ndig (n a:Nat):Nat:=(nbits a + n - 1) / n
theorem ndig_lt {n a:Nat} (hn:1≤n):a < 2 ^ (n * ndig n a):=by
 refine Nat.lt_of_lt_of_le (lt_nbits a) (Nat.pow_le_pow_right (by decide) ?_)
 unfold ndig
 have h1:nbits a + n - 1 + 1=nbits a + n:=Nat.sub_add_cancel (Nat.le_trans hn (Nat.le_add_left ..))
 exact Nat.le_of_add_le_add_right (b:=n) (Nat.le_trans (Nat.le_of_eq h1.symm) (Nat.lt_mul_div_succ (nbits a + n - 1) hn))
theorem cs__int2digits {d:Nat} (hd:40≤d) {a n:Nat} {σ:Store} {Q:V→Store→Prop} (hn:1≤n) (hn2:n≤2 ^ 19) (ha:a < 2 ^ (2 ^ 19))
  (q:Q (.lst ((i2d n (ndig n a) a).map fun x:Nat=>V.int x)) σ):CallV d (.raw (.ref A__int2digits)) [.int a,.int n] σ Q:=by
 have hb:=nbits_le ha
 have hnd:n * ndig n a≤2 ^ 20:=by
  unfold ndig
  exact Nat.le_trans (Nat.mul_div_le _ _) (Nat.le_trans (Nat.sub_le _ _) (Nat.le_trans (Nat.add_le_add hb hn2) (by decide)))
 have hl:ndig n a≤2 ^ 20:=Nat.le_trans (Nat.le_mul_of_pos_left _ hn) hnd
 refine CallV.le (d:=40) (CallV.pure ?_) hd
 refine cv_fnC' (d:=39) B.ok2 B.f__int2digits bd__int2digits ck__int2digits rfl rfl rfl ?_
 walk_at "start"
 refine ex_cons (st_assign' (stores_cell (sl:=.emp) (by kernel_rfl) (by walk_at "mem") (by intro c e;cases e)) ?_)
 walk_at "go"
 rotate_left;· walk_at "l"
 ·have h3:n < 2 ^ 9000:=Nat.lt_of_le_of_lt hn2 (by decide +kernel)
  have h4:n≠0:=by walk_at "l"
  exact (Nat.log2_lt h4).mpr h3
 refine bin_mulO (.fr _) (by simpa [ndig] using (show ndig n a≤2 ^ 24 by walk_at "l")) (by exact (show ndig n a≤2 ^ 24 by walk_at "l")) fun p hp=>?_
 have hrep:(List.replicate ((nbits a + n - 1) / n) [V.int 0]).flatten=List.replicate (ndig n a) (.int 0):=by
  show _=List.replicate ((nbits a + n - 1) / n) (V.int 0)
  induction ((nbits a + n - 1) / n) with
  | zero=>rfl
  | succ m ih=>rw [List.replicate_succ,List.flatten_cons,ih];rfl
 rw [hrep]
 walk_at "upd"
 refine cont_next ?_
 refine ex_share (x := "n") (v:=?_) (r':=?_) ?_ ?_ ?_ fun c2 hc2=>?_;walk_at "share"
 refine ex_share (x := "a_digits") (v:=?_) (r':=?_) ?_ ?_ ?_ fun c1 hc1=>?_;walk_at "share"
 refine ex_share0 (x := "inner") (r':=?_) ?_ ?_ fun c3 hc3=>?_;walk_at "share0"
 refine ex_cons (st_def B.ok3 (n:=N__int2digits) (cap:=?_) (by rw [B.nest];exact List.mem_cons_self) (by exact List.mem_cons_self) rfl ?_ rfl rfl rfl rfl (by intro _;rfl) (by walk_at "mem") (by kernel_rfl) (upd_self ..) fun f hf=>?_)
 rotate_left;walk_at "capl"
 refine bc fun hbc=>?_
 obtain ⟨n2p,hc2⟩:=upd_none hc2
 obtain ⟨n12,hc1⟩:=upd_none hc1
 obtain ⟨n1p,hc1⟩:=upd_none hc1
 obtain ⟨n31,hc3⟩:=upd_none hc3
 obtain ⟨n32,hc3⟩:=upd_none hc3
 obtain ⟨n3p,hc3⟩:=upd_none hc3
 obtain ⟨nf3,hf⟩:=upd_none hf
 obtain ⟨nf1,hf⟩:=upd_none hf
 obtain ⟨nf2,hf⟩:=upd_none hf
 obtain ⟨nfp,hf⟩:=upd_none hf
 refine hbc ?_
 clear hbc
 refine cont_next ?_
 generalize hσ:upd (upd (upd (upd (upd (upd σ p _) c2 _) c1 _) c3 _) f _) c3 _=σ5
 have s1:σ5 c1=some (.cell (some (.loc p))):=by rw [← hσ];exact upd_of (Ne.symm n31) (upd_of (Ne.symm nf1) (upd_of (Ne.symm n31) (upd_self ..)))
 have s2:σ5 c2=some (.cell (some (.int n))):=by rw [← hσ];exact upd_of (Ne.symm n32) (upd_of (Ne.symm nf2) (upd_of (Ne.symm n32) (upd_of (Ne.symm n12) (upd_self ..))))
 have s3:σ5 c3=some (.cell (some (.loc f))):=by rw [← hσ];exact upd_self ..
 have sf:σ5 f=some (.func R_i2d [("n", c2),("inner", c3),("a_digits", c1)] none):=by rw [← hσ];exact upd_of nf3 (upd_self ..)
 have sp:σ5 p=some (.list (List.replicate (ndig n a) (.int 0))):=by rw [← hσ];exact upd_of (Ne.symm n3p) (upd_of (Ne.symm nfp) (upd_of (Ne.symm n3p) (upd_of (Ne.symm n1p) (upd_of (Ne.symm n2p) (upd_self ..)))))
 have sub:Sub σ σ5:=by rw [← hσ];exact ((((((Sub.refl.upd hp).upd hc2).upd hc1).upd hc3).upd hf).upd hc3)
 have hnn:[c2,c3,c1].Nodup:=by simp [n12,n32,n31,Ne.symm n32,Ne.symm n31,Ne.symm n12]
 walk_at "go"
 by_cases h0:a=0
 ·subst h0
  rw [show ((0:Nat) != 0)=false from rfl]
  walk_at "go"
  refine ⟨sub,_,.lst sp hp,?_⟩
  have:(i2d n (ndig n 0) 0).map (fun x:Nat=>V.int x)=List.replicate (ndig n 0) (.int 0):=by
   generalize ndig n 0=m
   induction m with
   | zero=>rfl
   | succ m ih=>simp only [i2d,List.map_cons,List.replicate_succ,Nat.zero_mod,Nat.zero_div];rw [ih];rfl
  rw [this] at q;exact q
 ·rw [bne_iff_ne.mpr h0]
  walk_at "go"
  rotate_left;· simp;walk_at "l"
  have hm:0 < ndig n a:=by
   rcases Nat.eq_zero_or_pos (ndig n a) with e | e
   ·have:=ndig_lt (a:=a) hn;rw [e] at this;simp at this;exact absurd this h0
   ·exact e
  refine ⟨keep_loc sf,CallV.le (d:=22) ?_ (by decide)⟩
  refine in_i2d hn hnn 20 22 (by walk_at "l") (List.replicate (ndig n a) (.int 0)) a 0 (List.replicate (ndig n a) (V.int 0)).length (by simpa using hm) (Nat.le_refl _) (by simp;walk_at "l") (by simpa using hnd) (by simpa using ndig_lt (a:=a) hn) s1 s2 s3 sf sp ?_
  have np1:c1≠p:=n1p
  have s1':=upd_of (o:=some (.list (putD (List.replicate (ndig n a) (.int 0)) 0 (List.replicate (ndig n a) (V.int 0)).length (i2d n ((List.replicate (ndig n a) (V.int 0)).length - 0) a)))) n1p s1
  walk_at "go"
  refine ⟨fun b o hb=>?_,_,.lst (upd_self ..) hp,?_⟩
  ·rw [upd_ne _ _ (fun e=>by rw [e,hp] at hb;cases hb)];exact sub b o hb
  ·have:putD (List.replicate (ndig n a) (.int 0)) 0 (List.replicate (ndig n a) (V.int 0)).length (i2d n ((List.replicate (ndig n a) (V.int 0)).length - 0) a)=(i2d n (ndig n a) a).map fun x:Nat=>V.int x:=by
    simp [putD]
   rw [this];exact q
end
theorem bd__div2n1n:Binds F__div2n1n ["a", "b", "n"]:=by walk_at "binds"
theorem ck__div2n1n:fnB F__div2n1n ["a", "b", "n"]=true:=by decide +kernel
theorem bd__divmod_pos:Binds F__divmod_pos ["a", "b"]:=by walk_at "binds"
theorem ck__divmod_pos:fnB F__divmod_pos ["a", "b"]=true:=by decide +kernel
theorem bd_int_divmod:Binds F_int_divmod ["a", "b"]:=by walk_at "binds"
theorem ck_int_divmod:fnB F_int_divmod ["a", "b"]=true:=by decide +kernel
theorem dv_step {b n h dg:Nat} (hb:1≤b) (hdg:dg < 2 ^ n):h % b * 2 ^ n + dg < b * 2 ^ n∧(h % b * 2 ^ n + dg) % b=(h * 2 ^ n + dg) % b∧(h * 2 ^ n + dg) / b=h / b * 2 ^ n + (h % b * 2 ^ n + dg) / b∧(h % b * 2 ^ n + dg) / b < 2 ^ n:=by
 have e:h * 2 ^ n + dg=b * (h / b * 2 ^ n) + (h % b * 2 ^ n + dg):=by
  conv=>lhs;rw [← Nat.div_add_mod h b,Nat.add_mul]
  rw [Nat.mul_assoc,Nat.add_assoc]
 have hlt:h % b * 2 ^ n + dg < b * 2 ^ n:=by
  have h1:h % b + 1≤b:=Nat.mod_lt h (by walk_at "l")
  have h2:(h % b + 1) * 2 ^ n≤b * 2 ^ n:=Nat.mul_le_mul_right _ h1
  rw [Nat.add_mul,Nat.one_mul] at h2;lia
 refine ⟨hlt,by rw [e,Nat.mul_add_mod],by rw [e,Nat.mul_add_div (by walk_at "l")],?_⟩
 rw [Nat.div_lt_iff_lt_mul (by walk_at "l"),Nat.mul_comm (2 ^ n) b];exact hlt
theorem i2d_get (n:Nat):∀ (k x m:Nat),m < k→(i2d n k x)[m]?=some (x / 2 ^ (n * m) % 2 ^ n)
 | k + 1,x,0,_=>by simp [i2d]
 | k + 1,x,m + 1,h=>by
  simp only [i2d,List.getElem?_cons_succ]
  rw [i2d_get n k _ m (by lia),Nat.div_div_eq_div_mul,← Nat.pow_add,Nat.mul_add,Nat.mul_one,Nat.add_comm n]
theorem Nat.mul_add_mod_of_lt' {x m y:Nat} (h:y < m):(x * m + y) % m=y:=by rw [Nat.mul_comm,Nat.mul_add_mod,Nat.mod_eq_of_lt h]
theorem Nat.mul_add_div_of_lt' {x m y:Nat} (h:y < m):(x * m + y) / m=x:=by rw [Nat.mul_comm,Nat.mul_add_div (by walk_at "l"),Nat.div_eq_of_lt h,Nat.add_zero]
noncomputable def DivOk (b n:Nat):Prop:=∀ {d:Nat} {σ:Store} {Q:V→Store→Prop} (x:Nat),60≤d→x < b * 2 ^ n→Q (.tup [.int ((x / b:Nat):Int),.int ((x % b:Nat):Int)]) σ→CallV d (.raw (.ref A__div2n1n)) [.int x,.int b,.int n] σ Q
section
theorem cs__divmod_pos {a b:Nat} (D:DivOk b (nbits b)) {d:Nat} {σ:Store} {Q:V→Store→Prop} (hd:70≤d) (hb:1≤b) (hbs:nbits b≤2 ^ 19) (ha:a < 2 ^ (2 ^ 19))
  (q:Q (.tup [.int ((a / b:Nat):Int),.int ((a % b:Nat):Int)]) σ):CallV d (.raw (.ref A__divmod_pos)) [.int a,.int b] σ Q:=by
 refine CallV.le (d:=70) (CallV.pure ?_) hd
 refine cv_fn' (d:=69) B.ok2 B.f__divmod_pos bd__divmod_pos ck__divmod_pos rfl rfl rfl ?_
 walk_at "start"
 walk_at "go"
 have hn1:1≤nbits b:=by unfold nbits;rw [if_neg (by walk_at "l")];walk_at "l"
 have hla:=ndig_lt (n:=nbits b) (a:=a) hn1
 have hndb:nbits b * ndig (nbits b) a≤2 ^ 20:=by
  unfold ndig
  exact Nat.le_trans (Nat.mul_div_le _ _) (Nat.le_trans (Nat.sub_le _ _) (Nat.le_trans (Nat.add_le_add (nbits_le ha) hbs) (by decide)))
 refine cs__int2digits (by decide) hn1 hbs ha ?_
 generalize hL:ndig (nbits b) a=L at *
 generalize hn:nbits b=n at *
 have hLl:L≤2 ^ 20:=Nat.le_trans (Nat.le_mul_of_pos_left _ hn1) hndb
 iterate 9 walk_at "s"
 refine ev_listO ?_
 walk_at "s"
 refine ⟨by simp,fun qa hqa=>?_⟩
 walk_at "go"
 refine st_forO ?_
 walk_at "go"
 refine bi_reversed fun it hit=>?_
 refine bc fun hbc=>?_
 obtain ⟨nit,hit⟩:=upd_none hit
 refine hbc ?_
 clear hbc
 refine ⟨it,_,rfl,upd_self ..,trivial,fun m ρ' σ'=>∃ (r:Nat) (qs:List Nat),Has ρ' [("r", .val (.int r)),("q_digits", .val (.loc qa)),("n", .val (.int n)),("b", .val (.int b))]∧σ' qa=some (.list (qs.map fun x:Nat=>V.int x))∧
  σ' it=some (.riter ((i2d n L a).map fun x:Nat=>V.int x) m)∧Sub σ σ'∧m≤L∧qs.reverse=i2d n (L - m) (a / 2 ^ (n * m) / b)∧r=a / 2 ^ (n * m) % b,((i2d n L a).map fun x:Nat=>V.int x).length,?_,?_⟩
 ·rw [List.length_map,i2d_length]
  refine ⟨0,[],(by show Has _ [("r", .val (.int (0:Int))),("q_digits", .val (.loc qa)),("n", .val (.int n)),("b", .val (.int b))];walk_at "has"),upd_of (Ne.symm nit) (upd_self ..),upd_self ..,((Sub.refl.upd hqa).upd hit),Nat.le_refl _,by simp [i2d],?_⟩
  rw [Nat.div_eq_of_lt hla];simp
 ·intro m ρ' σ' hJ3
  refine bc fun hbc=>?_
  obtain ⟨r,qs,hhas,hsq,hsi,sub,hm,hqs,rfl⟩:=hJ3
  refine hbc ?_
  clear hbc
  have hlen:qs.length=L - m:=by have:=congrArg List.length hqs;simpa [i2d_length] using this
  refine nx_rev hsi (by rw [List.length_map,i2d_length];exact hm) (fun h0=>?_) (fun j x hj hx=>?_)
  ·subst h0
   refine cont_next (ExP.has ?_ hhas)
   walk_at "go"
   refine bi_reverse hsq (by simp;lia) ?_
   refine cont_next ?_
   refine ex_freeze (x := "q_digits") (r':=?_) (upd_self ..) ?_ ?_ ?_;rotate_left
   ·walk_at "mem"
   ·walk_at "rest"
   walk_at "go"
   rw [← List.map_reverse,hqs]
   refine cs__digits2int (by decide) hn1 (i2d_lt _ _ _) (by rw [i2d_length];exact hndb) ?_
   walk_at "go"
   refine ⟨(sub.upd hqa).upd hqa,_,.same _ (by intro a e;cases e),?_⟩
   rw [d2i_i2d]
   simp only [Nat.mul_zero,Nat.pow_zero,Nat.div_one,Nat.sub_zero]
   rw [Nat.mod_eq_of_lt (Nat.lt_of_le_of_lt (Nat.div_le_self a b) hla)]
   exact q
  ·subst hj
   have hj:j < L:=hm
   have hx':x=.int ((a / 2 ^ (n * j) % 2 ^ n:Nat):Int):=by
    rw [List.getElem?_map,i2d_get n L a j hj] at hx
    exact (Option.some.inj hx).symm
   subst hx'
   refine ⟨⟨_,upd_self ..,trivial⟩,AsP.sub ?_ hhas⟩
   have hsq':=upd_of (o:=some (.riter ((i2d n L a).map fun x:Nat=>V.int x) j)) (Ne.symm nit) hsq
   refine bc fun hbc=>?_
   obtain ⟨v1,v2,v3,v4⟩:=dv_step (b:=b) (n:=n) (h:=a / 2 ^ (n * (j + 1))) (dg:=a / 2 ^ (n * j) % 2 ^ n) hb (Nat.mod_lt _ (Nat.two_pow_pos n))
   refine hbc ?_
   clear hbc
   have hH:a / 2 ^ (n * (j + 1)) * 2 ^ n + a / 2 ^ (n * j) % 2 ^ n=a / 2 ^ (n * j):=by
    have:a / 2 ^ (n * (j + 1))=a / 2 ^ (n * j) / 2 ^ n:=by rw [Nat.div_div_eq_div_mul,← Nat.pow_add,Nat.mul_add,Nat.mul_one]
    rw [this,Nat.mul_comm];exact Nat.div_add_mod _ _
   rw [hH] at v2 v3
   have hbn:b < 2 ^ n:=by rw [← hn];exact lt_nbits b
   have hr:a / 2 ^ (n * (j + 1)) % b < 2 ^ n:=Nat.lt_trans (Nat.mod_lt _ (by walk_at "l")) hbn
   walk_at "go"
   rotate_left
   ·have:=nbits_le hr;lia
   refine D _ (by decide) v1 ?_
   walk_at "go"
   rotate_left
   ·simp;lia
   refine turn_next (m:=j) (by walk_at "l") ⟨_,qs++[(a / 2 ^ (n * (j + 1)) % b * 2 ^ n + a / 2 ^ (n * j) % 2 ^ n) / b],by walk_at "has", ?_,upd_of nit (upd_self ..),(sub.upd hit).upd hqa,by walk_at "l", ?_,v2⟩
   ·rw [upd_self];simp
   ·rw [List.reverse_append,List.reverse_singleton,List.singleton_append,hqs,show L - j=(L - (j + 1)) + 1 from subS hj]
    simp only [i2d]
    rw [v3,Nat.mul_add_mod_of_lt' v4,Nat.mul_add_div_of_lt' v4]
theorem cs_int_divmod {a b:Int} (D:DivOk b.natAbs (nbits b.natAbs)) {d:Nat} {σ:Store} {Q:V→Store→Prop} (hd:80≤d) (hb:b≠0) (hbs:nbits b.natAbs≤2 ^ 19) (ha:a.natAbs < 2 ^ (2 ^ 19))
  (q:Q (.tup [.int (a.fdiv b),.int (a.fmod b)]) σ):CallV d (.raw (.ref A_int_divmod)) [.int a,.int b] σ Q:=by
 have pos:∀ (a b:Nat) {d:Nat} {σ:Store} {Q:V→Store→Prop},DivOk b (nbits b)→72≤d→1≤b→nbits b≤2 ^ 19→a < 2 ^ (2 ^ 19)→Q (.tup [.int ((a / b:Nat):Int),.int ((a % b:Nat):Int)]) σ→CallV d (.raw (.ref A_int_divmod)) [.int a,.int b] σ Q:=by
  intro a b d σ Q D hd hb hbs ha q
  refine CallV.le (d:=72) ?_ hd
  refine cv_fn' (d:=71) B.ok2 B.f_int_divmod bd_int_divmod ck_int_divmod rfl rfl rfl ?_
  walk_at "start"
  walk_at "go"
  rw [beq_false_of_ne (show b≠0 by walk_at "l")]
  walk_at "go"
  rw [decide_eq_false (show ¬ b < 0 by lia)]
  walk_at "go"
  rw [decide_eq_false (show ¬ a < 0 by lia)]
  walk_at "go"
  refine cs__divmod_pos D (by decide) hb hbs ha ?_
  walk_at "go"
  exact q
 have pos2:∀ (a:Int) (b:Nat) {d:Nat} {σ:Store} {Q:V→Store→Prop},DivOk b (nbits b)→74≤d→1≤b→nbits b≤2 ^ 19→a.natAbs < 2 ^ (2 ^ 19)→Q (.tup [.int (a.fdiv b),.int (a.fmod b)]) σ→CallV d (.raw (.ref A_int_divmod)) [.int a,.int b] σ Q:=by
  intro a b d σ Q D hd hb hbs ha q
  by_cases h0:0≤a
  ·refine bc fun hbc=>?_
   obtain ⟨m,rfl⟩:=Int.eq_ofNat_of_zero_le h0
   refine hbc ?_
   clear hbc
   refine pos m b D (by walk_at "l") hb hbs (by simpa using ha) ?_
   rw [fdivN,fmodN] at q;exact q
  ·refine CallV.le (d:=74) ?_ hd
   refine cv_fn' (d:=73) B.ok2 B.f_int_divmod bd_int_divmod ck_int_divmod rfl rfl rfl ?_
   walk_at "start"
   walk_at "go"
   rw [beq_false_of_ne (show b≠0 by walk_at "l")]
   walk_at "go"
   rw [decide_eq_false (show ¬ b < 0 by lia)]
   walk_at "go"
   rw [decide_eq_true (show a < 0 by lia)]
   walk_at "go"
   refine bc fun hbc=>?_
   obtain ⟨m,hm⟩:=Int.eq_ofNat_of_zero_le (show 0≤-a - 1 by lia)
   refine hbc ?_
   clear hbc
   rw [show Builtin.bitNot a=(m:Int) from hm]
   refine pos m b D (by decide) hb hbs (by walk_at "L") ?_
   walk_at "go"
   have hb':(0:Int) < b:=by lia
   obtain ⟨e1,e2⟩:=(Int.ediv_emod_unique (a:=a) (r:=(b:Int) - ((m % b:Nat):Int) - 1) (q:=-((m / b:Nat):Int) - 1) hb').mpr (by
    have h1:=Nat.div_add_mod m b
    have h2:=Nat.mod_lt m (show 0 < b by walk_at "l")
    have h3:((b * (m / b) + m % b:Nat):Int)=m:=by rw [h1]
    rw [Int.natCast_add,Int.natCast_mul] at h3
    refine ⟨?_,by lia,by lia⟩
    rw [Int.mul_sub,Int.mul_neg];lia)
   rw [Int.fdiv_eq_ediv_of_nonneg _ (by walk_at "l"),Int.fmod_eq_emod_of_nonneg _ (by walk_at "l"),e1,e2] at q
   have e3:(b:Int) + Builtin.bitNot ((m % b:Nat):Int)=(b:Int) - ((m % b:Nat):Int) - 1:=by unfold Builtin.bitNot;walk_at "l"
   rw [e3]
   exact q
 by_cases h0:0 < b
 ·refine bc fun hbc=>?_
  obtain ⟨m,rfl⟩:=Int.eq_ofNat_of_zero_le (Int.le_of_lt h0)
  refine hbc ?_
  clear hbc
  exact CallV.of (pos2 a m D (by walk_at "l") (by lia) hbs ha q)
 ·refine CallV.le (d:=80) ?_ hd
  refine cv_fn' (d:=79) B.ok2 B.f_int_divmod bd_int_divmod ck_int_divmod rfl rfl rfl ?_
  refine bc fun hbc=>?_
  obtain ⟨m,hm⟩:=Int.eq_ofNat_of_zero_le (show 0≤-b by lia)
  refine hbc ?_
  clear hbc
  have hbm:b.natAbs=m:=by lia
  rw [hbm] at D hbs
  walk_at "start"
  walk_at "go"
  rw [beq_false_of_ne hb]
  walk_at "go"
  rw [decide_eq_true (show b < 0 by lia)]
  walk_at "go"
  rw [hm]
  refine pos2 (-a) m D (by decide) (by walk_at "L") hbs (by walk_at "L") ?_
  walk_at "go"
  rw [← hm,Int.neg_fdiv_neg]
  have e:-((-a).fmod (-b))=a.fmod b:=by
   have h1:=Int.mul_fdiv_add_fmod a b
   have h2:=Int.mul_fdiv_add_fmod (-a) (-b)
   rw [Int.neg_fdiv_neg,Int.neg_mul] at h2
   lia
  rw [e];exact q
end
theorem bd__div3n2n:Binds F__div3n2n ["a12", "a3", "b", "b1", "b2", "n"]:=by walk_at "binds"
theorem ck__div3n2n:fnB F__div3n2n ["a12", "a3", "b", "b1", "b2", "n"]=true:=by decide +kernel
theorem mulOk_bits {a b:Nat} (h:nbits a + nbits b≤2 ^ 27):IntMulOk (a:Int) (b:Int):=by
 unfold IntMulOk
 rw [intBits_nat,intBits_nat]
 have:Builtin.Int.intTooBig ((nbits a:Int) + nbits b)=false:=decide_eq_false (by show ¬ (_ > (2:Int) ^ 27);lia)
 rw [this];simp
noncomputable def DivD (D b n:Nat):Prop:=∀ {d:Nat} {σ:Store} {Q:V→Store→Prop} (x:Nat),D≤d→x < b * 2 ^ n→Q (.tup [.int ((x / b:Nat):Int),.int ((x % b:Nat):Int)]) σ→CallV d (.raw (.ref A__div2n1n)) [.int x,.int b,.int n] σ Q
section
theorem div3 {D a12 a3 b n:Nat} (hD:DivD D (b / 2 ^ n) n) (hn:1≤n) (hn2:n≤2 ^ 20) (hb:2 ^ n≤b) (hb2:b < 2 ^ (2 * n)) (ha:a12 < b) (h3:a3 < 2 ^ n) {d:Nat} {σ:Store} {Q:V→Store→Prop} (hd:D + 1≤d)
  (q:Q (.tup [.int (((a12 * 2 ^ n + a3) / b:Nat):Int),.int (((a12 * 2 ^ n + a3) % b:Nat):Int)]) σ):
  CallV d (.raw (.ref A__div3n2n)) [.int a12,.int a3,.int b,.int (b / 2 ^ n:Nat),.int (b % 2 ^ n:Nat),.int n] σ Q:=by
 refine CallV.le (d:=D + 1) ?_ hd
 refine cv_fn' (d:=D) B.ok2 B.f__div3n2n bd__div3n2n ck__div3n2n rfl rfl rfl ?_
 walk_at "start"
 walk_at "go"
 generalize hK:Cont _ _ _=KK
 have tail:∀ (qh rh:Nat) ρ',Has ρ' [("q", .val (.int qh)),("r", .val (.int rh)),("a3", .val (.int a3)),("b", .val (.int b)),("b2", .val (.int (b % 2 ^ n:Nat))),("n", .val (.int n))]→qh * (b / 2 ^ n) + rh=a12→qh < 2 ^ n→a12 * 2 ^ n + a3 < (qh + 1) * b→KK .next ρ' σ:=by
  intro qh rh ρ' hhas e hq hr
  have hor:rh * 2 ^ n ||| a3=rh * 2 ^ n + a3:=by rw [Nat.mul_comm,Nat.two_pow_add_eq_or_of_lt h3]
  have hrh:rh < 2 ^ (2 * n):=by lia
  have hb2n:b % 2 ^ n < 2 ^ n:=Nat.mod_lt _ (Nat.two_pow_pos n)
  have hN:qh * b + (rh * 2 ^ n + a3)=a12 * 2 ^ n + a3 + qh * (b % 2 ^ n):=by
   have h1:qh * b=qh * (b / 2 ^ n) * 2 ^ n + qh * (b % 2 ^ n):=by
    conv=>lhs;rw [← Nat.div_add_mod b (2 ^ n),Nat.mul_add,Nat.mul_comm (2 ^ n),← Nat.mul_assoc]
   rw [← e,Nat.add_mul,h1];walk_at "l"
  subst hK
  refine cont_next (ExP.has ?_ hhas)
  walk_at "go"
  ·refine st_while (fun m ρ₁ σ₁=>σ₁=σ∧∃ qq rr:Int,Has ρ₁ [("q", .val (.int qq)),("r", .val (.int rr)),("b", .val (.int b))]∧qq * b + rr=((a12 * 2 ^ n + a3:Nat):Int)∧rr < b∧-rr≤m) (qh * (b % 2 ^ n)) ⟨rfl,_,_,by walk_at "has", ?_,?_,?_⟩ ?_
   ·rw [hor]
    have:((qh * b:Nat):Int)=(qh:Int) * b:=by simp
    rw [← this];lia
   ·rw [hor,Nat.add_mul] at *;lia
   ·have h0:=Int.natCast_nonneg (rh * 2 ^ n ||| a3);lia
   ·intro m ρ₁ σ₁ hJ3
    refine bc fun hbc=>?_
    obtain ⟨rfl,qq,rr,h1,h2,h3',h4⟩:=hJ3
    refine hbc ?_
    clear hbc
    refine TsP.sub ?_ h1
    walk_at "go"
    refine ite_dec (fun h=>?_) (fun h=>?_)
    ·refine ExP.has ?_ h1
     walk_at "go"
     refine turn_next (m:=m - 1) (by lia) ⟨rfl,_,_,by walk_at "has", ?_,?_,?_⟩
     ·rw [Int.sub_mul];lia
     ·lia
     ·lia
    ·refine cont_next (ExP.has ?_ h1)
     walk_at "go"
     obtain ⟨u1,u2⟩:=(Int.ediv_emod_unique (a:=((a12 * 2 ^ n + a3:Nat):Int)) (b:=(b:Int)) (r:=rr) (q:=qq) (by have:=Nat.two_pow_pos n;lia)).2 ⟨by rw [Int.mul_comm,Int.add_comm];exact h2,by lia,h3'⟩
     rw [← u1,← u2]
     exact q
  ·have:=nbits_le hrh;lia
  ·have h1:=nbits_le hq;have h2:=nbits_le hb2n;exact mulOk_bits (by lia)
 have hb1:a12 / 2 ^ n≤b / 2 ^ n:=Nat.div_le_div_right (Nat.le_of_lt ha)
 refine ite_beq (fun h=>?_) (fun h=>?_)
 ·refine ex_cons (st_assign_swap (names:=["q", "r"]) ?_ (by intro env h1 h2;obtain ⟨⟨_,_,_,_⟩,_,_,_,_,_,_,_,_⟩:=env;dsimp only at h1 h2;subst h1 h2;kernel_rfl) (by intro _;rfl))
  walk_at "go"
  rotate_left
  ·have:nbits 1=1:=by decide
   walk_at "l"
  ·have:=nbits_le (a:=b / 2 ^ n) (k:=n) (by rw [Nat.div_lt_iff_lt_mul (Nat.two_pow_pos n),← Nat.pow_add,← Nat.two_mul];exact hb2);lia
  have hp:=Nat.two_pow_pos n
  have e1:=Nat.div_add_mod a12 (2 ^ n)
  rw [h] at e1
  have e2:((a12:Int) - ((b / 2 ^ n * 2 ^ n:Nat):Int) + ((b / 2 ^ n:Nat):Int))=((a12 % 2 ^ n + b / 2 ^ n:Nat):Int):=by rw [Nat.mul_comm];lia
  rw [e2,Nat.one_mul]
  refine ⟨_,rfl,rfl,?_⟩
  show SwapP _ _ _ [_,_] [_,_]
  walk_at "swp"
  walk_at "go"
  refine tail _ _ _ (by walk_at "has") ?_ (by lia) ?_
  ·have:(2 ^ n - 1) * (b / 2 ^ n) + b / 2 ^ n=2 ^ n * (b / 2 ^ n):=by rw [Nat.sub_mul,Nat.one_mul,Nat.sub_add_cancel (Nat.le_mul_of_pos_left _ hp)]
   walk_at "l"
  ·rw [Nat.sub_add_cancel hp]
   have:(a12 + 1) * 2 ^ n≤b * 2 ^ n:=Nat.mul_le_mul_right _ ha
   rw [Nat.add_mul,Nat.mul_comm b] at this;lia
 ·walk_at "go"
  have hb0:1≤b / 2 ^ n:=by rw [Nat.le_div_iff_mul_le (Nat.two_pow_pos n)];lia
  have hlt:a12 < b / 2 ^ n * 2 ^ n:=by rw [← Nat.div_lt_iff_lt_mul (Nat.two_pow_pos n)];lia
  refine hD _ (Nat.le_refl _) hlt ?_
  walk_at "go"
  refine tail _ _ _ (by walk_at "has") (Nat.div_add_mod' ..) ?_ ?_
  ·rw [Nat.div_lt_iff_lt_mul hb0,Nat.mul_comm];exact hlt
  ·have h1:a12 + 1≤(a12 / (b / 2 ^ n) + 1) * (b / 2 ^ n):=by
    have h1:=Nat.div_add_mod' a12 (b / 2 ^ n)
    have h2:=Nat.mod_lt a12 hb0
    rw [Nat.add_mul];lia
   have h2:(a12 + 1) * 2 ^ n≤(a12 / (b / 2 ^ n) + 1) * (b / 2 ^ n) * 2 ^ n:=Nat.mul_le_mul_right _ h1
   have h3:b / 2 ^ n * 2 ^ n≤b:=Nat.div_mul_le_self _ _
   have h4:=Nat.mul_le_mul_left (a12 / (b / 2 ^ n) + 1) h3
   rw [← Nat.mul_assoc] at h4
   rw [Nat.add_mul] at h2
   walk_at "l"
set_option tactic.hygienic true in
theorem noPy {x b n:Nat} (hn:1≤n) (hb:2 ^ (n - 1)≤b) (hx:nbits x≤n + 4000):Builtin.divisionGoesByPylong (x:Int) (b:Int)=false:=by
 have hb0:b≠0:=by have:=Nat.two_pow_pos (n - 1);lia
 have hl:n - 1≤b.log2:=(Nat.le_log2 hb0).2 hb
 show (_ && decide ((if (x:Int) == 0 then 0 else ((x:Int).natAbs.log2) / 30 + 1) > (if (b:Int) == 0 then 0 else ((b:Int).natAbs.log2) / 30 + 1) + 150))=false
 rw [Bool.and_eq_false_iff]
 refine .inr (decide_eq_false ?_)
 rw [Int.natAbs_natCast,Int.natAbs_natCast,if_neg (c:=((b:Int) == 0)=true) (by simpa using hb0)]
 unfold nbits at hx
 split
 ·lia
 ·rename_i h0
  rw [if_neg (by intro z;subst z;simp at h0)] at hx
  exact Nat.not_lt.mpr (Nat.succ_le_succ (Nat.le_trans (Nat.div_le_div_right (Nat.le_of_succ_le_succ (Nat.le_trans hx (Nat.add_le_add (Nat.le_add_of_sub_le hl) (by decide:4000≤4500))))) (Nat.le_of_eq (Nat.add_mul_div_right _ 150 (by decide:0 < 30)))))
theorem div2 {D b n:Nat} (hn:1≤n) (hn2:n≤2 ^ 19) (hb:2 ^ (n - 1)≤b) (hbn:b < 2 ^ n)
  (hD:4000 < n→DivD D (b * 2 ^ (n % 2) / 2 ^ ((n + n % 2) / 2)) ((n + n % 2) / 2)):DivD (D + 3) b n:=by
 intro d σ Q x hd hx q
 refine CallV.le (d:=D + 3) ?_ hd
 refine cv_fn' (d:=D + 2) B.ok2 B.f__div2n1n bd__div2n1n ck__div2n1n rfl rfl rfl ?_
 have hx2:x < 2 ^ (2 * n):=Nat.lt_of_lt_of_le hx (by rw [Nat.two_mul,Nat.pow_add];exact Nat.mul_le_mul_right _ (Nat.le_of_lt hbn))
 have hbits:=nbits_le hx2
 have hb0:b≠0:=by have:=Nat.two_pow_pos (n - 1);lia
 walk_at "start"
 walk_at "go"
 refine ite_dec (fun h=>?_) (fun h=>?_)
 ·walk_at "go"
  ·exact q
  ·exact hb0
  ·exact noPy hn hb (by lia)
 ·walk_at "go"
  generalize hK:Cont _ _ _=KK
  have tail:∀ p ρ',p=n % 2→Has ρ' [("pad", .val (.int p)),("a", .val (.int (x * 2 ^ p:Nat))),("b", .val (.int (b * 2 ^ p:Nat))),("n", .val (.int (n + p:Nat)))]→KK .next ρ' σ:=by
   intro p ρ' hp hhas
   subst hK
   have hD':DivD D (b * 2 ^ (n % 2) / 2 ^ ((n + n % 2) / 2)) ((n + n % 2) / 2):=hD (by lia)
   rw [← hp] at hD'
   have hp1:p≤1:=by lia
   obtain ⟨h,hN⟩:∃ h,n + p=2 * h:=⟨(n + p) / 2,(Nat.mul_div_cancel' (Nat.dvd_of_mod_eq_zero (by rw [hp,Nat.add_mod,Nat.mod_mod];rcases Nat.mod_two_eq_zero_or_one n with e | e<;>rw [e]))).symm⟩
   have e2:(n + p) / 2=h:=by rw [hN];exact Nat.mul_div_cancel_left _ (by decide)
   have hh:h≤2 ^ 20:=by lia
   rw [e2] at hD'
   have h2p:1≤1 * 2 ^ ((n + p) / 2):=by have:=Nat.two_pow_pos ((n + p) / 2);lia
   have hm:∀ y,y &&& (1 * 2 ^ h - 1)=y % 2 ^ h:=fun y=>by rw [Nat.one_mul,Nat.and_two_pow_sub_one_eq_mod]
   have n1:nbits 1=1:=by decide
   refine cont_next (ExP.has ?_ hhas)
   walk_at "go"
   rotate_left
   ·rw [n1,e2];exact Nat.le_trans (Nat.add_le_add_left hh 1) (by decide)
   rw [e2]
   refine st_assign_swap (names:=["b1", "b2"]) ?_ (by intro env h1 h2;obtain ⟨⟨_,_,_,_⟩,_,_,_,_,_,_,_,_⟩:=env;dsimp only at h1 h2;subst h1 h2;kernel_rfl) (by intro _;rfl)
   walk_at "go"
   rw [hm]
   refine ⟨_,rfl,rfl,?_⟩
   show SwapP _ _ _ [_,_] [_,_]
   walk_at "swp"
   walk_at "go"
   rw [hm]
   have hp2:=Nat.two_pow_pos p
   have hV1:2 ^ h≤b * 2 ^ p:=by
    refine Nat.le_trans (Nat.pow_le_pow_right (by decide) (show h≤n - 1 + p by have:n - 1 + p + 1=2 * h:=(by rw [Nat.add_right_comm,Nat.sub_add_cancel hn,hN]);lia)) ?_
    rw [Nat.pow_add];exact Nat.mul_le_mul_right _ hb
   have hV2:b * 2 ^ p < 2 ^ (2 * h):=by rw [← hN,Nat.pow_add];exact Nat.mul_lt_mul_of_pos_right hbn hp2
   have hA:x * 2 ^ p / 2 ^ (n + p) < b * 2 ^ p:=by
    rw [Nat.div_lt_iff_lt_mul (Nat.two_pow_pos _)]
    refine Nat.lt_of_lt_of_le (Nat.mul_lt_mul_of_pos_right hx hp2) ?_
    rw [Nat.mul_right_comm]
    exact Nat.mul_le_mul_left _ (Nat.pow_le_pow_right (by decide) (Nat.le_add_right _ _))
   have e3:x * 2 ^ p / 2 ^ (n + p) * 2 ^ h + x * 2 ^ p / 2 ^ h % 2 ^ h=x * 2 ^ p / 2 ^ h:=by
    rw [hN,Nat.two_mul,Nat.pow_add,← Nat.div_div_eq_div_mul,Nat.div_add_mod']
   have hmod:x * 2 ^ p / 2 ^ h % (b * 2 ^ p) < b * 2 ^ p:=Nat.mod_lt _ (by walk_at "l")
   refine div3 hD' (by lia) hh hV1 hV2 hA (Nat.mod_lt _ (Nat.two_pow_pos h)) (Nat.le_succ _) ?_
   rw [e3]
   walk_at "go"
   rw [hm]
   refine div3 hD' (by lia) hh hV1 hV2 hmod (Nat.mod_lt _ (Nat.two_pow_pos h)) (Nat.le_succ _) ?_
   walk_at "go"
   refine bc fun hbc=>?_
   obtain ⟨v1,v2,v3,v4⟩:=dv_step (b:=b * 2 ^ p) (n:=h) (h:=x * 2 ^ p / 2 ^ h) (dg:=x * 2 ^ p % 2 ^ h) (by lia) (Nat.mod_lt _ (Nat.two_pow_pos h))
   refine hbc ?_
   clear hbc
   rw [Nat.div_add_mod'] at v2 v3
   rw [Nat.mul_mod_mul_right] at v2
   rw [Nat.mul_div_mul_right _ _ hp2] at v3
   rw [v2]
   have hq1:x * 2 ^ p / 2 ^ h / (b * 2 ^ p) < 2 ^ (2 * n):=Nat.lt_of_le_of_lt (by rw [v3];have:=Nat.le_mul_of_pos_right (x * 2 ^ p / 2 ^ h / (b * 2 ^ p)) (Nat.two_pow_pos h);lia) (Nat.lt_of_le_of_lt (Nat.div_le_self x b) hx2)
   have hq2:=nbits_le hq1
   have hor:x * 2 ^ p / 2 ^ h / (b * 2 ^ p) * 2 ^ h ||| (x * 2 ^ p / 2 ^ h % (b * 2 ^ p) * 2 ^ h + x * 2 ^ p % 2 ^ h) / (b * 2 ^ p)=x / b:=by
    rw [v3,Nat.mul_comm _ (2 ^ h),Nat.two_pow_add_eq_or_of_lt v4]
   rcases (show p=0∨p=1 by lia) with rfl | rfl
   ·refine ifn (by decide) ?_
    walk_at "go"
    ·rw [hor,Nat.pow_zero,Nat.mul_one];exact q
    ·exact Nat.le_trans (Nat.add_le_add hq2 hh) (by lia)
   ·refine ifp (by decide) ?_
    walk_at "go"
    ·rw [hor,Nat.pow_one,Nat.mul_div_cancel _ (by decide)];exact q
    ·exact Nat.le_trans (Nat.add_le_add hq2 hh) (by lia)
  by_cases hpad:n % 2=0
  ·refine ifn (by rw [hpad];decide) ?_
   refine ex_nil ?_
   exact tail 0 _ hpad.symm (by rw [hpad];simp only [Nat.pow_zero,Nat.mul_one,Nat.add_zero];walk_at "has")
  ·have h1:n % 2=1:=by lia
   refine ifp (by rw [h1];decide) ?_
   walk_at "go"
   ·exact tail 1 _ h1.symm (by rw [h1];walk_at "has")
   ·lia
   ·have:=nbits_le hbn;lia
end
theorem divD:∀ L {b n:Nat},1≤n→n≤2 ^ 19→2 ^ (n - 1)≤b→b < 2 ^ n→n≤4000 * 2 ^ L→DivD (3 + 4 * L) b n:=by
 intro L
 induction L with
 | zero=>intro b n h1 h2 h3 h4 h5;exact div2 (D:=0) h1 h2 h3 h4 fun h=>absurd h (by walk_at "l")
 | succ L ih=>
  intro b n h1 h2 h3 h4 h5
  refine div2 (D:=3 + 4 * L + 1) h1 h2 h3 h4 fun h=>?_
  obtain ⟨p,hp⟩:∃ p,n % 2=p:=⟨_,rfl⟩
  obtain ⟨k,hk⟩:∃ k,(n + p) / 2=k:=⟨_,rfl⟩
  rw [hp,hk]
  have hp1:p≤1:=by lia
  have hN:n + p=k + k:=by lia
  have hV1:2 ^ (k - 1) * 2 ^ k≤b * 2 ^ p:=by
   rw [← Nat.pow_add,show k - 1 + k=n - 1 + p from Nat.add_right_cancel (m:=1) (by rw [Nat.add_right_comm,Nat.sub_add_cancel (Nat.pos_of_ne_zero fun e=>absurd hN (by subst e;exact Nat.ne_of_gt (Nat.add_pos_left h1 p))),Nat.add_right_comm,Nat.sub_add_cancel h1,hN]),Nat.pow_add];exact Nat.mul_le_mul_right _ h3
  have hV2:b * 2 ^ p < 2 ^ k * 2 ^ k:=by rw [← Nat.pow_add,← hN,Nat.pow_add];exact Nat.mul_lt_mul_of_pos_right h4 (Nat.two_pow_pos p)
  have hpw:2 ^ (L + 1)=2 * 2 ^ L:=by rw [Nat.pow_succ,Nat.mul_comm]
  have key:DivD (3 + 4 * L) (b * 2 ^ p / 2 ^ k) k:=ih (n:=k) (b:=b * 2 ^ p / 2 ^ k) (by lia) (by lia) (by rw [Nat.le_div_iff_mul_le (Nat.two_pow_pos k)];exact hV1) (by rw [Nat.div_lt_iff_lt_mul (Nat.two_pow_pos k)];exact hV2) (by lia)
  intro d σ Q x hd hx q
  exact key x (Nat.le_trans (Nat.le_succ _) hd) hx q
theorem divOk_big {b n:Nat} (h1:1≤n) (h2:n≤2 ^ 19) (h3:2 ^ (n - 1)≤b) (h4:b < 2 ^ n):DivOk b n:=fun x hd=>divD 8 h1 h2 h3 h4 (by walk_at "l") x (by walk_at "l")
section
variable {σ:Store} {d:Nat} {Q:V→Store→Prop}
noncomputable def hidL:List Nat:=[173,847,6150,6155,6156,6157,8203,8204,8205,8288,65279,65024,65025,65026,65027,65028,65029,65030,65031,65032,65033,65034,65035,65036,65037,65038,65039]
noncomputable def b1 (c:Nat):Bool:=hidL.contains c
noncomputable def setEs:Data→List (Int×Value) | .set es _ _=>es.toList | _=>[]
noncomputable def setPairs (es:List (Int×Value)):List (Int×Tok):=es.map fun e=>match e.2 with | .int k t=>(k,t) | _=>(0,0)
theorem b1_es:∀ P:Params,setEs (b1O P).data=(setPairs (setEs (b1O P).data)).map fun p=>(hashInt p.1,.int p.1 p.2):=by intro P;kernel_rfl
theorem b1_in:∀ P:Params,(((setPairs (setEs (b1O P).data)).map (·.1)).all (fun k=>(hidL.map Int.ofNat).contains k) && hidL.all (fun c=>((setPairs (setEs (b1O P).data)).map (·.1)).contains (Int.ofNat c)))=true:=by intro P;kernel_rfl
theorem b1_set:C.h1.SetOf (intKind C.prog C.w) A_b1 (fun k=>((setPairs (setEs (b1O C.w.params).data)).map (·.1)).contains k) 27:=by
 have e:=b1_es C.w.params
 refine ⟨_,_,_,_,B.at (b1_at C.w.params),⟨rfl,rfl,rfl⟩,rfl,?_,?_,by decide,by rfl,rfl⟩
 ·intro x hx
  have hx:x∈setEs (b1O C.w.params).data:=hx
  rw [e] at hx
  refine bc fun hbc=>?_
  obtain ⟨p,hp,rfl⟩:=List.mem_map.mp hx
  refine hbc ?_
  clear hbc
  exact ⟨⟨p.1,by simp [intKind,Value.isInt],rfl⟩,rfl⟩
 ·intro k
  rw [List.contains_iff_mem]
  constructor
  ·intro h
   refine bc fun hbc=>?_
   obtain ⟨p,hp,rfl⟩:=List.mem_map.mp h
   refine hbc ?_
   clear hbc
   exact ⟨(hashInt p.1,.int p.1 p.2),by show _∈setEs (b1O C.w.params).data;rw [e];exact List.mem_map.mpr ⟨p,hp,rfl⟩,by simp [intKind,Value.isInt]⟩
  ·intro hJ0
   refine bc fun hbc=>?_
   obtain ⟨x,hx,hk⟩:=hJ0
   refine hbc ?_
   clear hbc
   have hx:x∈setEs (b1O C.w.params).data:=hx
   rw [e] at hx
   refine bc fun hbc=>?_
   obtain ⟨p,hp,rfl⟩:=List.mem_map.mp hx
   refine hbc ?_
   clear hbc
   have:p.1=k:=by simpa [intKind,Value.isInt] using hk
   rw [← this];exact List.mem_map.mpr ⟨p,hp,rfl⟩
theorem b1_eq (P:Params) (c:Nat):((setPairs (setEs (b1O P).data)).map (·.1)).contains (c:Int)=b1 c:=by
 have h:=b1_in P
 rw [Bool.and_eq_true,List.all_eq_true,List.all_eq_true] at h
 unfold b1
 apply Bool.eq_iff_iff.mpr
 rw [List.contains_iff_mem,List.contains_iff_mem]
 constructor
 ·intro m
  have:=h.1 _ m
  rw [List.contains_iff_mem] at this
  refine bc fun hbc=>?_
  obtain ⟨x,hx,e⟩:=List.mem_map.mp this
  refine hbc ?_
  clear hbc
  have:x=c:=by have:(x:Int)=c:=e;lia
  rw [← this];exact hx
 ·intro m
  have:=h.2 _ m
  rw [List.contains_iff_mem] at this
  exact this
theorem cmp_inB1 {c:Nat} (q:Q (.bool (b1 c)) σ):M2 d (compareOp .In) (.int (c:Int)) (.raw (.ref A_b1)) σ Q:=fun A s x y hA hi hx hy QM hq=>by
 cases hx;cases hy
 have hS:=b1_set
 refine bc fun hbc=>?_
 obtain ⟨o,es,ep,t,ho,r⟩:=hS
 refine hbc ?_
 clear hbc
 refine wpAny_inSet_of (knd:=intKind C.prog C.w) (k:=(c:Int)) (by simp [intKind,Value.isInt]) rfl ⟨o,es,ep,t,hi.base _ o ho B.nt,r⟩ ?_
 rw [b1_eq]
 exact hq _ _ _ _ q hi.toks .refl (.bool _)
end
theorem bd_in_table_b1:Binds F_in_table_b1 ["code"]:=by walk_at "binds"
theorem ck_in_table_b1:fnB F_in_table_b1 ["code"]=true:=by decide +kernel
theorem bd_map_table_b3:Binds F_map_table_b3 ["code"]:=by walk_at "binds"
theorem ck_map_table_b3:fnB F_map_table_b3 ["code"]=true:=by decide +kernel
theorem entsA_find (k:Int):∀ (l:List (Int×Str)) (t:Nat),match l.lookup k with
  | some v=>∃ e u,(entsA t l).find? (fun e=>Value.isInt k e.key)=some e∧e.val=.str v u
  | none=>(entsA t l).find? (fun e=>Value.isInt k e.key)=none
 | [],t=>rfl
 | (j,v) :: r,t=>by
  have ih:=entsA_find k r (t + 3)
  rw [List.lookup_cons]
  by_cases h:k=j
  ·subst h
   rw [beq_self_eq_true]
   refine ⟨⟨hashInt k,.int k t,.str v (t + 1)⟩,t + 1,?_,rfl⟩
   unfold entsA
   rw [List.find?_cons]
   simp [Value.isInt]
  ·have e1:(k == j)=false:=by simpa using h
   have e2:Value.isInt k (.int j t)=false:=by simp [Value.isInt];exact fun q=>h q.symm
   rw [e1]
   unfold entsA
   simp only [List.find?_cons,e2]
   exact ih
theorem entsB_find (k:Int):∀ (l:List (Int×Str)) (t:Nat),match l.lookup k with
  | some v=>∃ e u,(entsB t l).find? (fun e=>Value.isInt k e.key)=some e∧e.val=.str v u
  | none=>(entsB t l).find? (fun e=>Value.isInt k e.key)=none
 | [],t=>rfl
 | (j,v) :: r,t=>by
  have ih:=entsB_find k r (t + 2)
  rw [List.lookup_cons]
  by_cases h:k=j
  ·subst h
   rw [beq_self_eq_true]
   refine ⟨⟨hashInt k,.int k t,.str v (t + 1)⟩,t + 1,?_,rfl⟩
   unfold entsB
   rw [List.find?_cons]
   simp [Value.isInt]
  ·have e1:(k == j)=false:=by simpa using h
   have e2:Value.isInt k (.int j t)=false:=by simp [Value.isInt];exact fun q=>h q.symm
   rw [e1]
   unfold entsB
   simp only [List.find?_cons,e2]
   exact ih
theorem entsA_keys:∀ (l:List (Int×Str)) (t:Nat),∀ e∈entsA t l,∃ k,Value.isInt k e.key=true∧e.hash=hashInt k
 | [],t,e,h=>by cases h
 | (j,v) :: r,t,e,h=>by
  rcases List.mem_cons.mp h with rfl | h
  ·exact ⟨j,by simp [Value.isInt],rfl⟩
  ·exact entsA_keys r _ e h
theorem entsB_keys:∀ (l:List (Int×Str)) (t:Nat),∀ e∈entsB t l,∃ k,Value.isInt k e.key=true∧e.hash=hashInt k
 | [],t,e,h=>by cases h
 | (j,v) :: r,t,e,h=>by
  rcases List.mem_cons.mp h with rfl | h
  ·exact ⟨j,by simp [Value.isInt],rfl⟩
  ·exact entsB_keys r _ e h
theorem lookup_app {β:Type} {x:Int}:∀ {l l':List (Int×β)},(l++l').lookup x=(l.lookup x).or (l'.lookup x)
 | [],l'=>by simp
 | (n,v) :: l,l'=>by
  simp only [List.cons_append,List.lookup_cons]
  cases hx:x == n<;>simp [lookup_app]
noncomputable def dEs:Data→List DictEntry | .dict es _=>es.toList | _=>[]
theorem b3_find (k:Int):match pairs.lookup k with
  | some v=>∃ e u,(dEs mainD.data).find? (fun e=>Value.isInt k e.key)=some e∧e.val=.str v u
  | none=>(dEs mainD.data).find? (fun e=>Value.isInt k e.key)=none:=by
 obtain ⟨t1,t2,hE⟩:∃ t1 t2,dEs mainD.data=entsA t1 (pC0++pCs.flatten)++entsB t2 pL:=⟨_,_,rfl⟩
 rw [hE,pairs_cut,← List.append_assoc,lookup_app]
 have h1:=entsA_find k (pC0++pCs.flatten) t1
 have h2:=entsB_find k pL t2
 generalize (pC0++pCs.flatten).lookup k=r1 at h1 ⊢
 generalize pL.lookup k=r2 at h2 ⊢
 rw [List.find?_append]
 cases r1 with
 | some v=>
  refine bc fun hbc=>?_
  obtain ⟨e,u,g,hv⟩:=h1
  refine hbc ?_
  clear hbc
  exact ⟨e,u,by rw [g];rfl,hv⟩
 | none=>
  have h1:(entsA t1 (pC0++pCs.flatten)).find? (fun e=>Value.isInt k e.key)=none:=h1
  rw [h1]
  cases r2 with
  | some v=>exact h2
  | none=>exact h2
theorem b3_keys:∀ e∈dEs mainD.data,∃ k,Value.isInt k e.key=true∧e.hash=hashInt k:=by
 obtain ⟨t1,t2,hE⟩:∃ t1 t2,dEs mainD.data=entsA t1 (pC0++pCs.flatten)++entsB t2 pL:=⟨_,_,rfl⟩
 rw [hE]
 intro e he
 rcases List.mem_append.mp he with h | h
 ·exact entsA_keys _ _ e h
 ·exact entsB_keys _ _ e h
noncomputable def b3get (c:Nat):Option (List Nat):=(pairs.lookup (c:Int)).map (·.cps.toList)
noncomputable def lowerL (x:List Nat):List Nat:=(Txt.lower ⟨x.toArray⟩).cps.toList
noncomputable def mapb3 (c:Nat):List Nat:=(b3get c).getD (lowerL [c])
section
variable {K:Kx} {ρ:Fm} {σ:Store} {d:Nat} {Q:V→Store→Prop}
theorem cs_in_table_b1 (hd:4≤d) {c:Nat} (q:Q (.bool (b1 c)) σ):CallV d (.raw (.ref A_in_table_b1)) [.str [c]] σ Q:=by
 refine CallV.le (d:=4) ?_ hd
 refine cv_fn' (d:=3) B.ok2 B.f_in_table_b1 bd_in_table_b1 ck_in_table_b1 rfl rfl rfl ?_
 walk_at "start"
 walk_at "go"
 refine cmp_inB1 ?_
 walk_at "go"
 exact q
theorem ev_methB {T id:String} {o:Expr} {name:Str} {apos pos:Pos} {args:List Expr} (m:Meth T name id) {a:Addr} {ob:Obj} (ho:C.h1.get? a=some ob) (ht:a∉C.tabs) (hc:ob.cls=.type T) (hdi:ob.dict=none)
  (h:EvP K ρ σ o (fun ov σ₁=>ov=.raw (.ref a)∧EvsP K ρ args σ₁ (fun pl σ₂=>CallV K.d (.raw (.builtin id)) (.raw (.ref a) :: pl) σ₂ Q)))
  (hbase:autoParam (∀ env,attributeBase o name env (eval o env)=eval o env) aI)
  (hfew:autoParam (∀ env,((backTo pos (starEach args env)).all (fun x=>!x.1) && (backToKw pos (keywordEach [] env)).all (fun x=>x.1.isSome)
   && decide (args.length + ([]:List Keyword).length + (if ([]:List Keyword).isEmpty then 0 else 1) < 30))=true) aI)
  (hline:autoParam ((apos.endLine == pos.line)=true) aR)
  (hse:autoParam (∀ env,backTo pos (starEach args env)=args.map fun e=>(false,eval e env)) aI):EvP K ρ σ (.Call (.Attribute o name apos) args [] pos) Q:=fun A env s ha hr hi QM hq=>
 wpAny_Call_method (hbase env) (hfew env) hline m.pa m.slot m.ty (h A env s ha hr hi _ fun v pv σ₁ s₁ h₁ i₁ e₁ r₁=>by
  refine bc fun hbc=>?_
  obtain ⟨rfl,h₁⟩:=h₁
  refine hbc ?_
  clear hbc
  cases r₁
  have hb:=i₁.base a ob ho ht
  refine ⟨⟨ob,hb,hc⟩,fun b e=>(by cases e;exact ⟨ob,hb,hdi⟩),?_⟩
  refine callWith_ (fv:=.raw (.builtin id)) (pre:=[.raw (.ref a)]) (hse env) ?_ ha (hr.mono e₁) i₁ (.raw _) (.cons (.raw _) .nil) fun v pv σ₂ s₂ q i₂ e₂ r₂=>hq v pv σ₂ s₂ q i₂ (e₁.trans e₂) r₂
  exact EvsP.mono (fun pl σ' q=>⟨keep_builtin,q⟩) h₁)
set_option tactic.hygienic true in
theorem bi_get3 {c:Nat} (q1:∀ x,b3get c=some x→Q (.str x) σ) (q2:b3get c=none→Q .none σ):CallV d (.raw (.builtin "dict.get")) [.raw (.ref A_b3),.int (c:Int)] σ Q:=fun A s f l ha hi hf hr QM hq=>by
 refine bc fun hbc=>?_
 obtain ⟨x,y,rfl,hx,hy⟩:=rels2 hr
 refine hbc ?_
 clear hbc
 cases hf;cases hx;cases hy
 rename_i t
 have ho:=hi.base _ _ (B.at (b3_at C.w.params)) B.nt
 have hk:(intKind C.prog C.w).is (c:Int) (.int (c:Int) t)=true:=by simp [intKind,Value.isInt]
 have hf:=b3_find (c:Int)
 refine call_meetsIn F.slot_dict_get ⟨_,ho,rfl⟩ F.entry_dict_get (F.args_dict_get_2 _ _) (meets_dict_get (intKind C.prog C.w) A_b3 (k:=(c:Int)) hk (by rfl)) ⟨fun k=>findBy Value.isInt ⟨dEs mainD.data⟩ k,?_,?_⟩
 ·exact ⟨_,_,_,ho,⟨rfl,rfl,rfl⟩,rfl,fun e he=>b3_keys e (Array.mem_toList_iff.mpr he),fun k=>rfl⟩
 ·have:findBy Value.isInt ⟨dEs mainD.data⟩ (c:Int)=((dEs mainD.data).find? fun e=>Value.isInt c e.key).map (·.val):=by unfold findBy;simp
  show wants QM Bot (.ok (.ret ((findBy Value.isInt ⟨dEs mainD.data⟩ (c:Int)).getD .none))) _
  rw [this]
  unfold b3get at q1 q2
  cases hp:pairs.lookup (c:Int) with
  | some v=>
   rw [hp] at hf q1
   refine bc fun hbc=>?_
   obtain ⟨e,u,g,hv⟩:=hf
   refine hbc ?_
   clear hbc
   rw [g]
   show QM e.val _
   rw [hv]
   exact hq _ _ _ _ (q1 _ rfl) hi.toks .refl (.strOf rfl)
  | none=>
   rw [hp] at hf q2
   have hf:(dEs mainD.data).find? (fun e=>Value.isInt c e.key)=none:=hf
   rw [hf]
   exact hq _ _ _ _ (q2 rfl) hi.toks .refl .none
theorem meth_get:Meth "dict" "get" "dict.get" := ⟨F.plainAttrs_dict,F.slot_dict_get,F.type_dict_get⟩
theorem cs_map_table_b3 (hd:4≤d) {c:Nat} (q:Q (.str (mapb3 c)) σ):CallV d (.raw (.ref A_map_table_b3)) [.str [c]] σ Q:=by
 refine CallV.le (d:=4) ?_ hd
 refine cv_fn' (d:=3) B.ok2 B.f_map_table_b3 bd_map_table_b3 ck_map_table_b3 rfl rfl rfl ?_
 walk_at "start"
 walk_at "go"
 refine ev_methB meth_get (B.at (b3_at C.w.params)) B.nt rfl rfl ?_
 walk_at "go"
 refine ⟨rfl,?_⟩
 walk_at "go"
 refine bi_get3 (fun x hx=>?_) (fun hx=>?_)
 ·walk_at "go"
  unfold mapb3 at q;rw [hx] at q;exact q
 ·walk_at "go"
  ·unfold mapb3 lowerL at q;rw [hx] at q;exact q
  ·simp
end
theorem bd_lam1:Binds R_lam1 ["size"]:=by walk_at "binds"
theorem ck_lam1:fnL R_lam1 ["size"] ["left"]=true:=by decide +kernel
theorem bd_m__read_char:Binds F_m__read_char ["self"]:=by walk_at "binds"
theorem ck_m__read_char:fnB F_m__read_char ["self"]=true:=by decide +kernel
theorem bd_m_push_token:Binds F_m_push_token ["self", "token"]:=by walk_at "binds"
theorem ck_m_push_token:fnB F_m_push_token ["self", "token"]=true:=by decide +kernel
theorem bd_m_get_token:Binds F_m_get_token ["self"]:=by walk_at "binds"
theorem ck_m_get_token:fnB F_m_get_token ["self"]=true:=by decide +kernel
theorem bd_m___init__:Binds F_m___init__ ["self", "fp"]:=by walk_at "binds"
theorem ck_m___init__:fnB F_m___init__ ["self", "fp"]=true:=by decide +kernel
structure LexA where
 x:Addr
 dx:Addr
 st:Addr
 dst:Addr
 rd:Addr
 cl:Addr
 lf:Addr
 pb:Addr
noncomputable def wsL:List Nat:=[10,9,13,32]
noncomputable abbrev lexAt (A:LexA) (n:Nat):List (Str×V):=[("lineno", .int n),("instream", .loc A.st),("whitespace", .str wsL),("pushback", .loc A.pb)]
noncomputable abbrev chrs (l:List Nat):List V:=l.map fun c=>.str [c]
structure Lex (A:LexA) (σ:Store) (l:List Nat) (n:Nat) (p:List (List Nat)):Prop where
 hx:σ A.x=some (.inst A_cls A.dx)
 hd:σ A.dx=some (.ns (lexAt A n))
 hst:σ A.st=some (.func R_lam0 [] (some A.dst))
 hdst:σ A.dst=some (.ns [("read", .loc A.rd)])
 hrd:σ A.rd=some (.func R_lam1 [("left", A.cl)] none)
 hcl:σ A.cl=some (.cell (some (.loc A.lf)))
 hlf:σ A.lf=some (.list (chrs l))
 hpb:σ A.pb=some (.list (p.map V.str))
 ne:A.lf≠A.pb
noncomputable def lexU (A:LexA) (σ:Store) (l:List Nat) (n:Nat) (p:List (List Nat)):Store:=upd (upd (upd σ A.lf (some (.list (chrs l)))) A.dx (some (.ns (lexAt A n)))) A.pb (some (.list (p.map V.str)))
theorem ne_of_st {σ:Store} {a b:Addr} {p q:PObj} (h1:σ a=some p) (h2:σ b=some q) (h:p≠q):a≠b:=fun e=>h (by rw [e,h2] at h1;exact (Option.some.inj h1).symm)
theorem Lex.set {A:LexA} {σ:Store} {l l':List Nat} {n n':Nat} {p p':List (List Nat)} (h:Lex A σ l n p):Lex A (lexU A σ l' n' p') l' n' p':=by
 have e1:A.x≠A.lf:=ne_of_st h.hx h.hlf (by intro e;cases e)
 have e2:A.x≠A.dx:=ne_of_st h.hx h.hd (by intro e;cases e)
 have e3:A.x≠A.pb:=ne_of_st h.hx h.hpb (by intro e;cases e)
 have d3:A.dx≠A.pb:=ne_of_st h.hd h.hpb (by intro e;cases e)
 have s1:A.st≠A.lf:=ne_of_st h.hst h.hlf (by intro e;cases e)
 have s2:A.st≠A.dx:=ne_of_st h.hst h.hd (by intro e;cases e)
 have s3:A.st≠A.pb:=ne_of_st h.hst h.hpb (by intro e;cases e)
 have t1:A.dst≠A.lf:=ne_of_st h.hdst h.hlf (by intro e;cases e)
 have t2:A.dst≠A.dx:=ne_of_st h.hdst h.hd (by intro e;cases e)
 have t3:A.dst≠A.pb:=ne_of_st h.hdst h.hpb (by intro e;cases e)
 have r1:A.rd≠A.lf:=ne_of_st h.hrd h.hlf (by intro e;cases e)
 have r2:A.rd≠A.dx:=ne_of_st h.hrd h.hd (by intro e;cases e)
 have r3:A.rd≠A.pb:=ne_of_st h.hrd h.hpb (by intro e;cases e)
 have c1:A.cl≠A.lf:=ne_of_st h.hcl h.hlf (by intro e;cases e)
 have c2:A.cl≠A.dx:=ne_of_st h.hcl h.hd (by intro e;cases e)
 have c3:A.cl≠A.pb:=ne_of_st h.hcl h.hpb (by intro e;cases e)
 have l2:A.lf≠A.dx:=ne_of_st h.hlf h.hd (by intro e;cases e)
 exact ⟨upd_of e3 (upd_of e2 (upd_of e1 h.hx)),upd_of d3 (upd_self ..),upd_of s3 (upd_of s2 (upd_of s1 h.hst)),upd_of t3 (upd_of t2 (upd_of t1 h.hdst)),upd_of r3 (upd_of r2 (upd_of r1 h.hrd)),upd_of c3 (upd_of c2 (upd_of c1 h.hcl)),upd_of h.ne (upd_of l2 (upd_self ..)),upd_self ..,h.ne⟩
set_option tactic.hygienic true in
theorem upd_same {σ:Store} {a:Addr} {o:Option PObj} (h:σ a=o):upd σ a o=σ:=by
 funext b;unfold upd;split
 ·rename_i e;rw [e,h]
 ·rfl
theorem Lex.same {A:LexA} {σ:Store} {l:List Nat} {n:Nat} {p:List (List Nat)} (h:Lex A σ l n p):lexU A σ l n p=σ:=by
 unfold lexU
 rw [upd_same h.hlf,upd_same h.hd,upd_same h.hpb]
theorem Lex.twice {A:LexA} {σ:Store} {l l₀ l':List Nat} {n n₀ n':Nat} {p p₀ p':List (List Nat)} (h:Lex A σ l₀ n₀ p₀):lexU A (lexU A σ l n p) l' n' p'=lexU A σ l' n' p':=by
 have d3:A.dx≠A.pb:=ne_of_st h.hd h.hpb (by intro e;cases e)
 have l2:A.lf≠A.dx:=ne_of_st h.hlf h.hd (by intro e;cases e)
 have l3:=h.ne
 unfold lexU
 funext c;unfold upd
 by_cases e1:c=A.lf<;>by_cases e2:c=A.dx<;>by_cases e3:c=A.pb<;>simp [e1,e2,e3]
theorem Lex.lf {A:LexA} {σ:Store} {l l':List Nat} {n:Nat} {p:List (List Nat)} (h:Lex A σ l n p):upd σ A.lf (some (.list (chrs l')))=lexU A σ l' n p:=by
 have l2:A.lf≠A.dx:=ne_of_st h.hlf h.hd (by intro e;cases e)
 unfold lexU
 rw [upd_same (σ:=upd σ A.lf _) (a:=A.dx) (upd_of (Ne.symm l2) h.hd),upd_same (upd_of (Ne.symm h.ne) h.hpb)]
theorem Lex.dx {A:LexA} {σ:Store} {l:List Nat} {n n':Nat} {p:List (List Nat)} (h:Lex A σ l n p):upd σ A.dx (some (.ns (lexAt A n')))=lexU A σ l n' p:=by
 have d3:A.dx≠A.pb:=ne_of_st h.hd h.hpb (by intro e;cases e)
 unfold lexU
 rw [upd_same h.hlf,upd_same (a:=A.pb) (upd_of (Ne.symm d3) h.hpb)]
theorem Lex.pb' {A:LexA} {σ:Store} {l:List Nat} {n:Nat} {p p':List (List Nat)} (h:Lex A σ l n p):upd σ A.pb (some (.list (p'.map V.str)))=lexU A σ l n p':=by
 unfold lexU
 rw [upd_same h.hlf,upd_same h.hd]
section
variable {K:Kx} {ρ:Fm} {σ:Store} {d:Nat} {Q:V→Store→Prop}
theorem handed_int {h:Heap} {v:Value} {i:Int} (r:Rel σ h v (.int i)):handedIn v=true:=by cases r;rfl
theorem handed_str {h:Heap} {v:Value} {i:List Nat} (r:Rel σ h v (.str i)):handedIn v=true:=by cases r;rfl
theorem handed_loc {h:Heap} {v:Value} {i:Addr} (r:Rel σ h v (.loc i)):handedIn v=true:=by cases r;rfl
theorem lex_at {A:LexA} {l:List Nat} {n:Nat} {p:List (List Nat)} (h:Lex A σ l n p) {name:Str} {pv:V} {expr:Bool} (hl:(lexAt A n).lookup name=some pv) (hf:findIn (FR C.w.params) (.ref A_cls) name=some none) (hv:∀ v h,Rel σ h v pv→handedIn v=true) (q:Q pv σ):
  M1 d (fun o=>getAttr o name expr) (.loc A.x) σ Q:=by
 have e:=fr_cls C.w.params
 simp only [Prod.mk.injEq] at e
 exact get_inst B.fr h.hx h.hd hl e.1 e.2.1 hf hv q
theorem lex_lineno {A:LexA} {l:List Nat} {n:Nat} {p:List (List Nat)} (h:Lex A σ l n p) {expr:Bool} (q:Q (.int n) σ):M1 d (fun o=>getAttr o "lineno" expr) (.loc A.x) σ Q:=
 lex_at h (by rfl) (Prod.mk.inj (fr_lineno C.w.params)).1 (fun _ _ r=>handed_int r) q
theorem lex_instream {A:LexA} {l:List Nat} {n:Nat} {p:List (List Nat)} (h:Lex A σ l n p) {expr:Bool} (q:Q (.loc A.st) σ):M1 d (fun o=>getAttr o "instream" expr) (.loc A.x) σ Q:=
 lex_at h (by rfl) (Prod.mk.inj (fr_instream C.w.params)).1 (fun _ _ r=>handed_loc r) q
theorem lex_whitespace {A:LexA} {l:List Nat} {n:Nat} {p:List (List Nat)} (h:Lex A σ l n p) {expr:Bool} (q:Q (.str wsL) σ):M1 d (fun o=>getAttr o "whitespace" expr) (.loc A.x) σ Q:=
 lex_at h (by rfl) (Prod.mk.inj (fr_whitespace C.w.params)).1 (fun _ _ r=>handed_str r) q
theorem lex_pushback {A:LexA} {l:List Nat} {n:Nat} {p:List (List Nat)} (h:Lex A σ l n p) {expr:Bool} (q:Q (.loc A.pb) σ):M1 d (fun o=>getAttr o "pushback" expr) (.loc A.x) σ Q:=
 lex_at h (by rfl) (Prod.mk.inj (fr_pushback C.w.params)).1 (fun _ _ r=>handed_loc r) q
open PySem.Spec PySem.SeqAt in
theorem dats_strs:∀ xs:List (List Nat),Dats σ (xs.map V.str) (xs.map fun x=>PySem.PyData.str ⟨x.toArray⟩)
 | []=>.nil
 | x :: xs=>.cons (.str x) (dats_strs xs)
noncomputable def OkS (x:List Nat):Prop:=PyData.strOk ⟨x.toArray⟩=true
open PySem.Spec PySem.SeqAt in
theorem lay_strs:∀ xs:List (List Nat),(∀ x∈xs,OkS x)→PyData.canLayAll0 (xs.map fun x=>PySem.PyData.str ⟨x.toArray⟩)=true∧PyData.depthAll (xs.map fun x=>PySem.PyData.str ⟨x.toArray⟩)=0
 | [],_=>⟨rfl,rfl⟩
 | x :: xs,h=>by
  refine bc fun hbc=>?_
  obtain ⟨h1,h2⟩:=lay_strs xs fun y hy=>h y (List.mem_cons_of_mem _ hy)
  refine hbc ?_
  clear hbc
  constructor
  ·simp only [List.map_cons,PyData.canLayAll0,h1,Bool.and_true];exact h x List.mem_cons_self
  ·simp only [List.map_cons,PyData.depthAll,h2];rfl
open PySem.Spec PySem.SeqAt in
theorem shaped_strs (xs:List (List Nat)) (h:∀ x∈xs,OkS x):shaped (.list (xs.map fun x=>PySem.PyData.str ⟨x.toArray⟩))=true:=by
 unfold shaped
 refine bc fun hbc=>?_
 obtain ⟨h1,h2⟩:=lay_strs xs h
 refine hbc ?_
 clear hbc
 rw [Bool.and_eq_true]
 constructor
 ·simp only [PyData.canLay0];exact h1
 ·simp only [PyData.depth,h2];rfl
open PySem.Spec PySem.SeqAt in
theorem ne_nil {a:Addr} {xs:List (List Nat)} (h:∀ x∈xs,OkS x) (hs:σ a=some (.list (xs.map V.str))) (q:Q (.bool (!xs.isEmpty)) σ):M2 d (compareOp .NotEq) (.loc a) (.lst []) σ Q:=by
 refine cmp_ne (.own hs (dats_strs xs)) (.lst .nil) (shaped_strs xs h) (by rfl) (by cases xs<;>rfl) ?_
 have:same (.list (xs.map fun x=>PySem.PyData.str ⟨x.toArray⟩)) (.list [])=xs.isEmpty:=by cases xs<;>rfl
 rw [this];exact q
end
section
variable {K:Kx} {ρ:Fm} {σ:Store} {d:Nat} {Q:V→Store→Prop}
noncomputable def OkL (l:List Nat):Prop:=l.length < 2 ^ 20∧∀ c∈l,c < 0x110000
theorem OkL.strs {l:List Nat} (h:OkL l):∀ x∈l.map (fun c=>[c]),OkS x:=fun x hx=>by
 refine bc fun hbc=>?_
 obtain ⟨c,hc,rfl⟩:=List.mem_map.mp hx
 refine hbc ?_
 clear hbc
 have:=h.2 c hc
 unfold OkS PyData.strOk
 simp [this]
theorem OkL.tail {c:Nat} {l:List Nat} (h:OkL (c :: l)):OkL l:=⟨by have:=h.1;simp at this;lia,fun x hx=>h.2 x (List.mem_cons_of_mem _ hx)⟩
theorem OkL.drop {l:List Nat} (h:OkL l) (n:Nat):OkL (l.drop n):=⟨by have:=h.1;simp;lia,fun x hx=>h.2 x (List.mem_of_mem_drop hx)⟩
theorem chrs_eq (l:List Nat):chrs l=(l.map fun c=>[c]).map V.str:=by simp [chrs]
theorem cv_read {A:LexA} {l:List Nat} {n:Nat} {p:List (List Nat)} (h:Lex A σ l n p) (hl:OkL l) (q:Q (.str (l.take 1)) (lexU A σ (l.drop 1) n p)):CallV 3 (.loc A.rd) [.int 1] σ Q:=by
 refine CallV.of ?_
 refine cv_lam' (d:=2) B.ok2 h.hrd bd_lam1 ck_lam1 rfl rfl ?_ (by simp) rfl fun code=>?_
 ·intro p hp
  simp only [List.mem_cons,List.mem_nil_iff,or_false] at hp
  subst hp
  exact ⟨_,h.hcl⟩
 have hcl:=h.hcl
 have hlf:=h.hlf
 conv=>arg 4;whnf
 conv=>arg 2;simp only [pslots,List.map_cons,List.map_nil,List.cons_append,List.nil_append,List.append_nil]
 walk_at "go"
 refine ev_list0 ?_
 walk_at "go"
 refine ne_nil (xs:=l.map fun c=>[c]) hl.strs (by rw [← chrs_eq];exact hlf) ?_
 walk_at "go"
 cases l with
 | nil=>
  refine ite_gen (fun h0=>by simp at h0) (fun h0=>?_)
  walk_at "go"
  have:=h.same
  simp only [List.take_nil,List.drop_nil,this] at q
  exact q
 | cons c l=>
  refine ite_gen (fun h0=>?_) (fun h0=>by simp at h0)
  walk_at "go"
  refine bi_pop0 hlf (by have:=hl.1;simp at this ⊢;lia) ?_
  rw [h.lf]
  exact q
noncomputable def nlOf (l:List Nat):Nat:=l.count 10
theorem lex_set {A:LexA} {l:List Nat} {n:Nat} {p:List (List Nat)} (h:Lex A σ l n p):Stor (FR C.w.params) A_cls "lineno" := by
 have e:=fr_cls C.w.params
 simp only [Prod.mk.injEq] at e
 exact ⟨e.2.2.2.2.2.1,e.2.2.2.2.1,(Prod.mk.inj (fr_lineno C.w.params)).2,e.2.1⟩
theorem cs_read_char {A:LexA} {l:List Nat} {n:Nat} {p:List (List Nat)} (h:Lex A σ l n p) (hl:OkL l) (q:Q (.str (l.take 1)) (lexU A σ (l.drop 1) (n + nlOf (l.take 1)) p)):CodeV 6 (.ref A_m__read_char) [.loc A.x] σ Q:=by
 refine code_fn' (d:=5) B.ok2 B.f_m__read_char bd_m__read_char ck_m__read_char rfl rfl rfl ?_
 walk_at "start"
 walk_at "go"
 refine ⟨_,_,_,_,_,_,rfl,h.hst,h.hdst,rfl,?_⟩
 walk_at "go"
 refine ⟨keep_loc h.hrd,CallV.le (d:=3) (cv_read h hl ?_) (by decide)⟩
 have h1:Lex A (lexU A σ (l.drop 1) n p) (l.drop 1) n p:=h.set
 walk_at "go"
 refine ite_beq (fun e=>?_) (fun e=>?_)
 ·have hs:=lex_set h
  refine ex_cons (st_augAttr B.fr ?_)
  walk_at "go"
  refine ⟨_,_,_,_,rfl,h1.hx,h1.hd,hs,by simp,?_⟩
  have e2:putA "lineno" (.int ((n + 1:Nat):Int)) (lexAt A n)=lexAt A (n + 1):=by rfl
  have e3:nlOf (l.take 1)=1:=by rw [e];rfl
  walk_at "go"
  rw [e3,← h.twice (l:=l.drop 1) (n:=n) (p:=p),← h1.dx] at q
  exact q
 ·have e3:nlOf (l.take 1)=0:=by
   cases l with
   | nil=>rfl
   | cons c l => 
    have:c≠10:=fun q=>e (by rw [q];rfl)
    simp [nlOf,this]
  walk_at "go"
  rw [e3] at q;exact q
theorem cs_push_token {A:LexA} {l:List Nat} {n:Nat} {p:List (List Nat)} {x:List Nat} (h:Lex A σ l n p) (hp:p.length < 2 ^ 20) (q:Q .none (lexU A σ l n (p++[x]))):CallV 6 (.raw (.ref A_m_push_token)) [.loc A.x,.str x] σ Q:=by
 refine cv_fn' (d:=5) B.ok2 B.f_m_push_token bd_m_push_token ck_m_push_token rfl rfl rfl ?_
 have hpb:=h.hpb
 walk_at "start"
 walk_at "go"
 rotate_left;· simp;walk_at "l"
 have e:p.map V.str++[V.str x]=(p++[x]).map V.str:=by simp
 rw [e,h.pb']
 exact q
end
noncomputable def ws (c:Nat):Bool:=Txt.contains ⟨wsL.toArray⟩ ⟨#[c]⟩
noncomputable def tokQ:List Nat→List Nat→List Nat×List Nat
 | acc,[]=>(acc,[])
 | acc,34 :: r=>(acc,r)
 | acc,[92]=>(acc,[])
 | acc,92 :: c :: r=>tokQ (acc++[c]) r
 | acc,c :: r=>tokQ (acc++[c]) r
noncomputable def tokB:List Nat→List Nat→List Nat×List Nat
 | acc,[]=>(acc,[])
 | acc,[92]=>if ws 92 then (acc,[]) else (acc,[])
 | acc,92 :: c :: r=>if ws 92 then (acc,c :: r) else tokB (acc++[c]) r
 | acc,c :: r=>if ws c then (acc,r) else tokB (acc++[c]) r
noncomputable def tok:List Nat→List Nat×List Nat
 | []=>([],[])
 | c :: r=>if ws c then tok r else if c=34 then tokQ [] r else if c=92 then tokB (r.take 1) (r.drop 1) else tokB [c] r
theorem tokQ_cons (acc:List Nat) (c:Nat) (r:List Nat):tokQ acc (c :: r)=if c=34 then (acc,r) else if c=92 then tokQ (acc++r.take 1) (r.drop 1) else tokQ (acc++[c]) r:=by
 by_cases h1:c=34
 ·subst h1;simp [tokQ]
 ·by_cases h2:c=92
  ·subst h2
   cases r with
   | nil=>simp [tokQ]
   | cons d r=>simp [tokQ]
  ·simp [h1,h2,tokQ]
theorem ws92:ws 92=false:=by decide +kernel
theorem tokB_cons (acc:List Nat) (c:Nat) (r:List Nat):tokB acc (c :: r)=if ws c=true then (acc,r) else if c=92 then tokB (acc++r.take 1) (r.drop 1) else tokB (acc++[c]) r:=by
 by_cases h2:c=92
 ·subst h2
  cases r with
  | nil=>simp [tokB,ws92]
  | cons d r=>simp [tokB,ws92]
 ·simp [h2,tokB]
section
variable {K:Kx} {ρ:Fm} {σ:Store} {d:Nat} {Q:V→Store→Prop}
theorem Lex.mono {A:LexA} {σ':Store} {l:List Nat} {n:Nat} {p:List (List Nat)} (h:Lex A σ l n p) (s:Sub σ σ'):Lex A σ' l n p:=
 ⟨s _ _ h.hx,s _ _ h.hd,s _ _ h.hst,s _ _ h.hdst,s _ _ h.hrd,s _ _ h.hcl,s _ _ h.hlf,s _ _ h.hpb,h.ne⟩
theorem lexU_other {A:LexA} {l l':List Nat} {n n':Nat} {p p':List (List Nat)} (h:Lex A σ l n p) {a:Addr} {o:PObj} (ha:σ a=some o) (hk:(∀ vs,o≠.list vs)∧∀ m,o≠.ns m):lexU A σ l' n' p' a=some o:=
 upd_of (ne_of_st ha h.hpb (hk.1 _)) (upd_of (ne_of_st ha h.hd (hk.2 _)) (upd_of (ne_of_st ha h.hlf (hk.1 _)) ha))
theorem read_fo:∃ fo fd,C.h1.get? A_m__read_char=some fo∧fo.data=.func fd:=B.f_m__read_char.is.get.elim fun fo h=>h.elim fun fd h=>⟨fo,fd,h.1,h.2.1⟩
theorem nx_lex {A:LexA} {l₀ l:List Nat} {n₀ n:Nat} {p₀ p:List (List Nat)} (h:Lex A σ l₀ n₀ p₀) (hl:OkL l) {it b:Addr} (hit:σ it=some (.citer (.loc b) (.str []))) (hb:σ b=some (.bound (.ref A_m__read_char) (.loc A.x))) {Qn:Option V→Store→Prop}
  (q0:l=[]→Qn none (upd (lexU A σ [] n p) it (some .cend))) (q1:∀ c r,l=c :: r→Qn (some (.str [c])) (lexU A σ r (n + nlOf [c]) p)):NxP 8 it (lexU A σ l n p) Qn:=by
 refine bc fun hbc=>?_
 obtain ⟨fo,fd,hfo,hfd⟩:=read_fo
 refine hbc ?_
 clear hbc
 have kc:(∀ vs,PObj.citer (.loc b) (.str [])≠.list vs)∧∀ m,PObj.citer (.loc b) (.str [])≠.ns m:=⟨(by intro _ e;cases e),(by intro _ e;cases e)⟩
 have kb:(∀ vs,PObj.bound (.ref A_m__read_char) (.loc A.x)≠.list vs)∧∀ m,PObj.bound (.ref A_m__read_char) (.loc A.x)≠.ns m:=⟨(by intro _ e;cases e),(by intro _ e;cases e)⟩
 refine nx_cit (d:=7) (lexU_other h hit kc) (lexU_other h hb kb) hfo B.nt hfd ?_
 have h1:Lex A (lexU A σ l n p) l n p:=h.set
 refine CallV.le (d:=6) (cv_bound (lexU_other h hb kb) (cs_read_char h1 hl ?_)) (by decide)
 rw [h.twice]
 refine ⟨lexU_other h hit kc,lexU_other h hb kb,_,rfl,fun e=>?_,fun e=>?_⟩
 ·have:l=[]:=by cases l with | nil=>rfl | cons=>simp at e
  subst this
  exact q0 rfl
 ·cases l with
  | nil=>exact absurd rfl e
  | cons c r=>exact q1 c r rfl
end
section
variable {K:Kx} {ρ:Fm} {σ:Store} {d:Nat} {Q:V→Store→Prop}
theorem meth_read:findIn (FR C.w.params) (.ref A_cls) "_read_char" = some (some (.ref A_m__read_char))∧typeIn (FR C.w.params) (.ref A_m__read_char)=some (.type "function")∧findObj (FR C.w.params) A_cls none "_read_char" = some (.bind (.builtin "function.__get__") (.ref A_m__read_char)):=by
 have e:=fr_m__read_char C.w.params
 simp only [Prod.mk.injEq] at e
 exact e
theorem sel_read {A:LexA} {l:List Nat} {n:Nat} {p:List (List Nat)} (h:Lex A σ l n p) {expr:Bool} (q:∀ a,σ a=none→Q (.loc a) (upd σ a (some (.bound (.ref A_m__read_char) (.loc A.x))))):M1 d (fun o=>getAttr o "_read_char" expr) (.loc A.x) σ Q:=by
 have e:=fr_cls C.w.params
 simp only [Prod.mk.injEq] at e
 refine bc fun hbc=>?_
 obtain ⟨m1,m2,m3⟩:=meth_read
 refine hbc ?_
 clear hbc
 exact get_method B.fr h.hx h.hd (by rfl) e.1 e.2.1 m1 m2 m3 q
theorem ev_methN {F:Frag} (O:FragOk F) {o:Expr} {name:Str} {apos pos:Pos} {args:List Expr}
  (h:EvP K ρ σ o (fun ov σ₁=>∃ x dx c f at_,ov=.loc x∧σ₁ x=some (.inst c dx)∧σ₁ dx=some (.ns at_)∧at_.lookup name=none∧findIn F (.ref c) "__getattribute__" = some (some (.builtin "object.__getattribute__"))∧
   findIn F (.ref c) "__getattr__" = some none∧findIn F (.ref c) name=some (some (.ref f))∧typeIn F (.ref f)=some (.type "function")∧
   EvsP K ρ args σ₁ (fun pl σ₂=>KeepOk σ₂ (.raw (.ref f))∧CallV K.d (.raw (.ref f)) (.loc x :: pl) σ₂ Q))) {pl:Env→Sem Bool}
  (he:autoParam (∀ env,eval (.Call (.Attribute o name apos) args [] pos) env=(do
   let ov ← eval o env
   standAt apos.atName
   let (f,first) ← holding [ov] (getMethod ov name (pl env))
   callWith pos f first (backTo pos (starEach args env)) (backToKw pos (keywordEach [] env)))) aI)
  (hse:autoParam (∀ env,backTo pos (starEach args env)=args.map fun e=>(false,eval e env)) aI):EvP K ρ σ (.Call (.Attribute o name apos) args [] pos) Q:=fun A env s ha hr hi QM hq=>by
 refine methodCall_KW (pl:=pl env) (h A env s ha hr hi _ fun ov po σ₁ s₁ h₁ i₁ e₁ r₁=>?_) (he env)
 refine bc fun hbc=>?_
 obtain ⟨x,dx,c,f,at_,rfl,hx,hd,hl,h2,h3,h4,h5,hE⟩:=h₁
 refine hbc ?_
 clear hbc
 cases r₁
 refine bc fun hbc=>?_
 obtain ⟨es,n,I,r⟩:=inst_at i₁ hx hd
 refine hbc ?_
 clear hbc
 have fd:=r.find name
 rw [hl] at fd
 refine method_fn (O.at i₁) I h2 h3 h4 h5 (by show (lookIn name (dictOf es n)).map (·.isSome)=_;rw [show lookIn name (dictOf es n)=getL name es from rfl,fd];rfl) ?_
 exact callWith_ (fv:=.raw (.ref f)) (pre:=[.loc x]) (hse env) hE ha (hr.mono e₁) i₁ (.raw _) (.cons (.loc x) .nil) fun v pv σ₂ s₂ q i₂ e₂ r₂=>hq v pv σ₂ s₂ q i₂ (e₁.trans e₂) r₂
theorem call_read {A:LexA} {l:List Nat} {n:Nat} {p:List (List Nat)} (h:Lex A σ l n p) (hl:OkL l) {o:Expr} {apos pos:Pos} (hd:6≤K.d) (ho:∀ Q:V→Store→Prop,Q (.loc A.x) σ→EvP K ρ σ o Q)
  (q:Q (.str (l.take 1)) (lexU A σ (l.drop 1) (n + nlOf (l.take 1)) p))
  {pl:Env→Sem Bool}
  (he:autoParam (∀ env,eval (.Call (.Attribute o "_read_char" apos) [] [] pos) env=(do
   let ov ← eval o env
   standAt apos.atName
   let (f,first) ← holding [ov] (getMethod ov "_read_char" (pl env))
   callWith pos f first (backTo pos (starEach [] env)) (backToKw pos (keywordEach [] env)))) aI)
  (hse:autoParam (∀ env,backTo pos (starEach [] env)=[].map fun e=>(false,eval e env)) aI):EvP K ρ σ (.Call (.Attribute o "_read_char" apos) [] [] pos) Q:=by
 have e:=fr_cls C.w.params
 simp only [Prod.mk.injEq] at e
 refine bc fun hbc=>?_
 obtain ⟨m1,m2,m3⟩:=meth_read
 refine hbc ?_
 clear hbc
 exact ev_methN (pl:=pl) B.fr (ho _ ⟨_,_,_,_,_,rfl,h.hx,h.hd,by rfl,e.2.2.2.2.2.2.1,e.2.2.2.2.2.2.2,m1,m2,B.f_m__read_char.keep,CallV.le (d:=6) (cs_read_char h hl q).call hd⟩) he hse
theorem cs_get_token_pb {A:LexA} {l:List Nat} {n:Nat} {p:List (List Nat)} {x:List Nat} (h:Lex A σ l n (x :: p)) (hp:p.length < 2 ^ 20) (q:Q (.str x) (lexU A σ l n p)):CallV 12 (.raw (.ref A_m_get_token)) [.loc A.x] σ Q:=by
 refine cv_fn' (d:=11) B.ok2 B.f_m_get_token bd_m_get_token ck_m_get_token rfl rfl rfl ?_
 have hpb:=h.hpb
 walk_at "start"
 walk_at "go"
 rotate_left;· simp;lia
 refine ite_gen (fun h0=>?_) (fun h0=>by simp at h0)
 walk_at "go"
 refine bi_pop0 hpb (by simp;walk_at "l") ?_
 rw [h.pb']
 walk_at "go"
 exact q
theorem NxP.le {d d':Nat} {a:Addr} {Qn:Option V→Store→Prop} (h:NxP d a σ Qn) (hd:d≤d'):NxP d' a σ Qn:=fun A s ha=>h A s (ha.le hd)
theorem CallV.clean {fv:V} {args:List V} (h:CallV d fv args σ (fun v σ'=>∃ τ,Sub τ σ'∧(∀ a,σ a=none→τ a=none)∧(∀ c v,σ c=some (.cell v)→∃ v',τ c=some (.cell v'))∧Q v τ)):CallV d fv args σ Q:=fun A s f vs ha hi hf hr QM hq=>
 h A s f vs ha hi hf hr QM fun v pv σ' s' q i' e' r'=>by
  refine bc fun hbc=>?_
  obtain ⟨τ,sub,non,cel,q⟩:=q
  refine hbc ?_
  clear hbc
  have free:∀ a,σ' a=none→τ a=none:=fun a hn=>by
   cases hs:τ a with
   | none=>rfl
   | some o=>(first | obtain rfl:=Option.some.inj ((sub a o hs).symm.trans hn) | exact absurd ((sub a o hs).symm.trans hn) (Option.some_ne_none _) | exact absurd ((sub a o hs).symm.trans hn).symm (Option.some_ne_none _) | exact (datN ((sub a o hs).symm.trans hn) rfl).elim | (rw [sub a o hs] at hn;cases hn))
  have sq:SeqKeep σ' s'.heap τ s'.heap:=⟨fun _ _ e _ _ _=>e,fun a o e _ hn _=>free a hn⟩
  have i'':Inv τ s':=by
   refine ⟨i'.base,i'.top,fun a o ho=>⟨(i'.own a o (sub a o ho)).1,ObjRel.swap sq (fun cd q y=>?_) (i'.own a o (sub a o ho)).2⟩,i'.tabLt,fun n hn=>?_,i'.gens,i'.os⟩
   ·exact ⟨y.1,fun c e=>⟨free c (y.2 c e).1,(y.2 c e).2⟩⟩
   ·refine bc fun hbc=>?_
    obtain ⟨ps,g,t,f⟩:=i'.tabs n hn
    refine hbc ?_
    clear hbc
    exact ⟨ps,g,t,fun d hd cv hc=>have y:=f d hd cv hc;⟨y.1,fun c e=>⟨free c (y.2 c e).1,(y.2 c e).2⟩⟩⟩
  have E:Ext σ s.heap τ s'.heap:=⟨fun a o g hs ht=>e'.keep a o g hs ht,fun a o g hs ht=>non a hs,cel⟩
  exact hq v pv τ s' q i'' E (r'.mono sq)
theorem lexU_sub {A:LexA} {τ:Store} {l:List Nat} {n:Nat} {p:List (List Nat)} (h:Sub σ τ):Sub (lexU A σ l n p) (lexU A τ l n p):=fun a o ha=>by
 unfold lexU at ha ⊢
 unfold upd at ha ⊢
 by_cases e1:a=A.pb
 ·simp only [e1,if_true] at ha ⊢;exact ha
 ·by_cases e2:a=A.dx
  ·simp only [e1,e2,if_true,if_false] at ha ⊢;exact ha
  ·by_cases e3:a=A.lf
   ·simp only [e1,e2,e3,if_true,if_false] at ha ⊢;exact ha
   ·simp only [e1,e2,e3,if_false] at ha ⊢;exact h a o ha
theorem lexU_none {A:LexA} {l l':List Nat} {n n':Nat} {p p':List (List Nat)} (h:Lex A σ l n p) {a:Addr} (ha:σ a=none):lexU A σ l' n' p' a=none:=by
 have h1:a≠A.lf:=fun e=>by rw [e,h.hlf] at ha;cases ha
 have h2:a≠A.dx:=fun e=>by rw [e,h.hd] at ha;cases ha
 have h3:a≠A.pb:=fun e=>by rw [e,h.hpb] at ha;cases ha
 exact upd_of h3 (upd_of h2 (upd_of h1 ha))
theorem lexU_cell {A:LexA} {l l':List Nat} {n n':Nat} {p p':List (List Nat)} (h:Lex A σ l n p) {c:Addr} {v:Option V} (hc:σ c=some (.cell v)):∃ v',lexU A σ l' n' p' c=some (.cell v'):=
 ⟨v,lexU_other h hc ⟨(by intro _ e;cases e),(by intro _ e;cases e)⟩⟩
noncomputable def Alive (A:LexA) (τ:Store) (it:Addr) (N:Nat) (acc l':List Nat) (ρ:Fm) (σ':Store):Prop:=
 ∃ n',Has ρ [("token", .val (.str acc)),("self", .val (.loc A.x)),("fiter", .val (.loc it))]∧σ'=lexU A τ l' n' []∧n' + nlOf l'=N∧acc.length + l'.length≤2 ^ 20∧OkL l'
noncomputable def Ended (A:LexA) (τ:Store) (it:Addr) (N:Nat) (acc:List Nat) (ρ:Fm) (σ':Store):Prop:=
 ∃ n',Has ρ [("token", .val (.str acc)),("self", .val (.loc A.x)),("fiter", .val (.loc it))]∧σ'=upd (lexU A τ [] n' []) it (some .cend)∧n'=N
theorem nlOf_cons (c:Nat) (l:List Nat):nlOf [c] + nlOf l=nlOf (c :: l):=by unfold nlOf;rw [List.count_cons (l:=l),List.count_cons];simp;walk_at "l"
theorem nlOf_take (l:List Nat):nlOf (l.take 1) + nlOf (l.drop 1)=nlOf l:=by unfold nlOf;rw [← List.count_append,List.take_append_drop]
theorem cs_get_token {A:LexA} {l:List Nat} {n:Nat} (h:Lex A σ l n []) (hl:OkL l) (q:∀ n',n' + nlOf (tok l).2=n + nlOf l→Q (.str (tok l).1) (lexU A σ (tok l).2 n' [])):CallV 12 (.raw (.ref A_m_get_token)) [.loc A.x] σ Q:=by
 refine CallV.of (CallV.clean ?_)
 generalize hR:tok l=R at q
 have fin:∀ {σ':Store} {n':Nat},Sub (lexU A σ R.2 n' []) σ'→n' + nlOf R.2=n + nlOf l→∃ τ,Sub τ σ'∧(∀ a,σ a=none→τ a=none)∧(∀ c v,σ c=some (.cell v)→∃ v',τ c=some (.cell v'))∧Q (.str R.1) τ:=
  fun s e=>⟨_,s,fun a ha=>lexU_none h ha,fun c v hc=>lexU_cell h hc,q _ e⟩
 generalize hN:n + nlOf l=N at fin
 refine cv_fn' (d:=11) B.ok2 B.f_m_get_token bd_m_get_token ck_m_get_token rfl rfl rfl ?_
 have hpb:=h.hpb
 walk_at "start"
 walk_at "go"
 rotate_left;· simp
 refine ite_gen (fun h0=>by simp at h0) (fun h0=>?_)
 walk_at "go"
 refine sel_read h fun b hb=>?_
 walk_at "go"
 refine bi_iter2 (upd_self ..) fun it hit=>?_
 refine bc fun hbc=>?_
 obtain ⟨nib,hit⟩:=upd_none hit
 refine hbc ?_
 clear hbc
 walk_at "go"
 generalize hτ:upd (upd σ b _) it _=τ
 have tb:τ b=some (.bound (.ref A_m__read_char) (.loc A.x)):=by rw [← hτ];exact upd_of (Ne.symm nib) (upd_self ..)
 have ti:τ it=some (.citer (.loc b) (.str [])):=by rw [← hτ];exact upd_self ..
 have sub:Sub σ τ:=by rw [← hτ];exact (Sub.refl.upd hb).upd hit
 have ht:Lex A τ l n []:=h.mono sub
 have done:∀ {acc r:List Nat} {n':Nat},R=(acc,r)→n' + nlOf r=N→∃ τ',Sub τ' (lexU A τ r n' [])∧(∀ a,σ a=none→τ' a=none)∧(∀ c v,σ c=some (.cell v)→∃ v',τ' c=some (.cell v'))∧Q (.str acc) τ':=fun {acc r n'} e e2=>by
  subst e;exact fin (lexU_sub sub) e2
 have done2:∀ {acc:List Nat} {n':Nat},R=(acc,[])→n'=N→∃ τ',Sub τ' (upd (lexU A τ [] n' []) it (some .cend))∧(∀ a,σ a=none→τ' a=none)∧(∀ c v,σ c=some (.cell v)→∃ v',τ' c=some (.cell v'))∧Q (.str acc) τ':=fun {acc n'} e e2=>by
  subst e;exact fin ((lexU_sub sub).upd (lexU_none h hit)) (by simpa [nlOf] using e2)
 refine st_forO ?_
 walk_at "go"
 refine ⟨it,_,rfl,ti,trivial,fun m ρ' σ'=>(∃ l',m=l'.length + 1∧tok l'=R∧Alive A τ it N [] l' ρ' σ')∨(m=0∧∃ acc,R=(acc,[])∧Ended A τ it N acc ρ' σ'),l.length + 1,?_,?_⟩
 ·exact .inl ⟨l,rfl,hR,n,by walk_at "has", ht.same.symm,hN,by have:=hl.1;simp;walk_at "l", hl⟩
 ·rintro m ρ' σ' (⟨l',rfl,hl',n',hhas,rfl,hn',hlen,hok⟩ | ⟨rfl,acc,hacc,n',hhas,rfl,hn'⟩)
  ·refine NxP.le (nx_lex ht hok ti tb (fun e=>?_) (fun c r e=>?_)) (by decide)
   ·subst e
    refine cont_next (ExP.has ?_ hhas)
    walk_at "go"
    have:R=([],[]):=by rw [← hl'];rfl
    exact done2 this (by simpa [nlOf] using hn')
   ·subst e
    have hs1:=nlOf_cons c r
    have hlen1:r.length + 1≤2 ^ 20:=by simpa using hlen
    have h1:Lex A (lexU A τ r (n' + nlOf [c]) []) r (n' + nlOf [c]) []:=ht.set
    have kc:(∀ vs,PObj.citer (.loc b) (.str [])≠.list vs)∧∀ m,PObj.citer (.loc b) (.str [])≠.ns m:=⟨(by intro _ e;cases e),(by intro _ e;cases e)⟩
    have hi1:(lexU A τ r (n' + nlOf [c]) []) it=some (.citer (.loc b) (.str [])):=lexU_other ht ti kc
    refine ⟨⟨_,hi1,trivial⟩,AsP.sub ?_ hhas⟩
    walk_at "go"
    refine cmp_inS ?_
    walk_at "go"
    refine ite_gen (fun hw=>?_) (fun hw=>?_)
    ·walk_at "go"
     refine turn_cont (m:=r.length + 1) (by simp) (.inl ⟨r,rfl,?_,n' + nlOf [c],by walk_at "has", rfl,by lia,by simp;lia,hok.tail⟩)
     rw [← hl',tok,if_pos (show ws c=true from hw)]
    rw [tok,if_neg (by rw [show ws c=false from hw];decide)] at hl'
    walk_at "go"
    refine ite_beq (fun e=>?_) (fun e=>?_)
    ·have e:c=34:=by simpa using e
     rw [if_pos e] at hl'
     refine ex_cons ?_
     refine st_forO ?_
     walk_at "go"
     refine ⟨it,_,rfl,hi1,trivial,fun m ρ' σ'=>∃ acc l',m=l'.length + 1∧tokQ acc l'=R∧Alive A τ it N acc l' ρ' σ',r.length + 1,⟨[],r,rfl,hl',n' + nlOf [c],by walk_at "has", rfl,by lia,by simp;lia,hok.tail⟩,?_⟩
     intro m2 ρ2 σ2 hJ3
     refine bc fun hbc=>?_
     obtain ⟨acc,l2,rfl,hl2,n2,hhas2,rfl,hn2,hlen2,hok2⟩:=hJ3
     refine hbc ?_
     clear hbc
     refine NxP.le (nx_lex ht hok2 ti tb (fun e=>?_) (fun c2 r2 e=>?_)) (by decide)
     ·subst e
      refine cont_next (ExP.has ?_ hhas2)
      walk_at "go"
      exact turn_next (m:=0) (by walk_at "l") (.inr ⟨rfl,acc,by rw [← hl2];rfl,n2,by walk_at "has", rfl,by simpa [nlOf] using hn2⟩)
     ·subst e
      rw [tokQ_cons] at hl2
      have hs2:=nlOf_cons c2 r2
      have h2:Lex A (lexU A τ r2 (n2 + nlOf [c2]) []) r2 (n2 + nlOf [c2]) []:=ht.set
      refine ⟨⟨_,lexU_other ht ti kc,trivial⟩,AsP.sub ?_ hhas2⟩
      have hlen3:acc.length + (r2.length + 1)≤2 ^ 20:=hlen2
      walk_at "go"
      refine ite_beq (fun e=>?_) (fun e=>?_)
      ·have e:c2=34:=by simpa using e
       rw [if_pos e] at hl2
       walk_at "go"
       exact done hl2.symm (by lia)
      have e:¬ c2=34:=by simpa using e
      rw [if_neg e] at hl2
      walk_at "go"
      refine ite_beq (fun e=>?_) (fun e=>?_)
      ·have e:c2=92:=by simpa using e
       rw [if_pos e] at hl2
       walk_at "go"
       refine call_read h2 hok2.tail (by decide) (fun Q q=>ev_name (by walk_at "mem") q) ?_
       rw [ht.twice]
       have ht3:=nlOf_take r2
       have hlt:(r2.take 1).length≤1:=by simp;walk_at "l"
       walk_at "go"
       rotate_left;· simp;lia
       exact turn_next (m:=(r2.drop 1).length + 1) (by simp;lia) ⟨_,r2.drop 1,rfl,hl2,_,by walk_at "has", rfl,by lia,by simp only [List.length_append,List.length_take,List.length_drop];exact min2 (by lia),hok2.tail.drop 1⟩
      have e:¬ c2=92:=by simpa using e
      rw [if_neg e] at hl2
      ·walk_at "go"
       rotate_left;· simp;lia
       exact turn_next (m:=r2.length + 1) (by simp) ⟨_,r2,rfl,hl2,_,by walk_at "has", rfl,by lia,by simp;lia,hok2.tail⟩
    have e:¬ c=34:=by simpa using e
    rw [if_neg e] at hl'
    walk_at "go"
    refine ite_beq (fun e=>?_) (fun e=>?_)
    ·have e:c=92:=by simpa using e
     rw [if_pos e] at hl'
     walk_at "go"
     refine call_read h1 hok.tail (by decide) (fun Q q=>ev_name (by walk_at "mem") q) ?_
     rw [ht.twice]
     have ht1:=nlOf_take r
     have hi2:(lexU A τ (r.drop 1) (n' + nlOf [c] + nlOf (r.take 1)) []) it=some (.citer (.loc b) (.str [])):=lexU_other ht ti kc
     walk_at "go"
     rotate_left;· simp;walk_at "l"
     refine st_forO ?_
     walk_at "go"
     refine ⟨it,_,rfl,hi2,trivial,fun m ρ' σ'=>∃ acc l',m=l'.length + 1∧tokB acc l'=R∧Alive A τ it N acc l' ρ' σ',(r.drop 1).length + 1,⟨[]++r.take 1,r.drop 1,rfl,hl',_,by walk_at "has", rfl,by lia,by simp only [List.nil_append,List.length_take,List.length_drop];exact min1 (by lia),hok.tail.drop 1⟩,?_⟩
     intro m2 ρ2 σ2 hJ3
     refine bc fun hbc=>?_
     obtain ⟨acc,l2,rfl,hl2,n2,hhas2,rfl,hn2,hlen2,hok2⟩:=hJ3
     refine hbc ?_
     clear hbc
     refine NxP.le (nx_lex ht hok2 ti tb (fun e=>?_) (fun c2 r2 e=>?_)) (by decide)
     ·subst e
      refine cont_next (ExP.has ?_ hhas2)
      walk_at "go"
      exact turn_next (m:=0) (by walk_at "l") (.inr ⟨rfl,acc,by rw [← hl2];rfl,n2,by walk_at "has", rfl,by simpa [nlOf] using hn2⟩)
     ·subst e
      rw [tokB_cons] at hl2
      have hs2:=nlOf_cons c2 r2
      have h2:Lex A (lexU A τ r2 (n2 + nlOf [c2]) []) r2 (n2 + nlOf [c2]) []:=ht.set
      refine ⟨⟨_,lexU_other ht ti kc,trivial⟩,AsP.sub ?_ hhas2⟩
      have hlen3:acc.length + (r2.length + 1)≤2 ^ 20:=hlen2
      walk_at "go"
      refine cmp_inS ?_
      walk_at "go"
      refine ite_gen (fun hw=>?_) (fun hw=>?_)
      ·rw [if_pos (show ws c2=true from hw)] at hl2
       walk_at "go"
       exact done hl2.symm (by lia)
      rw [if_neg (by rw [show ws c2=false from hw];decide)] at hl2
      walk_at "go"
      refine ite_beq (fun e=>?_) (fun e=>?_)
      ·have e:c2=92:=by simpa using e
       rw [if_pos e] at hl2
       walk_at "go"
       refine call_read h2 hok2.tail (by decide) (fun Q q=>ev_name (by walk_at "mem") q) ?_
       rw [ht.twice]
       have ht3:=nlOf_take r2
       have hlt:(r2.take 1).length≤1:=by simp;walk_at "l"
       walk_at "go"
       rotate_left;· simp;lia
       exact turn_next (m:=(r2.drop 1).length + 1) (by simp;lia) ⟨_,r2.drop 1,rfl,hl2,_,by walk_at "has", rfl,by lia,by simp only [List.length_append,List.length_take,List.length_drop];exact min2 (by lia),hok2.tail.drop 1⟩
      have e:¬ c2=92:=by simpa using e
      rw [if_neg e] at hl2
      ·walk_at "go"
       rotate_left;· simp;lia
       exact turn_next (m:=r2.length + 1) (by simp) ⟨_,r2,rfl,hl2,_,by walk_at "has", rfl,by lia,by simp;lia,hok2.tail⟩
    have e:¬ c=92:=by simpa using e
    rw [if_neg e] at hl'
    walk_at "go"
    rotate_left;· simp
    refine st_forO ?_
    walk_at "go"
    refine ⟨it,_,rfl,hi1,trivial,fun m ρ' σ'=>∃ acc l',m=l'.length + 1∧tokB acc l'=R∧Alive A τ it N acc l' ρ' σ',r.length + 1,⟨[]++[c],r,rfl,hl',n' + nlOf [c],by walk_at "has", rfl,by lia,by simp;lia,hok.tail⟩,?_⟩
    intro m2 ρ2 σ2 hJ3
    refine bc fun hbc=>?_
    obtain ⟨acc,l2,rfl,hl2,n2,hhas2,rfl,hn2,hlen2,hok2⟩:=hJ3
    refine hbc ?_
    clear hbc
    refine NxP.le (nx_lex ht hok2 ti tb (fun e=>?_) (fun c2 r2 e=>?_)) (by decide)
    ·subst e
     refine cont_next (ExP.has ?_ hhas2)
     walk_at "go"
     exact turn_next (m:=0) (by walk_at "l") (.inr ⟨rfl,acc,by rw [← hl2];rfl,n2,by walk_at "has", rfl,by simpa [nlOf] using hn2⟩)
    ·subst e
     rw [tokB_cons] at hl2
     have hs2:=nlOf_cons c2 r2
     have h2:Lex A (lexU A τ r2 (n2 + nlOf [c2]) []) r2 (n2 + nlOf [c2]) []:=ht.set
     refine ⟨⟨_,lexU_other ht ti kc,trivial⟩,AsP.sub ?_ hhas2⟩
     have hlen3:acc.length + (r2.length + 1)≤2 ^ 20:=hlen2
     walk_at "go"
     refine cmp_inS ?_
     walk_at "go"
     refine ite_gen (fun hw=>?_) (fun hw=>?_)
     ·rw [if_pos (show ws c2=true from hw)] at hl2
      walk_at "go"
      exact done hl2.symm (by lia)
     rw [if_neg (by rw [show ws c2=false from hw];decide)] at hl2
     walk_at "go"
     refine ite_beq (fun e=>?_) (fun e=>?_)
     ·have e:c2=92:=by simpa using e
      rw [if_pos e] at hl2
      walk_at "go"
      refine call_read h2 hok2.tail (by decide) (fun Q q=>ev_name (by walk_at "mem") q) ?_
      rw [ht.twice]
      have ht3:=nlOf_take r2
      have hlt:(r2.take 1).length≤1:=by simp;walk_at "l"
      walk_at "go"
      rotate_left;· simp;lia
      exact turn_next (m:=(r2.drop 1).length + 1) (by simp;lia) ⟨_,r2.drop 1,rfl,hl2,_,by walk_at "has", rfl,by lia,by simp only [List.length_append,List.length_take,List.length_drop];exact min2 (by lia),hok2.tail.drop 1⟩
     have e:¬ c2=92:=by simpa using e
     rw [if_neg e] at hl2
     ·walk_at "go"
      rotate_left;· simp;lia
      exact turn_next (m:=r2.length + 1) (by simp) ⟨_,r2,rfl,hl2,_,by walk_at "has", rfl,by lia,by simp;lia,hok2.tail⟩
  ·refine nx_cend (upd_self ..) ?_
   refine cont_next (ExP.has ?_ hhas)
   walk_at "go"
   exact done2 hacc hn'
end
section
variable {K:Kx} {ρ:Fm} {σ:Store} {d:Nat} {Q:V→Store→Prop}
theorem stor_of {name:Str} (h:takerIn (FR C.w.params) A_cls name=some none):Stor (FR C.w.params) A_cls name:=by
 have e:=fr_cls C.w.params
 simp only [Prod.mk.injEq] at e
 exact ⟨e.2.2.2.2.2.1,e.2.2.2.2.1,h,e.2.1⟩
theorem putA_len (m:Str) (v:V):∀ l:List (Str×V),(putA m v l).length≤l.length + 1
 | []=>by simp [putA]
 | (k,w) :: r=>by
  unfold putA
  split
  ·simp
  ·simpa using putA_len m v r
theorem putA_lt {m:Str} {v:V} {l:List (Str×V)} {n:Nat} (h:l.length < n):(putA m v l).length < n + 1:=Nat.lt_of_le_of_lt (putA_len m v l) (Nat.succ_lt_succ h)
theorem cs_lex_init {x dx st:Addr} (hx:σ x=some (.inst A_cls dx)) (hd:σ dx=some (.ns [])) (q:∀ pb σ',σ pb=none→σ' x=some (.inst A_cls dx)→σ' dx=some (.ns [("lineno", .int ((1:Nat):Int)),("instream", .loc st),("whitespace", .str wsL),("pushback", .loc pb)])→σ' pb=some (.list [])→
  (∀ a o,a≠dx→σ a=some o→σ' a=some o)→Q .none σ'):CodeV 6 (.ref A_m___init__) [.loc x,.loc st] σ Q:=by
 refine code_fn' (d:=5) B.ok2 B.f_m___init__ bd_m___init__ ck_m___init__ rfl rfl rfl ?_
 have nx:x≠dx:=ne_of_st hx hd (by intro e;cases e)
 have hs1:=stor_of (Prod.mk.inj (fr_lineno C.w.params)).2
 have hs2:=stor_of (Prod.mk.inj (fr_instream C.w.params)).2
 have hs3:=stor_of (Prod.mk.inj (fr_whitespace C.w.params)).2
 have hs4:=stor_of (Prod.mk.inj (fr_pushback C.w.params)).2
 walk_at "start"
 walk_at "go"
 refine as_attr B.fr ?_
 walk_at "go"
 refine ⟨_,_,_,_,rfl,hx,hd,hs1,by simp,?_⟩
 walk_at "go"
 refine as_attr B.fr ?_
 walk_at "go"
 refine ⟨_,_,_,_,rfl,upd_of nx hx,upd_self ..,hs2,putA_lt (n:=899) (by simp),?_⟩
 rw [upd_upd]
 walk_at "go"
 refine as_attr B.fr ?_
 walk_at "go"
 refine ⟨_,_,_,_,rfl,upd_of nx hx,upd_self ..,hs3,putA_lt (n:=899) (putA_lt (n:=898) (by simp)),?_⟩
 rw [upd_upd]
 refine cont_next (ex_cons (st_assignT (ev_listO (evs_nil ⟨by simp,fun pb hpb=>?_⟩))))
 refine bc fun hbc=>?_
 obtain ⟨npb,hpb⟩:=upd_none hpb
 refine hbc ?_
 clear hbc
 refine as_attr B.fr ?_
 walk_at "go"
 refine ⟨_,_,_,_,rfl,upd_of (fun e=>by rw [← e,hx] at hpb;cases hpb) (upd_of nx hx),upd_of (Ne.symm npb) (upd_self ..),hs4,putA_lt (n:=899) (putA_lt (n:=898) (putA_lt (n:=897) (by simp))),?_⟩
 walk_at "go"
 refine q pb _ hpb ?_ ?_ ?_ fun a o hne ho=>?_
 ·exact upd_of nx (upd_of (fun e=>by rw [← e,hx] at hpb;cases hpb) (upd_of nx hx))
 ·rw [upd_self];kernel_rfl
 ·exact upd_of npb (upd_self ..)
 ·exact upd_of hne (upd_of (fun e=>by rw [e,hpb] at ho;cases ho) (upd_of hne ho))
theorem cv_lexer {st:Addr} (q:∀ x dx pb σ',σ x=none→σ dx=none→σ pb=none→x≠dx→σ' x=some (.inst A_cls dx)→σ' dx=some (.ns [("lineno", .int ((1:Nat):Int)),("instream", .loc st),("whitespace", .str wsL),("pushback", .loc pb)])→σ' pb=some (.list [])→
  Sub σ σ'→Q (.loc x) σ'):CallV 7 (.raw (.ref A_cls)) [.loc st] σ Q:=by
 have e:=fr_cls C.w.params
 simp only [Prod.mk.injEq] at e
 have e2:=fr_m___init__ C.w.params
 simp only [Prod.mk.injEq] at e2
 refine cv_make (d:=6) B.fr e.2.2.1 e2.1 e2.2 fun x dx hx hdx hne=>?_
 refine cs_lex_init (upd_self ..) (upd_of (Ne.symm hne) (upd_self ..)) fun pb σ' hpb h1 h2 h3 h4=>⟨rfl,?_⟩
 refine bc fun hbc=>?_
 obtain ⟨n1,hpb⟩:=upd_none hpb
 obtain ⟨n2,hpb⟩:=upd_none hpb
 refine hbc ?_
 clear hbc
 refine q x dx pb σ' hx hdx hpb hne h1 h2 h3 fun a o ho=>h4 a o (fun e=>by rw [e,hdx] at ho;cases ho) ?_
 exact upd_of (fun e=>by rw [e,hx] at ho;cases ho) (upd_of (fun e=>by rw [e,hdx] at ho;cases ho) ho)
end
noncomputable abbrev natV (l:List Nat):List V:=l.map fun x:Nat=>V.int x
theorem sum_ints (l:List Nat):(l.map fun x:Nat=>(x:Int)).sum=((l.sum:Nat):Int):=by
 induction l with
 | nil=>rfl
 | cons x l ih=>simp [ih]
noncomputable def prepC (c:Nat):List Nat:=if b1 c then [] else mapb3 c
noncomputable def prepW (w:List Nat):List Nat:=(w.map prepC).flatten
theorem tgt2 {K:Kx} {x y:Str} {p1 p2 pos:Pos} {k:Nat} {v w:V} (h1:K.names.lookup x=some .local) (h2:K.names.lookup y=some .local) (hne:x≠y):TgtP K (.Tuple [.Name x p1,.Name y p2] k pos) (.tup [v,w]) [(x,.val v),(y,.val w)]:=by
 have:=TgtP.tup (K:=K) [(x,p1),(y,p2)] k pos [v,w] rfl (fun z hz=>(List.mem_cons.mp hz).elim (fun e=>e ▸ h1) fun hz=>(List.mem_cons.mp hz).elim (fun e=>e ▸ h2) fun hz=>nomatch hz) (by simpa using hne)
 simpa [pslots] using this
noncomputable abbrev strV (l:List (List Nat)):List V:=l.map V.str
section
variable {K:Kx} {ρ:Fm} {σ:Store}
theorem st_assign_compT {α:Type} {y:Str} {elt target iter:Expr} {scope:Scope} {pos py spos:Pos} {Q:Fl→Fm→Store→Prop} (caps:Fm) (ok:CompOk K ρ scope caps) (hy:K.names.lookup y=some .local) (f:α→V) (fr:α→Fm) (g:α→V)
  (h:EvP K ρ σ iter (fun v σ₁=>∃ xs:List α,Items v (xs.map f)∧xs.length < 2 ^ 24∧(∀ x∈xs,TgtP (KxC K scope) target (f x) (fr x)∧(caps.all fun p=>(fr x).all fun q=>p.1 != q.1)=true∧
   ∀ D acc,σ₁ D=none→EvP (KxC K scope) (fr x++caps) (accS σ₁ D acc) elt (fun v σ₄=>v=g x∧σ₄=accS σ₁ D acc))∧
   (∃ ρ',Upd ρ y (.val (.lst (xs.map g))) ρ'∧Q .next ρ' σ₁)))
  (hline:autoParam ((py.line == pos.line)=true) aR) (hnot:autoParam ((scope.names.any fun (n,k)=>n == y && (k == .local || k == .cell))=false) aK)
  (hs:autoParam (∀ env x,foldedSetIterable iter env x=pure x) aI):StP K ρ σ (.Assign [.Name y py] (.ListComp elt [⟨target,iter,[],0⟩] scope pos) spos) Q:=
 st_assign_comp caps ok hy (h.mono fun v σ₁ h=>h.elim fun xs h=>⟨xs.map f,h.1,_,jx_0 rfl,pureT xs f fr (fun _=>true) g h.2.1 fun x hx=>⟨(h.2.2.1 x hx).1,(h.2.2.1 x hx).2.1,fun D acc hD=>ifs_nil' ⟨rfl,rfl,fun _=>(h.2.2.1 x hx).2.2 D acc hD⟩⟩,
  fun acc σ₂ hJ=>by obtain ⟨rfl,rfl⟩:=jx_end hJ;rw [List.filter_eq_self.mpr fun _ _=>rfl];exact h.2.2.2⟩) hline hnot hs
end
section
variable {K:Kx} {ρ:Fm} {σ:Store} {d:Nat} {Q:V→Store→Prop}
theorem bn_sum {a:V} {xs:List Nat} (h:LV σ a (natV xs)) (q:Q (.int (xs.sum:Nat)) σ):CallV d (.raw (.builtin "sum")) [a] σ Q:=by
 refine bi_sum (xs:=xs.map fun x:Nat=>(x:Int)) (by simpa [natV,Function.comp_def] using h) ?_
 rw [sum_ints];exact q
theorem bin_catE {a b:V} {xs ys zs:List V} (ha:LV σ a xs) (hb:LV σ b ys) (hl:xs.length + ys.length≤2 ^ 24) (e:xs++ys=zs) (q:Q (.lst zs) σ):M2 d (binaryOp .Add) a b σ Q:=bin_cat ha hb hl (e ▸ q)
theorem natV_get {l:List Nat} {i:Nat} (h:i < l.length):(natV l)[i]?=some (.int ((l.getD i 0:Nat):Int)):=by
 rw [List.getElem?_map,List.getElem?_eq_getElem h,List.getD_eq_getElem?_getD,List.getElem?_eq_getElem h];rfl
theorem strV_get {l:List (List Nat)} {i:Nat} (h:i < l.length):(strV l)[i]?=some (.str (l.getD i [])):=by
 rw [List.getElem?_map,List.getElem?_eq_getElem h,List.getD_eq_getElem?_getD,List.getElem?_eq_getElem h];rfl
set_option tactic.hygienic true in
theorem gi_str_slc {x res:List Nat} {lo hi' st:Option Int} (h0:(st.getD 1 == 0)=false) (he:(picks lo hi' st x.length).filterMap (x[·]?)=res) (hw:(picks lo hi' st x.length).length=x.length→st.getD 1=1→res=x) (hl:res.length≤2 ^ 24) (q:Q (.str res) σ):
  M2 d getItem (.str x) (.slc lo hi' st) σ Q:=fun A s a b ha hi ra rb QM hq=>by
 refine bc fun hbc=>?_
 obtain ⟨t,rfl⟩:=Rel.inv ra
 refine hbc ?_
 clear hbc
 cases rb with
 | slc hso hσ ht=>
  rename_i a l u st
  have hsz:(PySem.Str.mk x.toArray).length=x.length:=by show x.toArray.size=_;simp
  have hp:slicePicked ⟨x.toArray⟩ l u st=picks (l.map (·.1)) (u.map (·.1)) (st.map (·.1)) x.length:=by unfold slicePicked;rw [hsz];rfl
  refine wpAny_getItem_str_slice ⟨_,hso,rfl,rfl⟩ h0 ?_
  unfold sliceMade
  rw [hp,hsz]
  split
  ·rename_i hh
   rw [Bool.and_eq_true,beq_iff_eq,beq_iff_eq] at hh
   rw [hw hh.2 hh.1] at q
   exact hq _ _ _ _ q hi .refl (.str x t)
  ·refine ⟨?_,hq _ _ _ _ q hi.toks .refl (.strOf ?_)⟩
   ·show (List.toArray _).size≤2 ^ 24
    rw [List.size_toArray]
    refine Nat.le_trans (Nat.le_of_eq ?_) hl
    rw [← he];simp
   ·rw [← he];simp
theorem get_range' {α:Type} (xs:List α) (a:Nat):∀ n,(List.range n).filterMap (fun k=>xs[a + k]?)=(xs.drop a).take n:=by
 intro n
 have:=get_range (xs.drop a) n
 rw [← this]
 congr 1
 funext k
 rw [List.getElem?_drop]
theorem picks_drop {α:Type} (xs:List α) (m:Nat):(picks (some (m:Int)) none none xs.length).filterMap (xs[·]?)=xs.drop m:=by
 unfold picks sliceBounds sliceRange
 simp only [Option.getD_none,show ((1:Int) > 0) from by decide,if_true,show ¬ ((m:Int) < 0) from by walk_at "l", if_false]
 rw [mm_nat,cnt_nat,List.filterMap_map,show xs.length - min m xs.length=xs.length - m from sub_min]
 rcases Nat.le_total m xs.length with h | h
 ·rw [Nat.min_eq_left h]
  have:=get_range' xs m (xs.length - m)
  rw [show (xs.drop m).take (xs.length - m)=xs.drop m by rw [List.take_of_length_le (by simp)]] at this
  rw [← this]
  congr 1
  funext k
  show xs[((m:Int) + 1 * (k:Int)).toNat]?=_
  rw [show ((m:Int) + 1 * (k:Int)).toNat=m + k by lia]
 ·rw [Nat.sub_eq_zero_of_le h,List.drop_eq_nil_of_le h];rfl
theorem ev_ifexpJ {t a b:Expr} {pos:Pos} {Q:V→Store→Prop} (c:Bool) (v:V) (ht:TsP K ρ σ t (fun c' σ'=>c'=c∧σ'=σ)) (h1:c=true→EvP K ρ σ a (fun v' σ'=>v'=v∧σ'=σ))
  (h2:c=false→EvP K ρ σ b (fun v' σ'=>v'=v∧σ'=σ)) (q:Q v σ):EvP K ρ σ (.IfExp t a b pos) Q:=by
 refine ev_ifexp (TsP.mono ht.of ?_)
 intro c' σ' hJ2
 refine bc fun hbc=>?_
 obtain ⟨rfl,rfl⟩:=hJ2
 refine hbc ?_
 clear hbc
 cases c' with
 | true=>rw [if_pos rfl];exact EvP.mono (h1 rfl).of fun v' σ' ⟨e1,e2⟩=>by subst e1 e2;exact q
 | false=>rw [if_neg (by decide)];exact EvP.mono (h2 rfl).of fun v' σ' ⟨e1,e2⟩=>by subst e1 e2;exact q
theorem picks_mid {α:Type} (xs:List α) (a b:Nat):(picks (some (a:Int)) (some (b:Int)) none xs.length).length=min b xs.length - min a xs.length∧(picks (some (a:Int)) (some (b:Int)) none xs.length).filterMap (xs[·]?)=(xs.drop a).take (b - a):=by
 unfold picks sliceBounds sliceRange
 simp only [Option.getD_none,show ((1:Int) > 0) from by decide,if_true,show ¬ ((a:Int) < 0) from by walk_at "l", show ¬ ((b:Int) < 0) from by walk_at "l", if_false]
 rw [mm_nat,mm_nat]
 rw [cnt_nat]
 refine ⟨by simp,?_⟩
 rw [List.filterMap_map]
 have h3:=get_range' xs (min a xs.length) (min b xs.length - min a xs.length)
 have h4:(xs.drop (min a xs.length)).take (min b xs.length - min a xs.length)=(xs.drop a).take (b - a):=by
  rcases Nat.le_total a xs.length with h | h
  ·rw [Nat.min_eq_left h]
   rcases Nat.le_total b xs.length with h' | h'
   ·rw [Nat.min_eq_left h']
   ·rw [Nat.min_eq_right h',List.take_of_length_le (by simp),List.take_of_length_le (by simp;lia)]
  ·rw [Nat.min_eq_right h,List.drop_length,List.drop_eq_nil_of_le h];simp
 rw [← h4,← h3]
 congr 1
 funext k
 show xs[(((min a xs.length:Nat):Int) + 1 * (k:Int)).toNat]?=_
 rw [show (((min a xs.length:Nat):Int) + 1 * (k:Int)).toNat=min a xs.length + k by lia]
theorem picks_rev {α:Type} (xs:List α):(picks none none (some (-1)) xs.length).filterMap (xs[·]?)=xs.reverse:=by
 unfold picks sliceBounds sliceRange
 simp only [Option.getD_some,show ¬ ((-1:Int) > 0) from by decide,if_false]
 have h2:(if (xs.length:Int) - 1 > -1 then ((xs.length:Int) - 1 - -1 - -1 - 1) / (- -1) else 0).toNat=xs.length:=by split<;>lia
 rw [h2,List.filterMap_map]
 have:∀ n,n≤xs.length→(List.range n).filterMap (fun k:Nat=>xs[((xs.length:Int) - 1 + -1 * (k:Int)).toNat]?)=(xs.reverse).take n:=by
  intro n
  induction n with
  | zero=>intro _;rfl
  | succ n ih=>
   intro hn
   rw [List.range_succ,List.filterMap_append,ih (by lia),List.filterMap_cons,List.filterMap_nil,show ((xs.length:Int) - 1 + -1 * (n:Int)).toNat=xs.length - 1 - n by rw [show ((xs.length:Int) - 1 + -1 * n)=(xs.length:Int) - ((1 + n:Nat):Int) by rw [Int.natCast_add];simp +arith,Int.toNat_sub,Nat.sub_sub],List.getElem?_eq_getElem (Nat.lt_of_le_of_lt (Nat.sub_le _ _) (subLt (Nat.lt_of_lt_of_le (Nat.succ_pos n) hn))),List.take_succ_eq_append_getElem (by simp;lia)]
   simp
 have h:=this xs.length (Nat.le_refl _)
 rw [List.take_of_length_le (by simp)] at h
 exact h
theorem drop_len {L m:Nat} (h:L - min m L=L):L - m=L:=by
 rcases Nat.le_total m L with h1 | h1
 ·rw [Nat.min_eq_left h1] at h;exact h
 ·rw [Nat.min_eq_right h1,Nat.sub_self] at h;rw [← h,Nat.zero_sub]
theorem mid_lt {x m L:Nat} (h2:0 < m) (hL:0 < L) (h:x≤L):x - m < L:=by lia
theorem mid_len {L a b:Nat} (h:min b L - min a L=L):min (b - a) (L - a)=L:=by
 rcases Nat.eq_zero_or_pos L with rfl | hL
 ·rw [Nat.zero_sub,Nat.min_zero]
 ·have h1:min a L=0:=by
   rcases Nat.eq_zero_or_pos (min a L) with h2 | h2
   ·exact h2
   ·exact absurd (mid_lt h2 hL (Nat.min_le_right b L)) (by rw [h];exact Nat.lt_irrefl _)
  have h2:a=0:=by
   rcases Nat.le_total a L with h3 | h3
   ·rw [Nat.min_eq_left h3] at h1;exact h1
   ·rw [Nat.min_eq_right h3] at h1;rw [h1] at hL;exact absurd hL (Nat.lt_irrefl 0)
  rw [h1,Nat.sub_zero] at h
  rw [h2,Nat.sub_zero,Nat.sub_zero,h]
theorem gs_mid {x:List Nat} {a b:Nat} (hl:x.length≤2 ^ 24) (q:Q (.str ((x.drop a).take (b - a))) σ):M2 d getItem (.str x) (.slc (some (a:Int)) (some (b:Int)) none) σ Q:=by
 refine bc fun hbc=>?_
 obtain ⟨h1,h2⟩:=picks_mid x a b
 refine hbc ?_
 clear hbc
 refine gi_str_slc rfl h2 (fun h _=>?_) (Nat.le_trans (by rw [List.length_take,List.length_drop];exact Nat.le_trans (Nat.min_le_right _ _) (Nat.sub_le _ _)) hl) q
 rw [h1] at h
 refine ((List.take_sublist _ _).trans (List.drop_sublist _ _)).eq_of_length ?_
 rw [List.length_take,List.length_drop];exact mid_len h
theorem gs_take {x:List Nat} {m:Nat} (hl:x.length≤2 ^ 24) (q:Q (.str (x.take m)) σ):M2 d getItem (.str x) (.slc none (some (m:Int)) none) σ Q:=by
 have h2:=(picks_mid x 0 m).1
 refine gi_str_slc rfl (picks_take x m) (fun h _=>?_) (Nat.le_trans (by simp;walk_at "l") hl) q
 have h3:(picks (some ((0:Nat):Int)) (some (m:Int)) none x.length)=picks none (some (m:Int)) none x.length:=by
  unfold picks sliceBounds
  simp only [Option.getD_none,show ((1:Int) > 0) from by decide,if_true,show ¬ (((0:Nat):Int) < 0) from by walk_at "l", if_false]
  rw [show max 0 (min ((0:Nat):Int) x.length)=0 by lia]
 rw [h3,h] at h2
 exact List.take_of_length_le (Nat.le_trans (Nat.le_of_eq h2) (Nat.le_trans (Nat.sub_le _ _) (Nat.min_le_left _ _)))
theorem gs_drop {x:List Nat} {m:Nat} (hl:x.length≤2 ^ 24) (q:Q (.str (x.drop m)) σ):M2 d getItem (.str x) (.slc (some (m:Int)) none none) σ Q:=by
 have h2:=(picks_mid x m x.length).1
 refine gi_str_slc rfl (picks_drop x m) (fun h _=>?_) (Nat.le_trans (by simp) hl) q
 have h3:(picks (some (m:Int)) (some (x.length:Int)) none x.length)=picks (some (m:Int)) none none x.length:=by
  unfold picks sliceBounds
  simp only [Option.getD_none,show ((1:Int) > 0) from by decide,if_true,show ¬ ((x.length:Int) < 0) from by walk_at "l", if_false]
  rw [show max 0 (min (x.length:Int) x.length)=x.length by lia]
 rw [h3,h] at h2
 refine (List.drop_sublist _ _).eq_of_length ?_
 rw [List.length_drop];rw [Nat.min_self] at h2;exact drop_len h2.symm
theorem gs_rev {x:List Nat} (hl:x.length≤2 ^ 24) (q:Q (.str x.reverse) σ):M2 d getItem (.str x) (.slc none none (some (-1))) σ Q:=
 gi_str_slc rfl (picks_rev x) (fun _ h=>absurd h (by decide)) (by simpa using hl) q
end
theorem iadd_list {M:Model} {A:Around} {E:Value→Shared→Prop} {s:Shared} {a b:Value} {Q:Value→Shared→Prop} (ha:s.TypeIs a "list") (hb:s.TypeIs b "list") (hc:wpAny M A (call (.builtin "list.__iadd__") [a,b]) Q E s):wpAny M A (inplaceOp .Add a b) Q E s:=by
 unfold inplaceOp
 refine wpAny_holding ?_
 have hfi:fillsInplaceSlot (.type "list") "add" (Operator.Add == .Add)=pure false:=by
  unfold fillsInplaceSlot
  show (typeLookup (.type "list") (dunderI "add") >>= fun fi=>pure (fi.isSome && !isSeqSlot fi))=pure false
  rw [F.slot_list_iadd.lookup,pure_bind]
  exact congrArg pure (by decide +kernel)
 refine wpAny_bind (wpAny_typeOf ha (wpAny_bind (wpAny_of_eq hfi ?_)))
 show wpAny M A (if false=true then _ else _) Q E s
 rw [if_neg Bool.false_ne_true]
 refine wpAny_bind (wpAny_binaryOp1_none (nm := "add") ha hb noFill_list_add ?_)
 refine wpAny_bind (wpAny_of_eq (PySem.seqSlot_of F.slot_list_iadd.lookup (by decide +kernel)) ?_)
 exact wpAny_bind (wpAny_rule hc)
section
variable {K:Kx} {ρ:Fm} {σ:Store} {d:Nat} {Q:V→Store→Prop}
theorem ibin_ext {a:Addr} {b:V} {vs ws:List V} (hs:σ a=some (.list vs)) (hb:LV σ b ws) (hl:vs.length + ws.length≤2 ^ 24) (q:Q (.loc a) (upd σ a (some (.list (vs++ws))))):M2 d (inplaceOp .Add) (.loc a) b σ Q:=fun A s x y ha hi hx hy QM hq=>by
 obtain rfl:=Rel.inv hx
 refine bc fun hbc=>?_
 obtain ⟨items,n,ho,hrs⟩:=(hi.own _ _ hs).2
 obtain ⟨b',items2,n2,rfl,ho2,hrs2⟩:=hb.at hi hy
 refine hbc ?_
 clear hbc
 have h1:items.size=vs.length:=by rw [← hrs.length];simp
 have h2:items2.size=ws.length:=by rw [← hrs2.length];simp
 refine iadd_list ⟨_,ho,rfl⟩ ⟨_,ho2,rfl⟩ (call_meets F.slot_list_iadd ⟨_,ho,rfl⟩ F.entry_list_iadd (F.args_list_iadd_2 _ _) (AutoSeq1.list___iadd___list_list_0 a items n b' items2 n2 ?_ ?_ ?_) ⟨ho,ho2,?_⟩)
 ·have:Builtin.List.listTooLong (items.size + items2.size)=false:=decide_eq_false (by show ¬ (_ > 2 ^ 24);lia)
  rw [this];simp
 ·show items.size≤2 ^ 24;lia
 ·show items.size + items2.size≤2 ^ 24 + 1;lia
 have hu:IsL (s.heap.update a (Obj.mapSeq fun xs=>xs++items2)) a _ _:=IsL.update ho _
 refine bc fun hbc=>?_
 obtain ⟨i',e'⟩:=set_list (tk:=s.toks) hi hs (Heap.SameBut.update s.heap a _).extBut hu (vs':=vs++ws) (by simpa using hrs.append hrs2)
 refine hbc ?_
 clear hbc
 exact hq _ _ _ { s with heap:=_ } q i' e' (.loc a)
end
open PySem.Spec PySem.SeqAt in
mutual
theorem noMix_self:∀ p:PyData,p.canLay0=true→noMix p p=true
 | .none,_=>rfl
 | .bool _,_=>rfl
 | .int _,_=>rfl
 | .str _,_=>rfl
 | .list xs,h=>by rw [noMix];rw [PyData.canLay0] at h;exact noMixAll_self xs h
 | .tuple xs,h=>by rw [noMix];rw [PyData.canLay0] at h;exact noMixAll_self xs h
 | .dict _,h=>by simp [PyData.canLay0] at h
theorem noMixAll_self:∀ ps:List PyData,PyData.canLayAll0 ps=true→noMixAll ps ps=true
 | [],_=>rfl
 | p :: ps,h=>by
  rw [PyData.canLayAll0,Bool.and_eq_true] at h
  rw [noMixAll,Bool.and_eq_true]
  exact ⟨noMix_self p h.1,noMixAll_self ps h.2⟩
end
noncomputable def dN (l:List Nat):List PySem.PyData:=l.map fun x:Nat=>PySem.PyData.int x
theorem dN_lay:∀ l:List Nat,PySem.PyData.canLayAll0 (dN l)=true∧PySem.PyData.depthAll (dN l)=0
 | []=>⟨rfl,rfl⟩
 | x :: l=>by
  refine bc fun hbc=>?_
  obtain ⟨h1,h2⟩:=dN_lay l
  refine hbc ?_
  clear hbc
  constructor
  ·simp only [dN,List.map_cons,PySem.PyData.canLayAll0,PySem.PyData.canLay0,Bool.true_and];exact h1
  ·simp only [dN,List.map_cons,PySem.PyData.depthAll,PySem.PyData.depth];rw [show List.map (fun x:Nat=>PySem.PyData.int (x:Int)) l=dN l from rfl,h2];rfl
section
variable {K:Kx} {ρ:Fm} {σ:Store} {d:Nat} {Q:V→Store→Prop}
theorem dats_nat:∀ l:List Nat,Dats σ (natV l) (dN l)
 | []=>.nil
 | x :: l=>.cons (.int x) (dats_nat l)
open PySem.Spec PySem.SeqAt in
theorem eq_true {a b:V} {p:PySem.PyData} (e:b=a) (ha:Dat σ a p) (sa:shaped p=true) (q:Q (.bool true) σ):M2 d (compareOp .Eq) a b σ Q:=by
 subst e
 refine cmp_eq ha ha sa sa (noMix_self p (canLay_of_shaped sa)) ?_
 rw [Spec.same_self];exact q
open PySem.Spec PySem.SeqAt in
theorem ne_false {a b:V} {p:PySem.PyData} (e:b=a) (ha:Dat σ a p) (sa:shaped p=true) (q:Q (.bool false) σ):M2 d (compareOp .NotEq) a b σ Q:=by
 subst e
 refine cmp_ne ha ha sa sa (noMix_self p (canLay_of_shaped sa)) ?_
 rw [Spec.same_self];exact q
end
set_option tactic.hygienic true in
theorem lstrip_eq (x y:List Nat):(Txt.lstripChars ⟨x.toArray⟩ ⟨y.toArray⟩).cps.toList=x.dropWhile fun c=>y.contains c:=by
 have e:∀ l:List Nat,∀ p:Nat→Bool,l.drop (l.takeWhile p).length=l.dropWhile p:=by
  intro l p
  induction l with
  | nil=>rfl
  | cons c l ih=>
   rw [List.takeWhile_cons,List.dropWhile_cons]
   cases p c
   ·rfl
   ·simpa using ih
 have hs:(PySem.stripped (PySem.Str.mk y.toArray).cps.contains true false ⟨x.toArray⟩).cps.toList=x.dropWhile fun c=>y.contains c:=by
  unfold PySem.stripped stripLo stripHi Builtin.Str.strSub
  show ((x.toArray.extract _ x.toArray.size).toList)=_
  rw [List.extract_toArray,List.extract_eq_take_drop]
  have e2:=e x fun c=>y.contains c
  simp only [if_true]
  have e3:y.toArray.contains=fun c=>y.contains c:=by funext c;simp
  rw [e3,List.take_of_length_le (by simp)]
  exact e2
 unfold Txt.lstripChars Txt.stripBy
 split
 ·rename_i h
  unfold stripSame at h
  rw [Bool.and_eq_true,beq_iff_eq] at h
  rw [← hs]
  unfold PySem.stripped Builtin.Str.strSub
  rw [h.1]
  show x.toArray.toList=(x.toArray.extract 0 x.toArray.size).toList
  simp
 ·exact hs
section
variable {K:Kx} {ρ:Fm} {σ:Store} {d:Nat} {Q:V→Store→Prop}
theorem bi_lstripC {x y:List Nat} (hl:x.length≤2 ^ 24) (q:Q (.str (x.dropWhile fun c=>y.contains c)) σ):CallV d (.raw (.builtin "str.lstrip")) [.str x,.str y] σ Q:=fun A s f l ha hi hf hr QM hq=>by
 refine bc fun hbc=>?_
 obtain ⟨u,v,rfl,hx,hy⟩:=rels2 hr
 refine hbc ?_
 clear hbc
 obtain rfl:=Rel.inv hf
 refine bc fun hbc=>?_
 obtain ⟨_,rfl⟩:=Rel.inv hx
 obtain ⟨_,rfl⟩:=Rel.inv hy
 refine hbc ?_
 clear hbc
 exact call_gives F.slot_str_lstrip (typeIs_str _ _ _) F.entry_str_lstrip (F.args_str_lstrip_2 _ _) (gives_str_lstrip_chars _ _ _ _) (post_val_or_made (fun _=>fits_stripped _ _ _ (by show x.toArray.size≤2 ^ 24;simpa using hl)) fun t' k=>hq _ _ _ _ q hi.toks .refl (.strOf (lstrip_eq x y)))
end
noncomputable def sg (b:Bool):Nat:=if b then 112 else 104
noncomputable abbrev sgs (r:List Bool):List Nat:=r.map sg
noncomputable def rot {α:Type} (r:List α) (k:Nat):List α:=r.drop (k % r.length)++r.take (k % r.length)
noncomputable def mu (r:List Bool):List Bool:=(r.map fun b=>[b,!b]).flatten
noncomputable def muN (r:List Bool):Nat→List Bool
 | 0=>r
 | n + 1=>mu (muN r n)
theorem rot_map {α β:Type} (f:α→β) (r:List α) (k:Nat):rot (r.map f) k=(rot r k).map f:=by simp [rot,List.map_drop,List.map_take]
theorem rot_length {α:Type} (r:List α) (k:Nat):(rot r k).length=r.length:=by
 unfold rot
 rw [List.length_append,Nat.add_comm,← List.length_append,List.take_append_drop]
theorem log_small {b:Nat} (h0:b≠0) (h:b < 2 ^ 64):b.log2 < 9000:=log2_lt_of h0 (Nat.lt_of_lt_of_le h (Nat.pow_le_pow_right (by decide) (by decide)))
theorem mu_length (r:List Bool):(mu r).length=2 * r.length:=by
 unfold mu
 induction r with
 | nil=>rfl
 | cons b r ih=>simp only [List.map_cons,List.flatten_cons,List.length_append,ih,List.length_cons,List.length_nil];walk_at "l"
theorem muN_length (r:List Bool) (n:Nat):(muN r n).length=2 ^ n * r.length:=by
 induction n with
 | zero=>simp [muN]
 | succ n ih=>rw [muN,mu_length,ih,Nat.pow_succ];lia
theorem bd__law_turned:Binds F__law_turned ["ring", "places"]:=by walk_at "binds"
theorem ck__law_turned:fnB F__law_turned ["ring", "places"]=true:=by decide +kernel
theorem bd__law_grown:Binds F__law_grown ["ring", "times", "twos"]:=by walk_at "binds"
theorem ck__law_grown:fnC F__law_grown ["ring", "times", "twos"] []=true:=by decide +kernel
section
variable {K:Kx} {ρ:Fm} {σ:Store} {d:Nat} {Q:V→Store→Prop}
theorem cs__law_turned (hd:4≤d) {x:List Nat} {k:Nat} (hx:x.length≠0) (hl:x.length≤2 ^ 20) (q:Q (.str (rot x k)) σ):CallV d (.raw (.ref A__law_turned)) [.str x,.int k] σ Q:=by
 refine CallV.le (d:=4) (CallV.of ?_) hd
 refine cv_fn' (d:=3) B.ok2 B.f__law_turned bd__law_turned ck__law_turned rfl rfl rfl ?_
 walk_at "start"
 walk_at "go"
 ·refine ⟨_,_,_,.int _,.none,.none,sub_str,gs_drop (by walk_at "l") ?_⟩
  walk_at "go"
  ·refine ⟨_,_,_,.none,.int _,.none,sub_str,gs_take (by walk_at "l") ?_⟩
   walk_at "go"
   ·exact q
   ·rw [← List.length_append];exact Nat.le_trans (Nat.le_of_eq (rot_length x k)) (Nat.le_trans hl (by decide))
  ·walk_at "l"
  ·exact hx
  ·exact log_small hx (by walk_at "l")
 ·walk_at "l"
 ·exact hx
 ·exact log_small hx (by walk_at "l")
theorem cs__law_grown (hd:6≤d) {r:List Bool} {n:Nat} (hl:2 ^ n * r.length≤2 ^ 16) (hn:n≤16) (q:Q (.str (sgs (muN r n))) σ):CallV d (.raw (.ref A__law_grown)) [.str (sgs r),.int n,.lst [.str [104,112],.str [112,104]]] σ Q:=by
 refine CallV.le (d:=6) (CallV.of ?_) hd
 refine cv_fnC' (d:=5) B.ok2 B.f__law_grown bd__law_grown ck__law_grown rfl rfl rfl ?_
 walk_at "start"
 walk_at "go"
 refine st_forL ?_
 walk_at "go"
 refine ⟨_,items_rng0 n (by walk_at "l"),fun k ρ' σ'=>σ'=σ∧Has ρ' [("ring", .val (.str (sgs (muN r k)))),("twos", .val (.lst [.str [104,112],.str [112,104]]))],⟨rfl,by show Has _ [("ring", .val (.str (sgs r))),("twos", .val (.lst [.str [104,112],.str [112,104]]))];walk_at "has"⟩,?_,?_⟩
 ·intro k x ρ' σ' hx hJ5
  refine bc fun hbc=>?_
  obtain ⟨rfl,hhas⟩:=hJ5
  refine hbc ?_
  clear hbc
  have hk:k < n:=by
   rcases Nat.lt_or_ge k n with h | h
   ·exact h
   ·exact absurd ((List.getElem?_eq_none (by simpa using h)).symm.trans hx) (Option.some_ne_none _).symm
  have hlen:(muN r k).length * 2≤2 ^ 16:=by
   rw [muN_length]
   have:2 ^ (k + 1) * r.length≤2 ^ n * r.length:=Nat.mul_le_mul_right _ (Nat.pow_le_pow_right (by decide) hk)
   rw [Nat.pow_succ] at this;lia
  refine AsP.sub ?_ hhas
  walk_at "go"
  refine ev_compT (caps:=[("twos", .val (.lst [.str [104,112],.str [112,104]]))]) (compOk (by kernel_rfl) (by walk_at "has") (by rfl)) (fun b:Bool=>V.str [sg b]) (fun b=>[("sign", .val (.str [sg b]))]) (fun b=>V.str (sgs [b,!b])) ?_
  walk_at "go"
  refine ⟨muN r k,by simpa [sgs,Function.comp_def] using Items.str (sgs (muN r k)),by lia,fun b hb=>⟨tgt_name (by kernel_rfl),by kernel_rfl,fun D acc hD=>?_⟩,?_⟩
  ·simp only [List.cons_append,List.nil_append]
   walk_at "go"
   cases b
   ·refine ifp (by decide) ?_
    walk_at "go"
    refine gi_lst (.fr _) (by decide) rfl (by decide) ?_
    exact ⟨rfl,rfl⟩
   ·refine ifn (by decide) ?_
    walk_at "go"
    refine gi_lst (.fr _) (by decide) rfl (by decide) ?_
    exact ⟨rfl,rfl⟩
  ·walk_at "go"
   have e:((muN r k).map fun b=>sgs [b,!b]).flatten=sgs (muN r (k + 1)):=by
    show _=sgs (mu (muN r k))
    rw [mu,sgs,List.map_flatten,List.map_map];rfl
   refine bi_join0 (xs:=(muN r k).map fun b=>sgs [b,!b]) (by simpa [Function.comp_def] using LV.fr _) (by rw [e];simp [muN,mu_length];lia) ?_
   rw [e]
   walk_at "go"
   exact ⟨rfl,by walk_at "has"⟩
 ·intro ρ' σ' hJ2
  refine bc fun hbc=>?_
  obtain ⟨rfl,hhas⟩:=hJ2
  refine hbc ?_
  clear hbc
  rw [List.length_map,List.length_range] at hhas
  refine cont_next (ExP.has ?_ hhas)
  walk_at "go"
  exact q
end
noncomputable def dg (b:Bool):Nat:=if b then 1 else 0
noncomputable def figs (r:List Bool):List Nat:=r.reverse.map dg
noncomputable def num (w:Nat) (r:List Bool):Nat:=d2i w (figs r)
set_option tactic.hygienic true in
theorem fd3 (N b:Nat) (hb:0 < b):((-(N:Int)).fdiv b,(-(N:Int)).fmod b)=if N % b=0 then (-((N / b:Nat):Int),0) else (-((N / b:Nat):Int) - 1,(b:Int) - ((N % b:Nat):Int)):=by
 have h1:=Nat.div_add_mod N b
 have h2:=Nat.mod_lt N hb
 have h3:((b * (N / b) + N % b:Nat):Int)=N:=by rw [h1]
 rw [Int.natCast_add,Int.natCast_mul] at h3
 rw [Int.fdiv_eq_ediv_of_nonneg _ (by walk_at "l"),Int.fmod_eq_emod_of_nonneg _ (by walk_at "l")]
 split
 ·rename_i h
  obtain ⟨e1,e2⟩:=(Int.ediv_emod_unique (a:=-(N:Int)) (r:=0) (q:=-((N / b:Nat):Int)) (b:=(b:Int)) (by lia)).mpr ⟨by rw [Int.mul_neg];lia,by walk_at "l", by lia⟩
  rw [e1,e2]
 ·rename_i h
  obtain ⟨e1,e2⟩:=(Int.ediv_emod_unique (a:=-(N:Int)) (r:=(b:Int) - ((N % b:Nat):Int)) (q:=-((N / b:Nat):Int) - 1) (b:=(b:Int)) (by lia)).mpr ⟨by rw [Int.mul_sub,Int.mul_neg];lia,by lia,by lia⟩
  rw [e1,e2]
set_option tactic.hygienic true in
theorem fd2 (N b:Nat) (hb:0 < b):((N:Int).fdiv (-(b:Int)),(N:Int).fmod (-(b:Int)))=if N % b=0 then (-((N / b:Nat):Int),0) else (-((N / b:Nat):Int) - 1,((N % b:Nat):Int) - (b:Int)):=by
 have h3:=fd3 N b hb
 have e:(N:Int).fdiv (-(b:Int))=(-(N:Int)).fdiv b:=by rw [← Int.neg_fdiv_neg,Int.neg_neg]
 have e2:=Int.mul_fdiv_add_fmod (N:Int) (-(b:Int))
 have e3:=Int.mul_fdiv_add_fmod (-(N:Int)) (b:Int)
 rw [e,Int.neg_mul] at e2
 have e4:(N:Int).fmod (-(b:Int))=-((-(N:Int)).fmod b):=by lia
 rw [e,e4]
 split at h3
 ·rename_i h
  rw [if_pos h]
  injection h3 with a1 a2
  rw [a1,a2];rfl
 ·rename_i h
  rw [if_neg h]
  injection h3 with a1 a2
  rw [a1,a2]
  congr 1
  walk_at "l"
theorem fdnn (N b:Nat) (hb:0 < b):((-(N:Int)).fdiv (-(b:Int)),(-(N:Int)).fmod (-(b:Int)))=(((N / b:Nat):Int),-((N % b:Nat):Int)):=by
 have e:(-(N:Int)).fdiv (-(b:Int))=((N / b:Nat):Int):=by rw [Int.neg_fdiv_neg,fdivN]
 have e2:=Int.mul_fdiv_add_fmod (-(N:Int)) (-(b:Int))
 have h1:((b * (N / b) + N % b:Nat):Int)=N:=by rw [Nat.div_add_mod]
 rw [Int.natCast_add,Int.natCast_mul] at h1
 rw [e,Int.neg_mul] at e2
 rw [e];congr 1;lia
theorem nbits_lo {b:Nat} (h:1≤b):1≤nbits b∧2 ^ (nbits b - 1)≤b:=by
 unfold nbits
 rw [if_neg (by walk_at "l")]
 exact ⟨by walk_at "l", by rw [Nat.add_sub_cancel];exact Nat.log2_self_le (by walk_at "l")⟩
theorem dvd_facts {A b way:Nat} (hb:0 < b) (hw:way < 4) {a' b' q' r' r:Int} (ea:(if way % 2=1 then -(A:Int) else A)=a') (eb:(if way > 1 then -(b:Int) else b)=b') (eq:a'.fdiv b'=q') (er:a'.fmod b'=r) (er':(if way > 1 then -r else r)=r'):
  ((way=0∨way=3)→q'=((A / b:Nat):Int)∧r'=((A % b:Nat):Int))∧(¬ (way=0∨way=3)→(r'=0→-q'=((A / b:Nat):Int)∧0=((A % b:Nat):Int))∧(r'≠0→-q' - 1=((A / b:Nat):Int)∧(b:Int) - r'=((A % b:Nat):Int))):=by
 have hm:=Nat.mod_lt A hb
 rcases (show way=0∨way=1∨way=2∨way=3 by lia) with rfl | rfl | rfl | rfl
 ·simp at ea eb er'
  subst ea eb er'
  rw [fdivN] at eq;rw [fmodN] at er
  exact ⟨fun _=>⟨eq.symm,er.symm⟩,fun h=>absurd (.inl rfl) h⟩
 ·simp at ea eb er'
  subst ea eb er'
  have h:=fd3 A b hb
  rw [eq,er] at h
  refine ⟨fun h=>by lia,fun _=>?_⟩
  split at h
  ·injection h with e1 e2;exact ⟨fun _=>by lia,fun h=>absurd e2 h⟩
  ·injection h with e1 e2;exact ⟨fun _=>by lia,fun h=>by lia⟩
 ·simp at ea eb er'
  subst ea eb er'
  have h:=fd2 A b hb
  rw [eq,er] at h
  refine ⟨fun h=>by lia,fun _=>?_⟩
  split at h
  ·injection h with e1 e2;exact ⟨fun _=>by lia,fun h=>by lia⟩
  ·injection h with e1 e2;exact ⟨fun _=>by lia,fun h=>by lia⟩
 ·simp at ea eb er'
  subst ea eb er'
  have h:=fdnn A b hb
  rw [eq,er] at h
  injection h with e1 e2
  exact ⟨fun _=>by lia,fun h=>absurd (.inr rfl) h⟩
theorem bd__law_figures:Binds F__law_figures ["ring"]:=by walk_at "binds"
theorem ck__law_figures:fnB F__law_figures ["ring"]=true:=by decide +kernel
theorem bd__law_number:Binds F__law_number ["ring", "width"]:=by walk_at "binds"
theorem ck__law_number:fnC F__law_number ["ring", "width"] []=true:=by decide +kernel
theorem bd__law_divided:Binds F__law_divided ["above", "below", "way"]:=by walk_at "binds"
theorem ck__law_divided:fnB F__law_divided ["above", "below", "way"]=true:=by decide +kernel
section
variable {K:Kx} {ρ:Fm} {σ:Store} {d:Nat} {Q:V→Store→Prop}
theorem cs__law_figures (hd:6≤d) {r:List Bool} (hl:r.length≤2 ^ 20) (q:Q (.lst (natV (figs r))) σ):CallV d (.raw (.ref A__law_figures)) [.str (sgs r)] σ Q:=by
 refine CallV.le (d:=6) (CallV.of ?_) hd
 refine cv_fn' (d:=5) B.ok2 B.f__law_figures bd__law_figures ck__law_figures rfl rfl rfl ?_
 walk_at "start"
 walk_at "go"
 refine ev_compT (caps:=[]) (compOk (by kernel_rfl) (by walk_at "has") (by rfl)) (fun b:Bool=>V.str [sg b]) (fun b=>[("sign", .val (.str [sg b]))]) (fun b=>V.int ((dg b:Nat):Int)) ?_
 walk_at "go"
 refine ⟨_,_,_,.none,.none,.int _,sub_str,gs_rev (by simp;walk_at "l") ?_⟩
 refine ⟨r.reverse,by simpa [sgs,Function.comp_def] using Items.str (sgs r).reverse,by simp;walk_at "l", fun b hb=>⟨tgt_name (by kernel_rfl),by kernel_rfl,fun D acc hD=>?_⟩,?_⟩
 ·simp only [List.cons_append,List.nil_append]
  walk_at "go"
  exact ⟨congrArg V.int (by cases b<;>decide +kernel),rfl⟩
 ·walk_at "go"
  simpa [figs,natV,Function.comp_def] using q
theorem cs__law_divided (hd:90≤d) {A b way:Nat} (hb:1≤b) (hbs:nbits b≤2 ^ 19) (ha:nbits A≤2 ^ 18) (hway:way < 4) (q:Q (.tup [.int ((A / b:Nat):Int),.int ((A % b:Nat):Int)]) σ):CallV d (.raw (.ref A__law_divided)) [.int A,.int b,.int way] σ Q:=by
 refine CallV.le (d:=90) (CallV.of ?_) hd
 refine cv_fn' (d:=89) B.ok2 B.f__law_divided bd__law_divided ck__law_divided rfl rfl rfl ?_
 walk_at "start"
 iterate 5 walk_at "s"
 refine ev_ifexpJ (way % 2 == 1) (.int (if way % 2=1 then -(A:Int) else A)) ?_ (fun h=>?_) (fun h=>?_) ?_
 ·walk_at "go"
  exact ⟨rfl,rfl⟩
 ·rw [if_pos (by simpa using h)]
  walk_at "go"
  exact ⟨rfl,rfl⟩
 ·rw [if_neg (by simpa using h)]
  walk_at "go"
  exact ⟨rfl,rfl⟩
 iterate 1 walk_at "s"
 refine ev_ifexpJ (decide (way > 1)) (.int (if way > 1 then -(b:Int) else b)) ?_ (fun h=>?_) (fun h=>?_) ?_
 ·walk_at "go"
  exact ⟨rfl,rfl⟩
 ·rw [if_pos (by simpa using h)]
  walk_at "go"
  exact ⟨rfl,rfl⟩
 ·rw [if_neg (by simpa using h)]
  walk_at "go"
  exact ⟨rfl,rfl⟩
 walk_at "go"
 refine bc fun hbc=>?_
 obtain ⟨n1,n2⟩:=nbits_lo hb
 refine hbc ?_
 clear hbc
 have hbn:(if way > 1 then -(b:Int) else b).natAbs=b:=by split<;>simp
 have han:(if way % 2=1 then -(A:Int) else A).natAbs=A:=by split<;>simp
 refine cs_int_divmod (by rw [hbn];exact divOk_big n1 hbs n2 (lt_nbits b)) (by decide) (fun e=>by rw [e] at hbn;simp at hbn;lia) (by rw [hbn];exact hbs) (by rw [han];exact Nat.lt_of_lt_of_le (lt_nbits A) (Nat.pow_le_pow_right (by decide) (by walk_at "l"))) ?_
 generalize ea:(if way % 2=1 then -(A:Int) else A)=a'
 generalize eb:(if way > 1 then -(b:Int) else b)=b'
 generalize eq:a'.fdiv b'=q'
 generalize er:a'.fmod b'=r
 generalize er':(if way > 1 then -r else r)=r'
 iterate 9 walk_at "s"
 refine ev_ifexpJ (decide (way > 1)) (.int r') ?_ (fun h=>?_) (fun h=>?_) ?_
 ·walk_at "go"
  exact ⟨rfl,rfl⟩
 ·rw [if_pos (by simpa using h)] at er'
  walk_at "go"
  exact ⟨congrArg V.int er',rfl⟩
 ·rw [if_neg (by simpa using h)] at er'
  walk_at "go"
  exact ⟨congrArg V.int er',rfl⟩
 refine bc fun hbc=>?_
 obtain ⟨f1,f2⟩:=dvd_facts hb hway ea eb eq er er'
 refine hbc ?_
 clear hbc
 walk_at "go"
 refine cmp_inT (.int _) (.tup (.cons (.int _) (.cons (.int _) .nil))) rfl rfl (fun y hy=>by
  rcases List.mem_cons.mp hy with rfl | hy
  ·rfl
  ·rcases List.mem_cons.mp hy with rfl | hy
   ·rfl
   ·cases hy) ?_
 rw [show decide (Spec.countIn (PyData.int (way:Int)) [PyData.int 0,PyData.int 3]≠0)=decide (way=0∨way=3) by
  rcases (show way=0∨way=1∨way=2∨way=3 by lia) with rfl | rfl | rfl | rfl<;>decide +kernel]
 refine ⟨_,rfl,ite_dec (fun h=>?_) (fun h=>?_)⟩
 ·refine bc fun hbc=>?_
  obtain ⟨e1,e2⟩:=f1 h
  refine hbc ?_
  clear hbc
  walk_at "go"
  rw [e1,e2];exact q
 ·walk_at "go"
  refine ite_beq (fun h0=>?_) (fun h0=>?_)
  ·refine bc fun hbc=>?_
   obtain ⟨e1,e2⟩:=(f2 h).1 h0
   refine hbc ?_
   clear hbc
   walk_at "go"
   rw [e1,e2];exact q
  ·refine bc fun hbc=>?_
   obtain ⟨e1,e2⟩:=(f2 h).2 h0
   refine hbc ?_
   clear hbc
   walk_at "go"
   rw [e1,e2];exact q
end
theorem num_sum (w:Nat) (r:List Bool):((((List.range r.length).filter fun k=>r[r.length - 1 - k]?.getD false).map fun k=>2 ^ (w * k)).sum)=num w r:=by
 have key:∀ l:List Bool,(((List.range l.length).filter fun k=>l[k]?.getD false).map fun k=>2 ^ (w * k)).sum=d2i w (l.map dg):=by
  intro l
  induction l with
  | nil=>rfl
  | cons b l ih=>
   rw [List.length_cons,List.range_succ_eq_map,List.filter_cons,List.filter_map]
   have e:((fun k=>(b :: l)[k]?.getD false) ∘ Nat.succ)=fun k=>l[k]?.getD false:=by funext k;simp
   have e2:((fun k=>2 ^ (w * k)) ∘ Nat.succ)=fun k=>2 ^ w * 2 ^ (w * k):=by funext k;simp [Nat.mul_add,Nat.pow_add,Nat.mul_comm]
   have e3:∀ m:List Nat,(m.map fun k=>2 ^ w * 2 ^ (w * k)).sum=2 ^ w * (m.map fun k=>2 ^ (w * k)).sum:=by
    intro m
    induction m with
    | nil=>rfl
    | cons x m ih=>simp only [List.map_cons,List.sum_cons,ih,Nat.mul_add]
   rw [e]
   simp only [List.map_cons,d2i]
   rw [← ih]
   cases b
   ·simp [e2,e3,dg,List.map_map]
   ·simp [e2,e3,dg,List.map_map]
 have h:=key r.reverse
 rw [num,figs,← h,List.length_reverse]
 congr 2
 refine List.filter_congr fun k hk=>?_
 have hk:=List.mem_range.mp hk
 rw [List.getElem?_reverse hk]
section
variable {K:Kx} {ρ:Fm} {σ:Store} {d:Nat} {Q:V→Store→Prop}
theorem cs__law_number (hd:6≤d) {r:List Bool} {w:Nat} (hl:r.length≤2 ^ 10) (hw:w≤2 ^ 10) (q:Q (.int (num w r:Nat)) σ):CallV d (.raw (.ref A__law_number)) [.str (sgs r),.int w] σ Q:=by
 refine CallV.le (d:=6) (CallV.of ?_) hd
 refine cv_fnC' (d:=5) B.ok2 B.f__law_number bd__law_number ck__law_number rfl rfl rfl ?_
 walk_at "start"
 walk_at "go"
 refine ev_compTF (caps:=[("ring", .val (.str (sgs r))),("width", .val (.int (w:Int)))]) (compOk (by kernel_rfl) (by walk_at "has") (by rfl)) (fun k:Nat=>V.int k) (fun k=>[("k", .val (.int k))]) (fun k=>r[r.length - 1 - k]?.getD false) (fun k=>V.int ((2 ^ (w * k):Nat):Int)) ?_
 walk_at "go"
 rotate_left;· simp;walk_at "l"
 refine ⟨List.range (sgs r).length,items_rng0 _ (by simp;walk_at "l"),by simp;walk_at "l", fun k hk=>⟨tgt_name (by kernel_rfl),by kernel_rfl,fun D acc hD=>?_⟩,?_⟩
 ·have hk:k < r.length:=by simpa using hk
  simp only [List.cons_append,List.nil_append]
  walk_at "go"
  have e:((-1 - (k:Int)) + ((sgs r).length:Int)).toNat=r.length - 1 - k:=by rw [List.length_map,show (-1 - (k:Int) + r.length)=(r.length:Int) - ((1 + k:Nat):Int) by rw [Int.natCast_add];simp +arith,Int.toNat_sub,Nat.sub_sub]
  refine gi_str_neg (c:=sg (r[r.length - 1 - k]?.getD false)) (by lia) (by simp;lia) ?_ (by simp;walk_at "l") ?_
  ·rw [e,List.getElem?_map,List.getElem?_eq_getElem (sub1_lt hk)];rfl
  generalize r[r.length - 1 - k]?.getD false=b
  walk_at "go"
  cases b
  ·refine ifn (by decide) ?_
   refine ⟨rfl,rfl,fun hp=>absurd hp (by decide)⟩
  ·refine ifp (by decide) ?_
   walk_at "go"
   refine ⟨rfl,rfl,fun hp=>?_⟩
   walk_at "go"
   ·exact ⟨by rw [Nat.one_mul],rfl⟩
   ·exact mulOk_small (.inl (by walk_at "l"))
   ·have h1:w * k≤2 ^ 10 * 2 ^ 10:=Nat.mul_le_mul hw (by lia)
    rw [show nbits 1=1 by decide];walk_at "l"
 ·walk_at "go"
  refine bn_sum (xs:=((List.range r.length).filter fun k=>r[r.length - 1 - k]?.getD false).map fun k=>2 ^ (w * k)) (by simpa [natV,Function.comp_def] using LV.fr _) ?_
  walk_at "go"
  rw [num_sum];exact q
end
theorem divmod_of {N b S T:Nat} (h:N=b * S + T) (hT:T < b):N / b=S∧N % b=T:=by
 subst h
 refine ⟨?_,?_⟩
 ·rw [Nat.mul_add_div (by walk_at "l"),Nat.div_eq_of_lt hT,Nat.add_zero]
 ·rw [Nat.mul_add_mod,Nat.mod_eq_of_lt hT]
theorem ndig_eq {w N m:Nat} (hw:1≤w) (hl:2 ^ (w * m)≤N) (hu:N < 2 ^ (w * (m + 1))):ndig w N=m + 1:=by
 have h0:N≠0:=by have:=Nat.two_pow_pos (w * m);lia
 have h1:=nbits_le hu
 have h2:w * m < nbits N:=by
  rcases Nat.lt_or_ge (w * m) (nbits N) with h | h
  ·exact h
  ·have:=lt_nbits N
   have h3:2 ^ nbits N≤2 ^ (w * m):=Nat.pow_le_pow_right (by decide) h
   lia
 unfold ndig
 rw [Nat.mul_add,Nat.mul_one] at h1
 obtain ⟨z,hz⟩:∃ z,nbits N=w * m + 1 + z:=⟨nbits N - (w * m + 1),(Nat.add_sub_of_le h2).symm⟩
 have hz2:z < w:=by
  rw [hz] at h1
  exact Nat.lt_of_add_lt_add_left (n:=w * m) (by rw [Nat.add_right_comm] at h1;exact h1)
 have e:nbits N + w - 1=w * (m + 1) + z:=by rw [hz,Nat.mul_add,Nat.mul_one,Nat.add_right_comm _ 1,Nat.add_right_comm _ 1,Nat.add_sub_cancel,Nat.add_right_comm]
 rw [e,Nat.mul_add_div hw,Nat.div_eq_of_lt hz2,Nat.add_zero]
theorem i2d_d2i (w:Nat):∀ l:List Nat,(∀ x∈l,x < 2 ^ w)→i2d w l.length (d2i w l)=l
 | [],_=>rfl
 | x :: r,h=>by
  have hx:=h x List.mem_cons_self
  have ih:=i2d_d2i w r fun y hy=>h y (List.mem_cons_of_mem _ hy)
  simp only [d2i,i2d,List.length_cons]
  rw [Nat.add_mul_mod_self_left,Nat.mod_eq_of_lt hx,Nat.add_mul_div_left _ _ (Nat.two_pow_pos w),Nat.div_eq_of_lt hx,Nat.zero_add,ih]
noncomputable def bareR:List Nat→List Nat
 | []=>[]
 | x :: r=>if (bareR r).isEmpty && x == 0 then [] else x :: bareR r
theorem bareR_sub:∀ (l:List Nat),∀ x∈bareR l,x∈l
 | y :: r,x,h=>by
  unfold bareR at h
  split at h
  ·cases h
  ·rcases List.mem_cons.mp h with rfl | h
   ·exact List.mem_cons_self
   ·exact List.mem_cons_of_mem _ (bareR_sub r x h)
set_option tactic.hygienic true in
theorem d2i_bareR (w:Nat):∀ l:List Nat,d2i w (bareR l)=d2i w l
 | []=>rfl
 | x :: r=>by
  have ih:=d2i_bareR w r
  unfold bareR
  split
  ·rename_i h
   simp only [Bool.and_eq_true,List.isEmpty_iff,beq_iff_eq] at h
   simp only [d2i,h.2,← ih,h.1];simp
  ·simp only [d2i,ih]
set_option tactic.hygienic true in
theorem d2i_low (w:Nat):∀ l:List Nat,bareR l≠[]→2 ^ (w * ((bareR l).length - 1))≤d2i w l
 | [],h=>absurd rfl h
 | x :: r,h=>by
  have ih:=d2i_low w r
  unfold bareR at h ⊢
  split at h
  ·exact absurd rfl h
  ·rename_i hc
   rw [if_neg hc]
   simp only [List.length_cons,Nat.add_sub_cancel,d2i]
   by_cases he:bareR r=[]
   ·have hx:x≠0:=fun e=>hc (by simp [he,e])
    rw [he]
    simp only [List.length_nil,Nat.mul_zero,Nat.pow_zero]
    lia
   ·have hl:1≤(bareR r).length:=by cases hb:bareR r with | nil=>exact absurd hb he | cons=>simp
    have:=ih he
    have e:2 ^ (w * (bareR r).length)=2 ^ w * 2 ^ (w * ((bareR r).length - 1)):=by
     rw [← Nat.pow_add];congr 1
     conv=>lhs;rw [show (bareR r).length=((bareR r).length - 1) + 1 by lia,Nat.mul_add,Nat.mul_one]
     walk_at "l"
    rw [e]
    exact Nat.le_trans (Nat.mul_le_mul_left _ this) (Nat.le_add_left ..)
theorem figures (w:Nat) (hw:1≤w) (l:List Nat) (h:∀ x∈l,x < 2 ^ w):i2d w (ndig w (d2i w l)) (d2i w l)=bareR l:=by
 have hb:=i2d_d2i w (bareR l) fun x hx=>h x (bareR_sub l x hx)
 rw [d2i_bareR] at hb
 by_cases he:bareR l=[]
 ·have h0:d2i w l=0:=by rw [← d2i_bareR,he];rfl
  rw [h0,he]
  have:ndig w 0=0:=by unfold ndig;rw [show nbits 0=0 from rfl,Nat.zero_add];exact Nat.div_eq_of_lt (by lia)
  rw [this];rfl
 ·have hl:1≤(bareR l).length:=by cases hb:bareR l with | nil=>exact absurd hb he | cons=>simp
  have hlo:=d2i_low w l he
  have hup:=d2i_lt w (bareR l) fun x hx=>h x (bareR_sub l x hx)
  rw [d2i_bareR] at hup
  have:=ndig_eq (m:=(bareR l).length - 1) hw hlo (by rw [Nat.sub_add_cancel hl];exact hup)
  rw [this,Nat.sub_add_cancel hl,hb]
theorem figs_append (a b:List Bool):figs (a++b)=figs b++figs a:=by simp [figs]
theorem figs_length (a:List Bool):(figs a).length=a.length:=by simp [figs]
theorem figs_le (a:List Bool):∀ x∈figs a,x≤1:=fun x hx=>by
 obtain ⟨b,_,rfl⟩:=List.mem_map.mp hx
 cases b<;>decide
theorem num_append (w:Nat) (a b:List Bool):num w (a++b)=num w b + 2 ^ (w * b.length) * num w a:=by
 rw [num,figs_append,d2i_append,figs_length];rfl
theorem d2i_small (w:Nat) (l:List Nat) (h:∀ x∈l,x≤1):d2i w l * (2 ^ w - 1) + 1≤2 ^ (w * l.length):=by
 induction l with
 | nil=>simp [d2i]
 | cons x l ih=>
  have ih:=ih fun y hy=>h y (List.mem_cons_of_mem _ hy)
  have hx:=h x List.mem_cons_self
  rw [List.length_cons,Nat.mul_add,Nat.mul_one,Nat.pow_add,d2i,Nat.add_mul]
  generalize 2 ^ (w * l.length)=P at *
  have hp:=Nat.two_pow_pos w
  generalize 2 ^ w=W at *
  have h1:x * (W - 1)≤W - 1:=by
   have:=Nat.mul_le_mul_right (W - 1) hx;lia
  have h2:(d2i w l * (W - 1) + 1) * W≤P * W:=Nat.mul_le_mul_right _ ih
  rw [Nat.add_mul,Nat.one_mul,Nat.mul_right_comm] at h2
  rw [Nat.mul_comm W (d2i w l)]
  exact Nat.le_trans (by rw [Nat.add_comm (x * (W - 1)),Nat.add_assoc];exact Nat.add_le_add_left (Nat.add_le_of_le_sub hp h1) _) h2
theorem num_lt {w:Nat} (hw:2≤w) {r:List Bool} (hr:r≠[]):num w r < 2 ^ (w * r.length) - 1:=by
 have h:=d2i_small w (figs r) (figs_le r)
 rw [figs_length] at h
 have hW:2 ^ 2≤2 ^ w:=Nat.pow_le_pow_right (by decide) hw
 have hL:1≤r.length:=by cases r with | nil=>exact absurd rfl hr | cons=>simp
 have hP:2 ^ 2≤2 ^ (w * r.length):=Nat.le_trans hW (Nat.pow_le_pow_right (by decide) (Nat.le_mul_of_pos_right _ hL))
 have h3:d2i w (figs r) * 3≤d2i w (figs r) * (2 ^ w - 1):=Nat.mul_le_mul_left _ (by lia)
 show d2i w (figs r) < _
 exact Nat.lt_sub_of_add_lt (by lia)
theorem rot_div {w:Nat} (hw:2≤w) {r:List Bool} {q:Nat} (h1:1≤q) (h2:q≤r.length):num w r * 2 ^ (w * q) / (2 ^ (w * r.length) - 1)=num w (r.take q)∧num w r * 2 ^ (w * q) % (2 ^ (w * r.length) - 1)=num w (rot r q):=by
 have hr:r≠[]:=by intro e;subst e;simp at h2;lia
 have hlt:=num_lt hw (r:=rot r q) (by intro e;have:=congrArg List.length e;rw [rot_length] at this;simp at this;exact hr this)
 rw [rot_length] at hlt
 refine divmod_of ?_ hlt
 have hP:=Nat.two_pow_pos (w * r.length)
 have e1:num w r=num w (r.drop q) + 2 ^ (w * (r.length - q)) * num w (r.take q):=by
  conv=>lhs;rw [← List.take_append_drop q r]
  rw [num_append,List.length_drop]
 have e3:2 ^ (w * r.length)=2 ^ (w * (r.length - q)) * 2 ^ (w * q):=by rw [← Nat.pow_add,← Nat.mul_add];congr 2;lia
 have e2:num w (rot r q)=num w (r.take q) + 2 ^ (w * q) * num w (r.drop q):=by
  unfold rot
  rcases Nat.lt_or_ge q r.length with h | h
  ·rw [Nat.mod_eq_of_lt h,num_append,List.length_take,Nat.min_eq_left h2]
  ·have:q=r.length:=by lia
   subst this
   simp [num,figs,d2i]
 rw [e2,e1,Nat.sub_mul,Nat.one_mul,e3,Nat.add_mul]
 generalize num w (r.take q)=A
 generalize num w (r.drop q)=B'
 generalize hY:2 ^ (w * (r.length - q))=Y
 generalize hZ:2 ^ (w * q)=Z
 have hYZ:A≤Y * Z * A:=Nat.le_mul_of_pos_left _ (by rw [← hY,← hZ];exact Nat.mul_pos (Nat.two_pow_pos _) (Nat.two_pow_pos _))
 have e4:Y * A * Z=Y * Z * A:=Nat.mul_right_comm ..
 rw [← Nat.add_assoc,Nat.sub_add_cancel hYZ,Nat.mul_comm B',Nat.add_comm,e4]
theorem bare_figs (a:List Bool):bareR (figs a)=figs (a.dropWhile (!·)):=by
 have key:∀ l:List Nat,∀ x,bareR (l++[x])=if x=0 then bareR l else l++[x]:=by
  intro l x
  induction l with
  | nil=>by_cases h:x=0<;>simp [bareR,h]
  | cons y l ih=>
   rw [List.cons_append,bareR,ih]
   by_cases h:x=0
   ·simp [h,bareR]
   ·simp [h]
 induction a with
 | nil=>rfl
 | cons b a ih=>
  have e:figs (b :: a)=figs a++[dg b]:=by simp [figs]
  rw [e,key]
  cases b
  ·simp [dg,ih]
  ·simp [dg,figs]
theorem xor_add {w x y X Y:Nat} (hx:x < 2 ^ w) (hy:y < 2 ^ w):(x + 2 ^ w * X) ^^^ (y + 2 ^ w * Y)=(x ^^^ y) + 2 ^ w * (X ^^^ Y):=by
 apply Nat.eq_of_testBit_eq
 intro j
 rw [Nat.add_comm x,Nat.add_comm y,Nat.add_comm (x ^^^ y),Nat.testBit_xor,Nat.testBit_two_pow_mul_add _ hx,Nat.testBit_two_pow_mul_add _ hy,Nat.testBit_two_pow_mul_add _ (Nat.xor_lt_two_pow hx hy)]
 split<;>simp [Nat.testBit_xor]
theorem d2i_xor (w:Nat) (l:List Nat):∀ l':List Nat,l.length=l'.length→(∀ x∈l,x < 2 ^ w)→(∀ x∈l',x < 2 ^ w)→d2i w l ^^^ d2i w l'=d2i w (List.zipWith (· ^^^ ·) l l'):=by
 induction l with
 | nil=>intro l' h _ _;cases l' with | nil=>simp [d2i] | cons=>simp at h
 | cons x l ih=>
  intro l' h h1 h2
  cases l' with
  | nil=>simp at h
  | cons y l'=>
   simp only [d2i,List.zipWith_cons_cons]
   rw [xor_add (h1 _ List.mem_cons_self) (h2 _ List.mem_cons_self),ih l' (by simpa using h) (fun z hz=>h1 z (List.mem_cons_of_mem _ hz)) (fun z hz=>h2 z (List.mem_cons_of_mem _ hz))]
set_option tactic.hygienic true in
theorem bareR_pad (l:List Nat):bareR l++List.replicate (l.length - (bareR l).length) 0=l:=by
 have hle:∀ l:List Nat,(bareR l).length≤l.length:=by
  intro l
  induction l with
  | nil=>simp [bareR]
  | cons x l ih=>rw [bareR];split<;>simp;exact ih
 induction l with
 | nil=>rfl
 | cons x l ih=>
  rw [bareR]
  have:=hle l
  split
  ·rename_i h
   rw [Bool.and_eq_true,List.isEmpty_iff,beq_iff_eq] at h
   rw [h.1] at ih
   rw [h.2]
   simp only [List.nil_append,List.length_nil,Nat.sub_zero,List.length_cons,List.replicate_succ] at ih ⊢
   rw [ih]
  ·rw [List.cons_append,List.length_cons,List.length_cons,Nat.add_sub_add_right,ih]
noncomputable def cyc (r:List Bool) (i:Nat):Bool:=r.getD (i % r.length) false
noncomputable def Lap (r:List Bool) (q:Nat):Prop:=∃ k,∀ j,j≤q→cyc r (k + j)=cyc r (k + j + q)
theorem cyc_add (r:List Bool) (i s:Nat):cyc r (i + s * r.length)=cyc r i:=by unfold cyc;rw [Nat.add_mul_mod_self_right]
theorem cyc_mod (r:List Bool) {i j:Nat} (h:i % r.length=j % r.length):cyc r i=cyc r j:=by unfold cyc;rw [h]
theorem mu_get (r:List Bool):∀ i,(mu r)[2 * i]?=r[i]?∧(mu r)[2 * i + 1]?=r[i]?.map (!·):=by
 induction r with
 | nil=>intro i;simp [mu]
 | cons b r ih=>
  intro i
  have e:mu (b :: r)=b :: (!b) :: mu r:=by simp [mu]
  rw [e]
  cases i with
  | zero=>simp
  | succ i=>rw [show 2 * (i + 1)=2 * i + 1 + 1 by walk_at "l"];simpa using ih i
theorem cyc_mu {r:List Bool} (hr:r≠[]) (i:Nat):cyc (mu r) (2 * i)=cyc r i∧cyc (mu r) (2 * i + 1)=!cyc r i:=by
 have hL:0 < r.length:=List.length_pos_iff.mpr hr
 have hm:=Nat.mod_lt i hL
 obtain ⟨h1,h2⟩:=mu_get r (i % r.length)
 have e1:(2 * i) % (2 * r.length)=2 * (i % r.length):=Nat.mul_mod_mul_left 2 i r.length
 have e2:(2 * i + 1) % (2 * r.length)=2 * (i % r.length) + 1:=by
  have h3:=Nat.div_add_mod i r.length
  have:2 * i + 1=2 * (i % r.length) + 1 + (i / r.length) * (2 * r.length):=by
   conv=>lhs;rw [← h3]
   rw [Nat.mul_comm (i / r.length),Nat.mul_assoc];walk_at "l"
  rw [this,Nat.add_mul_mod_self_right,Nat.mod_eq_of_lt (by lia)]
 unfold cyc
 rw [mu_length,e1,e2,List.getD_eq_getElem?_getD,List.getD_eq_getElem?_getD,List.getD_eq_getElem?_getD,h1,h2,List.getElem?_eq_getElem hm]
 simp
theorem lap_mu {r:List Bool} (hr:r≠[]) (q:Nat):Lap (mu r) q↔∃ p,q=2 * p∧Lap r p:=by
 constructor
 ·rintro ⟨k,h⟩
  rcases Nat.mod_two_eq_zero_or_one q with hq | hq
  ·refine ⟨q / 2,by lia,k / 2,fun j hj=>?_⟩
   have h0:=h (2 * j) (by lia)
   obtain ⟨a1,a2⟩:=cyc_mu hr (k / 2 + j)
   obtain ⟨b1,b2⟩:=cyc_mu hr (k / 2 + j + q / 2)
   rcases Nat.mod_two_eq_zero_or_one k with hk | hk
   ·rw [show k + 2 * j=2 * (k / 2 + j) by lia,show 2 * (k / 2 + j) + q=2 * (k / 2 + j + q / 2) by lia,a1,b1] at h0
    exact h0
   ·rw [show k + 2 * j=2 * (k / 2 + j) + 1 by lia,show 2 * (k / 2 + j) + 1 + q=2 * (k / 2 + j + q / 2) + 1 by lia,a2,b2] at h0
    exact Bool.not_inj h0
  ·exfalso
   have blk:∀ i,i % 2=0→cyc (mu r) (i + 1)=!cyc (mu r) i:=fun i hi=>by
    obtain ⟨a1,a2⟩:=cyc_mu hr (i / 2)
    rw [show 2 * (i / 2)=i by lia] at a1 a2
    rw [a1,a2]
   have alt:∀ j,j < q→cyc (mu r) (k + (j + 1))=!cyc (mu r) (k + j):=fun j hj=>by
    rcases Nat.mod_two_eq_zero_or_one (k + j) with hk | hk
    ·exact blk _ hk
    ·rw [h (j + 1) hj,h j (Nat.le_of_lt hj),show k + (j + 1) + q=k + j + q + 1 by walk_at "l"]
     exact blk _ (by rw [Nat.add_mod,hk,hq])
   have par:∀ j,j≤q→cyc (mu r) (k + j)=(cyc (mu r) k ^^ (j % 2 == 1)):=by
    intro j
    induction j with
    | zero=>intro _;simp
    | succ j ih=>
     intro hj
     rw [alt j hj,ih (Nat.le_of_lt hj)]
     rcases Nat.mod_two_eq_zero_or_one j with h2 | h2
     ·rw [show (j + 1) % 2=1 by lia,h2];simp
     ·rw [show (j + 1) % 2=0 by lia,h2];simp
   have h1:=par q (Nat.le_refl _)
   have h2:=h 0 (Nat.zero_le _)
   rw [Nat.add_zero] at h2
   rw [← h2,hq] at h1
   revert h1;cases cyc (mu r) k<;>decide
 ·rintro ⟨p,rfl,k,h⟩
  refine ⟨2 * k,fun j hj=>?_⟩
  have h0:=h (j / 2) (by lia)
  obtain ⟨a1,a2⟩:=cyc_mu hr (k + j / 2)
  obtain ⟨b1,b2⟩:=cyc_mu hr (k + j / 2 + p)
  rcases Nat.mod_two_eq_zero_or_one j with hk | hk
  ·rw [show 2 * k + j=2 * (k + j / 2) by lia,show 2 * (k + j / 2) + 2 * p=2 * (k + j / 2 + p) by walk_at "l", a1,b1,h0]
  ·rw [show 2 * k + j=2 * (k + j / 2) + 1 by lia,show 2 * (k + j / 2) + 1 + 2 * p=2 * (k + j / 2 + p) + 1 by walk_at "l", a2,b2,h0]
theorem muN_ne {r:List Bool} (hr:r≠[]) (n:Nat):muN r n≠[]:=by
 intro e
 have:=congrArg List.length e
 rw [muN_length] at this
 have h1:0 < r.length:=List.length_pos_iff.mpr hr
 have:=Nat.mul_pos (Nat.two_pow_pos n) h1
 simp at *;lia
theorem lap_muN {r:List Bool} (hr:r≠[]) (n:Nat):∀ q,Lap (muN r n) q↔∃ p,q=2 ^ n * p∧Lap r p:=by
 induction n with
 | zero=>intro q;simp [muN]
 | succ n ih=>
  intro q
  rw [muN,lap_mu (muN_ne hr n)]
  constructor
  ·rintro ⟨p,rfl,h⟩
   obtain ⟨p',rfl,h'⟩:=(ih p).1 h
   exact ⟨p',by rw [Nat.pow_succ];lia,h'⟩
  ·rintro ⟨p',rfl,h'⟩
   exact ⟨2 ^ n * p',by rw [Nat.pow_succ];lia,(ih _).2 ⟨p',rfl,h'⟩⟩
theorem cyc_rot (r:List Bool) (s i:Nat):cyc (rot r s) i=cyc r (i + s):=by
 rcases Nat.eq_zero_or_pos r.length with h | h
 ·have:r=[]:=List.length_eq_zero_iff.mp h
  subst this;simp [cyc,rot]
 ·unfold cyc
  rw [rot_length]
  have h1:=Nat.mod_lt s h
  have h2:=Nat.mod_lt i h
  rw [List.getD_eq_getElem?_getD,List.getD_eq_getElem?_getD]
  congr 1
  unfold rot
  rw [Nat.add_mod i s]
  generalize i % r.length=x at *
  generalize s % r.length=y at *
  rcases Nat.lt_or_ge x (r.length - y) with hh | hh
  ·rw [List.getElem?_append_left (by simpa using hh),List.getElem?_drop,Nat.mod_eq_of_lt (show x + y < r.length by lia),Nat.add_comm]
  ·obtain ⟨z,hz⟩:∃ z,x=(r.length - y) + z:=⟨x - (r.length - y),(Nat.add_sub_of_le hh).symm⟩
   have hz2:x + y=r.length + z:=by rw [hz,Nat.add_right_comm,Nat.sub_add_cancel (Nat.le_of_lt h1)]
   have hz3:z < y:=by lia
   rw [List.getElem?_append_right (by simpa using hh),List.length_drop,hz,Nat.add_sub_cancel_left,List.getElem?_take_of_lt hz3,← hz,hz2,Nat.add_mod_left,Nat.mod_eq_of_lt (Nat.lt_trans hz3 h1)]
theorem lap_rot (r:List Bool) (s q:Nat):Lap (rot r s) q↔Lap r q:=by
 constructor
 ·rintro ⟨k,h⟩
  refine ⟨k + s,fun j hj=>?_⟩
  have:=h j hj
  rw [cyc_rot,cyc_rot] at this
  rw [show k + s + j=k + j + s by walk_at "l", this];congr 1;walk_at "l"
 ·rintro ⟨k,h⟩
  rcases Nat.eq_zero_or_pos r.length with h0 | h0
  ·have:r=[]:=List.length_eq_zero_iff.mp h0
   subst this
   exact ⟨k,by simpa [rot] using h⟩
  refine ⟨k + s * (r.length - 1),fun j hj=>?_⟩
  have e:s * (r.length - 1) + s=s * r.length:=by
   conv=>rhs;rw [show r.length=r.length - 1 + 1 by lia,Nat.mul_add,Nat.mul_one]
  rw [cyc_rot,cyc_rot,show k + s * (r.length - 1) + j + s=k + j + s * r.length by lia,cyc_add,show k + s * (r.length - 1) + j + q + s=k + j + q + s * r.length by lia,cyc_add]
  exact h j hj
noncomputable def lapB (r:List Bool) (q:Nat):Bool:=(List.range r.length).any fun k=>(List.range (q + 1)).all fun j=>cyc r (k + j) == cyc r (k + j + q)
theorem lapB_iff {r:List Bool} (hr:r≠[]) (q:Nat):lapB r q=true↔Lap r q:=by
 have hL:0 < r.length:=List.length_pos_iff.mpr hr
 unfold lapB
 rw [List.any_eq_true]
 constructor
 ·rintro ⟨k,_,h⟩
  refine ⟨k,fun j hj=>?_⟩
  have:=List.all_eq_true.mp h j (List.mem_range.mpr (by lia))
  simpa using this
 ·rintro ⟨k,h⟩
  refine ⟨k % r.length,List.mem_range.mpr (Nat.mod_lt _ hL),List.all_eq_true.mpr fun j hj=>?_⟩
  have:=h j (by have:=List.mem_range.mp hj;lia)
  rw [beq_iff_eq,cyc_mod r (i:=k % r.length + j) (j:=k + j) (by simp),cyc_mod r (i:=k % r.length + j + q) (j:=k + j + q) (by rw [Nat.add_assoc,Nat.add_assoc];simp),this]
noncomputable def lapsL (r:List Bool):List Nat:=((List.range (r.length - 1)).map (· + 1)).filter (lapB r)
theorem mem_laps {r:List Bool} (hr:r≠[]) (q:Nat):q∈lapsL r↔(1≤q∧q < r.length∧Lap r q):=by
 unfold lapsL
 rw [List.mem_filter,List.mem_map,lapB_iff hr]
 constructor
 ·rintro ⟨⟨k,hk,rfl⟩,h⟩
  have:=List.mem_range.mp hk
  exact ⟨by walk_at "l", by lia,h⟩
 ·rintro ⟨h1,h2,h⟩
  exact ⟨⟨q - 1,List.mem_range.mpr (Nat.sub_lt_sub_right h1 h2),by lia⟩,h⟩
theorem laps_sorted (r:List Bool):(lapsL r).Pairwise (· < ·):=by
 refine List.Pairwise.filter _ ?_
 rw [List.pairwise_map]
 exact List.pairwise_lt_range.imp fun h=>by lia
theorem sorted_ext:∀ {l l':List Nat},l.Pairwise (· < ·)→l'.Pairwise (· < ·)→(∀ x,x∈l↔x∈l')→l=l':=by
 intro l
 induction l with
 | nil=>
  intro l' _ _ h
  cases l' with
  | nil=>rfl
  | cons y l'=>exact absurd ((h y).2 List.mem_cons_self) (by simp)
 | cons x l ih=>
  intro l' h1 h2 h
  cases l' with
  | nil=>exact absurd ((h x).1 List.mem_cons_self) (by simp)
  | cons y l'=>
   obtain ⟨a1,a2⟩:=List.pairwise_cons.mp h1
   obtain ⟨b1,b2⟩:=List.pairwise_cons.mp h2
   have e:x=y:=by
    rcases List.mem_cons.mp ((h x).1 List.mem_cons_self) with e | m1
    ·exact e
    ·rcases List.mem_cons.mp ((h y).2 List.mem_cons_self) with e | m2
     ·exact e.symm
     ·have:=b1 x m1;have:=a1 y m2;lia
   subst e
   refine congrArg (List.cons _) (ih a2 b2 fun z=>?_)
   constructor
   ·intro hz
    rcases List.mem_cons.mp ((h z).1 (List.mem_cons_of_mem _ hz)) with e | m
    ·subst e;exact absurd (a1 z hz) (Nat.lt_irrefl _)
    ·exact m
   ·intro hz
    rcases List.mem_cons.mp ((h z).2 (List.mem_cons_of_mem _ hz)) with e | m
    ·subst e;exact absurd (b1 z hz) (Nat.lt_irrefl _)
    ·exact m
theorem laps_grown {r0 last:List Bool} {n s:Nat} (hl:last≠[]) (h:rot r0 s=muN last n):lapsL r0=(lapsL last).map (2 ^ n * ·):=by
 have hlen:r0.length=2 ^ n * last.length:=by rw [← muN_length,← h,rot_length]
 have hp:=Nat.two_pow_pos n
 have hr:r0≠[]:=by
  intro e;subst e
  have h1:0 < last.length:=List.length_pos_iff.mpr hl
  have:=Nat.mul_pos hp h1
  simp at hlen;lia
 refine sorted_ext (laps_sorted r0) ?_ fun q=>?_
 ·rw [List.pairwise_map]
  exact (laps_sorted last).imp fun h=>Nat.mul_lt_mul_of_pos_left h hp
 ·rw [mem_laps hr,List.mem_map,← lap_rot r0 s,h,lap_muN hl,hlen]
  constructor
  ·rintro ⟨h1,h2,p,rfl,hp'⟩
   refine ⟨p,(mem_laps hl p).2 ⟨?_,Nat.lt_of_mul_lt_mul_left h2,hp'⟩,rfl⟩
   rcases Nat.eq_zero_or_pos p with e | e
   ·subst e;simp at h1
   ·exact e
  ·rintro ⟨p,hm,rfl⟩
   obtain ⟨h1,h2,h3⟩:=(mem_laps hl p).1 hm
   exact ⟨Nat.mul_pos hp h1,Nat.mul_lt_mul_of_pos_left h2 hp,p,rfl,h3⟩
noncomputable def fewB (r:List Bool):Bool:=r.length == 1 || (r.length == 3 && r != [false,false,false] && r != [true,true,true])
theorem few_laps {r:List Bool} (h:fewB r=true):lapsL r=[]:=by
 match r,h with
 | [a],_=>rfl
 | [a,b,c],h=>revert h;cases a<;>cases b<;>cases c<;>decide
theorem occ_one (x y:Str) (hi:Nat):(Builtin.Str.occurrences x y 0 hi 1).isEmpty=true↔∀ i,i + y.length≤hi→Builtin.Str.subAt x y i=false:=by
 have key:∀ (l:List Nat) (st:Array Nat×Nat),(st.1.size=0→st.2=0)→
   ((Id.run (forIn l st fun i __s=>if (decide (__s.fst.size < 1) && decide (__s.snd≤i) && decide (i + y.length≤hi) && Builtin.Str.subAt x y i)=true then pure (ForInStep.yield (__s.fst.push i,i + y.length)) else pure (ForInStep.yield (__s.fst,__s.snd)))).1.size=0↔
    st.1.size=0∧∀ i∈l,i + y.length≤hi→Builtin.Str.subAt x y i=false):=by
  intro l
  induction l with
  | nil=>intro st h;simp
  | cons a l ih=>
   intro st h
   rw [List.forIn_cons]
   by_cases hc:(decide (st.fst.size < 1) && decide (st.snd≤a) && decide (a + y.length≤hi) && Builtin.Str.subAt x y a)=true
   ·rw [if_pos hc]
    have:=ih (st.1.push a,a + y.length) (by simp)
    simp only [pure_bind]
    rw [this]
    simp only [Bool.and_eq_true,decide_eq_true_eq] at hc
    constructor
    ·intro h;simp at h
    ·rintro ⟨_,h2⟩
     have:=h2 a List.mem_cons_self hc.1.2
     rw [hc.2] at this;exact absurd this (by decide)
   ·rw [if_neg hc]
    simp only [pure_bind]
    rw [ih (st.1,st.2) h]
    constructor
    ·rintro ⟨h1,h2⟩
     refine ⟨h1,fun i hi'=>?_⟩
     rcases List.mem_cons.mp hi' with rfl | hi'
     ·intro hle
      have h3:=h h1
      rw [h1,h3,decide_eq_true (show 0 < 1 by decide),decide_eq_true (Nat.zero_le i),decide_eq_true hle] at hc
      simpa using hc
     ·exact h2 i hi'
    ·rintro ⟨h1,h2⟩
     exact ⟨h1,fun i hi'=>h2 i (List.mem_cons_of_mem _ hi')⟩
 unfold Builtin.Str.occurrences
 simp only [Std.Legacy.Range.forIn_eq_forIn_range']
 have h:=key (List.range' 0 [:hi + 1].size) (#[],0) (fun _=>rfl)
 have e:∀ a:Array Nat,(a.toList.isEmpty=true↔a.size=0):=fun a=>by
  rw [List.isEmpty_iff,← List.length_eq_zero_iff,Array.length_toList]
 refine (e _).trans (h.trans ?_)
 constructor
 ·rintro ⟨_,h2⟩ i hle
  refine h2 i ?_ hle
  rw [List.mem_range']
  exact ⟨i,by show i < _;simp [Std.Legacy.Range.size];lia,by simp⟩
 ·intro h2
  exact ⟨rfl,fun i _=>h2 i⟩
theorem contains_run (x:List Nat) (c n:Nat):Txt.contains ⟨x.toArray⟩ ⟨(List.replicate n c).toArray⟩=true↔∃ i,i + n≤x.length∧∀ j,j < n→x[i + j]?=some c:=by
 unfold Txt.contains
 rw [Bool.not_eq_true',← Bool.not_eq_true,occ_one]
 have e1:(Str.mk x.toArray).length=x.length:=by show x.toArray.size=_;simp
 have e2:(Str.mk (List.replicate n c).toArray).length=n:=by show (List.replicate n c).toArray.size=_;simp
 rw [e1,e2]
 have e3:∀ i,i + n≤x.length→(Builtin.Str.subAt ⟨x.toArray⟩ ⟨(List.replicate n c).toArray⟩ i=true↔∀ j,j < n→x[i + j]?=some c):=by
  intro i hi
  unfold Builtin.Str.subAt
  rw [e2,beq_iff_eq]
  show x.toArray.extract i (i + n)=(List.replicate n c).toArray↔_
  rw [List.extract_toArray,List.extract_eq_take_drop,Nat.add_sub_cancel_left]
  rw [Array.mk.injEq]
  constructor
  ·intro h j hj
   have:=congrArg (·[j]?) h
   rw [List.getElem?_take_of_lt hj,List.getElem?_drop,List.getElem?_replicate,if_pos hj] at this
   exact this
  ·intro h
   apply List.ext_getElem?
   intro j
   rcases Nat.lt_or_ge j n with hj | hj
   ·rw [List.getElem?_take_of_lt hj,List.getElem?_drop,List.getElem?_replicate,if_pos hj,h j hj]
   ·rw [List.getElem?_eq_none (by simp;lia),List.getElem?_eq_none (by simpa using hj)]
 constructor
 ·intro h
  refine bc fun hn=>h fun i hi=>?_
  rw [← Bool.not_eq_true]
  exact fun hs=>hn ⟨i,hi,(e3 i hi).1 hs⟩
 ·rintro ⟨i,hi,hj⟩ h
  have:=h i hi
  rw [(e3 i hi).2 hj] at this
  exact absurd this (by decide)
noncomputable def rowL (r r':List Bool):List Nat:=(List.zipWith (· ^^^ ·) (figs r) (figs r')).map fun f=>if f=0 then 61 else 35
theorem row_len (r r':List Bool) (h:r.length=r'.length):(rowL r r').length=r.length:=by simp [rowL,figs,h]
theorem figs_get (r:List Bool) {m:Nat} (h:m < r.length):(figs r)[m]?=some (dg (cyc r (r.length - 1 - m))):=by
 unfold figs cyc
 rw [List.getElem?_map,List.getElem?_reverse h,Nat.mod_eq_of_lt (sub1_lt h),List.getD_eq_getElem?_getD,List.getElem?_eq_getElem (sub1_lt h)]
 rfl
theorem row_get (r:List Bool) (q:Nat) {m:Nat} (h:m < r.length):(rowL r (rot r q))[m]?=some 61↔cyc r (r.length - 1 - m)=cyc r (r.length - 1 - m + q):=by
 unfold rowL
 rw [List.getElem?_map,List.getElem?_zipWith,figs_get r h,figs_get (rot r q) (by rw [rot_length];exact h),rot_length,cyc_rot]
 generalize cyc r (r.length - 1 - m)=a
 generalize cyc r (r.length - 1 - m + q)=b
 cases a<;>cases b<;>decide
theorem row_laps {r:List Bool} (hr:r≠[]) {q:Nat} (hq:q < r.length):Txt.contains ⟨(rowL r (rot r q)++rowL r (rot r q)).toArray⟩ ⟨(List.replicate (q + 1) 61).toArray⟩=lapB r q:=by
 have hL:0 < r.length:=List.length_pos_iff.mpr hr
 have hlen:(rowL r (rot r q)).length=r.length:=row_len _ _ (rot_length r q).symm
 have get:∀ i c,i + c + 1=2 * r.length→((rowL r (rot r q)++rowL r (rot r q))[i]?=some 61↔cyc r c=cyc r (c + q)):=by
  intro i c hi
  rcases Nat.lt_or_ge i r.length with h | h
  ·obtain ⟨e,rfl⟩:∃ e,c=e + r.length:=⟨c - r.length,by lia⟩
   have he:r.length - 1 - i=e:=by rw [Nat.sub_sub];exact Nat.sub_eq_of_eq_add (by lia)
   rw [List.getElem?_append_left (hlen.symm ▸ h),row_get r q h,he,← cyc_add r e 1,← cyc_add r (e + q) 1,Nat.one_mul,Nat.add_right_comm e q]
  ·obtain ⟨e,rfl⟩:∃ e,i=r.length + e:=⟨i - r.length,by lia⟩
   have he:r.length - 1 - e=c:=by rw [Nat.sub_sub];exact Nat.sub_eq_of_eq_add (by lia)
   rw [List.getElem?_append_right (by rw [hlen];exact h),hlen,Nat.add_sub_cancel_left,row_get r q (by lia),he]
 rw [Bool.eq_iff_iff,contains_run,lapB_iff hr,List.length_append,hlen]
 constructor
 ·rintro ⟨i,hi,h⟩
  obtain ⟨c,hc⟩:∃ c,i + q + c + 1=2 * r.length:=⟨2 * r.length - (i + q + 1),(Nat.add_right_comm _ _ 1).trans (Nat.add_sub_cancel' (Nat.two_mul r.length ▸ hi))⟩
  refine ⟨c,fun j hj=>(get (i + (q - j)) (c + j) (by rw [← hc,Nat.add_comm c,← Nat.add_assoc,Nat.add_assoc i,Nat.sub_add_cancel hj])).1 (h (q - j) (by lia))⟩
 ·rintro ⟨k,h⟩
  have hk:=Nat.mod_lt k hL
  obtain ⟨i,hi⟩:∃ i,i + q + k % r.length + 1=2 * r.length:=⟨2 * r.length - (q + k % r.length + 1),by lia⟩
  refine ⟨i,by lia,fun j hj=>?_⟩
  rw [get (i + j) (k % r.length + (q - j)) (by rw [← hi,Nat.add_comm (k % r.length),← Nat.add_assoc,Nat.add_assoc i,Nat.add_sub_cancel' (Nat.le_of_lt_succ hj)])]
  have:=h (q - j) (by walk_at "l")
  rw [cyc_mod r (i:=k % r.length + (q - j)) (j:=k + (q - j)) (by simp),cyc_mod r (i:=k % r.length + (q - j) + q) (j:=k + (q - j) + q) (by rw [Nat.add_assoc,Nat.add_assoc];simp),this]
theorem bd__law_laps:Binds F__law_laps ["ring", "width", "way"]:=by walk_at "binds"
theorem ck__law_laps:fnB F__law_laps ["ring", "width", "way"]=true:=by decide +kernel
open PySem.Spec PySem.SeqAt in
theorem shaped_t2 (x:List Nat) (i:Int):shaped (.tuple [.list (dN x),.int i])=true:=by
 refine bc fun hbc=>?_
 obtain ⟨h1,h2⟩:=dN_lay x
 refine hbc ?_
 clear hbc
 simp [shaped,PySem.PyData.canLay0,PySem.PyData.canLayAll0,PySem.PyData.depth,PySem.PyData.depthAll,h1,h2]
theorem drop_h (a:List Bool):(sgs a).dropWhile (fun c=>[104].contains c)=sgs (a.dropWhile (!·)):=by
 induction a with
 | nil=>rfl
 | cons b a ih=>cases b<;>simp_all [sgs,sg]
theorem figs_lt {w:Nat} (hw:1≤w) (r:List Bool):∀ x∈figs r,x < 2 ^ w:=fun x hx=>Nat.lt_of_le_of_lt (figs_le r x hx) (Nat.lt_of_lt_of_le (by decide:1 < 2 ^ 1) (Nat.pow_le_pow_right (by decide) hw))
theorem num_bits {w:Nat} (h0:1≤w) (r:List Bool):num w r < 2 ^ (w * r.length):=by
 have h:=d2i_small w (figs r) (figs_le r)
 rw [figs_length] at h
 have h1:2 ^ 1≤2 ^ w:=Nat.pow_le_pow_right (by decide) h0
 have h2:d2i w (figs r) * 1≤d2i w (figs r) * (2 ^ w - 1):=Nat.mul_le_mul_left _ (by lia)
 show d2i w (figs r) < _
 lia
section
variable {K:Kx} {ρ:Fm} {σ:Store} {d:Nat} {Q:V→Store→Prop}
noncomputable def lapsK (r:List Bool) (k:Nat):List Nat:=((List.range k).map (· + 1)).filter fun q=>decide (q < r.length) && lapB r q
theorem zip_le (l:List Nat):∀ l':List Nat,(∀ x∈l,x≤1)→(∀ x∈l',x≤1)→∀ x∈List.zipWith (· ^^^ ·) l l',x≤1:=by
 induction l with
 | nil=>intro l' _ _ x hx;simp at hx
 | cons a l ih=>
  intro l' h1 h2 x hx
  cases l' with
  | nil=>simp at hx
  | cons b l'=>
   rw [List.zipWith_cons_cons] at hx
   rcases List.mem_cons.mp hx with rfl | hx
   ·have a1:=h1 a List.mem_cons_self
    have a2:=h2 b List.mem_cons_self
    rcases (show a=0∨a=1 by lia) with rfl | rfl<;>rcases (show b=0∨b=1 by lia) with rfl | rfl<;>decide
   ·exact ih l' (fun y hy=>h1 y (List.mem_cons_of_mem _ hy)) (fun y hy=>h2 y (List.mem_cons_of_mem _ hy)) x hx
theorem lapsK_succ (r:List Bool) (k:Nat):lapsK r (k + 1)=lapsK r k++if (decide (k + 1 < r.length) && lapB r (k + 1))=true then [k + 1] else []:=by
 unfold lapsK
 rw [List.range_succ,List.map_append,List.filter_append]
 congr 1
 rw [List.map_cons,List.map_nil,List.filter_cons,List.filter_nil]
theorem lapsK_all (r:List Bool):lapsK r r.length=lapsL r:=by
 unfold lapsK lapsL
 rcases Nat.eq_zero_or_pos r.length with h | h
 ·rw [h];rfl
 ·conv=>lhs;rw [show List.range r.length=List.range (r.length - 1 + 1) by congr 1;lia]
  rw [List.range_succ,List.map_append,List.filter_append,List.map_cons,List.map_nil,List.filter_cons,List.filter_nil]
  rw [if_neg (by simp;intro h';lia),List.append_nil]
  refine List.filter_congr fun q hq=>?_
  refine bc fun hbc=>?_
  obtain ⟨i,hi,rfl⟩:=List.mem_map.mp hq
  refine hbc ?_
  clear hbc
  have:=List.mem_range.mp hi
  rw [decide_eq_true (by lia),Bool.true_and]
theorem cs__law_laps (hd:96≤d) {r:List Bool} {w way:Nat} (hr:r≠[]) (hl:r.length≤12) (hw:2≤w) (hw2:w≤640) (hway:way < 4) (q:Q (.lst (natV (lapsL r))) σ):CallV d (.raw (.ref A__law_laps)) [.str (sgs r),.int w,.int way] σ Q:=by
 refine CallV.le (d:=96) (CallV.pure (CallV.of ?_)) hd
 refine cv_fn' (d:=95) B.ok2 B.f__law_laps bd__law_laps ck__law_laps rfl rfl rfl ?_
 walk_at "start"
 refine ex_cons (st_assign_swap (names:=["number", "laps"]) ?_ (by intro env h1 h2;obtain ⟨⟨_,_,_,_⟩,_,_,_,_,_,_,_,_⟩:=env;dsimp only at h1 h2;subst h1 h2;kernel_rfl) (by intro _;rfl))
 walk_at "go"
 have hn:=num_bits (w:=w) (by walk_at "l") r
 have hwl:w * r.length≤640 * 12:=Nat.mul_le_mul hw2 hl
 refine cs__law_figures (by decide) (by walk_at "l") ?_
 walk_at "go"
 refine cs__digits2int (by decide) (by walk_at "l") (figs_lt (by walk_at "l") r) (by rw [figs_length];walk_at "l") ?_
 rw [show d2i w (figs r)=num w r from rfl]
 walk_at "go"
 refine ev_list0O fun D hD=>?_
 walk_at "go"
 refine ⟨_,rfl,rfl,?_⟩
 show SwapP _ _ _ [_,_] [_,_]
 walk_at "swp"
 walk_at "go"
 refine st_forL ?_
 walk_at "go"
 rotate_left;· simp;walk_at "l"
 rw [List.length_map]
 refine ⟨_,items_rng 1 (r.length + 1) (by walk_at "l") (by walk_at "l"),fun k ρ' σ'=>σ'=upd σ D (some (.list (natV (lapsK r k))))∧Has ρ' [("number", .val (.int (num w r:Nat))),("laps", .val (.loc D)),("ring", .val (.str (sgs r))),("width", .val (.int w)),("way", .val (.int way))],⟨rfl,by walk_at "has"⟩,?_,?_⟩
 ·intro k x ρ' σ' hx hJ5
  refine bc fun hbc=>?_
  obtain ⟨rfl,hhas⟩:=hJ5
  refine hbc ?_
  clear hbc
  have hk:k < r.length:=by
   rcases Nat.lt_or_ge k r.length with h | h
   ·exact h
   ·exact absurd ((List.getElem?_eq_none (by simpa using h)).symm.trans hx) (Option.some_ne_none _).symm
  have hx':x=.int ((1 + k:Nat):Int):=by
   rw [List.getElem?_map,List.getElem?_range (by walk_at "l")] at hx;exact (Option.some.inj hx).symm
  subst hx'
  have h2p:1≤1 * 2 ^ (w * (sgs r).length):=by have:=Nat.two_pow_pos (w * (sgs r).length);lia
  refine AsP.sub ?_ hhas
  have hq2:w * (1 + k)≤640 * 13:=Nat.mul_le_mul hw2 (by lia)
  have hnb:=nbits_le hn
  have n1:nbits 1=1:=by decide
  walk_at "go"
  rotate_left
  ·exact mulOk_small (.inl (by walk_at "l"))
  ·walk_at "l"
  ·simp;walk_at "l"
  ·exact mulOk_small (.inl (by walk_at "l"))
  ·simp;walk_at "l"
  rw [List.length_map,Nat.one_mul]
  refine bc fun hbc=>?_
  obtain ⟨d1,d2⟩:=rot_div hw (r:=r) (q:=1 + k) (by walk_at "l") (by lia)
  refine hbc ?_
  clear hbc
  have hA:num w r * 2 ^ (w * (1 + k)) < 2 ^ (w * r.length + w * (1 + k)):=by rw [Nat.pow_add];exact Nat.mul_lt_mul_of_pos_right hn (Nat.two_pow_pos _)
  have hb0:=Nat.zero_lt_of_lt (num_lt hw hr)
  refine cs__law_divided (by decide) hb0 (Nat.le_trans (nbits_le (k:=w * r.length) (by have:=Nat.two_pow_pos (w * r.length);lia)) (by walk_at "l")) (Nat.le_trans (nbits_le hA) (by walk_at "l")) (Nat.mod_lt _ (by decide)) ?_
  rw [d1,d2]
  walk_at "go"
  refine ⟨_,_,_,.none,.int _,.none,sub_str,gs_take (by simp;walk_at "l") ?_⟩
  walk_at "go"
  refine bi_lstripC (by simp;walk_at "l") ?_
  rw [← List.map_take,drop_h]
  walk_at "go"
  refine cs__law_figures (by decide) (Nat.le_trans (List.dropWhile_sublist _).length_le (by simp;walk_at "l")) ?_
  walk_at "go"
  refine cs__law_turned (by decide) (by simpa using hr) (by simp;walk_at "l") ?_
  rw [rot_map]
  walk_at "go"
  refine cs__law_number (by decide) (by rw [rot_length];walk_at "l") (by walk_at "l") ?_
  walk_at "go"
  refine cs__int2digits (by decide) (by walk_at "l") (by walk_at "l") (Nat.lt_of_lt_of_le (num_bits (w:=w) (by walk_at "l") (r.take (1 + k))) (Nat.pow_le_pow_right (by decide) (Nat.le_trans (Nat.mul_le_mul hw2 (by simp;walk_at "l"):w * (r.take (1 + k)).length≤640 * 12) (by decide)))) ?_
  rw [show i2d w (ndig w (num w (r.take (1 + k)))) (num w (r.take (1 + k)))=figs ((r.take (1 + k)).dropWhile (!·)) from (figures w (by walk_at "l") (figs (r.take (1 + k))) (figs_lt (by walk_at "l") _)).trans (bare_figs _)]
  walk_at "go"
  refine ne_false rfl (.tup (.cons (.lst (dats_nat _)) (.cons (.int _) .nil))) (shaped_t2 _ _) ?_
  refine ⟨false,rfl,?_⟩
  walk_at "q"
  refine ifn (by decide) ?_
  walk_at "go"
  obtain ⟨Z,hZ⟩:∃ Z,Z=List.zipWith (· ^^^ ·) (figs r) (figs (rot r (1 + k))):=⟨_,rfl⟩
  have hZl:Z.length=r.length:=by rw [hZ,List.length_zipWith,figs_length,figs_length,rot_length,Nat.min_self]
  have hx:num w r ^^^ num w (rot r (1 + k))=d2i w Z:=by
   rw [hZ];exact d2i_xor w _ _ (by rw [figs_length,figs_length,rot_length]) (figs_lt (by walk_at "l") _) (figs_lt (by walk_at "l") _)
  have hZ1:∀ x∈Z,x≤1:=by rw [hZ];exact zip_le _ _ (figs_le r) (figs_le _)
  have hZ2:∀ x∈Z,x < 2 ^ w:=fun x hx=>Nat.lt_of_le_of_lt (hZ1 x hx) (Nat.lt_of_lt_of_le (by decide:1 < 2 ^ 1) (Nat.pow_le_pow_right (by decide) (by walk_at "l")))
  rw [hx]
  refine cs__int2digits (by decide) (by walk_at "l") (by walk_at "l") (Nat.lt_of_lt_of_le (d2i_lt w Z hZ2) (Nat.pow_le_pow_right (by decide) (Nat.le_trans (Nat.mul_le_mul hw2 (by walk_at "l"):w * Z.length≤640 * 12) (by decide)))) ?_
  rw [figures w (by walk_at "l") Z hZ2]
  have hbl:(bareR Z).length≤(sgs r).length:=by
   have:=congrArg List.length (bareR_pad Z);simp at this ⊢;lia
  have hsl:(sgs r).length=r.length:=List.length_map ..
  have hb12:(bareR Z).length≤r.length:=by rw [← hsl];exact hbl
  have hbl':((bareR Z).map fun x:Nat=>V.int x).length≤(sgs r).length:=by rw [List.length_map];exact hbl
  walk_at "go"
  refine ev_compT (caps:=[]) (compOk (by kernel_rfl) (by walk_at "has") (by rfl)) (fun x:Nat=>V.int x) (fun x=>[("figure", .val (.int x))]) (fun x=>V.str [if x=0 then 61 else 35]) ?_
  walk_at "go"
  rotate_left
  ·walk_at "l"
  ·simp only [List.length_map];walk_at "l"
  refine bin_mul (.fr _) (by rw [List.length_singleton,Nat.mul_one];exact Nat.le_trans (Nat.sub_le _ _) (by rw [hsl];walk_at "l")) (Nat.le_trans (Nat.sub_le _ _) (by rw [hsl];walk_at "l")) ?_
  refine bin_catE (zs:=natV Z) (.fr _) (.fr _) (by simp;lia) ?_ ?_
  ·conv=>rhs;rw [← bareR_pad Z]
   simp [natV,hZl]
  refine ⟨Z,.lst _,by walk_at "l", fun x hx'=>⟨tgt_name (by kernel_rfl),by kernel_rfl,fun D' acc hD'=>?_⟩,?_⟩
  ·simp only [List.cons_append,List.nil_append]
   walk_at "go"
   refine ite_beq (fun h=>?_) (fun h=>?_)
   ·walk_at "go"
    exact ⟨by rw [if_pos h];rfl,rfl⟩
   ·walk_at "go"
    exact ⟨by rw [if_neg h];rfl,rfl⟩
  walk_at "go"
  have hrow:(Z.map fun x=>[if x=0 then 61 else 35]).flatten=rowL r (rot r (1 + k)):=by
   rw [rowL,← hZ]
   generalize Z=Y
   induction Y with
   | nil=>rfl
   | cons y Y ih=>simpa using ih
  have hrl:(rowL r (rot r (1 + k))).length=r.length:=row_len _ _ (rot_length _ _).symm
  refine bi_join0 (xs:=Z.map fun x=>[if x=0 then 61 else 35]) (by simpa [Function.comp_def] using LV.fr _) (by rw [hrow,hrl];walk_at "l") ?_
  rw [hrow]
  walk_at "go"
  rotate_left;· walk_at "l"
  have hDs:=upd_self σ D (some (PObj.list (natV (lapsK r k))))
  have hK:=lapsK_succ r k
  have hKl:(lapsK r k).length≤k:=Nat.le_trans (List.length_filter_le _ _) (by simp)
  have e61:(Str.ofString "=").cps.toList=[61]:=by decide +kernel
  have hkl:(natV (lapsK r k)).length≤12:=by rw [List.length_map];lia
  rw [show k + 1=1 + k from Nat.add_comm ..] at hK
  by_cases hlt:1 + k < r.length
  ·refine ifp (by rw [hsl];exact decide_eq_true hlt) ?_
   rw [decide_eq_true hlt,Bool.true_and] at hK
   walk_at "go"
   rotate_left
   ·rw [e61];simp;lia
   ·lia
   ·lia
   rw [e61]
   refine cmp_inS ?_
   rw [show (List.replicate (1 + k + 1) [61]).flatten=List.replicate (1 + k + 1) 61 by simp,row_laps hr hlt]
   refine ⟨_,rfl,?_⟩
   walk_at "q"
   cases hb:lapB r (1 + k)
   ·rw [hb] at hK
    refine ifn (by decide) ?_
    walk_at "go"
    refine ev_list0 ?_
    refine ibin_ext hDs (.fr _) (by simp at hkl ⊢;walk_at "l") ?_
    walk_at "go"
    rw [upd_upd]
    refine ⟨?_,by walk_at "has"⟩
    rw [show k + 1=1 + k from Nat.add_comm ..,hK];simp
   ·rw [hb] at hK
    refine ifp rfl ?_
    walk_at "go"
    refine ibin_ext hDs (.fr _) (by simp at hkl ⊢;walk_at "l") ?_
    walk_at "go"
    rw [upd_upd]
    refine ⟨?_,by walk_at "has"⟩
    rw [show k + 1=1 + k from Nat.add_comm ..,hK];simp [natV]
  ·refine ifn (by rw [hsl];simpa using hlt) ?_
   rw [decide_eq_false hlt,Bool.false_and] at hK
   walk_at "go"
   refine ev_list0 ?_
   refine ibin_ext hDs (.fr _) (by simp at hkl ⊢;walk_at "l") ?_
   walk_at "go"
   rw [upd_upd]
   refine ⟨?_,by walk_at "has"⟩
   rw [show k + 1=1 + k from Nat.add_comm ..,hK];simp
 ·intro ρ' σ' hJ2
  refine bc fun hbc=>?_
  obtain ⟨rfl,hhas⟩:=hJ2
  refine hbc ?_
  clear hbc
  rw [List.length_map,List.length_range] at *
  refine cont_next (ExP.has ?_ hhas)
  walk_at "go"
  refine ⟨fun b o hb=>?_,_,.lst (upd_self ..) hD,?_⟩
  ·rw [upd_ne _ _ (fun e=>by rw [e,hD] at hb;cases hb)];exact hb
  ·rw [show r.length + 1 - 1=r.length by lia,lapsK_all];exact q
end
noncomputable def twos:List Bool→List (Bool×Bool)
 | a :: b :: r=>(a,b) :: twos r
 | _=>[]
noncomputable def pv (w:Nat) (p:Bool×Bool):Nat:=dg p.1 * 2 ^ w + dg p.2
theorem two_step {P:List Bool→Prop} (h0:P []) (h1:∀ a b r,P r→P (a :: b :: r)):∀ (n:Nat) (r:List Bool),r.length=2 * n→P r:=by
 intro n
 induction n with
 | zero=>intro r h;have e:=List.length_eq_zero_iff.mp (show r.length=0 by simpa using h);subst e;exact h0
 | succ n ih=>
  intro r h
  match r,h with
  | a :: b :: r,h=>exact h1 a b r (ih r (by simp at h;lia))
theorem twos_len (n:Nat) (r:List Bool) (h:r.length=2 * n):(twos r).length=n:=by
 have key:2 * (twos r).length=r.length:=two_step (P:=fun r=>2 * (twos r).length=r.length) rfl (fun a b r ih=>by simp only [twos,List.length_cons];lia) n r h
 lia
theorem num_twos (w n:Nat) (r:List Bool) (h:r.length=2 * n):num w r=d2i (2 * w) ((twos r).reverse.map (pv w)):=by
 have key:r.length=2 * (twos r).length∧num w r=d2i (2 * w) ((twos r).reverse.map (pv w)):=by
  refine two_step (P:=fun r=>r.length=2 * (twos r).length∧num w r=d2i (2 * w) ((twos r).reverse.map (pv w))) ⟨rfl,rfl⟩ (fun a b r ih=>?_) n r h
  refine bc fun hbc=>?_
  obtain ⟨h1,h2⟩:=ih
  refine hbc ?_
  clear hbc
  refine ⟨by simp only [twos,List.length_cons];lia,?_⟩
  have e:=num_append w [a,b] r
  rw [List.cons_append,List.cons_append,List.nil_append] at e
  rw [e,h2]
  simp only [twos,List.reverse_cons,List.map_append,List.map_cons,List.map_nil]
  rw [d2i_append,List.length_map,List.length_reverse,h1,show w * (2 * (twos r).length)=2 * w * (twos r).length by rw [← Nat.mul_assoc,Nat.mul_comm w 2]]
  have e3:num w [a,b]=pv w (a,b):=by simp [num,figs,d2i,pv];rw [Nat.mul_comm];walk_at "l"
  have e4:d2i (2 * w) [pv w (a,b)]=pv w (a,b):=by simp [d2i]
  rw [e3,e4]
 exact key.2
theorem dg_le (b:Bool):dg b≤1:=by cases b<;>decide
theorem pv_lt {w:Nat} (hw:1≤w) (p:Bool×Bool):pv w p < 2 ^ (2 * w):=by
 have h1:=dg_le p.1
 have h2:=dg_le p.2
 have hW:2 ^ 1≤2 ^ w:=Nat.pow_le_pow_right (by decide) hw
 have h3:dg p.1 * 2 ^ w≤1 * 2 ^ w:=Nat.mul_le_mul_right _ h1
 have h4:2 * 2 ^ w≤2 ^ w * 2 ^ w:=Nat.mul_le_mul_right _ hW
 rw [show 2 * w=w + w by walk_at "l", Nat.pow_add]
 unfold pv;lia
theorem pv_two {w:Nat} (hw:1≤w) (p:Bool×Bool):decide (Spec.countIn (PyData.int (pv w p:Nat)) [PyData.int 1,PyData.int ((2 ^ w:Nat):Int)]≠0)=(p.1 != p.2):=by
 have hW:2 ^ 1≤2 ^ w:=Nat.pow_le_pow_right (by decide) hw
 refine bc fun hbc=>?_
 obtain ⟨a,b⟩:=p
 refine hbc ?_
 clear hbc
 unfold pv
 generalize 2 ^ w=P at *
 rw [Bool.eq_iff_iff,decide_eq_true_iff]
 have h:∀ x:Nat,Spec.countIn (PyData.int (x:Nat)) [PyData.int 1,PyData.int (P:Int)]≠0↔(x=1∨x=P):=by
  intro x
  simp only [Spec.countIn,Spec.same]
  by_cases h1:x=1
  ·subst h1;simp;split<;>simp
  ·by_cases h2:x=P
   ·subst h2;simp;split<;>simp
   ·simp [h1,h2];lia
 rw [h]
 cases a<;>cases b<;>simp [dg]<;>walk_at "l"
theorem no_false (bs:List Bool):(!decide (Spec.countIn (PyData.bool false) (bs.map PyData.bool)≠0))=bs.all id:=by
 have h:0≤Spec.countIn (PyData.bool false) (bs.map PyData.bool)∧(Spec.countIn (PyData.bool false) (bs.map PyData.bool)=0↔bs.all id=true):=by
  induction bs with
  | nil=>exact ⟨by decide,by decide⟩
  | cons b bs ih=>
   rw [List.map_cons,Spec.countIn,List.all_cons]
   refine bc fun hbc=>?_
   obtain ⟨h1,h2⟩:=ih
   refine hbc ?_
   clear hbc
   cases b
   ·rw [show Spec.same (PyData.bool false) (PyData.bool false)=true by rfl,if_pos rfl]
    refine ⟨by lia,⟨fun h=>by lia,fun h=>by simp at h⟩⟩
   ·rw [show Spec.same (PyData.bool true) (PyData.bool false)=false by rfl,if_neg (by decide),Int.zero_add]
    refine ⟨h1,?_⟩
    rw [h2];simp
 rw [Bool.eq_iff_iff,Bool.not_eq_true',decide_eq_false_iff_not,Classical.not_not,h.2]
theorem dats_bool {σ:Store} {α:Type} {f:α→Bool}:∀ l:List α,Dats σ (l.map fun p=>V.bool (f p)) ((l.map f).map PyData.bool):=by
 intro l
 induction l with
 | nil=>exact .nil
 | cons p l ih=>exact .cons (.bool _) ih
open PySem.Spec PySem.SeqAt in
theorem shaped_bools (bs:List Bool):shaped (.list (bs.map PyData.bool))=true:=by
 have h:PyData.canLayAll0 (bs.map PyData.bool)=true∧PyData.depthAll (bs.map PyData.bool)=0:=by
  induction bs with
  | nil=>exact ⟨rfl,rfl⟩
  | cons b bs ih=>
   refine bc fun hbc=>?_
   obtain ⟨h1,h2⟩:=ih
   refine hbc ?_
   clear hbc
   refine ⟨?_,?_⟩
   ·simp only [List.map_cons,PyData.canLayAll0,PyData.canLay0,Bool.true_and];exact h1
   ·simp only [List.map_cons,PyData.depthAll,PyData.depth];rw [h2];rfl
 simp [shaped,PyData.canLay0,PyData.depth,h.1,h.2]
theorem bd__law_pairs:Binds F__law_pairs ["number", "ring", "width"]:=by walk_at "binds"
theorem ck__law_pairs:fnC F__law_pairs ["number", "ring", "width"] []=true:=by decide +kernel
section
variable {K:Kx} {ρ:Fm} {σ:Store} {d:Nat} {Q:V→Store→Prop}
theorem cs__law_pairs (hd:50≤d) {r:List Bool} {w n:Nat} (hl:r.length≤12) (hn:r.length=2 * n) (hw:1≤w) (hw2:w≤640) (q:Q (.tup [.lst (natV ((twos r).map (pv w))),.bool ((twos r).all fun p=>p.1 != p.2)]) σ):
  CallV d (.raw (.ref A__law_pairs)) [.int (num w r:Nat),.str (sgs r),.int w] σ Q:=by
 refine CallV.le (d:=50) (CallV.of ?_) hd
 refine cv_fnC' (d:=49) B.ok2 B.f__law_pairs bd__law_pairs ck__law_pairs rfl rfl rfl ?_
 walk_at "start"
 walk_at "go"
 rotate_left;· exact mulOk_small (.inr (by walk_at "l"))
 have hlt:∀ x∈(twos r).reverse.map (pv w),x < 2 ^ (2 * w):=fun x hx=>by
  refine bc fun hbc=>?_
  obtain ⟨p,_,rfl⟩:=List.mem_map.mp hx
  refine hbc ?_
  clear hbc
  exact pv_lt hw p
 have hb:=num_bits hw r
 have hwl:w * r.length≤640 * 12:=Nat.mul_le_mul hw2 hl
 refine cs__int2digits (by decide) (by lia) (by walk_at "l") (Nat.lt_of_lt_of_le hb (Nat.pow_le_pow_right (by decide) (Nat.le_trans hwl (by decide)))) ?_
 rw [num_twos w n r hn,figures (2 * w) (by lia) _ hlt]
 obtain ⟨Z,hZ⟩:∃ Z,(twos r).reverse.map (pv w)=Z:=⟨_,rfl⟩
 rw [hZ]
 have hsl:(sgs r).length=r.length:=List.length_map ..
 have hZl:Z.length=n:=by rw [← hZ,List.length_map,List.length_reverse,twos_len n r hn]
 have hbz:(bareR Z).length≤n:=by
  have:=congrArg List.length (bareR_pad Z);simp at this;lia
 have hbl:((bareR Z).map fun x:Nat=>V.int x).length≤(sgs r).length / 2:=by rw [List.length_map,hsl,hn];lia
 walk_at "go"
 rotate_left
 ·walk_at "l"
 ·rw [List.length_map];lia
 refine bin_mul (.fr _) (by rw [List.length_singleton,Nat.mul_one];exact Nat.le_trans (Nat.sub_le _ _) (by rw [hsl];walk_at "l")) (Nat.le_trans (Nat.sub_le _ _) (by rw [hsl];walk_at "l")) ?_
 refine bin_catE (zs:=natV Z) (.fr _) (.fr _) (by simp;lia) ?_ ?_
 ·conv=>rhs;rw [← bareR_pad Z]
  rw [hsl,hn]
  simp [natV,hZl]
 walk_at "go"
 refine ⟨_,_,_,.none,.none,.int _,sub_lst (.fr _),gi_lst_slc (.fr _) (by decide) (by rw [List.length_map];lia) ?_⟩
 rw [picks_rev]
 have hrev:(natV Z).reverse=natV ((twos r).map (pv w)):=by rw [← hZ];simp [natV]
 rw [hrev]
 walk_at "go"
 refine ev_compT (caps:=[("width", .val (.int (w:Int)))]) (compOk (by kernel_rfl) (by walk_at "has") (by rfl)) (fun p:Bool×Bool=>V.int (pv w p:Nat)) (fun p=>[("pair", .val (.int (pv w p:Nat)))]) (fun p=>V.bool (p.1 != p.2)) ?_
 walk_at "go"
 refine ⟨twos r,by simpa [natV,Function.comp_def] using Items.lst (natV ((twos r).map (pv w))),by rw [twos_len n r hn];lia,fun p hp=>⟨tgt_name (by kernel_rfl),by kernel_rfl,fun D' acc hD'=>?_⟩,?_⟩
 ·simp only [List.cons_append,List.nil_append]
  walk_at "go"
  rotate_left
  ·rw [show nbits 1=1 by decide];walk_at "l"
  rw [Nat.one_mul]
  refine cmp_inT (.int _) (.tup (.cons (.int _) (.cons (.int _) .nil))) rfl rfl (fun y hy=>by
   rcases List.mem_cons.mp hy with rfl | hy
   ·rfl
   ·rcases List.mem_cons.mp hy with rfl | hy
    ·rfl
    ·cases hy) ?_
  rw [pv_two hw]
  exact ⟨rfl,rfl⟩
 walk_at "go"
 refine cmp_notIn (.bool _) (.lst (dats_bool (f:=fun p:Bool×Bool=>p.1 != p.2) (twos r))) rfl (shaped_bools _) (fun y hy=>by obtain ⟨b,_,rfl⟩:=List.mem_map.mp hy;rfl) ?_
 rw [no_false,List.all_map]
 walk_at "go"
 exact q
end
theorem bd__law_ring:Binds F__law_ring ["drawn"]:=by walk_at "binds"
theorem ck__law_ring:fnC F__law_ring ["drawn"] []=true:=by decide +kernel
section
variable {K:Kx} {ρ:Fm} {σ:Store} {d:Nat} {Q:V→Store→Prop}
theorem bi_min2 {a b:Int} (q:Q (.int (if b < a then b else a)) σ):CallV d (.raw (.builtin "min")) [.int a,.int b] σ Q:=fun A s f l ha hi hf hr QM hq=>by
 refine bc fun hbc=>?_
 obtain ⟨x,y,rfl,hx,hy⟩:=rels2 hr
 refine hbc ?_
 clear hbc
 obtain rfl:=Rel.inv hf
 refine bc fun hbc=>?_
 obtain ⟨t,rfl⟩:=Rel.inv hx
 obtain ⟨u,rfl⟩:=Rel.inv hy
 refine hbc ?_
 clear hbc
 refine min_two_ints ha.1 fun h' tk hk=>?_
 by_cases hc:b < a
 ·rw [if_pos hc] at q ⊢
  exact hq _ _ _ _ q (hi.grow (s':={ s with heap:=h',toks:=tk }) hk rfl rfl) (Ext.grow hk) (.int _ _)
 ·rw [if_neg hc] at q ⊢
  exact hq _ _ _ _ q (hi.grow (s':={ s with heap:=h',toks:=tk }) hk rfl rfl) (Ext.grow hk) (.int _ _)
theorem bn_min2 {a b:Nat} (q:Q (.int (min a b:Nat)) σ):CallV d (.raw (.builtin "min")) [.int (a:Int),.int (b:Int)] σ Q:=by
 refine bi_min2 ?_
 have:(if (b:Int) < a then (b:Int) else a)=((min a b:Nat):Int):=by split<;>lia
 rw [this];exact q
noncomputable def timesL:List Nat:=[2,2,2,1,1,0,0]
theorem times_ok {m t:Nat} (hm:m < 7) (ht:t≤timesL.getD m 0):t≤16∧2 ^ t * (1 + m)≤12:=by
 rcases (show m=0∨m=1∨m=2∨m=3∨m=4∨m=5∨m=6 by lia) with rfl | rfl | rfl | rfl | rfl | rfl | rfl<;>simp [timesL] at ht<;>
  (rcases (show t=0∨t=1∨t=2 by lia) with rfl | rfl | rfl<;>first | decide | lia)
theorem cs__law_ring (hd:12≤d) {n:Nat} (hn:n < 2 ^ 64) (q:∀ r:List Bool,1≤r.length→r.length≤12→Q (.str (sgs r)) σ):CallV d (.raw (.ref A__law_ring)) [.int n] σ Q:=by
 refine CallV.le (d:=12) (CallV.of ?_) hd
 refine cv_fnC' (d:=11) B.ok2 B.f__law_ring bd__law_ring ck__law_ring rfl rfl rfl ?_
 walk_at "start"
 walk_at "go"
 refine ev_compT (caps:=[("drawn", .val (.int (n:Int)))]) (compOk (by kernel_rfl) (by walk_at "has") (by rfl)) (fun k:Nat=>V.int k) (fun k=>[("k", .val (.int k))]) (fun k=>V.str [sg (n / 7 / 2 ^ k % 2 == 1)]) ?_
 walk_at "go"
 refine ⟨List.range (1 + n % 7),items_rng0 _ (by lia),by simp;lia,fun k hk=>⟨tgt_name (by kernel_rfl),by kernel_rfl,fun D acc hD=>?_⟩,?_⟩
 ·have hk:k < 7:=by have:=List.mem_range.mp hk;lia
  simp only [List.cons_append,List.nil_append]
  have h2k:2 ^ k < 2 ^ 64:=Nat.pow_lt_pow_right (by decide) (by walk_at "l")
  have h0:=Nat.two_pow_pos k
  walk_at "go"
  rotate_left
  ·rw [show nbits 2=2 by decide];lia
  ·walk_at "l"
  ·exact log_small (by walk_at "l") h2k
  have hm:=Nat.mod_lt (n / 7 / 2 ^ k) (show 2 > 0 by decide)
  generalize n / 7 / 2 ^ k % 2=m at *
  refine gi_str (c:=sg (m == 1)) (Int.natCast_nonneg m) ?_ (by decide +kernel) ⟨rfl,rfl⟩
  rw [Int.toNat_natCast,show (Str.ofString "hp").cps.toList=[104,112] by decide +kernel]
  rcases (show m=0∨m=1 by lia) with rfl | rfl<;>rfl
 walk_at "go"
 obtain ⟨r₁,hr₁⟩:∃ r₁:List Bool,r₁=(List.range (1 + n % 7)).map fun k=>n / 7 / 2 ^ k % 2 == 1:=⟨_,rfl⟩
 have hl₁:r₁.length=1 + n % 7:=by rw [hr₁];simp
 have e₁:((List.range (1 + n % 7)).map fun k=>[sg (n / 7 / 2 ^ k % 2 == 1)]).flatten=sgs r₁:=by
  rw [hr₁]
  generalize List.range (1 + n % 7)=L
  induction L with
  | nil=>rfl
  | cons k L ih=>simpa using ih
 refine bi_join0 (xs:=(List.range (1 + n % 7)).map fun k=>[sg (n / 7 / 2 ^ k % 2 == 1)]) (by simpa [Function.comp_def] using LV.fr _) (by rw [e₁,List.length_map,hl₁];lia) ?_
 rw [e₁]
 walk_at "go"
 have hm:n % 7 < 7:=Nat.mod_lt _ (by decide)
 refine gn_lst (.fr _) (x:=.int ((timesL.getD (n % 7) 0:Nat):Int)) ?_ (by decide) ?_
 ·show (natV timesL)[n % 7]?=_
  exact natV_get hm
 walk_at "go"
 refine bn_min2 ?_
 walk_at "go"
 refine bc fun hbc=>?_
 obtain ⟨t1,t2⟩:=times_ok hm (Nat.min_le_right (n / 896 % 3) (timesL.getD (n % 7) 0))
 refine hbc ?_
 clear hbc
 generalize min (n / 896 % 3) (timesL.getD (n % 7) 0)=t at *
 refine cs__law_grown (by decide) (by rw [hl₁];walk_at "l") t1 ?_
 walk_at "go"
 have hRl:=muN_length r₁ t
 rw [hl₁] at hRl
 have hR1:1≤(muN r₁ t).length:=by rw [hRl];exact Nat.mul_pos (Nat.two_pow_pos t) (by walk_at "l")
 have hR2:(muN r₁ t).length≤12:=by rw [hRl];exact t2
 generalize muN r₁ t=R at *
 have hsl:(sgs R).length=R.length:=List.length_map ..
 refine st_assign_swap (names:=["ring", "place"]) ?_ (by intro env h1 h2;obtain ⟨⟨_,_,_,_⟩,_,_,_,_,_,_,_,_⟩:=env;dsimp only at h1 h2;subst h1 h2;kernel_rfl) (by intro _;rfl)
 walk_at "go"
 refine cs__law_turned (by decide) (by rw [hsl];walk_at "l") (by rw [hsl];walk_at "l") ?_
 rw [rot_map]
 walk_at "go"
 rotate_left
 ·walk_at "l"
 ·walk_at "l"
 ·exact log_small (by lia) (by walk_at "l")
 rw [hsl]
 refine ⟨_,rfl,rfl,?_⟩
 show SwapP _ _ _ [_,_] [_,_]
 walk_at "swp"
 have hpl:n / 129024 % R.length < R.length:=Nat.mod_lt _ hR1
 generalize n / 129024 % R.length=pl at *
 have hrl:=rot_length R (n / 2688 % 12)
 generalize rot R (n / 2688 % 12)=R' at *
 have hR12:(sgs R').length≤12:=by rw [List.length_map,hrl];exact hR2
 walk_at "go"
 refine ite_beq (fun h=>?_) (fun h=>?_)
 ·walk_at "go"
  refine ⟨_,_,_,.none,.int _,.none,sub_str,gs_take (by rw [List.length_map];walk_at "l") ?_⟩
  obtain ⟨b,hb⟩:∃ b,R'[pl]?=some b:=⟨_,List.getElem?_eq_getElem (by lia)⟩
  refine ev_ifexpJ ([sg b] == [104]) (.str [sg (!b)]) ?_ (fun h=>?_) (fun h=>?_) ?_
  ·walk_at "go"
   refine gi_str (c:=sg b) (Int.natCast_nonneg pl) (by rw [Int.toNat_natCast,List.getElem?_map,hb];rfl) (by rw [List.length_map];walk_at "l") ?_
   walk_at "go"
   exact ⟨rfl,rfl⟩
  ·walk_at "go"
   cases b
   ·exact ⟨rfl,rfl⟩
   ·exact absurd h (by decide)
  ·walk_at "go"
   cases b
   ·exact absurd h (by decide)
   ·exact ⟨rfl,rfl⟩
  walk_at "go"
  rotate_left
  ·exact Nat.le_trans (Nat.add_le_add (Nat.le_trans (List.take_sublist ..).length_le hR12) (Nat.le_refl 1)) (by decide)
  refine ⟨_,_,_,.int _,.none,.none,sub_str,gs_drop (Nat.le_trans hR12 (by decide)) ?_⟩
  walk_at "go"
  rotate_left
  ·exact Nat.le_trans (Nat.add_le_add (by rw [List.length_append];exact Nat.add_le_add (Nat.le_trans (List.take_sublist ..).length_le hR12) (Nat.le_refl 1)) (Nat.le_trans (List.drop_sublist ..).length_le hR12)) (by decide)
  have e:(R'.map sg).take pl++[sg (!b)]++(R'.map sg).drop (pl + 1)=sgs (R'.take pl++[!b]++R'.drop (pl + 1)):=by simp [sgs,List.map_take,List.map_drop]
  rw [e]
  have hlq:(R'.take pl++[!b]++R'.drop (pl + 1)).length=R'.length:=by
   rw [List.length_append,List.length_append,List.length_take,List.length_drop,Nat.min_eq_left (by lia)]
   show pl + 1 + (R'.length - (pl + 1))=R'.length
   exact Nat.add_sub_of_le (by lia)
  exact q _ (by rw [hlq];lia) (by rw [hlq];walk_at "l")
 ·walk_at "go"
  exact q R' (by lia) (by walk_at "l")
end
theorem Sub.none {σ':Store} (h:Sub σ σ') {a:Addr} (hn:σ' a=none):σ a=none:=by
 cases e:σ a with
 | none=>rfl
 | some o=>(first | obtain rfl:=Option.some.inj ((h a o e).symm.trans hn) | exact absurd ((h a o e).symm.trans hn) (Option.some_ne_none _) | exact absurd ((h a o e).symm.trans hn).symm (Option.some_ne_none _) | exact (datN ((h a o e).symm.trans hn) rfl).elim | (rw [h a o e] at hn;cases hn))
theorem bd__law_lexer:Binds F__law_lexer ["text"]:=by walk_at "binds"
theorem ck__law_lexer:fnC F__law_lexer ["text"] ["left"]=true:=by decide +kernel
section
variable {K:Kx} {ρ:Fm} {σ:Store} {d:Nat} {Q:V→Store→Prop}
theorem cs__law_lexer (hd:20≤d) {text:List Nat} (hok:OkL text) (q:∀ A σ',Lex A σ' text 1 []→Sub σ σ'→σ A.lf=none∧σ A.dx=none∧σ A.pb=none→Q (.tup [.loc A.x,.loc A.lf]) σ'):CallV d (.raw (.ref A__law_lexer)) [.str text] σ Q:=by
 refine CallV.le (d:=20) (CallV.of ?_) hd
 refine cv_fnC' (d:=19) B.ok2 B.f__law_lexer bd__law_lexer ck__law_lexer rfl rfl rfl ?_
 walk_at "start"
 walk_at "go"
 refine bi_list_strO (by have:=hok.1;walk_at "l") fun lf hlf=>?_
 walk_at "go"
 refine ev_lambda B.ok3 (n:=N__law_lexer) (cap:=?_) (by rw [B.nest];simp [nestL]) (by exact List.mem_cons_self) rfl ?_ rfl rfl fun st hst=>?_
 rotate_left;exact CapL.nil _
 refine bc fun hbc=>?_
 obtain ⟨nsl,hst⟩:=upd_none hst
 refine hbc ?_
 clear hbc
 walk_at "upd"
 refine cont_next ?_
 refine ex_share (x := "left") (v:=?_) (r':=?_) ?_ ?_ ?_ fun cl hcl=>?_;walk_at "share"
 refine bc fun hbc=>?_
 obtain ⟨ncs,hcl⟩:=upd_none hcl
 obtain ⟨ncl,hcl⟩:=upd_none hcl
 refine hbc ?_
 clear hbc
 walk_at "go"
 refine ev_lambda B.ok3 (n:=N__law_lexer) (cap:=?_) (by rw [B.nest];simp [nestL]) (by exact List.mem_cons_of_mem _ List.mem_cons_self) rfl ?_ rfl rfl fun rd hrd=>?_
 rotate_left;walk_at "capl"
 refine bc fun hbc=>?_
 obtain ⟨nrc,hrd⟩:=upd_none hrd
 obtain ⟨nrs,hrd⟩:=upd_none hrd
 obtain ⟨nrl,hrd⟩:=upd_none hrd
 refine hbc ?_
 clear hbc
 refine as_attrF ?_
 walk_at "go"
 refine ⟨st,R_lam0,[],rfl,upd_of (Ne.symm nrs) (upd_of (Ne.symm ncs) (upd_self ..)),fun dst hdst hds=>?_⟩
 refine bc fun hbc=>?_
 obtain ⟨ndr,hdst⟩:=upd_none hdst
 obtain ⟨ndc,hdst⟩:=upd_none hdst
 obtain ⟨_,hdst⟩:=upd_none hdst
 obtain ⟨ndl,hdst⟩:=upd_none hdst
 refine hbc ?_
 clear hbc
 refine cont_next ?_
 generalize hS:upd (upd (upd (upd (upd (upd σ lf _) st _) cl _) rd _) dst _) st _=S
 have s_st:S st=some (.func R_lam0 [] (some dst)):=by rw [← hS];exact upd_self ..
 have s_dst:S dst=some (.ns [("read", .loc rd)]):=by rw [← hS];exact upd_of hds (upd_self ..)
 have s_rd:S rd=some (.func R_lam1 [("left", cl)] none):=by rw [← hS];exact upd_of nrs (upd_of (Ne.symm ndr) (upd_self ..))
 have s_cl:S cl=some (.cell (some (.loc lf))):=by rw [← hS];exact upd_of ncs (upd_of (Ne.symm ndc) (upd_of (Ne.symm nrc) (upd_self ..)))
 have s_lf:S lf=some (.list (chrs text)):=by rw [← hS];exact upd_of (Ne.symm nsl) (upd_of (Ne.symm ndl) (upd_of (Ne.symm nrl) (upd_of (Ne.symm ncl) (upd_of (Ne.symm nsl) (upd_self ..)))))
 have sub:Sub σ S:=by rw [← hS];exact ((((((Sub.refl.upd hlf).upd hst).upd hcl).upd hrd).upd hdst).upd hst)
 clear hS
 walk_at "go"
 have ecls:=fr_cls C.w.params
 simp only [Prod.mk.injEq] at ecls
 refine ⟨keep_cls B.fr ecls.2.2.2.1,CallV.le (d:=7) (cv_lexer fun x dx pb σ2 hx hdx hpb hne h1 h2 h3 sub2=>?_) (by decide)⟩
 have hlex:Lex ⟨x,dx,st,dst,rd,cl,lf,pb⟩ σ2 text 1 []:=⟨h1,h2,sub2 _ _ s_st,sub2 _ _ s_dst,sub2 _ _ s_rd,sub2 _ _ s_cl,sub2 _ _ s_lf,h3,fun (e:lf=pb)=>by rw [← e,s_lf] at hpb;cases hpb⟩
 have sub3:Sub σ σ2:=fun a o h=>sub2 a o (sub a o h)
 have hno:σ lf=none∧σ dx=none∧σ pb=none:=⟨hlf,sub.none hdx,sub.none hpb⟩
 generalize hA:(⟨x,dx,st,dst,rd,cl,lf,pb⟩:LexA)=A at hlex
 have hAx:x=A.x:=by rw [← hA]
 have hAcl:cl=A.cl:=by rw [← hA]
 have hAlf:lf=A.lf:=by rw [← hA]
 have hAdx:dx=A.dx:=by rw [← hA]
 have hApb:pb=A.pb:=by rw [← hA]
 rw [hAlf,hAdx,hApb] at hno
 rw [hAx,hAcl]
 clear hA
 have hcl':=hlex.hcl
 walk_at "go"
 exact q A σ2 hlex sub3 hno
end
noncomputable def good (r:List Bool):Bool:=(twos r).all fun p=>p.1 != p.2
noncomputable def un (r:List Bool):List Bool:=(twos r).map (·.1)
theorem mu_un (n:Nat) (r:List Bool) (h:r.length=2 * n) (hg:good r=true):mu (un r)=r:=by
 have key:=two_step (P:=fun r=>good r=true→mu (un r)=r) (fun _=>rfl) (fun a b r ih hg=>by
  unfold good at hg ih
  rw [twos,List.all_cons,Bool.and_eq_true] at hg
  have e:mu (un (a :: b :: r))=a :: (!a) :: mu (un r):=by simp [mu,un,twos]
  rw [e,ih hg.2]
  have:b=!a:=by have:=hg.1;cases a<;>cases b<;>simp_all
  rw [this]) n r h
 exact key hg
theorem un_len (n:Nat) (r:List Bool) (h:r.length=2 * n):(un r).length=n:=by rw [un,List.length_map,twos_len n r h]
theorem muN_succ (r:List Bool) (n:Nat):muN r (n + 1)=muN (mu r) n:=by
 induction n with
 | zero=>rfl
 | succ n ih=>rw [muN,ih];rfl
theorem cyc_ext {l l':List Bool} (h:l.length=l'.length) (hc:∀ i,cyc l i=cyc l' i):l=l':=by
 apply List.ext_getElem h
 intro i h1 h2
 have:=hc i
 unfold cyc at this
 rw [Nat.mod_eq_of_lt h1,Nat.mod_eq_of_lt h2,List.getD_eq_getElem?_getD,List.getD_eq_getElem?_getD,List.getElem?_eq_getElem h1,List.getElem?_eq_getElem h2] at this
 exact this
theorem rot_rot (r:List Bool) (a b:Nat):rot (rot r a) b=rot r (a + b):=by
 refine cyc_ext (by rw [rot_length,rot_length,rot_length]) fun i=>?_
 rw [cyc_rot,cyc_rot,cyc_rot];congr 1;walk_at "l"
theorem mu_rot {r:List Bool} (hr:r≠[]) (k:Nat):mu (rot r k)=rot (mu r) (2 * k):=by
 have hk:rot r k≠[]:=by intro e;have:=congrArg List.length e;rw [rot_length] at this;exact hr (List.length_eq_zero_iff.mp this)
 refine cyc_ext (by rw [mu_length,rot_length,rot_length,mu_length]) fun i=>?_
 obtain ⟨a1,a2⟩:=cyc_mu hk (i / 2)
 obtain ⟨b1,b2⟩:=cyc_mu hr (i / 2 + k)
 rw [cyc_rot]
 rcases Nat.mod_two_eq_zero_or_one i with h | h
 ·rw [show i=2 * (i / 2) by lia,a1,cyc_rot,show 2 * (i / 2) + 2 * k=2 * (i / 2 + k) by walk_at "l", b1]
 ·rw [show i=2 * (i / 2) + 1 by lia,a2,cyc_rot,show 2 * (i / 2) + 1 + 2 * k=2 * (i / 2 + k) + 1 by walk_at "l", b2]
theorem muN_rot {r:List Bool} (hr:r≠[]) (n k:Nat):muN (rot r k) n=rot (muN r n) (2 ^ n * k):=by
 induction n with
 | zero=>simp [muN]
 | succ n ih=>rw [muN,ih,mu_rot (muN_ne hr n),muN,Nat.pow_succ];congr 1;lia
theorem rot_one (a:Bool) (r:List Bool):rot (a :: r) 1=r++[a]:=by
 cases r with
 | nil=>simp [rot,Nat.mod_one]
 | cons b r=>unfold rot;rw [Nat.mod_eq_of_lt (by simp)];rfl
theorem twos_app (n:Nat) (r:List Bool) (h:r.length=2 * n) (a b:Bool):twos (r++[a,b])=twos r++[(a,b)]:=
 two_step (P:=fun r=>twos (r++[a,b])=twos r++[(a,b)]) rfl (fun c e r ih=>by rw [List.cons_append,List.cons_append,twos,ih];rfl) n r h
theorem good_rot2 (n:Nat) (r:List Bool) (h:r.length=2 * n):good (rot (rot r 1) 1)=good r:=by
 match r,h with
 | [],_=>rfl
 | [a],h=>simp at h;lia
 | a :: b :: r,h=>
  rw [rot_one,show (b :: r)++[a]=b :: (r++[a]) from rfl,rot_one]
  unfold good
  rw [List.append_assoc,show [a]++[b]=[a,b] from rfl,twos_app (n - 1) r (by simp at h;lia),List.all_append,twos,List.all_cons]
  simp [Bool.and_comm]
section
variable {K:Kx} {ρ:Fm} {σ:Store} {d:Nat} {Q:V→Store→Prop}
theorem call_tok {A:LexA} {l:List Nat} {n:Nat} {p:List (List Nat)} (h:Lex A σ l n p) {o:Expr} {apos pos:Pos} (hd:12≤K.d) (ho:∀ Q:V→Store→Prop,Q (.loc A.x) σ→EvP K ρ σ o Q)
  (q:CallV 12 (.raw (.ref A_m_get_token)) [.loc A.x] σ Q) {pl:Env→Sem Bool}
  (he:autoParam (∀ env,eval (.Call (.Attribute o "get_token" apos) [] [] pos) env=(do
   let ov ← eval o env
   standAt apos.atName
   let (f,first) ← holding [ov] (getMethod ov "get_token" (pl env))
   callWith pos f first (backTo pos (starEach [] env)) (backToKw pos (keywordEach [] env)))) aI)
  (hse:autoParam (∀ env,backTo pos (starEach [] env)=[].map fun e=>(false,eval e env)) aI):EvP K ρ σ (.Call (.Attribute o "get_token" apos) [] [] pos) Q:=by
 have e:=fr_cls C.w.params
 simp only [Prod.mk.injEq] at e
 have m:=fr_m_get_token C.w.params
 simp only [Prod.mk.injEq] at m
 exact ev_methN (pl:=pl) B.fr (ho _ ⟨_,_,_,_,_,rfl,h.hx,h.hd,by rfl,e.2.2.2.2.2.2.1,e.2.2.2.2.2.2.2,m.1,m.2.1,B.f_m_get_token.keep,CallV.le (d:=12) q hd⟩) he hse
theorem call_push {A:LexA} {l:List Nat} {n:Nat} {p:List (List Nat)} {x:List Nat} (h:Lex A σ l n p) (hp:p.length < 2 ^ 20) {o a:Expr} {apos pos:Pos} (hd:6≤K.d) (ho:∀ Q:V→Store→Prop,Q (.loc A.x) σ→EvP K ρ σ o Q) (ha:∀ Q:V→Store→Prop,Q (.str x) σ→EvP K ρ σ a Q)
  (q:Q .none (lexU A σ l n (p++[x]))) {pl:Env→Sem Bool}
  (he:autoParam (∀ env,eval (.Call (.Attribute o "push_token" apos) [a] [] pos) env=(do
   let ov ← eval o env
   standAt apos.atName
   let (f,first) ← holding [ov] (getMethod ov "push_token" (pl env))
   callWith pos f first (backTo pos (starEach [a] env)) (backToKw pos (keywordEach [] env)))) aI)
  (hse:autoParam (∀ env,backTo pos (starEach [a] env)=[a].map fun e=>(false,eval e env)) aI):EvP K ρ σ (.Call (.Attribute o "push_token" apos) [a] [] pos) Q:=by
 have e:=fr_cls C.w.params
 simp only [Prod.mk.injEq] at e
 have m:=fr_m_push_token C.w.params
 simp only [Prod.mk.injEq] at m
 exact ev_methN (pl:=pl) B.fr (ho _ ⟨_,_,_,_,_,rfl,h.hx,h.hd,by rfl,e.2.2.2.2.2.2.1,e.2.2.2.2.2.2.2,m.1,m.2.1,evs_cons (ha _ (evs_nil ⟨B.f_m_push_token.keep,CallV.le (d:=6) (cs_push_token h hp q) hd⟩))⟩) he hse
theorem lexU_acc {A:LexA} {l l':List Nat} {n n':Nat} {p p':List (List Nat)} (h:Lex A σ l n p) {D:Addr} {acc:List V} (hD:σ D=none):lexU A (accS σ D acc) l' n' p'=accS (lexU A σ l' n' p') D acc:=by
 have h1:D≠A.lf:=fun e=>by rw [e,h.hlf] at hD;cases hD
 have h2:D≠A.dx:=fun e=>by rw [e,h.hd] at hD;cases hD
 have h3:D≠A.pb:=fun e=>by rw [e,h.hpb] at hD;cases hD
 funext c
 unfold lexU accS upd
 by_cases e0:c=D
 ·subst e0;simp [h1,h2,h3]
 ·simp [e0]
end
theorem bd__law_down:Binds F__law_down ["lexer", "ring", "width", "way"]:=by walk_at "binds"
theorem ck__law_down:fnC F__law_down ["lexer", "ring", "width", "way"] []=true:=by decide +kernel
noncomputable def lets (r:List Bool):List (List Nat):=r.map fun b=>[sg b]
structure Down (r0 last:List Bool) (n s:Nat):Prop where
 eq:muN last n=rot r0 s
 ne:last≠[]
 le:last.length≤12
 fin:last.length % 2=1∨(good last=false∧good (rot last 1)=false)
theorem twos_drop (n:Nat) (r:List Bool) (h:r.length=2 * n):∀ (k:Nat) {a b:Bool},(twos r)[k]?=some (a,b)→(lets r).drop (2 * k)=[sg a] :: [sg b] :: (lets r).drop (2 * (k + 1))∧(un r).take (k + 1)=(un r).take k++[a]:=
 two_step (P:=fun r=>∀ (k:Nat) {a b:Bool},(twos r)[k]?=some (a,b)→(lets r).drop (2 * k)=[sg a] :: [sg b] :: (lets r).drop (2 * (k + 1))∧(un r).take (k + 1)=(un r).take k++[a]) (fun k a b h=>by simp [twos] at h) (fun c e r ih k a b h=>by
  cases k with
  | zero=>
   simp only [twos,List.getElem?_cons_zero,Option.some.injEq,Prod.mk.injEq] at h
   refine bc fun hbc=>?_
   obtain ⟨rfl,rfl⟩:=h
   refine hbc ?_
   clear hbc
   exact ⟨rfl,rfl⟩
  | succ k=>
   simp only [twos,List.getElem?_cons_succ] at h
   refine bc fun hbc=>?_
   obtain ⟨i1,i2⟩:=ih k h
   refine hbc ?_
   clear hbc
   refine ⟨?_,?_⟩
   ·rw [show 2 * (k + 1)=2 * k + 1 + 1 by walk_at "l", show 2 * (k + 1 + 1)=2 * (k + 1) + 1 + 1 by walk_at "l"]
    exact i1
   ·show c :: (un r).take (k + 1)=c :: (un r).take k++[a]
    rw [i2];rfl) n r h
section
variable {K:Kx} {ρ:Fm} {σ:Store} {d:Nat} {Q:V→Store→Prop}
theorem cs__law_down (hd:99≤d) {A:LexA} {l:List Nat} {nl:Nat} (hA:Lex A σ l nl []) {r0:List Bool} {w way:Nat} (hr:r0≠[]) (hl:r0.length≤12) (hw:2≤w) (hw2:w≤640) (hway:way < 4)
  (q:∀ last n s,Down r0 last n s→Q (.tup [.str (sgs last),.int (n:Nat),.int (s:Nat),.str (sgs last)]) (lexU A σ l nl [])):CallV d (.raw (.ref A__law_down)) [.loc A.x,.str (sgs r0),.int w,.int way] σ Q:=by
 refine CallV.le (d:=99) (CallV.of ?_) hd
 refine cv_fnC' (d:=98) B.ok2 B.f__law_down bd__law_down ck__law_down rfl rfl rfl ?_
 walk_at "start"
 refine ex_cons (st_assign_swap (names:=["rounds", "shift", "waits"]) ?_ (by intro env h1 h2;obtain ⟨⟨_,_,_,_⟩,_,_,_,_,_,_,_,_⟩:=env;dsimp only at h1 h2;subst h1 h2;kernel_rfl) (by intro _;rfl))
 walk_at "go"
 have hll:(lets r0).length=r0.length:=List.length_map ..
 refine ev_comp (caps:=[("lexer", .val (.loc A.x))]) (compOk (by kernel_rfl) (by walk_at "has") (by rfl)) ?_
 walk_at "go"
 refine ⟨strV (lets r0),by simpa [sgs,lets,strV,Function.comp_def] using Items.str (sgs r0),fun r acc σ₃=>∃ k,r=(strV (lets r0)).drop k∧k≤(lets r0).length∧acc.length=k∧σ₃=lexU A σ l nl ((lets r0).take k),⟨0,rfl,Nat.zero_le _,rfl,hA.same.symm⟩,?_,?_⟩
 ·intro x r acc σ₃ D hJ5 hD
  refine bc fun hbc=>?_
  obtain ⟨k,e,hk,hak,rfl⟩:=hJ5
  refine hbc ?_
  clear hbc
  have hlt:k < (lets r0).length:=by
   rcases Nat.lt_or_ge k (lets r0).length with h | h
   ·exact h
   ·rw [List.drop_eq_nil_of_le (by rw [show (strV (lets r0)).length=(lets r0).length from List.length_map _];exact h)] at e;cases e
  have er:r=(strV (lets r0)).drop (k + 1):=by rw [← List.tail_drop,← e];rfl
  have ex:x=.str (lets r0)[k]:=by
   rw [List.drop_eq_getElem_cons (by rw [show (strV (lets r0)).length=(lets r0).length from List.length_map _];exact hlt)] at e
   injection e with e1 _
   rw [e1,List.getElem_map]
  subst ex
  refine ⟨[("sign", .val (.str (lets r0)[k]))],tgt_name (by kernel_rfl),by intro p hp q hq;simp only [List.mem_cons,List.mem_nil_iff,or_false] at hp hq;subst hp hq;exact (by decide:("lexer" : Str) ≠ "sign"),ifs_nil' ?_⟩
  refine ifp rfl ?_
  simp only [List.cons_append,List.nil_append]
  have hl3:Lex A (lexU A σ l nl ((lets r0).take k)) l nl ((lets r0).take k):=hA.set
  have hl4:=hl3.mono (Sub.refl.upd (o:=some (.list acc)) hD)
  refine call_push hl4 (by simp;lia) (by decide) (fun Q q=>ev_name (by walk_at "mem") q) (fun Q q=>ev_name (by walk_at "mem") q) ?_
  refine ⟨by simp;lia,lexU A σ l nl ((lets r0).take (k + 1)),?_,(by have h0:=lexU_none (l':=l) (n':=nl) (p':=(lets r0).take (k + 1)) hl3 hD;rw [hA.twice] at h0;exact h0),k + 1,er,hlt,by simp [hak],rfl⟩
  rw [lexU_acc hl3 hD,hA.twice,List.take_succ_eq_append_getElem hlt]
 intro acc σ₃ hJ2
 refine bc fun hbc=>?_
 obtain ⟨k,e,hk,hak,rfl⟩:=hJ2
 refine hbc ?_
 clear hbc
 have hkl:k=(lets r0).length:=by
  have h1:=congrArg List.length e
  simp [strV] at h1;lia
 subst hkl
 rw [List.take_length]
 walk_at "go"
 refine ⟨_,rfl,rfl,?_⟩
 show SwapP _ _ _ [_,_,_] [_,_,_]
 walk_at "swp"
 walk_at "go"
 generalize hK2:Cont _ _ _=KK2
 have after:∀ last n s ρ',Has ρ' [("lexer", .val (.loc A.x)),("ring", .val (.str (sgs last))),("rounds", .val (.int (n:Nat))),("shift", .val (.int (s:Nat))),("width", .val (.int w)),("way", .val (.int way))]→Down r0 last n s→KK2 .next ρ' (lexU A σ l nl (lets last)):=by
  intro last n s ρ' hhas hD
  subst hK2
  refine cont_next (ExP.has ?_ hhas)
  have hL:=hD.le
  have hll:(lets last).length=last.length:=List.length_map ..
  walk_at "go"
  refine ev_comp (caps:=[("lexer", .val (.loc A.x))]) (compOk (by kernel_rfl) (by walk_at "has") (by rfl)) ?_
  walk_at "go"
  refine ⟨strV (lets last),by simpa [sgs,lets,strV,Function.comp_def] using Items.str (sgs last),fun r acc σ₃=>∃ k,r=(strV (lets last)).drop k∧k≤(lets last).length∧acc=strV ((lets last).take k)∧σ₃=lexU A σ l nl ((lets last).drop k),⟨0,rfl,Nat.zero_le _,rfl,rfl⟩,?_,?_⟩
  ·intro x r acc σ₃ D hJ5 hD
   refine bc fun hbc=>?_
   obtain ⟨k,e,hk,rfl,rfl⟩:=hJ5
   refine hbc ?_
   clear hbc
   have hlt:k < (lets last).length:=by
    rcases Nat.lt_or_ge k (lets last).length with h | h
    ·exact h
    ·rw [List.drop_eq_nil_of_le (by rw [show (strV (lets last)).length=(lets last).length from List.length_map _];exact h)] at e;cases e
   have er:r=(strV (lets last)).drop (k + 1):=by rw [← List.tail_drop,← e];rfl
   refine ⟨[("sign", .val x)],tgt_name (by kernel_rfl),by intro p hp q hq;simp only [List.mem_cons,List.mem_nil_iff,or_false] at hp hq;subst hp hq;exact (by decide:("lexer" : Str) ≠ "sign"),ifs_nil' ?_⟩
   refine ifp rfl ?_
   simp only [List.cons_append,List.nil_append]
   have hl3:Lex A (lexU A σ l nl ((lets last).drop k)) l nl ((lets last).drop k):=hA.set
   have hl4:=hl3.mono (Sub.refl.upd (o:=some (.list (strV ((lets last).take k)))) hD)
   have hl5:∀ p,(lets last).drop k=p→Lex A (upd (lexU A σ l nl ((lets last).drop k)) D (some (.list (strV ((lets last).take k))))) l nl p:=by intro p e;subst e;exact hl4
   have hl4:=hl5 _ (List.drop_eq_getElem_cons hlt)
   refine call_tok hl4 (by decide) (fun Q q=>ev_name (by walk_at "mem") q) (cs_get_token_pb hl4 (by rw [List.length_drop];exact Nat.lt_of_le_of_lt (Nat.sub_le _ _) (by lia)) ?_)
   refine ⟨by simp [strV];lia,lexU A σ l nl ((lets last).drop (k + 1)),?_,(by have h0:=lexU_none (l':=l) (n':=nl) (p':=(lets last).drop (k + 1)) hl3 hD;rw [hA.twice] at h0;exact h0),k + 1,er,hlt,?_,rfl⟩
   ·rw [lexU_acc hl3 hD,hA.twice]
   ·rw [List.take_succ_eq_append_getElem hlt,show strV ((lets last).take k++[(lets last)[k]])=strV ((lets last).take k)++strV [(lets last)[k]] from List.map_append];rfl
  intro acc σ₃ hJ2
  refine bc fun hbc=>?_
  obtain ⟨k,e,hk,rfl,rfl⟩:=hJ2
  refine hbc ?_
  clear hbc
  have hkl:k=(lets last).length:=by
   have h1:=congrArg List.length e
   simp [strV] at h1;lia
  subst hkl
  rw [List.take_length,List.drop_length]
  have el:(lets last).flatten=sgs last:=by
   unfold lets
   generalize last=y
   induction y with
   | nil=>rfl
   | cons b y ih=>simpa using ih
  refine bi_join0 (xs:=lets last) (.fr _) (by rw [el,List.length_map];walk_at "l") ?_
  rw [el]
  walk_at "go"
  exact q last n s ‹Down r0 last n s›
 refine st_while (fun m ρ₁ σ₁=>∃ r n s,Has ρ₁ [("lexer", .val (.loc A.x)),("ring", .val (.str (sgs r))),("rounds", .val (.int (n:Nat))),("shift", .val (.int (s:Nat))),("width", .val (.int w)),("way", .val (.int way))]∧σ₁=lexU A σ l nl (lets r)∧muN r n=rot r0 s∧r≠[]∧r.length≤12∧m=r.length) r0.length ⟨r0,0,0,(by show Has _ [("lexer", .val (.loc A.x)),("ring", .val (.str (sgs r0))),("rounds", .val (.int 0)),("shift", .val (.int 0)),("width", .val (.int w)),("way", .val (.int way))];walk_at "has"),rfl,by simp [muN,rot],hr,hl,rfl⟩ ?_
 intro m ρ₁ σ₁ hJ3
 refine bc fun hbc=>?_
 obtain ⟨r,n,s,hhas,rfl,heq,hne,hle,rfl⟩:=hJ3
 refine hbc ?_
 clear hbc
 have hsl:(sgs r).length=r.length:=List.length_map ..
 refine TsP.sub ?_ hhas
 walk_at "go"
 rotate_left;· walk_at "l"
 rw [hsl]
 refine ite_beq (fun h=>?_) (fun h=>?_)
 ·have hn2:r.length=2 * (r.length / 2):=by lia
  have hb:=num_bits (w:=w) (by walk_at "l") r
  have hwl:w * r.length≤640 * 12:=Nat.mul_le_mul hw2 hle
  refine ExP.has ?_ hhas
  walk_at "go"
  refine cs__law_figures (by decide) (by walk_at "l") ?_
  walk_at "go"
  refine cs__digits2int (by decide) (by walk_at "l") (figs_lt (by walk_at "l") r) (by rw [figs_length];walk_at "l") ?_
  rw [show d2i w (figs r)=num w r from rfl]
  walk_at "go"
  refine cs__law_pairs (by decide) hle hn2 (by walk_at "l") hw2 ?_
  rw [show ((twos r).all fun p=>p.1 != p.2)=good r from rfl]
  walk_at "go"
  generalize hK:Cont _ _ _=KK
  have tail:∀ r' s' ρ',Has ρ' [("lexer", .val (.loc A.x)),("ring", .val (.str (sgs r'))),("rounds", .val (.int (n:Nat))),("shift", .val (.int (s':Nat))),("width", .val (.int w)),("way", .val (.int way)),("pairs", .val (.lst (natV ((twos r').map (pv w))))),("good", .val (.bool (good r')))]→muN r' n=rot r0 s'→r'.length=r.length→(good r'=false→good (rot r' 1)=false)→KK .next ρ' (lexU A σ l nl (lets r')):=by
   intro r' s' ρ' hhas' heq' hlen hfin
   subst hK
   have hne':r'≠[]:=fun e=>hne (List.length_eq_zero_iff.mp (by rw [← hlen,e];rfl))
   refine cont_next (ExP.has ?_ hhas')
   walk_at "go"
   cases hg:good r'
   ·refine ifp (show (!false)=true from rfl) ?_
    walk_at "go"
    refine after r' n s' _ (by walk_at "has") ⟨heq',hne',by walk_at "l", .inr ⟨hg,hfin hg⟩⟩
   ·refine ifn (by decide) ?_
    walk_at "go"
    have h2:r'.length=2 * (r.length / 2):=by lia
    have htl:=twos_len _ r' h2
    have hul:=un_len _ r' h2
    refine st_assign_swap (names:=["ring", "rounds"]) ?_ (by intro env h1 h2;obtain ⟨⟨_,_,_,_⟩,_,_,_,_,_,_,_,_⟩:=env;dsimp only at h1 h2;subst h1 h2;kernel_rfl) (by intro _;rfl)
    walk_at "go"
    refine ⟨_,rfl,rfl,?_⟩
    show SwapP _ _ _ [_,_] [_,_]
    walk_at "swp"
    walk_at "go"
    refine st_forL ?_
    walk_at "go"
    refine ⟨_,.lst _,fun k ρ' σ'=>σ'=lexU A σ l nl ((lets r').drop (2 * k)++lets ((un r').take k))∧Has ρ' [("lexer", .val (.loc A.x)),("ring", .val (.str (sgs ((un r').take k)))),("rounds", .val (.int (n + 1:Nat))),("shift", .val (.int (s':Nat))),("width", .val (.int w)),("way", .val (.int way))],⟨by simp [lets],(by show Has _ [("lexer", .val (.loc A.x)),("ring", .val (.str [])),("rounds", .val (.int (n + 1:Nat))),("shift", .val (.int (s':Nat))),("width", .val (.int w)),("way", .val (.int way))];walk_at "has")⟩,?_,?_⟩
    ·intro k x ρ₂ σ₂ hx hJ5
     refine bc fun hbc=>?_
     obtain ⟨rfl,hhas2⟩:=hJ5
     refine hbc ?_
     clear hbc
     rw [List.getElem?_map,List.getElem?_map] at hx
     obtain ⟨p,hp,rfl⟩:∃ p,(twos r')[k]?=some p∧V.int (pv w p:Nat)=x:=by
      cases e:(twos r')[k]? with
      | none=>rw [e] at hx;cases hx
      | some p=>rw [e] at hx;exact ⟨p,rfl,Option.some.inj hx⟩
     have hk:=(List.getElem?_eq_some_iff.mp hp).1
     refine bc fun hbc=>?_
     obtain ⟨a,b⟩:=p
     obtain ⟨hd2,hd3⟩:=twos_drop _ r' h2 k hp
     refine hbc ?_
     clear hbc
     have hab:b=!a:=by
      have h':(a != b)=true:=List.all_eq_true.mp hg (a,b) (List.mem_of_getElem? hp)
      revert h';cases a<;>cases b<;>decide
     subst hab
     rw [hd2]
     obtain ⟨Rr,hRr⟩:∃ Rr,(lets r').drop (2 * (k + 1))++lets ((un r').take k)=Rr:=⟨_,rfl⟩
     have hRl:Rr.length≤24:=by
      rw [← hRr,List.length_append]
      refine Nat.le_trans (Nat.add_le_add (List.drop_sublist ..).length_le (by rw [lets,List.length_map];exact (List.take_sublist ..).length_le)) ?_
      rw [show (lets r').length=r'.length from List.length_map ..,hul];lia
     have hap:[sg a] :: [sg !a] :: (lets r').drop (2 * (k + 1))++lets ((un r').take k)=[sg a] :: [sg !a] :: Rr:=by rw [← hRr];rfl
     rw [hap]
     have hl1:Lex A (lexU A σ l nl ([sg a] :: [sg !a] :: Rr)) l nl ([sg a] :: [sg !a] :: Rr):=hA.set
     have hl2:Lex A (lexU A σ l nl ([sg !a] :: Rr)) l nl ([sg !a] :: Rr):=hA.set
     have hl3:Lex A (lexU A σ l nl Rr) l nl Rr:=hA.set
     refine AsP.sub ?_ hhas2
     walk_at "go"
     refine call_tok hl1 (by decide) (fun Q q=>ev_name (by walk_at "mem") q) (cs_get_token_pb hl1 (by simp;walk_at "l") ?_)
     rw [hA.twice]
     refine call_tok hl2 (by decide) (fun Q q=>ev_name (by walk_at "mem") q) (cs_get_token_pb hl2 (by walk_at "l") ?_)
     rw [hA.twice]
     walk_at "go"
     rotate_left
     ·simp
     refine call_push (x:=[sg a]) hl3 (by walk_at "l") (by decide) (fun Q q=>ev_name (by walk_at "mem") q) (fun Q q=>?_) ?_
     ·walk_at "go"
      refine ⟨_,_,_,.none,.int _,.none,sub_str,gs_take (m:=1) (by simp) ?_⟩
      exact q
     rw [hA.twice]
     have hR2:Rr++[[sg a]]=(lets r').drop (2 * (k + 1))++lets ((un r').take (k + 1)):=by rw [← hRr,hd3];simp [lets]
     rw [hR2]
     have hul2:((un r').take k).length≤12:=by rw [List.length_take];exact Nat.le_trans (Nat.min_le_right _ _) (by lia)
     have hpv:(pv w (a,!a) == 1)=!a:=by
      have hW:2 ^ 1≤2 ^ w:=Nat.pow_le_pow_right (by decide) (by walk_at "l")
      cases a
      ·simp [pv,dg]
      ·simp [pv,dg];walk_at "l"
     walk_at "go"
     rw [hpv]
     have hsa:sgs ((un r').take (k + 1))=sgs ((un r').take k)++[sg a]:=by rw [hd3];simp [sgs]
     have hcl:(sgs ((un r').take k)).length≤12:=by rw [show (sgs ((un r').take k)).length=_ from List.length_map _];exact hul2
     cases a
     ·refine ifp (show (!false)=true from rfl) ?_
      walk_at "go"
      refine ifp (by decide +kernel) ?_
      walk_at "go"
      refine ⟨_,_,_,.none,.int _,.none,sub_str,gs_take (m:=1) (by simp) ?_⟩
      rw [show List.take 1 ([sg false]++[sg !false])=[sg false] from rfl]
      walk_at "go"
      rotate_left
      ·simp;lia
      exact ⟨rfl,by rw [hsa];walk_at "has"⟩
     ·refine ifn (by decide) ?_
      walk_at "go"
      refine ifp (by decide +kernel) ?_
      walk_at "go"
      refine ⟨_,_,_,.none,.int _,.none,sub_str,gs_take (m:=1) (by simp) ?_⟩
      rw [show List.take 1 ([sg true]++[sg !true])=[sg true] from rfl]
      walk_at "go"
      rotate_left
      ·simp;lia
      exact ⟨rfl,by rw [hsa];walk_at "has"⟩
    ·intro ρ₂ σ₂ hJ2
     refine bc fun hbc=>?_
     obtain ⟨rfl,hhas2⟩:=hJ2
     refine hbc ?_
     clear hbc
     have e1:(natV ((twos r').map (pv w))).length=r.length / 2:=by rw [List.length_map,List.length_map,htl]
     have hut:(un r').take (r.length / 2)=un r':=List.take_of_length_le (by lia)
     have hdr:(lets r').drop (2 * (r.length / 2))=[]:=List.drop_eq_nil_of_le (by simp [lets];lia)
     have hrl:r.length≠0:=fun e=>hne (List.length_eq_zero_iff.mp e)
     rw [e1,hut] at hhas2
     rw [e1,hut,hdr,List.nil_append]
     walk_at "go"
     refine turn_next (m:=(un r').length) (by lia) ⟨un r',n + 1,s',hhas2,rfl,?_,fun e=>by rw [e] at hul;simp at hul;lia,by lia,rfl⟩
     rw [muN_succ,mu_un _ r' h2 hg];exact heq'
  cases hg:good r
  ·refine ifp (show (!false)=true from rfl) ?_
   obtain ⟨a,r1,rfl⟩:∃ a r1,r=a :: r1:=by
    cases r with
    | nil=>exact absurd rfl hne
    | cons a r1=>exact ⟨a,r1,rfl⟩
   have hle1:r1.length≤11:=by simp at hle;walk_at "l"
   have hl1:Lex A (lexU A σ l nl (lets (a :: r1))) l nl ([sg a] :: lets r1):=hA.set
   have hl2:Lex A (lexU A σ l nl (lets r1)) l nl (lets r1):=hA.set
   walk_at "go"
   refine call_tok hl1 (by decide) (fun Q q=>ev_name (by walk_at "mem") q) (cs_get_token_pb hl1 (by simp [lets];walk_at "l") ?_)
   rw [hA.twice]
   walk_at "go"
   refine call_push (x:=[sg a]) hl2 (by simp [lets];walk_at "l") (by decide) (fun Q q=>ev_name (by walk_at "mem") q) (fun Q q=>ev_name (by walk_at "mem") q) ?_
   rw [hA.twice]
   have hnl:=num_lt hw hne
   have hb0:=Nat.zero_lt_of_lt hnl
   have hp1:1≤1 * 2 ^ (w * (sgs (a :: r1)).length):=by have:=Nat.two_pow_pos (w * (sgs (a :: r1)).length);lia
   have hnb:=nbits_le hb
   have n1:nbits 1=1:=by decide
   walk_at "go"
   rotate_left
   ·walk_at "l"
   ·walk_at "l"
   ·exact mulOk_small (.inl (by walk_at "l"))
   ·rw [hsl];walk_at "l"
   rw [hsl,Nat.one_mul]
   refine bc fun hbc=>?_
   obtain ⟨d1,d2⟩:=rot_div hw (r:=a :: r1) (q:=1) (by decide) (by simp)
   refine hbc ?_
   clear hbc
   rw [Nat.mul_one] at d1 d2
   have hA2:num w (a :: r1) * 2 ^ w < 2 ^ (w * (a :: r1).length + w):=by rw [Nat.pow_add];exact Nat.mul_lt_mul_of_pos_right hb (Nat.two_pow_pos _)
   refine cs__law_divided (by decide) hb0 (Nat.le_trans (nbits_le (k:=w * (a :: r1).length) (subLt (Nat.two_pow_pos _))) (by lia)) (Nat.le_trans (nbits_le hA2) (by lia)) hway ?_
   rw [d1,d2]
   walk_at "go"
   refine st_assign_swap (names:=["ring", "shift"]) ?_ (by intro env h1 h2;obtain ⟨⟨_,_,_,_⟩,_,_,_,_,_,_,_,_⟩:=env;dsimp only at h1 h2;subst h1 h2;kernel_rfl) (by intro _;rfl)
   walk_at "go"
   refine ⟨_,_,_,.int _,.none,.none,sub_str,gs_drop (m:=1) (by walk_at "l") ?_⟩
   walk_at "go"
   have hna:num w (List.take 1 (a :: r1))=dg a:=by show d2i w [dg a]=_;simp [d2i]
   rw [hna]
   refine ⟨_,_,_,.int _,.int _,.none,sub_str,gs_mid (by decide +kernel) ?_⟩
   rw [show ((Str.ofString "hp").cps.toList.drop (dg a)).take (dg a + 1 - dg a)=[sg a] by cases a<;>decide +kernel]
   walk_at "go"
   refine ifp (beq_self_eq_true [sg a]) ?_
   have hnn:n < 12:=by
    have h1:=congrArg List.length heq
    rw [muN_length,rot_length] at h1
    have h2:2 ^ n * 1≤2 ^ n * (a :: r1).length:=Nat.mul_le_mul_left _ (by simp)
    have h3:n < 2 ^ n:=Nat.lt_two_pow_self
    lia
   walk_at "go"
   rotate_left
   ·rw [List.length_drop,hsl,List.length_singleton];exact Nat.le_trans (Nat.add_le_add_right (Nat.le_trans (Nat.sub_le _ _) (show _≤12 by lia)) 1) (by decide)
   ·rw [show nbits 2=2 from by decide];lia
   refine ⟨_,rfl,rfl,?_⟩
   show SwapP _ _ _ [_,_] [_,_]
   walk_at "swp"
   have hro:rot (a :: r1) 1=r1++[a]:=rot_one a r1
   have hrl:(rot (a :: r1) 1).length=(a :: r1).length:=rot_length ..
   rw [show List.drop 1 (sgs (a :: r1))++[sg a]=sgs (rot (a :: r1) 1) by rw [hro];simp [sgs],show lets r1++[[sg a]]=lets (rot (a :: r1) 1) by rw [hro];simp [lets]]
   walk_at "go"
   refine cs__law_pairs (by decide) (hrl ▸ hle) (hrl.trans hn2) (by walk_at "l") hw2 ?_
   rw [show ((twos (rot (a :: r1) 1)).all fun p=>p.1 != p.2)=good (rot (a :: r1) 1) from rfl]
   walk_at "go"
   refine tail (rot (a :: r1) 1) (s + 2 ^ n) _ (by walk_at "has") ?_ hrl fun _=>?_
   ·rw [muN_rot hne,heq,rot_rot,Nat.mul_one]
   ·rw [good_rot2 _ _ hn2,hg]
  ·refine ifn (by decide) ?_
   walk_at "go"
   exact tail r s _ (by rw [hg];walk_at "has") heq rfl (fun h=>by rw [hg] at h;cases h)
 ·exact after r n s ρ₁ hhas ⟨heq,hne,hle,.inl (by lia)⟩
end
inductive Sp (P:Nat→Prop):List Nat→List Nat→Prop
 | nil:Sp P [] []
 | chr {c:Nat} {r r':List Nat} (h:P c) (t:Sp P r r'):Sp P (c :: r) (c :: r')
 | esc (c:Nat) {r r':List Nat} (t:Sp P r r'):Sp P (92 :: c :: r) (c :: r')
noncomputable def PQ (c:Nat):Prop:=c≠34∧c≠92
noncomputable def PB (c:Nat):Prop:=ws c=false∧c≠92
theorem Sp.snoc {P:Nat→Prop} {a u b v:List Nat} (h:Sp P a u) (k:Sp P b v):Sp P (a++b) (u++v):=by
 induction h with
 | nil=>exact k
 | chr h t ih=>exact .chr h ih
 | esc c t ih=>exact .esc c ih
theorem sp_quoted {a u:List Nat} (h:Sp PQ a u):∀ (acc r:List Nat),tokQ acc (a++34 :: r)=(acc++u,r):=by
 induction h with
 | nil=>intro acc r;rw [List.nil_append,tokQ_cons,if_pos rfl,List.append_nil]
 | chr h t ih=>intro acc r;rw [List.cons_append,tokQ_cons,if_neg h.1,if_neg h.2,ih,List.append_assoc];rfl
 | @esc c _ _ t ih=>intro acc r;rw [List.cons_append,tokQ_cons,if_neg (by decide),if_pos rfl];show tokQ (acc++[c]) (_++34 :: r)=_;rw [ih,List.append_assoc];rfl
theorem sp_quotedO {a u:List Nat} (h:Sp PQ a u):∀ (acc:List Nat),tokQ acc a=(acc++u,[]):=by
 induction h with
 | nil=>intro acc;simp [tokQ]
 | chr h t ih=>intro acc;rw [tokQ_cons,if_neg h.1,if_neg h.2,ih,List.append_assoc];rfl
 | @esc c r _ t ih=>intro acc;rw [tokQ_cons,if_neg (by decide),if_pos rfl];show tokQ (acc++[c]) r=_;rw [ih,List.append_assoc];rfl
theorem sp_bare {a u:List Nat} (h:Sp PB a u):∀ (acc:List Nat) (s:Nat) (r:List Nat),ws s=true→tokB acc (a++s :: r)=(acc++u,r):=by
 induction h with
 | nil=>intro acc s r hs;rw [List.nil_append,tokB_cons,if_pos hs,List.append_nil]
 | chr h t ih=>intro acc s r hs;rw [List.cons_append,tokB_cons,if_neg (by rw [h.1];decide),if_neg h.2,ih _ _ _ hs,List.append_assoc];rfl
 | @esc c _ _ t ih=>intro acc s r hs;rw [List.cons_append,tokB_cons,if_neg (by rw [ws92];decide),if_pos rfl];show tokB (acc++[c]) (_++s :: r)=_;rw [ih _ _ _ hs,List.append_assoc];rfl
theorem sp_bareO {a u:List Nat} (h:Sp PB a u):∀ (acc:List Nat),tokB acc (a++[92])=(acc++u,[]):=by
 induction h with
 | nil=>intro acc;rw [List.nil_append,tokB_cons,if_neg (by rw [ws92];decide),if_pos rfl];simp [tokB]
 | chr h t ih=>intro acc;rw [List.cons_append,tokB_cons,if_neg (by rw [h.1];decide),if_neg h.2,ih,List.append_assoc];rfl
 | @esc c r _ t ih=>intro acc;rw [List.cons_append,tokB_cons,if_neg (by rw [ws92];decide),if_pos rfl];show tokB (acc++[c]) (r++[92])=_;rw [ih,List.append_assoc];rfl
noncomputable def mustL (q f:Bool):List Nat:=if q then [34,92] else if f then [92,10,9,13,32,34] else [92,10,9,13,32]
noncomputable def spl (q e f:Bool) (c:Nat):List Nat:=if e || (mustL q f).contains c then [92,c] else [c]
noncomputable def splK (q e:Bool) (w:List Nat):Nat→List Nat
 | 0=>[]
 | k + 1=>splK q e w k++spl q e (k == 0) (w.getD k 0)
theorem ws_iff (c:Nat) (h:ws c=true):[92,10,9,13,32].contains c=true:=by
 have e:wsL=[10,9,13,32]:=by decide +kernel
 have h':Txt.contains ⟨([10,9,13,32]:List Nat).toArray⟩ ⟨(List.replicate 1 c).toArray⟩=true:=by rw [← e];exact h
 obtain ⟨i,hi,hj⟩:=(contains_run _ c 1).mp h'
 have:=hj 0 (by decide)
 rw [Nat.add_zero] at this
 have hm:c∈([10,9,13,32]:List Nat):=List.mem_of_getElem? this
 rw [List.contains_iff_mem]
 simp only [List.mem_cons,List.mem_nil_iff,or_false] at hm ⊢
 lia
theorem sp_spl (q e f:Bool) (c:Nat):Sp (if q then PQ else PB) (spl q e f c) [c]:=by
 unfold spl
 by_cases h:(e || (mustL q f).contains c)=true
 ·rw [if_pos h];exact .esc c .nil
 ·rw [if_neg h]
  rw [Bool.or_eq_true,not_or] at h
  refine .chr ?_ .nil
  cases q
  ·have h2:¬ [92,10,9,13,32].contains c=true:=fun x=>h.2 (by
    unfold mustL
    cases f
    ·exact x
    ·simp only [List.contains_eq_mem,List.mem_cons,decide_eq_true_eq] at x
     simp only [Bool.false_eq_true,if_false,if_true,List.contains_eq_mem,List.mem_cons,decide_eq_true_eq]
     lia)
   show PB c
   refine ⟨?_,fun x=>h2 (by rw [x];decide)⟩
   cases hw:ws c
   ·rfl
   ·exact absurd (ws_iff c hw) h2
  ·have h2:¬ [34,92].contains c=true:=h.2
   exact ⟨fun x=>h2 (by rw [x];decide),fun x=>h2 (by rw [x];decide)⟩
theorem sp_splK (q e:Bool) (w:List Nat):∀ k,k≤w.length→Sp (if q then PQ else PB) (splK q e w k) (w.take k)
 | 0,_=>.nil
 | k + 1,h=>by
  rw [List.take_succ_eq_append_getElem (by walk_at "l")]
  have:=sp_spl q e (k == 0) (w.getD k 0)
  rw [List.getD_eq_getElem?_getD,List.getElem?_eq_getElem (by walk_at "l")] at this
  refine (sp_splK q e w k (by lia)).snoc ?_
  rw [List.getD_eq_getElem?_getD,List.getElem?_eq_getElem (by walk_at "l")]
  exact this
theorem tok_white:∀ (g t:List Nat),(∀ c∈g,ws c=true)→tok (g++t)=tok t
 | [],t,_=>rfl
 | c :: g,t,h=>by
  rw [List.cons_append,tok,if_pos (h c List.mem_cons_self)]
  exact tok_white g t fun x hx=>h x (List.mem_cons_of_mem _ hx)
theorem tok_quote (r:List Nat):tok (34 :: r)=tokQ [] r:=by
 rw [tok,if_neg (by rw [show ws 34=false by decide +kernel];decide),if_pos rfl]
structure Shut (q o:Bool) (cl:List Nat):Prop where
 shut:o=false→(q=true→∃ g,cl=34 :: g∧∀ c∈g,ws c=true)∧(q=false→cl≠[]∧∀ c∈cl,ws c=true)
 open_:o=true→cl=if q then [] else [92]
set_option tactic.hygienic true in
theorem tok_word {q e o:Bool} {w cl:List Nat} (hw:w≠[]) (h:Shut q o cl) (T:List Nat) (hT:o=true→T=[]):
  tok ((if q then [34] else [])++splK q e w w.length++cl++T)=(w,cl.drop 1++T)∧∀ c∈cl.drop 1,ws c=true:=by
 have hs:=sp_splK q e w w.length (Nat.le_refl _)
 rw [List.take_length] at hs
 cases q
 ·obtain ⟨k,hk⟩:∃ k,w.length=k + 1:=⟨w.length - 1,by have:=List.length_pos_iff.mpr hw;lia⟩
  have hw1:w=w.getD 0 0 :: w.drop 1:=by
   cases w with
   | nil=>exact absurd rfl hw
   | cons c w=>rfl
  -- the first sign apart
  have key:∀ k,k + 1≤w.length→∃ b,splK false e w (k + 1)=spl false e true (w.getD 0 0)++b∧Sp PB b ((w.drop 1).take k):=by
   intro k
   induction k with
   | zero=>intro _;exact ⟨[],by simp [splK],.nil⟩
   | succ k ih=>
    intro hk
    obtain ⟨b,hb,hS⟩:=ih (by lia)
    refine ⟨b++spl false e false (w.getD (k + 1) 0),by rw [splK,hb,List.append_assoc];rfl,?_⟩
    rw [List.take_succ_eq_append_getElem (by simp;lia)]
    refine hS.snoc ?_
    have:=sp_spl false e false (w.getD (k + 1) 0)
    rw [List.getD_eq_getElem?_getD,List.getElem?_eq_getElem (by walk_at "l")] at this ⊢
    rw [List.getElem_drop]
    simpa [Nat.add_comm] using this
  obtain ⟨b,hb,hS⟩:=key k (by lia)
  rw [List.take_of_length_le (by simp;lia)] at hS
  have first:∀ R,tok (spl false e true (w.getD 0 0)++R)=tokB [w.getD 0 0] R:=by
   intro R
   unfold spl
   split
   ·show tok (92 :: w.getD 0 0 :: R)=_
    rw [tok,if_neg (by rw [ws92];decide),if_neg (by decide),if_pos rfl];rfl
   ·rename_i hn
    rw [Bool.or_eq_true,not_or] at hn
    have hn2:¬ [92,10,9,13,32,34].contains (w.getD 0 0)=true:=hn.2
    have h1:ws (w.getD 0 0)=false:=by
     cases hws:ws (w.getD 0 0)
     ·rfl
     ·have:=ws_iff _ hws
      rw [List.contains_iff_mem] at this hn2
      exact absurd (by simp only [List.mem_cons] at this ⊢;lia) hn2
    show tok (w.getD 0 0 :: R)=_
    rw [tok,if_neg (by rw [h1];decide),if_neg (fun x=>hn2 (by rw [x];decide)),if_neg (fun x=>hn2 (by rw [x];decide))]
  rw [hk,hb]
  simp only [Bool.false_eq_true,if_false,List.nil_append,List.append_assoc]
  rw [first]
  cases o
  ·obtain ⟨hne,hws⟩:=(h.shut rfl).2 rfl
   cases cl with
   | nil=>exact absurd rfl hne
   | cons s g=>
    rw [List.cons_append,sp_bare hS _ _ _ (hws s List.mem_cons_self)]
    refine ⟨?_,fun c hc=>hws c (List.mem_cons_of_mem _ hc)⟩
    conv=>rhs;rw [hw1]
    rfl
  ·rw [hT rfl,h.open_ rfl]
   simp only [Bool.false_eq_true,if_false,List.append_nil]
   rw [sp_bareO hS]
   refine ⟨?_,by intro c hc;cases hc⟩
   conv=>rhs;rw [hw1]
   rfl
 ·simp only [if_true,List.append_assoc,List.cons_append,List.nil_append]
  rw [tok_quote]
  cases o
  ·obtain ⟨g,rfl,hg⟩:=(h.shut rfl).1 rfl
   rw [List.cons_append,sp_quoted hs]
   exact ⟨rfl,hg⟩
  ·rw [hT rfl,h.open_ rfl]
   simp only [if_true,List.append_nil]
   rw [sp_quotedO hs]
   exact ⟨rfl,by intro c hc;cases hc⟩
noncomputable def rdN (l:List Nat):Nat→List (List Nat×Nat)×List Nat
 | 0=>([],l)
 | k + 1=>((rdN l k).1++[((tok (rdN l k).2).1,(tok (rdN l k).2).2.length)],(tok (rdN l k).2).2)
structure Good (o:Bool) (t:List Nat) (es:List (List Nat×Nat)) (g:List Nat):Prop where
 read:∀ T,(o=true→T=[])→rdN (t++T) es.length=(es.map fun x=>(x.1,t.length + T.length - x.2),g++T)
 white:∀ c∈g,ws c=true
 ends:∀ x∈es,x.2≤t.length
theorem Good.nil:Good false [] [] []:=⟨fun T _=>rfl,by simp,by simp⟩
theorem Good.add {t:List Nat} {es:List (List Nat×Nat)} {g:List Nat} (h:Good false t es g) {o:Bool} {p w g':List Nat} (hp:∀ T,(o=true→T=[])→tok (p++T)=(w,g'++T)) (hg:∀ c∈g',ws c=true) (hl:g'.length≤p.length) {n:Nat} (hn:n + g'.length=(t++p).length):
  Good o (t++p) (es++[(w,n)]) g':=by
 refine ⟨fun T hT=>?_,hg,fun x hx=>?_⟩
 ·have h1:=h.read (p++T) (fun e=>absurd e (by decide))
  rw [List.length_append,List.length_singleton,rdN,List.append_assoc,h1]
  show (_++[((tok (g++(p++T))).1,(tok (g++(p++T))).2.length)],(tok (g++(p++T))).2)=_
  rw [tok_white _ _ h.white,hp T hT,List.map_append]
  refine Prod.ext ?_ rfl
  have e1:(es.map fun x=>(x.1,t.length + (p++T).length - x.2))=es.map fun x=>(x.1,(t++p).length + T.length - x.2):=List.map_congr_left fun x _=>by rw [List.length_append,List.length_append,Nat.add_assoc]
  have e2:(g'++T).length=(t++p).length + T.length - n:=by rw [List.length_append,← hn,Nat.add_assoc,Nat.add_sub_cancel_left]
  show _++[(w,(g'++T).length)]=_
  rw [e1,e2];rfl
 ·rcases List.mem_append.mp hx with hx | hx
  ·have:=h.ends x hx;simp;lia
  ·obtain rfl:=List.mem_singleton.mp hx
   show n≤_
   lia
theorem rdN_len (l:List Nat):∀ k,(rdN l k).1.length=k
 | 0=>rfl
 | k + 1=>by rw [rdN,List.length_append,rdN_len l k];rfl
theorem Good.all {o:Bool} {t:List Nat} {es:List (List Nat×Nat)} {g:List Nat} (h:Good o t es g):rdN t (es.length + 2)=((es.map fun x=>(x.1,t.length - x.2))++[([],0),([],0)],[]):=by
 have h1:=h.read [] (fun _=>rfl)
 rw [List.append_nil,List.append_nil] at h1
 have t1:tok g=([],[]):=by have:=tok_white g [] h.white;rw [List.append_nil] at this;rw [this];rfl
 have t2:tok []=([],[]):=rfl
 rw [rdN,rdN,h1]
 simp only [t1,t2]
 simp
noncomputable def hpB (c:Nat):Bool:=Txt.contains ⟨[104,112].toArray⟩ ⟨#[c]⟩
noncomputable def othL:List Nat:=[32,34,92,10,9,35,13,172,174,846,848,6149,6151,6154,6158,8202,8206,8287,8289,65023,65040,65278,65280,11,133,160,12288]
noncomputable def shpL:List (List Bool×List Nat):=[([false],[104,72,8459,8460]),([true],[112,80,8473,119823]),([false,true],[13259]),([true,false],[13271])]
theorem shp_all:shpL.all (fun x=>x.2.all fun s=>prepC s == sgs x.1 && decide (s < 0x110000))=true:=by decide +kernel
theorem oth_all:othL.all (fun c=>prepC c == [c] && !hpB c && decide (c < 0x110000))=true:=by decide +kernel
theorem hid_all:hidL.all (fun c=>prepC c == [] && decide (c < 0x110000))=true:=by decide +kernel
theorem hp_sg:∀ b,hpB (sg b)=true:=by decide +kernel
structure Wd (ls:List Bool) (w mp:List Nat):Prop where
 ne:w≠[]
 len:w.length≤3
 chr:∀ c∈w,c < 0x110000
 prep:prepW w=mp
 hp:mp.filter hpB=sgs ls
 mlen:mp.length≤4
 mok:∀ c∈mp,c < 0x110000
theorem sgs_ok (ls:List Bool):∀ c∈sgs ls,c < 0x110000:=fun c hc=>by
 obtain ⟨b,_,rfl⟩:=List.mem_map.mp hc
 cases b<;>decide
theorem hp_sgs (ls:List Bool):(sgs ls).filter hpB=sgs ls:=List.filter_eq_self.mpr fun c hc=>by
 obtain ⟨b,_,rfl⟩:=List.mem_map.mp hc
 exact hp_sg b
noncomputable def wdOf (s h o:Nat):List (List Nat):=[[s],[h,s],[s,h],[o,s,o],[s]]
theorem wd_of {ls:List Bool} {row:List Nat} (hx:(ls,row)∈shpL) {s:Nat} (hs:s∈row) {h o:Nat} (hh:h∈hidL) (ho:o∈othL) {k:Nat} (hk:k < 5):
  Wd ls ((wdOf s h o).getD k []) (if k=3 then [o]++sgs ls++[o] else sgs ls):=by
 have hS:=List.all_eq_true.mp (List.all_eq_true.mp shp_all _ hx) s hs
 have hH:=List.all_eq_true.mp hid_all h hh
 have hO:=List.all_eq_true.mp oth_all o ho
 simp only [Bool.and_eq_true,beq_iff_eq,decide_eq_true_eq,Bool.not_eq_true'] at hS hH hO
 obtain ⟨s1,s2⟩:=hS
 obtain ⟨h1,h2⟩:=hH
 obtain ⟨⟨o1,o2⟩,o3⟩:=hO
 have hll:ls.length≤2:=by
  have:shpL.all (fun x=>decide (x.1.length≤2))=true:=by decide
  simpa using List.all_eq_true.mp this _ hx
 have hsl:(sgs ls).length=ls.length:=List.length_map ..
 have P:∀ w,prepW w=w.flatMap prepC:=fun w=>by unfold prepW;rw [List.flatMap_def]
 rcases (show k=0∨k=1∨k=2∨k=3∨k=4 by lia) with rfl | rfl | rfl | rfl | rfl
 ·exact ⟨by simp [wdOf],by simp [wdOf],by simpa [wdOf] using s2,by rw [P];simp [wdOf,s1],hp_sgs ls,by simp [sgs];walk_at "l", sgs_ok ls⟩
 ·exact ⟨by simp [wdOf],by simp [wdOf],by simpa [wdOf] using ⟨h2,s2⟩,by rw [P];simp [wdOf,s1,h1],hp_sgs ls,by simp [sgs];walk_at "l", sgs_ok ls⟩
 ·exact ⟨by simp [wdOf],by simp [wdOf],by simpa [wdOf] using ⟨s2,h2⟩,by rw [P];simp [wdOf,s1,h1],hp_sgs ls,by simp [sgs];walk_at "l", sgs_ok ls⟩
 ·exact ⟨by simp [wdOf],by simp [wdOf],by simpa [wdOf] using ⟨o3,s2,o3⟩,by rw [P];simp [wdOf,s1,o1],by rw [if_pos rfl,List.filter_append,List.filter_append,hp_sgs];simp [o2],by simp [sgs];walk_at "l", fun c hc=>by
   rw [if_pos rfl] at hc
   rcases List.mem_append.mp hc with hc | hc
   ·rcases List.mem_append.mp hc with hc | hc
    ·obtain rfl:=List.mem_singleton.mp hc;exact o3
    ·exact sgs_ok ls c hc
   ·obtain rfl:=List.mem_singleton.mp hc;exact o3⟩
 ·exact ⟨by simp [wdOf],by simp [wdOf],by simpa [wdOf] using s2,by rw [P];simp [wdOf,s1],hp_sgs ls,by simp [sgs];walk_at "l", sgs_ok ls⟩
structure FI (r:List Bool) (p:Nat) (o:Bool) (t:List Nat) (es:List (List Nat×Nat)) (m g:List Nat):Prop where
 good:Good o t es g
 mean:prepW (es.flatMap (·.1))=m
 ring:m.filter hpB=sgs (r.take p)
 tlen:t.length≤20 * p
 elen:es.length≤2 * p
 wlen:∀ x∈es,x.1.length≤3
 mlen:m.length≤4 * p
 ok:∀ c∈t,c < 0x110000
 le:p≤r.length
 mok:∀ c∈m,c < 0x110000
 wok:∀ x∈es,∀ c∈x.1,c < 0x110000
theorem FI.nil (r:List Bool):FI r 0 false [] [] [] []:=⟨.nil,rfl,by simp [sgs],by simp,by simp,by simp,by simp,by simp,by simp,by simp,by simp⟩
theorem spl_len (q e f:Bool) (c:Nat):(spl q e f c).length≤2:=by unfold spl;split<;>simp
theorem splK_len (q e:Bool) (w:List Nat):∀ k,(splK q e w k).length≤2 * k
 | 0=>by simp [splK]
 | k + 1=>by
  have:=splK_len q e w k
  have:=spl_len q e (k == 0) (w.getD k 0)
  simp only [splK,List.length_append];lia
theorem splK_ok {w:List Nat} (h:∀ c∈w,c < 0x110000) (q e:Bool):∀ k,∀ c∈splK q e w k,c < 0x110000
 | 0=>by simp [splK]
 | k + 1=>by
  have ih:=splK_ok h q e k
  have hg:w.getD k 0 < 0x110000:=by
   rw [List.getD_eq_getElem?_getD]
   cases hk:w[k]? with
   | none=>decide
   | some c=>exact h c (List.mem_of_getElem? hk)
  intro c hc
  rcases List.mem_append.mp hc with hc | hc
  ·exact ih c hc
  ·unfold spl at hc
   split at hc
   ·simp only [List.mem_cons,List.mem_nil_iff,or_false] at hc
    rcases hc with rfl | rfl
    ·decide
    ·exact hg
   ·obtain rfl:=List.mem_singleton.mp hc
    exact hg
theorem FI.step {r:List Bool} {p:Nat} {t:List Nat} {es:List (List Nat×Nat)} {m g:List Nat} (h:FI r p false t es m g) {ls:List Bool} {w mp cl:List Nat} {q e o pre:Bool} (hls:ls≠[]) (hr:(r.drop p).take ls.length=ls) (hw:Wd ls w mp) (hs:Shut q o cl) (hcl:cl.length≤3) (hco:∀ c∈cl,c < 0x110000)
  {n:Nat} (hn:n=(t++(if pre then [34,34] else [])++(if q then [34] else [])++splK q e w w.length).length + (cl.take 1).length):
  FI r (p + ls.length) o (t++(if pre then [34,34] else [])++(if q then [34] else [])++splK q e w w.length++cl) (es++(if pre then [([],t.length + 2)] else [])++[(w,n)]) (m++mp) (cl.drop 1):=by
 have G:∃ g',Good false (t++(if pre then [34,34] else [])) (es++(if pre then [([],t.length + 2)] else [])) g':=by
  cases pre
  ·exact ⟨g,by simpa using h.good⟩
  ·refine ⟨[],h.good.add (p:=[34,34]) (w:=[]) (o:=false) (fun T _=>?_) (by simp) (by simp) (by simp)⟩
   show tok (34 :: 34 :: T)=_
   rw [tok_quote,tokQ_cons,if_pos rfl];rfl
 obtain ⟨g',G⟩:=G
 have hl:=splK_len q e w w.length
 have hwl:=hw.len
 have hl1:1≤ls.length:=List.length_pos_iff.mpr hls
 have hq1:(if q then [34] else []:List Nat).length≤1:=by cases q<;>simp
 have hp1:(if pre then [34,34] else []:List Nat).length≤2:=by cases pre<;>simp
 have hp2:(if pre then [([],t.length + 2)] else []:List (List Nat×Nat)).length≤1:=by cases pre<;>simp
 have h1:=h.tlen
 have h2:=h.elen
 have h3:=h.mlen
 have h4:=hw.mlen
 have hct:(cl.take 1).length + (cl.drop 1).length=cl.length:=by rw [← List.length_append,List.take_append_drop]
 refine ⟨?_,?_,?_,?_,?_,?_,?_,?_,?_,?_,?_⟩
 ·have:=G.add (o:=o) (p:=(if q then [34] else [])++splK q e w w.length++cl) (w:=w) (g':=cl.drop 1) (n:=n) (fun T hT=>(tok_word hw.ne hs T hT).1) (tok_word (e:=e) hw.ne hs [] (fun _=>rfl)).2 (by simp;walk_at "l") (by rw [hn];simp only [List.length_append];lia)
  simpa only [List.append_assoc] using this
 ·rw [List.flatMap_append,List.flatMap_append]
  have P:∀ a b,prepW (a++b)=prepW a++prepW b:=fun a b=>by simp [prepW]
  have hpp:prepW ((if pre then [([],t.length + 2)] else []:List (List Nat×Nat)).flatMap (·.1))=[]:=by cases pre<;>rfl
  rw [P,P,h.mean,hpp,List.append_nil]
  have:prepW ([(w,n)].flatMap (·.1))=prepW w:=by simp
  rw [this,hw.prep]
 ·rw [List.filter_append,h.ring,hw.hp,List.take_add,hr];simp [sgs]
 ·simp only [List.length_append];lia
 ·simp only [List.length_append,List.length_singleton];lia
 ·intro x hx
  rcases List.mem_append.mp hx with hx | hx
  ·rcases List.mem_append.mp hx with hx | hx
   ·exact h.wlen x hx
   ·cases pre
    ·cases hx
    ·obtain rfl:=List.mem_singleton.mp hx;simp
  ·obtain rfl:=List.mem_singleton.mp hx;exact hwl
 ·simp only [List.length_append];lia
 ·intro c hc
  rcases List.mem_append.mp hc with hc | hc
  ·rcases List.mem_append.mp hc with hc | hc
   ·rcases List.mem_append.mp hc with hc | hc
    ·rcases List.mem_append.mp hc with hc | hc
     ·exact h.ok c hc
     ·cases pre
      ·cases hc
      ·simp only [if_true,List.mem_cons,List.mem_nil_iff,or_false,or_self] at hc;rw [hc];decide
    ·cases q
     ·cases hc
     ·obtain rfl:=List.mem_singleton.mp hc;decide
   ·exact splK_ok hw.chr q e _ c hc
  ·exact hco c hc
 ·have:=congrArg List.length hr
  rw [List.length_take,List.length_drop] at this
  have:=h.le
  lia
 ·intro c hc
  rcases List.mem_append.mp hc with hc | hc
  ·exact h.mok c hc
  ·exact hw.mok c hc
 ·intro x hx
  rcases List.mem_append.mp hx with hx | hx
  ·rcases List.mem_append.mp hx with hx | hx
   ·exact h.wok x hx
   ·cases pre
    ·cases hx
    ·obtain rfl:=List.mem_singleton.mp hx;simp
  ·obtain rfl:=List.mem_singleton.mp hx;exact hw.chr
theorem bd__law_file:Binds F__law_file ["ring", "cells"]:=by walk_at "binds"
theorem ck__law_file:fnC F__law_file ["ring", "cells"] ["place"]=true:=by decide +kernel
theorem oth_eq:(Str.ofString "\u0020\u0022\u005c\u000a\u0009\u0023\u000d\u00ac\u00ae\u034e\u0350\u1805\u1807\u180a\u180e\u200a\u200e\u205f\u2061\ufdff\ufe10\ufefe\uff00\u000b\u0085\u00a0\u3000").cps.toList=othL:=by decide +kernel
noncomputable abbrev shpV:List V:=[V.tup [V.str [104],V.str (Str.ofString "hHℋℌ").cps.toList],V.tup [V.str [112],V.str (Str.ofString "pPℙ𝐏").cps.toList],V.tup [V.str (Str.ofString "hp").cps.toList,V.str (Str.ofString "㏋").cps.toList],V.tup [V.str (Str.ofString "ph").cps.toList,V.str (Str.ofString "㏗").cps.toList]]
theorem shpV_eq:shpV=shpL.map fun x=>V.tup [.str (sgs x.1),.str x.2]:=by kernel_rfl
noncomputable abbrev entV (es:List (List Nat×Nat)):List V:=es.map fun x=>.tup [.str x.1,.int ((x.2:Nat):Int)]
theorem sgs_eq (a b:List Bool):(sgs a == sgs b)=decide (a=b):=by
 rw [Bool.eq_iff_iff,beq_iff_eq,decide_eq_true_eq]
 refine ⟨fun h=>?_,fun h=>by rw [h]⟩
 have inj:∀ a b:Bool,sg a=sg b→a=b:=by decide
 revert h
 induction a generalizing b with
 | nil=>intro h;cases b with
  | nil=>rfl
  | cons=>cases h
 | cons x a ih=>intro h;cases b with
  | nil=>cases h
  | cons y b=>injection h with h1 h2;rw [inj _ _ h1,ih b h2]
noncomputable def fitP (r:List Bool) (p:Nat):List (List Bool×Nat):=shpL.flatMap fun x=>(x.2.filter fun _=>decide ((r.drop p).take x.1.length=x.1)).map fun c=>(x.1,c)
noncomputable abbrev fitV (y:List Bool×Nat):V:=.tup [.str (sgs y.1),.str [y.2]]
theorem fitP_mem {r:List Bool} {p:Nat} {y:List Bool×Nat} (h:y∈fitP r p):(r.drop p).take y.1.length=y.1∧y.1≠[]∧∃ row,(y.1,row)∈shpL∧y.2∈row:=by
 refine bc fun hbc=>?_
 obtain ⟨x,hx,hy⟩:=List.mem_flatMap.mp h
 obtain ⟨c,hc,rfl⟩:=List.mem_map.mp hy
 obtain ⟨h1,h2⟩:=List.mem_filter.mp hc
 refine hbc ?_
 clear hbc
 refine ⟨of_decide_eq_true h2,?_,x.2,hx,h1⟩
 have:shpL.all (fun x=>decide (x.1≠[]))=true:=by decide
 simpa using List.all_eq_true.mp this x hx
theorem fitP_len (r:List Bool) (p:Nat):(fitP r p).length≤10:=by
 unfold fitP shpL
 simp only [List.flatMap_cons,List.flatMap_nil,List.length_append,List.length_map,List.length_nil,List.append_nil]
 have h1:=List.length_filter_le (fun _=>decide ((r.drop p).take [false].length=[false])) [104,72,8459,8460]
 have h2:=List.length_filter_le (fun _=>decide ((r.drop p).take [true].length=[true])) [112,80,8473,119823]
 have h3:=List.length_filter_le (fun _=>decide ((r.drop p).take [false,true].length=[false,true])) [13259]
 have h4:=List.length_filter_le (fun _=>decide ((r.drop p).take [true,false].length=[true,false])) [13271]
 simp only [List.length_cons,List.length_nil] at h1 h2 h3 h4 ⊢
 lia
theorem fitP_pos {r:List Bool} {p:Nat} (h:p < r.length):0 < (fitP r p).length:=by
 have hd:(r.drop p).take 1=[r[p]]:=by rw [List.drop_eq_getElem_cons h];rfl
 refine List.length_pos_of_mem (a:=([r[p]],if r[p] then 112 else 104)) ?_
 refine List.mem_flatMap.mpr ⟨([r[p]],if r[p] then [112,80,8473,119823] else [104,72,8459,8460]),?_,List.mem_map.mpr ⟨_,List.mem_filter.mpr ⟨?_,decide_eq_true hd⟩,rfl⟩⟩
 ·cases r[p]<;>decide
 ·cases r[p]<;>decide
noncomputable def gap4:List (List Nat):=[[],[32],[10],[9,13]]
theorem gap4_ok (i:Nat):(gap4.getD i []).length≤2∧∀ c∈gap4.getD i [],ws c=true∧c < 0x110000:=by
 have:∀ g∈gap4,g.length≤2∧∀ c∈g,ws c=true∧c < 0x110000:=by decide +kernel
 rw [List.getD_eq_getElem?_getD]
 cases h:gap4[i]? with
 | none=>simp
 | some g=>exact this g (List.mem_of_getElem? h)
noncomputable abbrev fileF (r:List Bool) (cs:List Nat) (E:Addr) (p:Nat) (t m:List Nat):Fm:=[("place", .val (.int (p:Nat))),("means", .val (.str m)),("entries", .val (.loc E)),("text", .val (.str t)),("others", .val (.str othL)),("hidden", .val (.lst (natV hidL))),("shapes", .val (.lst shpV)),("ring", .val (.str (sgs r))),("cells", .val (.lst (natV cs)))]
noncomputable def FileJ (r:List Bool) (cs:List Nat) (E:Addr) (σ:Store) (n:Nat) (ρ₁:Fm) (σ₁:Store):Prop:=
 ∃ p o t es m g,FI r p o t es m g∧(o=true→p=r.length)∧Has ρ₁ (fileF r cs E p t m)∧σ₁=upd σ E (some (.list (entV es)))∧n=r.length - p
section
variable {K:Kx} {ρ:Fm} {σ:Store} {d:Nat} {Q:V→Store→Prop}
theorem contains1 (x:List Nat) (c:Nat):Txt.contains ⟨x.toArray⟩ ⟨#[c]⟩=x.contains c:=by
 rw [Bool.eq_iff_iff,List.contains_iff_mem]
 have h:=contains_run x c 1
 have e:(List.replicate 1 c).toArray=#[c]:=rfl
 rw [e] at h
 rw [h]
 constructor
 ·intro hJ0
  refine bc fun hbc=>?_
  obtain ⟨i,hi,hj⟩:=hJ0
  refine hbc ?_
  clear hbc
  have:=hj 0 (by decide)
  rw [Nat.add_zero] at this
  exact List.mem_of_getElem? this
 ·intro hm
  refine bc fun hbc=>?_
  obtain ⟨i,hi,e⟩:=List.getElem_of_mem hm
  refine hbc ?_
  clear hbc
  refine ⟨i,hi,fun j hj=>?_⟩
  obtain rfl:j=0:=by lia
  rw [Nat.add_zero,List.getElem?_eq_getElem hi,e]
theorem ite_joinE {b:Bool} {e1 e2:Expr} {Q:V→Store→Prop} (v:V) (h1:b=true→EvP K ρ σ e1 (fun v' σ'=>v'=v∧σ'=σ)) (h2:b=false→EvP K ρ σ e2 (fun v' σ'=>v'=v∧σ'=σ)) (q:Q v σ):
  if b=true then EvP K ρ σ e1 Q else EvP K ρ σ e2 Q:=by
 cases b with
 | true=>refine ifp rfl ?_;exact EvP.mono (h1 rfl).of fun v' σ' ⟨e1,e2⟩=>by subst e1 e2;exact q
 | false=>refine ifn (by decide) ?_;exact EvP.mono (h2 rfl).of fun v' σ' ⟨e1,e2⟩=>by subst e1 e2;exact q
set_option tactic.hygienic true in
theorem cs__law_file (hd:30≤d) {r:List Bool} (hr:r≠[]) (hl:r.length≤12) {cs:List Nat} (hcs:cs.length=7) (hc:∀ k,k < 7→cs.getD k 0 < 2 ^ 64) (q:∀ t es m o g,FI r r.length o t es m g→Q (.tup [.str t,.lst (entV es),.str m]) σ):
  CallV d (.raw (.ref A__law_file)) [.str (sgs r),.lst (natV cs)] σ Q:=by
 refine CallV.le (d:=30) (CallV.of ?_) hd
 refine cv_fnC' (d:=29) B.ok2 B.f__law_file bd__law_file ck__law_file rfl rfl rfl ?_
 walk_at "start"
 walk_at "go"
 refine ⟨by decide,?_⟩
 walk_at "go"
 refine bi_list_rng (n:=16) (by decide) (by decide) (by decide) ?_
 walk_at "go"
 refine bin_catE (zs:=natV hidL) (.fr _) (.fr _) (by decide) (by rfl) ?_
 walk_at "go"
 rw [oth_eq]
 walk_at "go"
 refine ev_list0O fun E hE=>?_
 walk_at "go"
 generalize hK:Cont _ _ _=KK
 refine st_while (FileJ r cs E σ) r.length ⟨0,false,[],[],[],[],.nil r,fun e=>absurd e (by decide),(by show Has _ [("place", .val (.int 0)),_,_,_,_,_,_,_,_];walk_at "has"),rfl,rfl⟩ ?_
 intro n ρ₁ σ₁ hJ3
 refine bc fun hbc=>?_
 obtain ⟨p,o,t,es,m,g,hF,ho,hhas,rfl,rfl⟩:=hJ3
 refine hbc ?_
 clear hbc
 have hsl:(sgs r).length=r.length:=List.length_map ..
 refine TsP.sub ?_ hhas
 have hpl:=hF.le
 have hEs:(upd σ E (some (PObj.list (entV es)))) E=_:=upd_self ..
 walk_at "go"
 rotate_left;· walk_at "l"
 rw [hsl]
 refine ite_dec (fun h=>?_) (fun h=>?_)
 ·have h:p < r.length:=by walk_at "l"
  have ho:o=false:=by
   cases o
   ·rfl
   ·have:=ho rfl;lia
  subst ho
  refine ExP.has ?_ hhas
  have hE4:∀ k,k < 2→43200 ^ k≠0∧43200 ^ k < 2 ^ 64:=fun k hk=>by rcases (show k=0∨k=1 by lia) with rfl | rfl<;>decide
  refine bc fun hbc=>?_
  obtain ⟨e1,e2⟩:=hE4 (p / 5 % 2) (Nat.mod_lt _ (by decide))
  refine hbc ?_
  clear hbc
  walk_at "go"
  refine gn_lst (i:=2 + p % 5) (.fr _) (natV_get (by rw [hcs];lia)) (by rw [List.length_map];walk_at "l") ?_
  walk_at "go"
  rotate_left
  ·rw [show nbits 43200=16 by decide];lia
  ·exact e1
  ·exact log_small (by walk_at "l") e2
  have hdr:cs.getD (2 + p % 5) 0 / 43200 ^ (p / 5 % 2) < 2 ^ 64:=Nat.lt_of_le_of_lt (Nat.div_le_self _ _) (hc _ (by lia))
  generalize cs.getD (2 + p % 5) 0 / 43200 ^ (p / 5 % 2)=dr at *
  refine st_assign_comp2P [("place", .val (.int (p:Nat))),("ring", .val (.str (sgs r)))] (compOk (by kernel_rfl) (by walk_at "has") (by rfl)) (by decide +kernel) (fun x:List Bool×List Nat=>V.tup [.str (sgs x.1),.str x.2]) (fun x=>[("letters", .val (.str (sgs x.1))),("row", .val (.str x.2))]) (fun x=>x.2) (fun c:Nat=>.str [c]) (fun c=>[("sign", .val (.str [c]))]) (fun x _=>decide ((r.drop p).take x.1.length=x.1)) (fun x c=>.tup [.str (sgs x.1),.str [c]]) ?_
  walk_at "go"
  refine ⟨shpL,shpV_eq ▸ Items.lst _,by decide,fun x hx=>⟨tgt2 (by kernel_rfl) (by kernel_rfl) (by decide),by kernel_rfl,fun D acc hD=>?_,fun c hcx=>⟨tgt_name (by kernel_rfl),by kernel_rfl,fun D acc hD=>?_⟩⟩,?_⟩
  ·simp only [List.cons_append,List.nil_append]
   walk_at "go"
   exact ⟨rfl,Items.str _⟩
  ·simp only [List.cons_append,List.nil_append]
   have hx2:(sgs x.1).length≤2:=by
    have:shpL.all (fun x=>decide ((sgs x.1).length≤2))=true:=by decide
    simpa using List.all_eq_true.mp this x hx
   walk_at "go"
   rotate_left
   ·walk_at "l"
   refine ⟨_,_,_,.int _,.int _,.none,sub_str,gs_mid (by rw [hsl];walk_at "l") ?_⟩
   rw [show ((sgs r).drop p).take (p + (sgs x.1).length - p)=sgs ((r.drop p).take x.1.length) by rw [Nat.add_sub_cancel_left,List.length_map];simp [sgs,List.map_drop,List.map_take]]
   walk_at "go"
   rw [sgs_eq]
   by_cases hq:(r.drop p).take x.1.length=x.1
   ·rw [decide_eq_true hq]
    refine ite_true' ⟨rfl,rfl,fun _=>?_⟩
    walk_at "go"
    exact ⟨rfl,rfl⟩
   ·rw [decide_eq_false hq]
    exact ite_false' ⟨rfl,rfl,fun e=>absurd e (by decide)⟩
  show ∃ ρ',Upd _ _ (.val (.lst _)) ρ'∧_
  rw [show (shpL.flatMap fun x=>(x.2.filter fun _=>decide ((r.drop p).take x.1.length=x.1)).map fun c=>V.tup [.str (sgs x.1),.str [c]])=(fitP r p).map fitV by unfold fitP;rw [List.map_flatMap];simp only [List.map_map];rfl]
  have hfl:=fitP_len r p
  have hfp:=fitP_pos h
  have hml:((fitP r p).map fitV).length=(fitP r p).length:=List.length_map _
  walk_at "go"
  rotate_left
  ·rw [hml];walk_at "l"
  ·rw [hml];walk_at "l"
  ·rw [hml];exact log_small (by walk_at "l") (by walk_at "l")
  rw [hml]
  have hix:=Nat.mod_lt (dr % 20) hfp
  generalize dr % 20 % (fitP r p).length=ix at *
  refine gn_lst (.fr _) (x:=.tup [.str (sgs (fitP r p)[ix].1),.str [(fitP r p)[ix].2]]) (by rw [List.getElem?_map,List.getElem?_eq_getElem hix];rfl) (by rw [hml];walk_at "l") ?_
  refine bc fun hbc=>?_
  obtain ⟨f1,f2,row,f3,f4⟩:=fitP_mem (List.getElem_mem hix)
  refine hbc ?_
  clear hbc
  generalize (fitP r p)[ix].1=ls at *
  generalize (fitP r p)[ix].2=sn at *
  have hj:=Nat.mod_lt (dr / 100) (show 27 > 0 by decide)
  have hH:hidL.getD (dr / 100 % 27) 0∈hidL:=by rw [List.getD_eq_getElem?_getD,List.getElem?_eq_getElem (show dr / 100 % 27 < hidL.length from hj)];exact List.getElem_mem _
  have hO:othL[dr / 100 % 27]?=some (othL.getD (dr / 100 % 27) 0):=by rw [List.getD_eq_getElem?_getD,List.getElem?_eq_getElem (show dr / 100 % 27 < othL.length from hj)];rfl
  have hO2:=List.mem_of_getElem? hO
  have hHx:hidL.getD (dr / 100 % 27) 0 < 0x110000:=by
   have:=List.all_eq_true.mp hid_all _ hH
   simp only [Bool.and_eq_true,decide_eq_true_eq] at this;exact this.2
  have hk5:=Nat.mod_lt (dr / 20) (show 5 > 0 by decide)
  have hWd:=wd_of f3 f4 hH hO2 hk5
  have hw3:=hWd.len
  have htl:=hF.tlen
  have hml2:=hF.mlen
  have hel:=hF.elen
  walk_at "go"
  refine st_assign_swap (names:=["kind", "nothing", "odd"]) ?_ (by intro env h1 h2;obtain ⟨⟨_,_,_,_⟩,_,_,_,_,_,_,_,_⟩:=env;dsimp only at h1 h2;subst h1 h2;kernel_rfl) (by intro _;rfl)
  walk_at "go"
  refine gn_lst (.fr _) (natV_get hj) (by decide) ?_
  walk_at "go"
  refine gn_str hO (by decide) ?_
  walk_at "go"
  rotate_left
  ·lia
  clear hO
  generalize hidL.getD (dr / 100 % 27) 0=hi at *
  generalize othL.getD (dr / 100 % 27) 0=od at *
  generalize dr / 20 % 5=ki at *
  refine ⟨_,rfl,rfl,?_⟩
  show SwapP _ _ _ [_,_,_] [_,_,_]
  walk_at "swp"
  walk_at "go"
  generalize hK1:Cont _ _ _=K1
  have tail1:∀ (pre:Bool) t1 es1 ρ',(t1=t++if pre then [34,34] else [])→(es1=es++if pre then [([],t.length + 2)] else [])→Has ρ' (("kind", .val (.int (ki:Nat))) :: ("nothing", .val (.str [hi])) :: ("odd", .val (.str [od])) :: ("sign", .val (.str [sn])) :: ("letters", .val (.str (sgs ls))) :: ("draw", .val (.int (dr:Nat))) :: fileF r cs E p t1 m)→
    K1 .next ρ' (upd σ E (some (PObj.list (entV es1)))):=by
   intro pre t1 es1 ρ' ht1 hes1 hhas1
   subst hK1
   have hp1:(if pre then [34,34] else []:List Nat).length≤2:=by cases pre<;>simp
   have hp2:(if pre then [([],t.length + 2)] else []:List (List Nat×Nat)).length≤1:=by cases pre<;>simp
   dsimp only [fileF] at hhas1
   have htl1:t1.length≤t.length + 2:=by rw [ht1,List.length_append];lia
   have hel1:es1.length≤es.length + 1:=by rw [hes1,List.length_append];lia
   refine cont_next (ExP.has ?_ hhas1)
   walk_at "go"
   rotate_left
   ·simp
   ·simp
   ·simp
   ·simp
   refine gn_lst (vs:=strV (wdOf sn hi od)) (.fr _) (strV_get hk5) (show 5 < 2 ^ 25 by decide) ?_
   generalize (wdOf sn hi od).getD ki []=w at *
   walk_at "go"
   obtain ⟨mp,hmp⟩:∃ mp,mp=if ki=3 then [od]++sgs ls++[od] else sgs ls:=⟨_,rfl⟩
   have hll:(sgs ls).length=ls.length:=List.length_map ..
   have hl2:ls.length≤12:=by
    have:=congrArg List.length f1
    rw [List.length_take,List.length_drop] at this;lia
   refine ite_joinE (.str mp) (fun h=>?_) (fun h=>?_) ?_
   ·rw [hmp,if_pos (by simpa using h)]
    walk_at "go"
    ·exact ⟨rfl,rfl⟩
    ·simp;walk_at "l"
    ·simp;walk_at "l"
   ·rw [hmp,if_neg (by simpa using h)]
    walk_at "go"
    exact ⟨rfl,rfl⟩
   rw [← hmp] at hWd
   have hmpl:=hWd.mlen
   walk_at "go"
   rotate_left
   ·walk_at "l"
   refine st_aug (stores_cell (by kernel_rfl) (by walk_at "mem") (by intro c e;cases e)) (by walk_at "mem") ?_
   walk_at "go"
   rotate_left
   ·walk_at "l"
   rw [hll]
   have hp':p + ls.length≤r.length:=by
    have:=congrArg List.length f1
    rw [List.length_take,List.length_drop] at this;lia
   refine st_assign_swap (names:=["quoted", "gap"]) ?_ (by intro env h1 h2;obtain ⟨⟨_,_,_,_⟩,_,_,_,_,_,_,_,_⟩:=env;dsimp only at h1 h2;subst h1 h2;kernel_rfl) (by intro _;rfl)
   walk_at "go"
   refine gn_lst (.fr _) (x:=.str (gap4.getD (dr / 10800 % 4) [])) ((congrArg (fun l:List V=>l[dr / 10800 % 4]?) (?_:_=strV gap4)).trans (strV_get (Nat.mod_lt _ (by decide)))) (by decide) ?_
   ·kernel_rfl
   refine bc fun hbc=>?_
   obtain ⟨g1,g2⟩:=gap4_ok (dr / 10800 % 4)
   refine hbc ?_
   clear hbc
   generalize gap4.getD (dr / 10800 % 4) []=gp at *
   generalize (dr / 2700 % 2 == 1)=qu at *
   walk_at "go"
   refine ⟨_,rfl,rfl,?_⟩
   show SwapP _ _ _ [_,_] [_,_]
   walk_at "swp"
   walk_at "go"
   obtain ⟨cl0,hcl0⟩:∃ cl0,cl0=if qu then 34 :: gp else if gp=[] then [32] else gp:=⟨_,rfl⟩
   refine ite_joinE (.str cl0) (fun h=>?_) (fun h=>?_) ?_
   ·subst h
    rw [hcl0,if_pos rfl]
    walk_at "go"
    ·exact ⟨rfl,rfl⟩
    ·simp;walk_at "l"
   ·subst h
    rw [hcl0,if_neg (by decide)]
    walk_at "go"
    cases gp with
    | nil=>
     rw [if_pos rfl]
     walk_at "go"
     refine ifn (by decide) ?_
     walk_at "go"
     exact ⟨rfl,rfl⟩
    | cons c gp=>
     rw [if_neg (List.cons_ne_nil c gp)]
     walk_at "go"
     rw [if_pos (show (c :: gp != [])=true from rfl)]
     walk_at "go"
     exact ⟨rfl,rfl⟩
   iterate 4 walk_at "s"
   obtain ⟨op,hop⟩:∃ op:Bool,op=!(decide (p + ls.length < r.length) || (cs.getD 1 0 / 768 % 2 == 0)):=⟨_,rfl⟩
   obtain ⟨cl,hcl⟩:∃ cl,cl=if op then (if qu then [] else [92]) else cl0:=⟨_,rfl⟩
   refine ev_ifexpJ (!op) (.str cl) ?_ (fun h=>?_) (fun h=>?_) ?_
   ·walk_at "go"
    rotate_left
    ·rw [hsl];walk_at "l"
    rw [hsl]
    refine ite_dec (fun h=>?_) (fun h=>?_)
    ·exact ⟨by rw [hop,decide_eq_true h];rfl,rfl⟩
    ·walk_at "go"
     refine gn_lst (i:=1) (.fr _) (natV_get (by rw [hcs];decide)) (by rw [List.length_map];walk_at "l") ?_
     walk_at "go"
     refine ite_beq (fun h2=>?_) (fun h2=>?_)
     ·exact ⟨by rw [hop,decide_eq_false h,h2];rfl,rfl⟩
     ·walk_at "go"
      exact ⟨by rw [hop,decide_eq_false h,show (cs.getD 1 0 / 768 % 2 == 0)=false by simpa using h2];rfl,rfl⟩
   ·rw [Bool.not_eq_true'] at h
    subst h
    rw [hcl,if_neg (by decide)]
    walk_at "go"
    exact ⟨rfl,rfl⟩
   ·rw [Bool.not_eq_false'] at h
    subst h
    rw [hcl,if_pos rfl]
    walk_at "go"
    refine ite_joinE (.str (if qu then [] else [92])) (fun h=>?_) (fun h=>?_) ⟨rfl,rfl⟩
    ·rw [h]
     walk_at "go"
     exact ⟨rfl,rfl⟩
    ·rw [h]
     walk_at "go"
     exact ⟨rfl,rfl⟩
   walk_at "go"
   obtain ⟨qs,hqs⟩:∃ qs:List Nat,qs=if qu then [34] else []:=⟨_,rfl⟩
   have hqs1:qs.length≤1:=by rw [hqs];split<;>simp
   refine ite_joinE (.str qs) (fun h=>?_) (fun h=>?_) ?_
   ·rw [hqs,h]
    walk_at "go"
    exact ⟨rfl,rfl⟩
   ·rw [hqs,h]
    walk_at "go"
    exact ⟨rfl,rfl⟩
   walk_at "go"
   rotate_left
   ·walk_at "l"
   have hS:Shut qu op cl:=by
    refine ⟨fun h=>⟨fun h2=>⟨gp,?_,fun c hc=>(g2 c hc).1⟩,fun h2=>?_⟩,fun h=>?_⟩
    ·rw [hcl,h,hcl0,h2];rfl
    ·rw [hcl,h,hcl0,h2]
     simp only [Bool.false_eq_true,if_false]
     split
     ·exact ⟨by simp,fun c hc=>by obtain rfl:=List.mem_singleton.mp hc;decide +kernel⟩
     ·rename_i hne;exact ⟨hne,fun c hc=>(g2 c hc).1⟩
    ·rw [hcl,h];rfl
   have hcl3:cl.length≤3∧∀ c∈cl,c < 0x110000:=by
    rw [hcl]
    split
    ·split
     ·simp
     ·exact ⟨by simp,fun c hc=>by obtain rfl:=List.mem_singleton.mp hc;decide⟩
    ·rw [hcl0]
     split
     ·refine ⟨by simp;walk_at "l", fun c hc=>?_⟩
      rcases List.mem_cons.mp hc with rfl | hc
      ·decide
      ·exact (g2 c hc).2
     ·split
      ·exact ⟨by simp,fun c hc=>by obtain rfl:=List.mem_singleton.mp hc;decide⟩
      ·exact ⟨by walk_at "l", fun c hc=>(g2 c hc).2⟩
   obtain ⟨es2,he2⟩:∃ e:Bool,e=(dr / 5400 % 2 == 1):=⟨_,rfl⟩
   refine st_forL ?_
   walk_at "go"
   rotate_left
   ·walk_at "l"
   have fr:∀ tx,Has [("text", .val (.str tx)),("closing", .val (.str cl)),("quoted", .val (.bool qu)),("gap", .val (.str gp)),("place", .val (.int (p + ls.length:Nat))),("means", .val (.str (m++mp))),("word", .val (.str w)),("kind", .val (.int (ki:Nat))),("nothing", .val (.str [hi])),("odd", .val (.str [od])),("sign", .val (.str [sn])),("letters", .val (.str (sgs ls))),("draw", .val (.int (dr:Nat))),("entries", .val (.loc E)),("others", .val (.str othL)),("hidden", .val (.lst (natV hidL))),("shapes", .val (.lst shpV)),("ring", .val (.str (sgs r))),("cells", .val (.lst (natV cs)))]
    [("text", .val (.str tx)),("closing", .val (.str cl)),("quoted", .val (.bool qu)),("place", .val (.int (p + ls.length:Nat))),("means", .val (.str (m++mp))),("word", .val (.str w)),("draw", .val (.int (dr:Nat))),("entries", .val (.loc E)),("others", .val (.str othL)),("hidden", .val (.lst (natV hidL))),("shapes", .val (.lst shpV)),("ring", .val (.str (sgs r))),("cells", .val (.lst (natV cs)))]:=fun tx=>by walk_at "has"
   refine ⟨_,items_rng0 w.length (by walk_at "l"),fun k ρ' σ'=>σ'=upd σ E (some (PObj.list (entV es1)))∧Has ρ' [("text", .val (.str (t1++qs++splK qu es2 w k))),("closing", .val (.str cl)),("quoted", .val (.bool qu)),("place", .val (.int (p + ls.length:Nat))),("means", .val (.str (m++mp))),("word", .val (.str w)),("draw", .val (.int (dr:Nat))),("entries", .val (.loc E)),("others", .val (.str othL)),("hidden", .val (.lst (natV hidL))),("shapes", .val (.lst shpV)),("ring", .val (.str (sgs r))),("cells", .val (.lst (natV cs)))],⟨rfl,by rw [splK,List.append_nil];exact fr _⟩,?_,?_⟩
   ·intro k x ρ₂ σ₂ hx hJ5
    refine bc fun hbc=>?_
    obtain ⟨rfl,hhas2⟩:=hJ5
    refine hbc ?_
    clear hbc
    have hk:k < w.length:=by
     rcases Nat.lt_or_ge k w.length with h | h
     ·exact h
     ·exact absurd ((List.getElem?_eq_none (by simpa using h)).symm.trans hx) (Option.some_ne_none _).symm
    have hx':x=.int ((k:Nat):Int):=by
     rw [List.getElem?_map,List.getElem?_range hk] at hx;exact (Option.some.inj hx).symm
    subst hx'
    refine AsP.sub ?_ hhas2
    walk_at "go"
    refine ite_joinE (.str (mustL qu (k == 0))) (fun h=>?_) (fun h=>?_) ?_
    ·subst h
     walk_at "go"
     exact ⟨by rw [show (Str.ofString "\"\\").cps.toList=[34,92] by decide +kernel];rfl,rfl⟩
    ·subst h
     walk_at "go"
     refine ite_dec (fun h=>?_) (fun h=>?_)
     ·rw [show (k == 0)=false by simp;walk_at "l"]
      walk_at "go"
      exact ⟨by rw [show (Str.ofString "\\\n\t\r ").cps.toList=[92,10,9,13,32] by decide +kernel];rfl,rfl⟩
     ·rw [show (k == 0)=true by simp;lia]
      walk_at "go"
      exact ⟨by rw [show (Str.ofString "\\\n\t\r \"").cps.toList=[92,10,9,13,32,34] by decide +kernel];rfl,rfl⟩
    iterate 4 walk_at "s"
    have hwk:w[k]?=some (w.getD k 0):=by rw [List.getD_eq_getElem?_getD,List.getElem?_eq_getElem hk];rfl
    have hsl2:=spl_len qu es2 (k == 0) (w.getD k 0)
    have hkl:=splK_len qu es2 w k
    refine ev_ifexpJ (es2 || (mustL qu (k == 0)).contains (w.getD k 0)) (.str (spl qu es2 (k == 0) (w.getD k 0))) ?_ (fun h=>?_) (fun h=>?_) ?_
    ·walk_at "go"
     rw [← he2]
     cases es2
     ·refine ifn (by decide) ?_
      walk_at "go"
      refine gn_str hwk (by walk_at "l") ?_
      walk_at "go"
      refine cmp_inS ?_
      walk_at "go"
      rw [contains1]
      refine ite_gen (fun h=>?_) (fun h=>?_)
      ·exact ⟨by rw [h];rfl,rfl⟩
      ·walk_at "go"
       exact ⟨by rw [h];rfl,rfl⟩
     ·exact ite_true' ⟨rfl,rfl⟩
    ·unfold spl
     rw [if_pos h]
     walk_at "go"
     refine gn_str hwk (by walk_at "l") ?_
     walk_at "go"
     ·exact ⟨rfl,rfl⟩
     ·simp
    ·unfold spl
     rw [if_neg (by rw [h];decide)]
     walk_at "go"
     refine gn_str hwk (by walk_at "l") ?_
     exact ⟨rfl,rfl⟩
    walk_at "go"
    rotate_left
    ·simp only [List.length_append];lia
    exact ⟨rfl,by rw [splK,← List.append_assoc];walk_at "has"⟩
   ·intro ρ₂ σ₂ hJ2
    refine bc fun hbc=>?_
    obtain ⟨rfl,hhas2⟩:=hJ2
    refine hbc ?_
    clear hbc
    rw [List.length_map,List.length_range] at *
    have hkl:=splK_len qu es2 w w.length
    have hEs1:(upd σ E (some (PObj.list (entV es1)))) E=_:=upd_self ..
    have htxl:(t1++qs++splK qu es2 w w.length).length≤1000:=by simp only [List.length_append];lia
    refine cont_next (ExP.has ?_ hhas2)
    walk_at "go"
    rotate_left
    ·walk_at "l"
    refine ⟨_,_,_,.none,.int _,.none,sub_str,gs_take (m:=1) (by lia) ?_⟩
    walk_at "go"
    rotate_left
    ·simp;walk_at "l"
    ·rw [List.length_map];lia
    ·walk_at "l"
    rw [upd_upd]
    have step:=FI.step (q:=qu) (e:=es2) (pre:=pre) hF f2 f1 hWd hS hcl3.1 hcl3.2 (n:=(t1++qs++splK qu es2 w w.length).length + (cl.take 1).length) (by rw [ht1,hqs])
    rw [← ht1,← hqs,← hes1] at step
    have e:∀ n:Nat,entV es1++[V.tup [V.str w,V.int (n:Int)]]=entV (es1++[(w,n)]):=fun n=>by simp [entV]
    rw [e]
    refine turn_next (m:=r.length - (p + ls.length)) (Nat.sub_lt_sub_left (by lia) (Nat.lt_add_of_pos_right (List.length_pos_iff.mpr f2))) ⟨_,op,_,_,_,_,step,fun e=>?_,by walk_at "has", rfl,rfl⟩
    rw [hop,Bool.not_eq_true',Bool.or_eq_false_iff,decide_eq_false_iff_not] at e
    have:=e.1
    lia
  refine ite_beq (fun h4=>?_) (fun h4=>?_)
  ·have dq:(Str.ofString "\"\"").cps.toList=[34,34]:=by decide +kernel
   walk_at "go"
   rotate_left
   ·rw [dq];simp;lia
   ·rw [dq];simp;lia
   ·rw [List.length_map];lia
   rw [dq,upd_upd]
   have e3:(t++[34,34]:List Nat).length=t.length + 2:=by simp
   have e:∀ n:Nat,entV es++[V.tup [V.str [],V.int (n:Int)]]=entV (es++[([],n)]):=fun n=>by simp [entV]
   rw [e,e3]
   exact tail1 true (t++[34,34]) (es++[([],t.length + 2)]) _ rfl rfl (by walk_at "has")
  ·walk_at "go"
   exact tail1 false t es _ (by simp) (by simp) (by walk_at "has")
 ·subst hK
  refine cont_next (ExP.has ?_ hhas)
  refine ex_freeze (x := "entries") (r':=?_) (upd_self ..) ?_ ?_ ?_;rotate_left
  ·walk_at "mem"
  ·walk_at "rest"
  walk_at "go"
  have e:upd (upd σ E (some (PObj.list (entV es)))) E none=σ:=by
   rw [upd_upd];funext a;unfold upd;split
   ·rename_i e;rw [e,hE]
   ·rfl
  rw [e]
  have hp:p=r.length:=by lia
  rw [hp] at hF
  exact q t es m o g hF
end
theorem some_true (bs:List Bool):decide (Spec.countIn (PyData.bool true) (bs.map PyData.bool)≠0)=bs.any id:=by
 have h:0≤Spec.countIn (PyData.bool true) (bs.map PyData.bool)∧(Spec.countIn (PyData.bool true) (bs.map PyData.bool)=0↔bs.any id=false):=by
  induction bs with
  | nil=>exact ⟨by decide,by decide⟩
  | cons b bs ih=>
   rw [List.map_cons,Spec.countIn,List.any_cons]
   obtain ⟨h1,h2⟩:=ih
   cases b
   ·rw [show Spec.same (PyData.bool false) (PyData.bool true)=false by rfl,if_neg (by decide),Int.zero_add]
    refine ⟨h1,?_⟩
    rw [h2];simp
   ·rw [show Spec.same (PyData.bool true) (PyData.bool true)=true by rfl,if_pos rfl]
    refine ⟨by lia,⟨fun h=>by lia,fun h=>by simp at h⟩⟩
 cases hb:bs.any id
 ·exact decide_eq_false (fun e=>e (h.2.2 hb))
 ·refine decide_eq_true fun e=>?_
  have:=h.2.1 e
  rw [hb] at this;cases this
theorem str_eqA (x a:List Nat):((⟨x.toArray⟩:PySem.Str) == ⟨a.toArray⟩)=decide (x=a):=by
 rw [Bool.eq_iff_iff,beq_iff_eq,decide_eq_true_eq]
 exact ⟨fun h=>by injection h with h;injection h,fun h=>by rw [h]⟩
theorem in_two (x a b:List Nat):decide (Spec.countIn (PyData.str ⟨x.toArray⟩) [PyData.str ⟨a.toArray⟩,PyData.str ⟨b.toArray⟩]≠0)=(decide (a=x) || decide (b=x)):=by
 simp only [Spec.countIn,Spec.same,str_eqA]
 by_cases h1:a=x<;>by_cases h2:b=x<;>simp [h1,h2]
theorem in_twoS (r a b:List Bool):decide (Spec.countIn (PyData.str ⟨(sgs r).toArray⟩) [PyData.str ⟨(sgs a).toArray⟩,PyData.str ⟨(sgs b).toArray⟩]≠0)=(decide (r=a) || decide (r=b)):=by
 have e:∀ a:List Bool,decide (sgs a=sgs r)=decide (r=a):=fun a=>by
  rw [← sgs_eq r a,Bool.eq_iff_iff,decide_eq_true_eq,beq_iff_eq];exact eq_comm
 rw [in_two,e,e]
noncomputable def R3 (r:List Bool):List Nat:=(List.replicate 3 (sgs r)).flatten
theorem R3_len (r:List Bool):(R3 r).length=3 * r.length:=by simp [R3];walk_at "l"
set_option tactic.hygienic true in
theorem R3_get (r:List Bool) {i:Nat} (h:i < 3 * r.length):(R3 r)[i]?=some (sg (cyc r i)):=by
 have g:∀ j,j < r.length→(sgs r)[j]?=some (sg (r.getD j false)):=fun j hj=>by
  rw [List.getElem?_map,List.getD_eq_getElem?_getD,List.getElem?_eq_getElem hj];rfl
 have hl:(sgs r).length=r.length:=List.length_map ..
 have e:R3 r=sgs r++(sgs r++(sgs r++[])):=rfl
 unfold cyc
 rw [e,List.getElem?_append,hl]
 split
 ·rw [g _ ‹_›,Nat.mod_eq_of_lt ‹_›]
 ·rename_i h1
  rw [List.getElem?_append,hl,Nat.mod_eq_sub_mod (by lia)]
  split
  ·rw [g _ ‹_›,Nat.mod_eq_of_lt ‹_›]
  ·rename_i h2
   rw [List.append_nil,Nat.mod_eq_sub_mod (by lia),Nat.mod_eq_of_lt (by lia),g _ (by lia)]
noncomputable def winB (r:List Bool) (q k:Nat):Bool:=((R3 r).drop k).take (k + q + 1 - k) == ((R3 r).drop (k + q)).take (k + 2 * q + 1 - (k + q))
theorem win_all {r:List Bool} {q k:Nat} (hk:k < r.length) (hq:q < r.length):winB r q k=(List.range (q + 1)).all fun j=>cyc r (k + j) == cyc r (k + j + q):=by
 have inj:∀ a b:Bool,sg a=sg b→a=b:=by decide
 have e1:k + q + 1 - k=q + 1:=by rw [Nat.add_assoc,Nat.add_sub_cancel_left]
 have e2:k + 2 * q + 1 - (k + q)=q + 1:=by rw [Nat.two_mul,← Nat.add_assoc,Nat.add_assoc,Nat.add_sub_cancel_left]
 have g1:∀ j,j < q + 1→(((R3 r).drop k).take (q + 1))[j]?=some (sg (cyc r (k + j))):=fun j hj=>by
  rw [List.getElem?_take,if_pos hj,List.getElem?_drop,R3_get r (by lia)]
 have g2:∀ j,j < q + 1→(((R3 r).drop (k + q)).take (q + 1))[j]?=some (sg (cyc r (k + j + q))):=fun j hj=>by
  rw [List.getElem?_take,if_pos hj,List.getElem?_drop,R3_get r (by lia),show k + q + j=k + j + q by walk_at "l"]
 unfold winB
 rw [e1,e2,Bool.eq_iff_iff,beq_iff_eq,List.all_eq_true]
 constructor
 ·intro h j hj
  have hj:=List.mem_range.mp hj
  have:=(g1 j hj).symm.trans ((congrArg (·[j]?) h).trans (g2 j hj))
  rw [beq_iff_eq]
  exact inj _ _ (Option.some.inj this)
 ·intro h
  apply List.ext_getElem?
  intro j
  by_cases hj:j < q + 1
  ·rw [g1 j hj,g2 j hj]
   have:=h j (List.mem_range.mpr hj)
   rw [beq_iff_eq.mp this]
  ·rw [List.getElem?_take,if_neg hj,List.getElem?_take,if_neg hj]
theorem lapB_win {r:List Bool} {q:Nat} (hq:q < r.length):((List.range r.length).map fun k=>winB r q k).any id=lapB r q:=by
 unfold lapB
 rw [List.any_map,Bool.eq_iff_iff,List.any_eq_true,List.any_eq_true]
 constructor
 ·rintro ⟨k,hk,h⟩
  exact ⟨k,hk,by rw [← win_all (List.mem_range.mp hk) hq];exact h⟩
 ·rintro ⟨k,hk,h⟩
  exact ⟨k,hk,by rw [← win_all (List.mem_range.mp hk) hq] at h;exact h⟩
theorem laps_form (r:List Bool):(((List.range (r.length - 1)).filter fun i=>lapB r (1 + i)).map fun i=>V.int ((1 + i:Nat):Int))=natV (lapsL r):=by
 unfold lapsL
 rw [List.filter_map,natV,List.map_map]
 congr 1
 ·funext i;simp [Nat.add_comm]
 ·refine List.filter_congr fun i _=>?_
  simp [Nat.add_comm]
open PySem.Spec PySem.SeqAt in
theorem shaped_str {x:List Nat} (h:OkS x):shaped (.str ⟨x.toArray⟩)=true:=by
 have:PySem.PyData.strOk ⟨x.toArray⟩=true:=h
 simp [shaped,PySem.PyData.canLay0,PySem.PyData.depth,this]
theorem okS_of {x:List Nat} (h:∀ c∈x,c < 0x110000):OkS x:=by
 unfold OkS PySem.PyData.strOk
 simpa using h
open PySem.Spec PySem.SeqAt in
theorem shaped_ss {x y:List Nat} (h:OkS x) (k:OkS y):shaped (.tuple [.str ⟨x.toArray⟩,.str ⟨y.toArray⟩])=true:=by
 have h:PySem.PyData.strOk ⟨x.toArray⟩=true:=h
 have k:PySem.PyData.strOk ⟨y.toArray⟩=true:=k
 simp [shaped,PySem.PyData.canLay0,PySem.PyData.canLayAll0,PySem.PyData.depth,PySem.PyData.depthAll,h,k]
theorem okS_sgs (r:List Bool):OkS (sgs r):=okS_of fun c hc=>by
 obtain ⟨b,_,rfl⟩:=List.mem_map.mp hc
 cases b<;>decide
open PySem.Spec PySem.SeqAt in
theorem shaped_ll (x y:List Nat):shaped (.tuple [.list (dN x),.list (dN y)])=true:=by
 obtain ⟨h1,h2⟩:=dN_lay x
 obtain ⟨h3,h4⟩:=dN_lay y
 simp [shaped,PySem.PyData.canLay0,PySem.PyData.canLayAll0,PySem.PyData.depth,PySem.PyData.depthAll,h1,h2,h3,h4]
noncomputable def aB (x:List Bool):Bool:=((List.range ((x.length + 1) / 2)).map fun i=>(decide ((x.drop (2 * i)).take 2=[false,false]) || decide ((x.drop (2 * i)).take 2=[true,true]))).any id
theorem aB_good (n:Nat) (x:List Bool) (h:x.length=2 * n):aB x=!good x:=by
 refine two_step (P:=fun x=>∀ n,x.length=2 * n→aB x=!good x) (fun _ _=>rfl) (fun a b r ih n hn=>?_) n x h n h
 have hn':r.length=2 * (n - 1):=by simp at hn;lia
 have ih:=ih (n - 1) hn'
 unfold aB good at ih ⊢
 rw [show ((a :: b :: r).length + 1) / 2=(r.length + 1) / 2 + 1 from Nat.add_div_right (r.length + 1) (show 0 < 2 by decide),List.range_succ_eq_map,List.map_cons,List.map_map,List.any_cons,twos,List.all_cons,Bool.not_and,← ih]
 congr 1
 ·cases a<;>cases b<;>rfl
theorem items_rng2 {n:Nat} (h:n≤12):Items (.rng 0 (n:Int) 2) ((List.range ((n + 1) / 2)).map fun i=>V.int ((2 * i:Nat):Int)):=by
 have key:∀ n:Nat,Builtin.Range.small 0 (n:Int) 2=true→rngL 0 (Builtin.Range.rangeSize 0 (n:Int) 2).toNat 2=((List.range ((n + 1) / 2)).map fun i=>V.int ((2 * i:Nat):Int))→Items (.rng 0 (n:Int) 2) ((List.range ((n + 1) / 2)).map fun i=>V.int ((2 * i:Nat):Int)):=fun n h e=>e ▸ Items.rng 0 (n:Int) 2 h
 have two:∀ k a:Nat,rngL (a:Int) k 2=(List.range k).map fun i=>V.int ((a + 2 * i:Nat):Int):=by
  intro k
  induction k with
  | zero=>intro a;rfl
  | succ k ih=>
   intro a
   rw [List.range_succ_eq_map,List.map_cons,List.map_map]
   exact congrArg (List.cons _) ((ih (a + 2)).trans (List.map_congr_left fun i _=>by show V.int ((a + 2 + 2 * i:Nat):Int)=V.int ((a + 2 * (i + 1):Nat):Int);rw [Nat.mul_succ,Nat.add_right_comm,Nat.add_assoc]))
 have all:∀ n:Nat,n < 13→Builtin.Range.small 0 (n:Int) 2=true∧(Builtin.Range.rangeSize 0 (n:Int) 2).toNat=(n + 1) / 2:=by decide +kernel
 refine key n (all n (Nat.lt_succ_of_le h)).1 ?_
 rw [(all n (Nat.lt_succ_of_le h)).2]
 exact (two _ 0).trans (List.map_congr_left fun i _=>by rw [Nat.zero_add])
noncomputable def lawB (k:Nat):List Stmt:=match F_law.body with | .stmts b=>b.drop k | _=>[]
noncomputable abbrev lawK:Kx:=KxOf F_law cd_law 119
section
variable {K:Kx} {ρ:Fm} {σ:Store} {d:Nat} {Q:V→Store→Prop}
theorem law_c {r last:List Bool} {n s w way:Nat} (hD:Down r last n s) (hr:r≠[]) (hl:r.length≤12) (hw:2≤w) (hw2:w≤640) (hway:way < 4) (q:Q (.bool true) σ):
  ExP lawK [("last", .val (.str (sgs last))),("rounds", .val (.int (n:Nat))),("ring", .val (.str (sgs r))),("way", .val (.int way)),("width", .val (.int w))] σ (lawB 15) (RetQ Q):=by
 have hlen:2 ^ n * last.length=r.length:=by rw [← muN_length,hD.eq,rot_length]
 have hl1:=List.length_pos_iff.mpr hD.ne
 have hl2:=hD.le
 have hsl:(sgs last).length=last.length:=List.length_map ..
 have hsr:(sgs r).length=r.length:=List.length_map ..
 have hR:((List.replicate 3 (sgs r)).flatten).length=3 * r.length:=R3_len r
 have hD':=hD
 have hn12:n < 12:=by
  have h2:2 ^ n * 1≤2 ^ n * last.length:=Nat.mul_le_mul_left _ (by walk_at "l")
  have h3:n < 2 ^ n:=Nat.lt_two_pow_self
  lia
 have hlaps:=laps_grown hD.ne hD.eq.symm
 conv=>arg 4;whnf
 walk_at "go"
 refine EvP.mono (Q:=fun v σ'=>v=V.bool (fewB last)∧σ'=σ) ?_ ?_
 ·refine ev_or ?_
  walk_at "go"
  rotate_left;· walk_at "l"
  rw [hsl]
  refine ⟨rfl,ite_beq (fun h=>?_) (fun h=>?_)⟩
  ·refine ⟨congrArg V.bool ?_,rfl⟩
   unfold fewB;simp [h]
  ·refine ev_and_one (ev_and ?_)
   walk_at "go"
   rotate_left;· walk_at "l"
   rw [hsl]
   refine ⟨rfl,ite_beq (fun h3=>?_) (fun h3=>?_)⟩
   ·refine ev_and_one ?_
    walk_at "go"
    rw [show (Str.ofString "hhh").cps.toList=sgs [false,false,false] by decide +kernel,show (Str.ofString "ppp").cps.toList=sgs [true,true,true] by decide +kernel]
    refine cmp_notInT (.str _) (.tup (.cons (.str _) (.cons (.str _) .nil))) (shaped_str (okS_sgs _)) (by kernel_rfl) (fun y hy=>by
     rcases List.mem_cons.mp hy with rfl | hy
     ·rfl
     ·rcases List.mem_cons.mp hy with rfl | hy
      ·rfl
      ·cases hy) ?_
    rw [in_twoS]
    refine ⟨congrArg V.bool ?_,rfl⟩
    have e1:∀ x:List Bool,(last != x)=!decide (last=x):=fun x=>by by_cases h:last=x<;>simp [h]
    unfold fewB;rw [e1,e1,Bool.not_or];simp [h,h3]
   ·refine ⟨congrArg V.bool ?_,rfl⟩
    have f1:(last.length == 1)=false:=beq_eq_false_iff_ne.mpr h
    have f3:(last.length == 3)=false:=beq_eq_false_iff_ne.mpr h3
    unfold fewB;rw [f1,f3];rfl
 intro v σ' hJ2
 refine bc fun hbc=>?_
 obtain ⟨rfl,rfl⟩:=hJ2
 refine hbc ?_
 clear hbc
 walk_at "go"
 refine ite_joinE (.lst (natV (lapsL r))) (fun h=>?_) (fun h=>?_) ?_
 ·refine ev_list0 ?_
  rw [hlaps,few_laps h]
  exact ⟨rfl,rfl⟩
 ·refine ev_compCP (caps:=[("ring", .val (.str (sgs r)))]) (compOkC (by kernel_rfl) (by walk_at "has") (by rfl) (fun _ _=>rfl) (fun _=>rfl)) (fun i:Nat=>V.int ((1 + i:Nat):Int)) (fun i=>lapB r (1 + i)) (fun i=>V.int ((1 + i:Nat):Int)) ?_
  walk_at "go"
  rotate_left;· walk_at "l"
  rw [hsr]
  refine ⟨_,items_rng 1 r.length (by walk_at "l") (by walk_at "l"),by simp;walk_at "l", fun i hi D acc hD=>?_,?_⟩
  ·have hi:=List.mem_range.mp hi
   walk_at "go"
   refine ev_compT (caps:=[("q", .val (.int ((1 + i:Nat):Int))),("ring", .val (.str (sgs r)))]) (compOk (by kernel_rfl) (by walk_at "has") (by rfl)) (fun k:Nat=>V.int ((k:Nat):Int)) (fun k=>[("k", .val (.int ((k:Nat):Int)))]) (fun k=>V.bool (winB r (1 + i) k)) ?_
   walk_at "go"
   rotate_left;· walk_at "l"
   rw [hsr]
   refine ⟨_,items_rng0 r.length (by walk_at "l"),by simp;walk_at "l", fun k hk=>⟨tgt_name (by kernel_rfl),by kernel_rfl,fun D' acc' hD'=>?_⟩,?_⟩
   ·have hk:=List.mem_range.mp hk
    simp only [List.cons_append,List.nil_append]
    walk_at "go"
    rotate_left
    ·lia
    ·decide
    refine ⟨_,_,_,.int _,.int _,.none,sub_str,gs_mid (by rw [hR];walk_at "l") ?_⟩
    walk_at "go"
    rotate_left
    ·lia
    ·decide
    ·exact mulOk_small (.inl (by walk_at "l"))
    refine ⟨_,_,_,.int _,.int _,.none,sub_str,gs_mid (by rw [hR];walk_at "l") ?_⟩
    walk_at "go"
    exact ⟨rfl,rfl⟩
   walk_at "go"
   refine cmp_in (.bool _) (.lst (dats_bool (f:=fun k=>winB r (1 + i) k) (List.range r.length))) rfl (shaped_bools _) (fun y hy=>by obtain ⟨b,_,rfl⟩:=List.mem_map.mp hy;rfl) ?_
   rw [some_true,lapB_win (by lia)]
   refine ⟨_,rfl,ite_gen (fun h=>?_) (fun h=>?_)⟩
   ·walk_at "go"
    refine ⟨rfl,h.symm,fun _=>?_⟩
    walk_at "go"
    exact ⟨rfl,rfl⟩
   ·exact ⟨rfl,h.symm,fun e=>absurd (h.symm.trans e) (by decide)⟩
  ·rw [laps_form];exact ⟨rfl,rfl⟩
 walk_at "go"
 refine st_assign_compT (caps:=[("rounds", .val (.int (n:Nat)))]) (compOk (by kernel_rfl) (by walk_at "has") (by rfl)) (by kernel_rfl!) (fun x:Nat=>V.int ((x:Nat):Int)) (fun x=>[("lap", .val (.int ((x:Nat):Int)))]) (fun x=>V.int ((2 ^ n * x:Nat):Int)) ?_
 walk_at "go"
 refine cs__law_laps (by decide) hD.ne hD.le hw hw2 hway ?_
 refine ⟨lapsL last,.lst _,?_,fun x hx=>⟨tgt_name (by kernel_rfl),by kernel_rfl,fun D acc hD=>?_⟩,?_⟩
 ·unfold lapsL
  refine Nat.lt_of_le_of_lt (List.length_filter_le _ _) ?_
  simp;walk_at "l"
 ·simp only [List.cons_append,List.nil_append]
  have hx2:=((mem_laps hD'.ne x).1 hx).2.1
  have n2:nbits 2=2:=by decide
  walk_at "go"
  rotate_left
  ·rw [n2];lia
  ·exact mulOk_small (.inr (by lia))
  exact ⟨rfl,rfl⟩
 rw [show (lapsL last).map (fun x=>V.int ((2 ^ n * x:Nat):Int))=natV (lapsL r) by rw [hlaps];simp [natV,Function.comp_def]]
 walk_at "go"
 refine cs__law_laps (by decide) hr hl hw hw2 hway ?_
 walk_at "go"
 refine eq_true rfl (.tup (.cons (.lst (dats_nat _)) (.cons (.lst (dats_nat _)) .nil))) (shaped_ll _ _) ?_
 walk_at "go"
 exact q
end
section
variable {K:Kx} {ρ:Fm} {σ:Store} {d:Nat} {Q:V→Store→Prop}
theorem map_hp:mapb3 13259=[104,112]∧mapb3 13271=[112,104]:=by decide +kernel
theorem alike_fin {r last:List Bool} {n s:Nat} (hD:Down r last n s) (h:last.length % 2=0):aB (rot last 0)=true∧aB (rot last 1)=true:=by
 have h0:rot last 0=last:=by simp [rot]
 obtain ⟨h1,h2⟩:good last=false∧good (rot last 1)=false:=by
  rcases hD.fin with e | e
  ·lia
  ·exact e
 rw [h0,aB_good (last.length / 2) last (by lia),aB_good (last.length / 2) (rot last 1) (by rw [rot_length];lia),h1,h2]
 exact ⟨rfl,rfl⟩
theorem flat_one (l:List Nat):(l.map fun c=>[c]).flatten=l:=by
 induction l with
 | nil=>rfl
 | cons c l ih=>simpa using ih
theorem law_a {A:LexA} {nl:Nat} (hA:Lex A σ [] nl []) {r:List Bool} {m:List Nat} {w way:Nat} (hm:m.filter hpB=sgs r) (hml:m.length≤2 ^ 16) (hr:r≠[]) (hl:r.length≤12) (hw:2≤w) (hw2:w≤640) (hway:way < 4) (q:Q (.bool true) σ):
  ExP lawK [("told", .val (.str m)),("lexer", .val (.loc A.x)),("ring", .val (.str (sgs r))),("way", .val (.int way)),("width", .val (.int w)),("last", .emp),("rounds", .emp)] σ (lawB 11) (RetQ Q):=by
 have hsr:(sgs r).length=r.length:=List.length_map ..
 conv=>arg 4;whnf
 walk_at "go"
 refine ev_compTF (caps:=[]) (compOk (by kernel_rfl) (by walk_at "has") (by rfl)) (fun c:Nat=>V.str [c]) (fun c=>[("sign", .val (.str [c]))]) hpB (fun c=>V.str [c]) ?_
 walk_at "go"
 refine ⟨m,Items.str m,by walk_at "l", fun c hc=>⟨tgt_name (by kernel_rfl),by kernel_rfl,fun D acc hD=>?_⟩,?_⟩
 ·simp only [List.cons_append,List.nil_append]
  walk_at "go"
  rw [show (Str.ofString "hp").cps.toList=[104,112] by decide +kernel]
  refine cmp_inS ?_
  rw [show Txt.contains ⟨[104,112].toArray⟩ ⟨[c].toArray⟩=hpB c from rfl]
  refine ⟨_,rfl,ite_gen (fun h=>?_) (fun h=>?_)⟩
  ·walk_at "go"
   refine ⟨rfl,h.symm,fun _=>?_⟩
   walk_at "go"
   exact ⟨rfl,rfl⟩
  ·exact ⟨rfl,h.symm,fun e=>absurd (h.symm.trans e) (by decide)⟩
 rw [hm]
 walk_at "go"
 refine bi_join0 (xs:=(sgs r).map fun c=>[c]) (by simpa [Function.comp_def] using LV.fr _) (by rw [flat_one,hsr];walk_at "l") ?_
 rw [flat_one]
 walk_at "go"
 refine cs__law_down (by decide) hA hr hl hw hw2 hway fun last n s hD=>?_
 rw [hA.same]
 have hll:=hD.le
 have hsl:(sgs last).length=last.length:=List.length_map ..
 have hlen:2 ^ n * last.length=r.length:=by rw [← muN_length,hD.eq,rot_length]
 have hl1:=List.length_pos_iff.mpr hD.ne
 have hn12:n < 12:=by
  have h2:2 ^ n * 1≤2 ^ n * last.length:=Nat.mul_le_mul_left _ (by walk_at "l")
  have h3:n < 2 ^ n:=Nat.lt_two_pow_self
  lia
 walk_at "go"
 rw [show (Str.ofString "㏋").cps.toList=[13259] by decide +kernel]
 refine cs_map_table_b3 (by decide) ?_
 rw [map_hp.1]
 walk_at "go"
 rw [show (Str.ofString "㏗").cps.toList=[13271] by decide +kernel]
 refine cs_map_table_b3 (by decide) ?_
 rw [map_hp.2]
 walk_at "go"
 refine cs__law_grown (by decide) (by rw [hlen];walk_at "l") (by walk_at "l") ?_
 walk_at "go"
 refine st_assign_compCP (caps:=[("last", .val (.str (sgs last)))]) (compOkC (by kernel_rfl) (by walk_at "has") (by rfl) (fun _ _=>rfl) (fun _=>rfl)) (by kernel_rfl!) (fun t:Nat=>V.int ((t:Nat):Int)) (fun _=>true) (fun t=>V.bool (aB (rot last t))) ?_
 walk_at "go"
 refine ⟨[0,1],Items.tup _,by decide,fun t ht D acc hD2=>?_,?_⟩
 ·have ht2:t≤1:=by simp at ht;lia
  walk_at "go"
  refine ⟨rfl,rfl,fun _=>?_⟩
  walk_at "go"
  refine ev_compT (caps:=[("turn", .val (.int (t:Nat))),("last", .val (.str (sgs last)))]) (compOk (by kernel_rfl) (by walk_at "has") (by rfl)) (fun i:Nat=>V.int ((2 * i:Nat):Int)) (fun i=>[("k", .val (.int ((2 * i:Nat):Int)))])
   (fun i=>V.bool (decide (((rot last t).drop (2 * i)).take 2=[false,false]) || decide (((rot last t).drop (2 * i)).take 2=[true,true]))) ?_
  walk_at "go"
  rotate_left;· walk_at "l"
  rw [hsl]
  refine bi_range3 (by decide) (by decide) ?_
  refine ⟨_,items_rng2 hll,by simp;lia,fun i hi=>⟨tgt_name (by kernel_rfl),by kernel_rfl,fun D' acc' hD'=>?_⟩,?_⟩
  ·simp only [List.cons_append,List.nil_append]
   walk_at "go"
   refine cs__law_turned (by decide) (by rw [hsl];walk_at "l") (by rw [hsl];walk_at "l") ?_
   rw [rot_map]
   walk_at "go"
   refine ⟨_,_,_,.int _,.int _,.none,sub_str,gs_mid (by rw [show (sgs (rot last t)).length=_ from List.length_map _,rot_length];walk_at "l") ?_⟩
   walk_at "go"
   rw [show (Str.ofString "hh").cps.toList=sgs [false,false] by decide +kernel,show (Str.ofString "pp").cps.toList=sgs [true,true] by decide +kernel,show ((sgs (rot last t)).drop (2 * i)).take (2 * i + 2 - 2 * i)=sgs (((rot last t).drop (2 * i)).take 2) by rw [Nat.add_sub_cancel_left];simp [sgs,List.map_drop,List.map_take]]
   refine cmp_inT (.str _) (.tup (.cons (.str _) (.cons (.str _) .nil))) (shaped_str (okS_sgs _)) (by kernel_rfl) (fun y hy=>by
     rcases List.mem_cons.mp hy with rfl | hy
     ·rfl
     ·rcases List.mem_cons.mp hy with rfl | hy
      ·rfl
      ·cases hy) ?_
   rw [in_twoS]
   exact ⟨rfl,rfl⟩
  walk_at "go"
  refine cmp_in (.bool _) (.lst (dats_bool (f:=fun i=>decide (((rot last t).drop (2 * i)).take 2=[false,false]) || decide (((rot last t).drop (2 * i)).take 2=[true,true])) (List.range ((last.length + 1) / 2)))) rfl (shaped_bools _) (fun y hy=>by obtain ⟨b,_,rfl⟩:=List.mem_map.mp hy;rfl) ?_
  rw [some_true]
  exact ⟨by unfold aB;rw [rot_length],rfl⟩
 rw [show ([0,1].filter fun _:Nat=>true).map (fun t=>V.bool (aB (rot last t)))=[0,1].map (fun t=>V.bool (aB (rot last t))) from rfl]
 walk_at "go"
 refine cs__law_turned (by decide) (by rw [hsr];exact fun e=>hr (List.length_eq_zero_iff.mp e)) (by rw [hsr];walk_at "l") ?_
 rw [rot_map,← hD.eq]
 walk_at "go"
 refine ne_false rfl (.tup (.cons (.str _) (.cons (.str _) .nil))) (shaped_ss (okS_sgs _) (okS_sgs _)) ?_
 refine ⟨false,rfl,?_⟩
 walk_at "q"
 refine ifn (by decide) ?_
 walk_at "go"
 rotate_left;· walk_at "l"
 rw [hsl]
 have fin:ExP lawK [("alike", .val (.lst ([0,1].map fun t=>V.bool (aB (rot last t))))),("again", .val (.str (sgs (muN last n)))),("line", .val (.str (sgs last))),("shift", .val (.int (s:Nat))),("rounds", .val (.int (n:Nat))),("last", .val (.str (sgs last))),("told", .val (.str m)),("lexer", .val (.loc A.x)),("ring", .val (.str (sgs r))),("way", .val (.int way)),("width", .val (.int w))] σ (lawB 15) (RetQ Q):=
  ExP.has (law_c hD hr hl hw hw2 hway q) (by walk_at "has")
 generalize hK:Cont lawK _ (RetQ Q)=KK
 refine ite_beq (fun h=>?_) (fun h=>?_)
 ·walk_at "go"
  refine bc fun hbc=>?_
  obtain ⟨a0,a1⟩:=alike_fin hD h
  refine hbc ?_
  clear hbc
  have e:([0,1].map fun t=>V.bool (aB (rot last t)))=[true,true].map V.bool:=by simp [a0,a1]
  rw [e] at fin ⊢
  refine cmp_in (.bool _) (.lst (dats_bool (f:=id) [true,true])) rfl (shaped_bools _) (fun y hy=>by obtain ⟨b,_,rfl⟩:=List.mem_map.mp hy;rfl) ?_
  rw [show decide (Spec.countIn (PyData.bool false) (([true,true].map id).map PyData.bool)≠0)=false by decide +kernel]
  refine ⟨false,rfl,?_⟩
  walk_at "q"
  refine ifn (by decide) ?_
  walk_at "go"
  subst hK
  exact cont_next fin
 ·walk_at "go"
  subst hK
  exact cont_next fin
end
theorem tokQ_suf:∀ (n:Nat) (l acc:List Nat),l.length≤n→(tokQ acc l).2 <:+ l
 | _,[],acc,_=>by simp [tokQ]
 | 0,_ :: _,_,h=>by simp at h
 | n + 1,c :: r,acc,h=>by
  have hr:r.length≤n:=by simpa using h
  rw [tokQ_cons]
  split
  ·exact List.suffix_cons ..
  ·split
   ·exact (tokQ_suf n (r.drop 1) _ (by simp;lia)).trans ((List.drop_suffix 1 r).trans (List.suffix_cons ..))
   ·exact (tokQ_suf n r _ hr).trans (List.suffix_cons ..)
theorem tokB_suf:∀ (n:Nat) (l acc:List Nat),l.length≤n→(tokB acc l).2 <:+ l
 | _,[],acc,_=>by simp [tokB]
 | 0,_ :: _,_,h=>by simp at h
 | n + 1,c :: r,acc,h=>by
  have hr:r.length≤n:=by simpa using h
  rw [tokB_cons]
  split
  ·exact List.suffix_cons ..
  ·split
   ·exact (tokB_suf n (r.drop 1) _ (by simp;lia)).trans ((List.drop_suffix 1 r).trans (List.suffix_cons ..))
   ·exact (tokB_suf n r _ hr).trans (List.suffix_cons ..)
theorem tok_suf:∀ l:List Nat,(tok l).2 <:+ l
 | []=>by simp [tok]
 | c :: r=>by
  rw [tok]
  split
  ·exact (tok_suf r).trans (List.suffix_cons ..)
  ·split
   ·exact (tokQ_suf _ r _ (Nat.le_refl _)).trans (List.suffix_cons ..)
   ·split
    ·exact (tokB_suf _ (r.drop 1) _ (Nat.le_refl _)).trans ((List.drop_suffix 1 r).trans (List.suffix_cons ..))
    ·exact (tokB_suf _ r _ (Nat.le_refl _)).trans (List.suffix_cons ..)
theorem rdN_suf (l:List Nat):∀ k,(rdN l k).2 <:+ l
 | 0=>List.suffix_refl _
 | k + 1=>(tok_suf _).trans (rdN_suf l k)
theorem OkL.suf {l l':List Nat} (h:OkL l) (s:l' <:+ l):OkL l':=⟨Nat.lt_of_le_of_lt s.length_le h.1,fun c hc=>h.2 c (s.subset hc)⟩
theorem cnt_eq (c:Nat):∀ l:List Nat,cnt c l=((l.count c:Nat):Int)
 | []=>rfl
 | x :: l=>by
  have ih:=cnt_eq c l
  rw [cnt_cons,ih,List.count_cons]
  by_cases h:x=c
  ·subst h;simp;walk_at "l"
  ·have h2:¬ c=x:=fun e=>h e.symm
   simp [h,h2]
theorem count_nl (l:List Nat):Txt.count ⟨l.toArray⟩ ⟨[10].toArray⟩=((nlOf l:Nat):Int):=by
 rw [show (⟨[10].toArray⟩:Str)=⟨#[10]⟩ from rfl,count_cnt,cnt_eq];rfl
noncomputable abbrev entD (l:List (List Nat×Nat)):List PySem.PyData:=l.map fun x=>PySem.PyData.tuple [.str ⟨x.1.toArray⟩,.int ((x.2:Nat):Int)]
theorem dats_ent {σ:Store}:∀ l:List (List Nat×Nat),Dats σ (entV l) (entD l)
 | []=>.nil
 | x :: l=>.cons (.tup (.cons (.str _) (.cons (.int _) .nil))) (dats_ent l)
open PySem.Spec PySem.SeqAt in
theorem shaped_read {l:List (List Nat×Nat)} {m:List Nat} {i:Int} (h:∀ x∈l,OkS x.1) (k:OkS m):shaped (.tuple [.list (entD l),.str ⟨m.toArray⟩,.int i])=true:=by
 have k:PySem.PyData.strOk ⟨m.toArray⟩=true:=k
 have key:PySem.PyData.canLayAll0 (entD l)=true∧PySem.PyData.depthAll (entD l)≤1:=by
  induction l with
  | nil=>exact ⟨rfl,by simp [PySem.PyData.depthAll]⟩
  | cons x l ih=>
   obtain ⟨h1,h2⟩:=ih fun y hy=>h y (List.mem_cons_of_mem _ hy)
   have hx:PySem.PyData.strOk ⟨x.1.toArray⟩=true:=h x List.mem_cons_self
   constructor
   ·show PySem.PyData.canLayAll0 (_ :: entD l)=true
    simp only [PySem.PyData.canLayAll0,PySem.PyData.canLay0,hx,Bool.true_and,Bool.and_true];exact h1
   ·show PySem.PyData.depthAll (_ :: entD l)≤1
    simp only [PySem.PyData.depthAll,PySem.PyData.depth]
    exact Nat.max_le.mpr ⟨by decide,h2⟩
 obtain ⟨h1,h2⟩:=key
 simp only [shaped,PySem.PyData.canLay0,PySem.PyData.canLayAll0,PySem.PyData.depth,PySem.PyData.depthAll,k,h1,Bool.true_and,Bool.and_true,decide_eq_true_eq]
 lia
theorem filter_all {α:Type} (l:List α):l.filter (fun _=>true)=l:=List.filter_eq_self.mpr fun _ _=>rfl
theorem flat_sig (l:List (List Nat×Nat)):(l.flatMap fun x=>(x.1.filter fun _=>true).map fun c=>V.tup [.str [c],.bool (b1 c)])=(l.flatMap (·.1)).map fun c=>V.tup [.str [c],.bool (b1 c)]:=by
 rw [List.map_flatMap]
 congr 1
 funext x
 rw [filter_all]
theorem flat_len:∀ (l:List (List Nat×Nat)),(∀ x∈l,x.1.length≤3)→(l.flatMap (·.1)).length≤3 * l.length
 | [],_=>by simp
 | x :: l,h=>by
  have h1:=flat_len l fun y hy=>h y (List.mem_cons_of_mem _ hy)
  have h2:=h x List.mem_cons_self
  rw [List.flatMap_cons,List.length_append,List.length_cons]
  lia
section
variable {K:Kx} {ρ:Fm} {σ:Store} {d:Nat} {Q:V→Store→Prop}
theorem law_b {r:List Bool} {cs:List Nat} (hcl:cs.length=7) (hclt:∀ k,k < 7→cs.getD k 0 < 2 ^ 64) {w way:Nat} (hr:r≠[]) (hl:r.length≤12) (hw:2≤w) (hw2:w≤640) (hway:way < 4) (q:∀ σ',Sub σ σ'→Q (.bool true) σ'):
  ExP lawK [("ring", .val (.str (sgs r))),("cells", .val (.lst (natV cs))),("way", .val (.int way)),("width", .val (.int w)),("text", .emp),("lexer", .emp),("left", .emp),("last", .emp),("rounds", .emp)] σ (lawB 4) (RetQ Q):=by
 conv=>arg 4;whnf
 walk_at "go"
 refine cs__law_file (by decide) hr hl hcl hclt fun t es m o g hF=>?_
 have htl:=hF.tlen
 have hel:=hF.elen
 have hml:=hF.mlen
 have hok:OkL t:=⟨by lia,hF.ok⟩
 have hall:=hF.good.all
 walk_at "go"
 refine cs__law_lexer (by decide) hok fun A σ2 hlex hsub hno=>?_
 walk_at "go"
 refine st_assign_comp (caps:=[("lexer", .val (.loc A.x)),("left", .val (.loc A.lf))]) (compOk (by kernel_rfl) (by walk_at "has") (by rfl)) (by kernel_rfl!) ?_
 have hell:(entV es).length=es.length:=List.length_map ..
 walk_at "go"
 rotate_left;· lia
 rw [hell]
 have hN:(List.range (es.length + 2)).length=es.length + 2:=List.length_range
 refine ⟨_,items_rng0 (es.length + 2) (by lia),fun r acc σ₃=>∃ k n',r=((List.range (es.length + 2)).drop k).map (fun i:Nat=>V.int (i:Int))∧k≤es.length + 2∧acc=entV (rdN t k).1∧σ₃=lexU A σ2 (rdN t k).2 n' []∧n' + nlOf (rdN t k).2=1 + nlOf t,
   ⟨0,1,rfl,Nat.zero_le _,rfl,hlex.same.symm,rfl⟩,?_,?_⟩
 ·intro x r acc σ₃ D hJ5 hD
  refine bc fun hbc=>?_
  obtain ⟨k,n',e,hk,rfl,rfl,hn⟩:=hJ5
  refine hbc ?_
  clear hbc
  have hlt:k < es.length + 2:=by
   rcases Nat.lt_or_ge k (es.length + 2) with h | h
   ·exact h
   ·rw [List.drop_eq_nil_of_le (by rw [hN];exact h)] at e;cases e
  rw [List.drop_eq_getElem_cons (by rw [hN];exact hlt),List.map_cons] at e
  injection e with e1 e2
  refine ⟨[("k", .val x)],tgt_name (by kernel_rfl),by intro p hp q hq;simp only [List.mem_cons,List.mem_nil_iff,or_false] at hp hq;rcases hp with rfl | rfl<;>subst hq<;>first | exact (by decide:("lexer" : Str) ≠ "k") | exact (by decide:("left" : Str) ≠ "k"),ifs_nil' ?_⟩
  refine ifp rfl ?_
  simp only [List.cons_append,List.nil_append]
  have hl1:Lex A (lexU A σ2 (rdN t k).2 n' []) (rdN t k).2 n' []:=hlex.set
  have hl2:=hl1.mono (Sub.refl.upd (o:=some (.list (entV (rdN t k).1))) hD)
  walk_at "go"
  refine call_tok hl2 (by decide) (fun Q q=>ev_name (by walk_at "mem") q) (cs_get_token hl2 (hok.suf (rdN_suf t k)) fun n'' hn''=>?_)
  have hl3:=(hl2.set (l':=(tok (rdN t k).2).2) (n':=n'') (p':=[])).hlf
  have hlen:(chrs (tok (rdN t k).2).2).length≤1000:=by
   rw [List.length_map]
   exact Nat.le_trans ((tok_suf _).trans (rdN_suf t k)).length_le (by lia)
  walk_at "go"
  rotate_left;· walk_at "l"
  rw [show (chrs (tok (rdN t k).2).2).length=(tok (rdN t k).2).2.length from List.length_map _]
  have hal:(entV (rdN t k).1).length=k:=by rw [List.length_map,rdN_len]
  refine ⟨by rw [hal];lia,lexU A σ2 (rdN t (k + 1)).2 n'' [],?_,(by have h0:=lexU_none (l':=(rdN t (k + 1)).2) (n':=n'') (p':=[]) hl1 hD;rw [hlex.twice] at h0;exact h0),k + 1,n'',e2,hlt,?_,rfl,by rw [← hn,← hn''];rfl⟩
  ·rw [lexU_acc hl1 hD,hlex.twice];rfl
  ·rw [rdN];simp [entV]
 intro acc σ₃ hJ2
 refine bc fun hbc=>?_
 obtain ⟨k,n',e,hk,rfl,rfl,hn⟩:=hJ2
 refine hbc ?_
 clear hbc
 have hkl:k=es.length + 2:=by
  have h1:=congrArg List.length e
  simp at h1;lia
 subst hkl
 have hrl:=rdN_len t (es.length + 2)
 have hr1:(rdN t (es.length + 2)).1=_:=congrArg Prod.fst hall
 have hr2:(rdN t (es.length + 2)).2=[]:=congrArg Prod.snd hall
 rw [hr2] at hn ⊢
 have hw3:∀ x∈(rdN t (es.length + 2)).1,x.1.length≤3∧OkS x.1:=fun x hx=>by
  rw [hr1] at hx
  rcases List.mem_append.mp hx with hx | hx
  ·refine bc fun hbc=>?_
   obtain ⟨y,hy,rfl⟩:=List.mem_map.mp hx
   refine hbc ?_
   clear hbc
   exact ⟨hF.wlen y hy,okS_of (hF.wok y hy)⟩
  ·simp only [List.mem_cons,List.mem_nil_iff,or_false,or_self] at hx
   subst hx
   exact ⟨by simp,okS_of (by simp)⟩
 have hmean:prepW ((rdN t (es.length + 2)).1.flatMap (·.1))=m:=by
  rw [hr1,List.flatMap_append,← hF.mean,List.flatMap_map]
  simp [prepW]
 have hdue:entV ((es.map fun x=>(x.1,t.length - x.2))++[([],0),([],0)])=entV (rdN t (es.length + 2)).1:=by rw [hr1]
 clear hr1 hr2 e hall
 generalize (rdN t (es.length + 2)).1=R at *
 have hflen:=flat_len R fun x hx=>(hw3 x hx).1
 walk_at "go"
 refine st_assign_comp2P (caps:=[]) (compOk (by kernel_rfl) (by walk_at "has") (by rfl)) (by kernel_rfl!) (fun x:List Nat×Nat=>V.tup [.str x.1,.int ((x.2:Nat):Int)]) (fun x=>[("word", .val (.str x.1)),("rest", .val (.int ((x.2:Nat):Int)))]) (fun x=>x.1) (fun c:Nat=>V.str [c]) (fun c=>[("sign", .val (.str [c]))]) (fun _ _=>true) (fun _ c=>V.tup [.str [c],.bool (b1 c)]) ?_
 walk_at "go"
 refine ⟨R,.lst _,by lia,fun x hx=>⟨tgt2 (by kernel_rfl) (by kernel_rfl) (by decide),by kernel_rfl,fun D acc hD=>?_,fun c hc=>⟨tgt_name (by kernel_rfl),by kernel_rfl,fun D acc hD=>?_⟩⟩,?_⟩
 ·simp only [List.cons_append,List.nil_append]
  walk_at "go"
  exact ⟨rfl,Items.str _⟩
 ·simp only [List.cons_append,List.nil_append]
  walk_at "go"
  refine ⟨rfl,rfl,fun _=>?_⟩
  walk_at "go"
  refine cs_in_table_b1 (by decide) ?_
  walk_at "go"
  exact ⟨rfl,rfl⟩
 rw [flat_sig]
 generalize hLs:R.flatMap (·.1)=Ls at *
 walk_at "go"
 refine ev_compT (caps:=[]) (compOk (by kernel_rfl) (by walk_at "has") (by rfl)) (fun c:Nat=>V.tup [.str [c],.bool (b1 c)]) (fun c=>[("sign", .val (.str [c])),("nothing", .val (.bool (b1 c)))]) (fun c=>V.str (prepC c)) ?_
 walk_at "go"
 refine ⟨Ls,.lst _,by lia,fun c hc=>⟨tgt2 (by kernel_rfl) (by kernel_rfl) (by decide +kernel),by kernel_rfl,fun D' acc hD'=>?_⟩,?_⟩
 ·simp only [List.cons_append,List.nil_append]
  walk_at "go"
  refine ite_beq (fun h=>?_) (fun h=>?_)
  ·walk_at "go"
   exact ⟨by simp [prepC,h],rfl⟩
  ·walk_at "go"
   refine ite_beq (fun h2=>?_) (fun h2=>?_)
   ·walk_at "go"
    refine cs_map_table_b3 (by decide) ?_
    walk_at "go"
    exact ⟨by simp [prepC,h2],rfl⟩
   ·exact absurd (by simpa using h) h2
 walk_at "go"
 have hmj:(Ls.map prepC).flatten=m:=hmean
 refine bi_join0 (xs:=Ls.map prepC) (by simpa [Function.comp_def] using LV.fr _) (by rw [hmj];lia) ?_
 rw [hmj]
 walk_at "go"
 refine ev_compT (caps:=[("text", .val (.str t))]) (compOk (by kernel_rfl) (by walk_at "has") (by rfl)) (fun x:List Nat×Nat=>V.tup [.str x.1,.int ((x.2:Nat):Int)]) (fun x=>[("word", .val (.str x.1)),("end", .val (.int ((x.2:Nat):Int)))]) (fun x=>V.tup [.str x.1,.int ((t.length - x.2:Nat):Int)]) ?_
 walk_at "go"
 refine ⟨es,.lst _,by lia,fun x hx=>⟨tgt2 (by kernel_rfl) (by kernel_rfl) (by decide +kernel),by kernel_rfl,fun D' acc hD'=>?_⟩,?_⟩
 ·simp only [List.cons_append,List.nil_append]
  have hxe:=hF.good.ends x hx
  walk_at "go"
  rotate_left;· walk_at "l"
  exact ⟨rfl,rfl⟩
 walk_at "go"
 refine bin_catE (zs:=entV R) (.fr _) (.fr _) (by simp;lia) (by rw [← hdue];simp [entV]) ?_
 have hlex2:Lex A (lexU A σ2 [] n' []) [] n' []:=hlex.set
 have hS:Sub σ (lexU A σ2 [] n' []):=fun a o h=>by
  have h0:=hsub a o h
  have n1:a≠A.lf:=fun e=>by rw [e,hno.1] at h;cases h
  have n2:a≠A.dx:=fun e=>by rw [e,hno.2.1] at h;cases h
  have n3:a≠A.pb:=fun e=>by rw [e,hno.2.2] at h;cases h
  unfold lexU
  exact upd_of n3 (upd_of n2 (upd_of n1 h0))
 have hc2:=hlex2.hcl
 walk_at "go"
 rw [count_nl]
 have hn2e:(1:Int) + ((nlOf t:Nat):Int)=(n':Int):=by
  have h0:nlOf ([]:List Nat)=0:=rfl
  rw [h0] at hn;lia
 rw [hn2e]
 refine ne_false rfl (.tup (.cons (.lst (dats_ent _)) (.cons (.str _) (.cons (.int _) .nil)))) (shaped_read (fun x hx=>(hw3 x hx).2) (okS_of hF.mok)) ?_
 refine ⟨false,rfl,?_⟩
 walk_at "q"
 refine ifn (by decide) ?_
 generalize hK:Cont lawK _ (RetQ Q)=KK
 walk_at "go"
 subst hK
 refine cont_next (ExP.has (law_a hlex2 (by rw [hF.ring,List.take_length]) (by lia) hr hl hw hw2 hway (q _ hS)) (by walk_at "has"))
end
theorem bd_law:Binds F_law ["script"]:=by walk_at "binds"
theorem ck_law:fnC F_law ["script"] ["own", "ring", "text", "lexer", "left", "last", "rounds"]=true:=by decide +kernel
noncomputable def ownL:List Nat:=[3600,961,21762,8624,0,10884,0]
noncomputable def selK (xs:List Int) (k:Nat):List Int:=(picks (some (k:Int)) none (some 7) (xs.take 60).length).filterMap ((xs.take 60)[·]?)
noncomputable def modT (x:Int):Nat:=(x.fmod (10 ^ 12)).toNat
noncomputable def cellN (xs:List Int) (k:Nat):Nat:=ownL.getD k 0 + ((selK xs k).map modT).sum
theorem modT_eq (x:Int):x.fmod (10 ^ 12)=((modT x:Nat):Int)∧modT x < 10 ^ 12:=by
 have h1:=Int.fmod_nonneg_of_pos x (show (0:Int) < 10 ^ 12 by decide)
 have h2:=Int.fmod_lt_of_pos x (show (0:Int) < 10 ^ 12 by decide)
 unfold modT
 exact ⟨(Int.toNat_of_nonneg h1).symm,by lia⟩
theorem sel_len (xs:List Int) (k:Nat):(selK xs k).length≤60:=by
 have hl:(xs.take 60).length≤60:=by simp;walk_at "l"
 unfold selK
 refine Nat.le_trans (List.length_filterMap_le _ _) ?_
 generalize (xs.take 60).length=n at hl
 unfold picks sliceBounds sliceRange
 simp only [List.length_map,List.length_range,Option.getD_some,show ¬ ((k:Int) < 0) from Int.not_lt.mpr (Int.natCast_nonneg k),if_false,show ((7:Int) > 0) from by decide,if_true,mm_nat]
 split
 ·refine Nat.le_trans (Int.toNat_le.mpr (Int.ediv_le_of_le_mul (by decide) ?_)) hl
  have:=Nat.zero_le (min k n)
  lia
 ·exact Nat.zero_le _
theorem sum_mod:∀ l:List Int,(l.map modT).sum≤10 ^ 12 * l.length
 | []=>by simp
 | x :: l=>by
  have h1:=sum_mod l
  have h2:=(modT_eq x).2
  simp only [List.map_cons,List.sum_cons,List.length_cons,Nat.mul_add,Nat.mul_one];lia
theorem cell_lt (xs:List Int) (k:Nat):cellN xs k < 2 ^ 60:=by
 have h1:=sum_mod (selK xs k)
 have h2:=sel_len xs k
 have h3:ownL.getD k 0≤21762:=by
  rw [List.getD_eq_getElem?_getD]
  rcases Nat.lt_or_ge k ownL.length with h | h
  ·rw [List.getElem?_eq_getElem h]
   exact (by decide:∀ x∈ownL,x≤21762) _ (List.getElem_mem h)
  ·rw [List.getElem?_eq_none h];decide
 have h4:10 ^ 12 * (selK xs k).length≤10 ^ 12 * 60:=Nat.mul_le_mul_left _ h2
 unfold cellN;lia
noncomputable abbrev intV (l:List Int):List V:=l.map V.int
noncomputable def cellL (xs:List Int):List Nat:=(List.range 7).map (cellN xs)
theorem cellL_len (xs:List Int):(cellL xs).length=7:=by simp [cellL]
theorem cellL_lt (xs:List Int):∀ k,k < 7→(cellL xs).getD k 0 < 2 ^ 64:=fun k hk=>by
 unfold cellL
 rw [List.getD_eq_getElem?_getD,List.getElem?_map,List.getElem?_range hk]
 exact Nat.lt_of_lt_of_le (cell_lt xs k) (Nat.pow_le_pow_right (by decide) (by decide))
section
variable {K:Kx} {ρ:Fm} {σ:Store} {d:Nat} {Q:V→Store→Prop}
theorem get_map {α β:Type} (f:α→β) (l:List α) (P:List Nat):P.filterMap ((l.map f)[·]?)=(P.filterMap (l[·]?)).map f:=by
 rw [List.map_filterMap]
 congr 1
 funext i
 rw [List.getElem?_map]
theorem cs_law (hd:120≤d) {xs:List Int} (hx:xs.length≤63) (q:Q (.bool true) σ):CallV d (.raw (.ref A_law)) [.lst (intV xs)] σ Q:=by
 refine CallV.le (d:=120) (CallV.pure (CallV.of ?_)) hd
 refine cv_fnC' (d:=119) B.ok2 B.f_law bd_law ck_law rfl rfl rfl ?_
 walk_at "start"
 walk_at "go"
 refine st_assign_compT (caps:=[("own", .val (.lst [V.int 3600,V.int 961,V.int 21762,V.int 8624,V.int 0,V.int 10884,V.int 0])),("script", .val (.lst (intV xs)))]) (compOk (by kernel_rfl) (by walk_at "has") (by rfl)) (by kernel_rfl!) (fun k:Nat=>V.int k) (fun k=>[("k", .val (.int k))]) (fun k=>V.int ((cellN xs k:Nat):Int)) ?_
 walk_at "go"
 refine ⟨List.range 7,items_rng0 7 (by decide),by decide,fun k hk=>⟨tgt_name (by kernel_rfl),by kernel_rfl,fun D acc hD=>?_⟩,?_⟩
 ·have hk:k < 7:=List.mem_range.mp hk
  simp only [List.cons_append,List.nil_append]
  walk_at "go"
  refine gn_lst (vs:=natV ownL) (.fr _) (natV_get hk) (by decide) ?_
  walk_at "go"
  refine ev_compT (caps:=[]) (compOk (by kernel_rfl) (by walk_at "has") (by rfl)) V.int (fun x=>[("number", .val (.int x))]) (fun x=>V.int ((modT x:Nat):Int)) ?_
  walk_at "go"
  refine ⟨_,_,_,.none,.int _,.none,sub_lst (.fr _),gi_lst_slc (.fr _) (by simp) (by simp [intV];walk_at "l") ?_⟩
  rw [show (picks none (some (60:Int)) none (intV xs).length).filterMap ((intV xs)[·]?)=intV (xs.take 60) from (picks_take (intV xs) 60).trans (List.map_take ..).symm]
  walk_at "go"
  refine ⟨_,_,_,.int _,.none,.int _,sub_lst (.fr _),gi_lst_slc (.fr _) (by simp) (by simp [intV];walk_at "l") ?_⟩
  rw [get_map,show (intV (xs.take 60)).length=(xs.take 60).length from List.length_map _,show (picks (some (k:Int)) none (some 7) (xs.take 60).length).filterMap ((xs.take 60)[·]?)=selK xs k from rfl]
  have hsl:=sel_len xs k
  refine ⟨selK xs k,.lst _,by walk_at "l", fun x hx=>⟨tgt_name (by kernel_rfl),by kernel_rfl,fun D acc hD=>?_⟩,?_⟩
  ·simp only [List.cons_append,List.nil_append]
   walk_at "go"
   ·exact ⟨congrArg V.int (modT_eq x).1,rfl⟩
   ·decide
   ·decide
   ·decide
   ·decide +kernel
  walk_at "go"
  refine bn_sum (xs:=(selK xs k).map modT) (by simpa [natV,Function.comp_def] using LV.fr _) ?_
  walk_at "go"
  exact ⟨rfl,rfl⟩
 rw [show (List.range 7).map (fun k=>V.int ((cellN xs k:Nat):Int))=natV (cellL xs) by simp [natV,cellL,Function.comp_def]]
 have hcl:=cellL_len xs
 have hclt:=cellL_lt xs
 generalize cellL xs=cs at hcl hclt ⊢
 walk_at "go"
 refine st_assignT ?_ (by intro _;rfl) (by intro _;rfl) (by intro env h1 h2;obtain ⟨⟨_,_,_,_⟩,_,_,_,_,_,_,_,_⟩:=env;dsimp only at h1 h2;subst h1 h2;kernel_rfl)
 walk_at "go"
 refine gn_lst (i:=0) (.fr _) (natV_get (by rw [hcl];decide)) (by rw [List.length_map];walk_at "l") ?_
 walk_at "go"
 refine cs__law_ring (by decide) (hclt 0 (by decide)) fun r hr1 hr12=>?_
 walk_at "go"
 refine gn_lst (i:=1) (.fr _) (natV_get (by rw [hcl];decide)) (by rw [List.length_map];walk_at "l") ?_
 walk_at "go"
 have hway:=Nat.mod_lt (cs.getD 1 0 / 192) (show 4 > 0 by decide)
 generalize cs.getD 1 0 / 192 % 4=way at *
 refine gn_lst (i:=1) (.fr _) (natV_get (by rw [hcl];decide)) (by rw [List.length_map];walk_at "l") ?_
 walk_at "go"
 refine gn_lst (i:=1) (.fr _) (natV_get (by rw [hcl];decide)) (by rw [List.length_map];walk_at "l") ?_
 walk_at "go"
 refine ite_joinE (.int ((if cs.getD 1 0 / 24 % 8=7 then 600 else 0:Nat):Int)) (fun h=>?_) (fun h=>?_) ?_
 ·rw [if_pos (by simpa using h)]
  walk_at "go"
  exact ⟨rfl,rfl⟩
 ·rw [if_neg (by simpa using h)]
  walk_at "go"
  exact ⟨rfl,rfl⟩
 have hx6:(if cs.getD 1 0 / 24 % 8=7 then 600 else 0)≤600:=by split<;>decide
 have h24:=Nat.mod_lt (cs.getD 1 0) (show 24 > 0 by decide)
 generalize (if cs.getD 1 0 / 24 % 8=7 then 600 else 0)=x6 at *
 generalize cs.getD 1 0 % 24=x24 at *
 generalize hK:Cont lawK _ (RetQ _)=KK
 walk_at "go"
 subst hK
 refine cont_next (ExP.has (law_b (w:=2 + x24 + x6) hcl hclt (fun e=>by rw [e] at hr1;exact absurd hr1 (by decide)) hr12 (by walk_at "l") (by lia) hway fun σ' hs=>?_) (by walk_at "has"))
 exact ⟨hs,_,.same _ (by intro a e;cases e),q⟩
end
end Mine
section
open PySem PySem.W PyProof.Rows
namespace Mine
noncomputable section
noncomputable abbrev lawIx:Nat:=27
noncomputable def qV:Program:={ PR with main:={ PR.main with body:=[stm lawIx] } }
noncomputable def looseV:List Str:=PR.boundNames.filter (· != ("law" : Str))
noncomputable def xtV (s:Shared):Bool:=xlAt qV [] s && recOk [] s
theorem open_eq:opening PR=plainProg PR.main.scope.names:=by kernel_rfl
theorem fence_eq (s:Shared):fenceModules? PR s=some s:=by kernel_rfl
theorem look_size:∀ w:World,((boot_heap w.params).isNs mainGlobals && (⟨[]⟩:Array GenState).size == 0,(boot_heap w.params).objs.size,(boot_heap w.params).nsMap mainGlobals "__annotations__")=(true,11,tAnn):=by intro w;kernel_rfl
theorem look_1:∀ w:World,(fun os:OsState=>(staticsOk (importedModules PR.main.body) (boot_heap w.params) (endHeap w.params) && namesBound PR (endHeap w.params) && gensDone ⟨endHeap w.params,⟨[]⟩,{},2441,os⟩ && laidKept (boot_heap w.params) (endHeap w.params)))=fun _=>true:=by intro w;kernel_rfl
theorem look_2:∀ w:World,(fun os:OsState=>openSeen qV looseV (importedModules PR.main.body) xtV true ⟨endHeap w.params,⟨[]⟩,{},2441,os⟩)=fun _=>openGood qV looseV:=by
 rw [show @openSeen=@PySem.W.Fast.tw4187177175401517315 from PySem.W.Fast.te4187177175401517315]
 intro w;kernel_rfl

theorem left_law:LeftO PR qV looseV xtV (fun s=>s.heap) (fun w=>endHeap w.params) 72090:=by
 have hM:endHeap=fun P=>absHeap (T_7 P) 229 {}:=rfl
 refine LeftO.of_pieces (H₀:=boot_heap) (H₁:=endHeap) (gs₀:=⟨[]⟩) (gs₁:=⟨[]⟩) (d₀:=boot_drawn) (d₁:={}) (k₀:=boot_toks) (k₁:=2441) (m₀:=11) (ann:=tAnn) (M:=72090)
  (boot_open open_eq rfl fence_eq) look_size (fun w os=>whole_run w os) rfl (fun w=>funext fun os=>?_)
 exact Prod.ext (congrFun (look_1 w) os) (Prod.ext (congrFun (look_2 w) os) rfl)
theorem said_law:OpenLaw.wellSaid PySem.Challenge.rw_rw0121_02=true:=by
 rw [show @OpenLaw.wellSaid=@PySem.W.Fast.tw9446332074065402090 from PySem.W.Fast.te9446332074065402090]
 kernel_rfl
set_option maxHeartbeats 4000000 in
theorem holds_of (d:DefRec) (kwd:List (Str×Expr)) (hd:defOf qV PySem.Challenge.rw_rw0121_02.row.name=some (d,kwd))
  (hp:PR.theDef PySem.Challenge.rw_rw0121_02.row.name=some (d.params,d.body,d.scope)) (hk:kwWritten? d.params.kwonlyargs d.params.kw_defaults=some kwd)
  (call:WalkX qV looseV (XL qV []) (fun s=>s.heap) (fun w=>endHeap w.params) PySem.Challenge.rw_rw0121_02.row.toRowW d kwd fun f vs=>PySem.call f vs):PySem.Challenge.rw_rw0121_02.Holds:=by
 refine holds_law said_law fun said=>?_
 refine holds_openX (q:=qV) (loose:=looseV) (Xt:=xtV) (XP:=XL qV []) (Yf:=fun s=>s.heap) (Ya:=fun w=>endHeap w.params) (d:=d) (kwd:=kwd) (N:=72090) left_law (fun s e=>xl_of s (Bool.and_eq_true_iff.mp e).1) XL.keeps hd hp hk (fun s e=>recFacts_of (Bool.and_eq_true_iff.mp e).2) (by rfl) (by assumption) (by decide +kernel) ⟨rfl,rfl,rfl,rfl,rfl,by decide +kernel⟩ ?hw call
 case hw=>w_witness2
end
end Mine
end
namespace Mine
noncomputable section
noncomputable def dkV:DefRec×List (Str×Expr):=match defOf qV PySem.Challenge.rw_rw0121_02.row.name with | some x=>x | none=>⟨⟨"", default,[],default,default⟩,[]⟩
theorem dk_eq:defOf qV PySem.Challenge.rw_rw0121_02.row.name=some (dkV.1,dkV.2):=by kernel_rfl
theorem dk_the:PR.theDef PySem.Challenge.rw_rw0121_02.row.name=some (dkV.1.params,dkV.1.body,dkV.1.scope):=by kernel_rfl
theorem dk_kw:kwWritten? dkV.1.params.kwonlyargs dkV.1.params.kw_defaults=some dkV.2:=by kernel_rfl
theorem dk_name:dkV.1.name=("law" : Str):=by kernel_rfl
theorem size_ok:∀ P:Params,((endHeap P).objs.size,((endHeap P).get? (hsize - 1)).isSome)=(hsize,true):=by intro P;kernel_rfl
theorem tabs_ok:∀ P:Params,(tabL.map fun t=>(endHeap P).get? t)=tabL.map fun _=>some (tabObj #[]):=by intro P;kernel_rfl
theorem tab_at (P:Params) {t:Addr} (h:t∈tabL):(endHeap P).get? t=some (tabObj #[]):=by
 have e:=tabs_ok P
 rw [List.map_inj_left] at e
 exact e t h
theorem gv_law:∀ P:Params,(endHeap P).nsMap mainGlobals "law" = some (.ref A_law):=by intro P;kernel_rfl
theorem ns_uniq {h:Heap} {a:Addr} {m m':Str→Option Value} (h1:h.Ns a m) (h2:h.Ns a m') (x:Str):m x=m' x:=by
 obtain ⟨o,es,ep,e,d,_,f⟩:=h1
 obtain ⟨o',es',ep',e',d',_,f'⟩:=h2
 (first | obtain rfl:=Option.some.inj (e.symm.trans e') | exact absurd (e.symm.trans e') (Option.some_ne_none _) | exact absurd (e.symm.trans e').symm (Option.some_ne_none _) | exact (datN (e.symm.trans e') rfl).elim | (rw [e] at e';cases e'))
 (first | obtain rfl:=Option.some.inj (d.symm.trans d') | exact absurd (d.symm.trans d') (Option.some_ne_none _) | exact absurd (d.symm.trans d').symm (Option.some_ne_none _) | exact (datN (d.symm.trans d') rfl).elim | (rw [d] at d';cases d'))
 rw [← f x,← f' x]
noncomputable def noneS:Store:=fun _=>none
theorem inv0 {s₁:Shared} (k:∀ b o,C.h1.get? b=some o→s₁.heap.get? b=some o) (hg:s₁.gens=#[]) (ho:s₁.os=C.os):Inv noneS s₁ where
 base:=fun a o e _=>k a o e
 top:=by
  have e:=size_ok C.w.params
  obtain ⟨e1,e2⟩:=Prod.mk.inj e
  obtain ⟨o,ho⟩:=Option.isSome_iff_exists.mp e2
  rw [B.h1,e1]
  exact ⟨o,ho,B.nt,by decide⟩
 own:=fun a o e=>by cases e
 tabLt:=fun n hn=>by
  rw [B.h1,(Prod.mk.inj (size_ok C.w.params)).1]
  have:n.table∈tabL:=List.mem_map.mpr ⟨n,B.nest ▸ hn,rfl⟩
  exact (by decide:∀ t∈tabL,t < hsize) _ this
 tabs:=fun n hn=>by
  have:n.table∈tabL:=List.mem_map.mpr ⟨n,B.nest ▸ hn,rfl⟩
  refine ⟨#[],k _ _ (B.at (tab_at _ this)),?_,fun d hd cv hc=>?_⟩
  ·trivial
  ·cases hc
 gens:=hg.trans B.gens.symm
 os:=ho
theorem rels_ints {σ:Store} {h:Heap} {vs:List Value} {ns:List Int} (r:IntsAre vs ns):Rels σ h vs (intV ns):=by
 induction r with
 | nil=>exact .nil
 | cons n t _ ih=>exact .cons (.int n t) ih
theorem law_at:LawAt C:=by
 refine ⟨fun n hn=>(B.ok3.heads n hn).1,fun s a n its ns ho hg hk hobj hI hat hc=>?_⟩
 have I:=inv0 hk hg ho
 have hra:Rel noneS s.heap (.ref a) (.lst (intV ns)):=by
  refine .lst (items:=its) hobj rfl (fun hm=>?_) (rels_ints hI)
  have h1:=(by decide:∀ t∈tabL,t < hsize) a (by rw [← B.tabs];exact hm)
  exact absurd h1 (Nat.not_lt.mpr hat)
 rw [← B.prog]
 refine cs_law (d:=120) (Nat.le_refl _) (xs:=ns) (by walk_at "l") (σ:=noneS) (Q:=fun v _=>v=.bool true) rfl callerA s (.ref A_law) [.ref a] ⟨rfl,by decide,by decide⟩ I (.raw _) (.cons hra .nil) _ ?_
 rintro v pv σ' s' rfl i' e' r'
 cases r'
 refine ⟨rfl,i'.os,i'.gens.trans B.gens,fun b o hb ht=>e'.keep b o hb rfl ht,fun n hn=>?_⟩
 obtain ⟨ps,hps,_⟩:=i'.tabs n hn
 exact ⟨ps,hps⟩
set_option tactic.hygienic true in
theorem claim_proved:PySem.Challenge.rw_rw0121_02.Holds:=by
 refine holds_of dkV.1 dkV.2 dk_eq dk_the dk_kw ?_
 intro w s₀ s₁ mg mb G Y fa o pm cd doc dV kV ho hd hcd hD hmg hg args vals as hL hpre hlay hrd hwl hlo
 rw [dk_name] at hmg
 have Y:s₀.heap=endHeap w.params:=Y
 refine bc fun hbc=>?_
 wrow_args hpre hlay hrd hwl hlo
 rename_i ns hs hlay0 hLb hrb hl2 as4 as3 a its as0 hIs ra w1 r0 hI hr hc63 hcT
 refine hbc ?_
 clear hbc
 have k:∀ b o,(endHeap w.params).get? b=some o→s₁.heap.get? b=some o:=fun b o e=>hL.keeps b o (by rw [Y];exact e)
 have hfa:fa=A_law:=by
  have h1:s₁.heap.Ns mainGlobals ((endHeap w.params).nsMap mainGlobals):=(by obtain ⟨o,es,ep,ho,q⟩:=Heap.Ns.of_isNs (Prod.mk.inj (ns_ok w.params)).1;exact ⟨o,es,ep,k _ _ ho,q⟩)
  have h2:=ns_uniq G.T.g h1 "law"
  rw [hmg,gv_law] at h2
  injection h2 with h2
  injection h2
 have hobj:=X.script_obj hL hIs
 have hat:=(X.script_at hL).1
 obtain ⟨hH,W⟩:=law_all law_at (c:=baseC w s₁.os) ⟨rfl,rfl,rfl,rfl,rfl,rfl⟩
 rw [hfa]
 refine wpAny_mono (W s₁ a _ its ns rfl hg k hobj hI (by rw [hat,Y,(Prod.mk.inj (size_ok w.params)).1];exact Nat.le_refl _) (by lia)) ?_ fun _ _ x=>x.elim
 rintro v s' ⟨rfl,hos,hge,hkeep,htab⟩
 refine ⟨.inl ⟨.bool true,.bool true,[],rfl,fun cls=>?_,.bool true,?_,fun _=>⟨.nil,fun a h=>by cases h⟩⟩,?_,hos,?_⟩
 ·rfl
 ·wrow_post
 ·refine ⟨fun b o hb=>?_,fun b o hb=>?_⟩
  ·by_cases ht:b∈(baseC w s₁.os).tabs
   ·obtain ⟨n,hn,rfl⟩:=List.mem_map.mp ht
    have hT:n.table∈tabL:=List.mem_map.mpr ⟨n,hn,rfl⟩
    obtain ⟨ps,hps⟩:=htab n hn
    have h0:=k _ _ (tab_at w.params hT)
    rw [hb] at h0
    cases h0
    obtain ⟨oc,vs,_,_,_,_,_,_,_,c1,c2,c3,c4,_⟩:=hH n hn
    refine .inr (.inl ⟨⟨n.code,oc,vs,k _ _ c1,c2,c3,c4⟩,rfl,#[],ps,rfl,?_⟩)
    rw [hps];simp
   ·exact .inl (hkeep b o hb ht)
  ·by_cases ht:b∈(baseC w s₁.os).tabs
   ·obtain ⟨n,hn,rfl⟩:=List.mem_map.mp ht
    obtain ⟨ps,hps⟩:=htab n hn
    exact ⟨_,hps⟩
   ·exact ⟨o,hkeep b o hb ht⟩
 ·exact .of_eq hge
end

end Mine
end
theorem PySem.Challenge.cw_rw0121_02_holds : PySem.Challenge.rw_rw0121_02.Holds := by
 exact Mine.claim_proved
