import PyProof.Rows.All
import Wide.All
import OpenK.AllK
import Wide.FinOn
import OpenK.ZHead
import KE.KUnpack
import PyProof.ExcFactsAll.ZeroDivisionError
import PyProof.ExcStrAll.ZeroDivisionError
import Lean
import PySem.Challenge.RW_rw0121_01
set_option Elab.async false
set_option maxRecDepth 100000
set_option linter.all false
set_option maxHeartbeats 4000000
set_option compiler.extract_closed false
set_option genSizeOf false
set_option genInjectivity false
set_option genCtorIdx false
set_option bootstrap.genMatcherCode false
set_option tactic.hygienic false
noncomputable section
open Nat renaming le_trans→aa,lt_of_le_of_lt→ae,lt_of_lt_of_le→an,le_refl→av,le_of_lt→aF,two_pow_pos→aJ,le_add_right→aM,mul_le_mul_left→aO,add_comm→aQ,add_le_add→aX,lt_or_ge→aZ,zero_le→ba,mod_lt→bg,pow_le_pow_right→bh,min_eq_left→bl,add_sub_cancel'→bn,mul_comm→bo,add_le_add_right→bp,le_mul_of_pos_left→bu,lt_succ_self→bv,sub_add_cancel→bx,add_sub_cancel_left→bB,pow_add→bC,ne_of_gt→bE,add_le_add_left→bF,sub_le→bK,eq_zero_or_pos→bL,le_antisymm→bM,add_assoc→bN,sub_eq_zero_of_le→bQ,add_right_comm→bS,mul_one→bU,mul_add→bV,mod_eq_of_lt→bY,min_le_right→bZ,not_lt→b7,div_lt_iff_lt_mul→b9,add_sub_cancel→cb,ne_of_lt→ce,mul_le_mul_right→cg,zero_lt_of_lt→ci,le_add_left→cm,sub_self→cw,lt_trans→cz,le_of_eq→cA,lt_irrefl→cB,div_add_mod→cD,le_total→cE,le_succ_of_le→cF,le_succ→cG,le_one_iff_eq_zero_or_eq_one→cH,le_of_lt_succ→cI,add_zero→cJ,min_eq_right→cM,mul_lt_mul_of_pos_right→cU,mul_le_mul→cV,mod_two_eq_zero_or_one→cW,div_eq_of_lt→cY,lt_of_add_lt_add_left→cZ,add_lt_add_left→c7,pos_of_ne_zero→dh,zero_add→dq,div_div_eq_div_mul→du,le_of_sub_eq_zero→dy,add_mul→dD,succ_pos→dK,sub_zero→dL,one_pos→dT,one_mul→dU,succ_le_succ→dZ,lt_of_not_le→d4,div_add_mod'→d5,dvd_of_mod_eq_zero→d8,mul_add_div→ek,div_le_self→em,eq_of_testBit_eq→eC,gcd→eE,mul_assoc→eI,not_le→eO,pow_zero→eW,mul_succ→eX,succ_ne_zero→fg,testBit_xor→fi,strongRecOn→fj,mul_add_mod→fk,two_pow_add_eq_or_of_lt→fm,lt_add_of_pos_right→fA,zero_sub→fC,zero_mod→fD,pow_succ→fE,mul_zero→fF,lt_of_succ_lt_succ→fG,lt_add_of_pos_left→fH,le_of_succ_le_succ→fJ,eq_zero_of_not_pos→fK,le_of_ble_eq_true→fM,le_div_iff_mul_le→fN,two_mul→fU,sub_le_sub_right→fV,sub_le_of_le_add→fW,log2_lt→fX,le_add_of_sub_le→fY,div_le_div_right→fZ,add_right_cancel→f0,sub_lt_sub_left→gg,div_mul_le_self→gh,sub_lt→gu,lt_of_le_of_ne→gw,sub_pos_of_lt→gz,add_mod_left→gG,testBit_and→gM,not_lt_zero→gN,min_le_left→gO,mul_div_le→gT,mod_self→gZ,min_self→g7,sub_sub→hY,sub_mul→ia,pow_pos→ib,add_mod→ic
open List renaming length_append→af,length_map→ag,mem_cons_of_mem→ai,getD_eq_getElem?_getD→aj,getElem?_eq_getElem→ak,mem_cons→am,mem_cons_self→ao,cons_append→ar,exists_cons_of_length_eq_add_one→au,nil_append→aw,length_cons→ax,append_assoc→ay,mem_map→aA,replicate→aC,append_nil→aE,take_of_length_le→aG,length_range→aH,getElem?_map→aN,length_take→aP,lookup_cons→aS,range→aT,map_append→aU,take_succ_eq_append_getElem→aY,contains_iff_mem→a8,all_eq_true→a9,mem_append→bb,getElem?_eq_none→bd,map_cons→be,getElem?_append_right→bf,mem_nil_iff→bj,length_drop→bk,getElem_mem→bq,mem_singleton→br,mem_append_right→bz,eq_nil_of_length_eq_zero→bA,getElem?_eq_some_iff→bG,getElem?_append_left→bH,drop_eq_getElem_cons→bI,getElem?_range→bO,flatMap_append→bP,mem_range→bR,flatten_cons→bT,length_filter_le→bW,suffix_cons→bX,map_map→b0,map_congr_left→b8,flatMap_cons→ch,nodup_cons→cj,length_eq_one_iff→cq,drop_eq_nil_of_le→cu,take_length→cC,take_succ_cons→cL,take_append_of_le_length→cO,getElem?_take→cP,length_nil→cQ,mem_map_of_mem→c5,filter_eq_self→c6,forIn_cons→c8,find?_cons→c9,zip_cons_cons→df,take_zero→dj,tail_drop→dk,map→dl,take_append_drop→dw,mem_reverse→dz,length→dA,drop_eq_nil_iff→dB,mem_filter→dE,replicate_succ→dG,length_reverse→dH,filterMap_cons→dI,drop_succ_cons→dJ,filterMap_nil→dO,reverse_cons→dR,sum_cons→dW,suffix_refl→dY,range_succ_eq_map→d6,filter_eq_nil_iff→d7,range_succ→ef,of_mem_zip→eg,head?_drop→eh,length_replicate→eo,mem_of_mem_take→ey,mem_of_getElem?→ez,drop_zero→eA,map_take→eG,filterMap_map→eJ,size_toArray→eT,nodup_append→eU,drop_sublist→eV,map_reverse→eZ,isEmpty_nil→e7,getElem_map→e8,flatMap_nil→fb,flatMap_map→fc,flatMap_def→fe,drop_suffix→ff,count_cons→fh,exists_cons_of_ne_nil→fq,extract_eq_take_drop→ft,take_append_getElem→fu,length_eq_zero_iff→fx,drop→fy,dropWhile_sublist→fB,filterMap_append→fL,replicate_succ'→fO,mem_of_mem_drop→fP,mem_append_left→fQ,extract_toArray→fR,contains_eq_mem→fS,reverse_append→ga,getElem_of_mem→gb,dropWhile_cons→gc,zip_nil_right→gi,pairwise_cons→gj,getElem?_drop→gm,filter_append→gn,push_toArray→gx,range'_succ→gA,mem_flatMap→gB,filter_cons→gC,cons_ne_nil→gE,foldl_cons→gH,drop_drop→gP,take_add→gU,map_nil→gW,map_id'→gX,flatMap→gY,take→ig
open Option renaming some_ne_none→al,getD_none→cK,none→cT,map_eq_some_iff→di,isSome_iff_exists→dQ,getD_some→dS,map_some→eY
open Option.some renaming inj→aq
open Nat.succ renaming inj→az
open Int renaming natCast_nonneg→aB,toNat_natCast→bw,natAbs_natCast→bD,eq_ofNat_of_zero_le→cN,fdiv_eq_ediv_of_nonneg→cX,ofNat_le→dM,fmod_eq_emod_of_nonneg→dP,fmod_nonneg_of_pos→ei,natCast_add→et,mul_fdiv_add_fmod→eu,natAbs_neg→eD,ofNat_sub→eK,fmod_lt_of_pos→eQ,ediv_emod_unique→gf,toNat_of_nonneg→gq,neg_fdiv_neg→gJ,natCast_mul→gQ,le_antisymm→gR,ediv_nonneg→gS,mul_comm→g8,lt_trans→hU,add_comm→hV,neg_neg→ie,ofNat→ii
open Bool renaming and_eq_true→aV,false_eq_true→bJ,false_ne_true→ca,not_eq_true'→cR,or_eq_true→de,false_and→dm,and_eq_true_iff→dC,true_and→dX,and_false→eB,and_true→eH,or_eq_false_iff→fT,eq_false_iff→gy,not_eq_true→gF,eq_iff_iff→gK,false_or→gV
namespace Internal
theorem bc {p:Prop} (h:¬ ¬ p):p:=Classical.byContradiction h
end Internal
section
open PySem PySem.W PyProof.Rows PySem.Calls
set_option compiler.extract_closed false
namespace Internal
section
open Lean (Syntax Name mkIdent)
 def xA (s:String):Syntax:=.atom .none s
 def xK:List Syntax→Syntax
 | k :: c=>.node .none k.getId ⟨c⟩
 | []=>.missing
 def xW (a:List Syntax) (w:String):Syntax:=
 let r:=(w.drop 1).toString
 if w.startsWith "'" then xA r
 else if w.startsWith "%" then a.getD r.length .missing
 else mkIdent ((w.replace "T." "Lean.Parser.Tactic.").replace "S." "Lean.Parser.Term.").toName
 -- words to a tree: what a bracket closes is made by k, a word by t
 def xB (k:List Syntax→Syntax) (t:String→Syntax) (ws:List String):List Syntax:=
 (ws.foldl (fun (st:List (List Syntax)) w=>if w == "(" then [] :: st else
  let l:=st.headD []
  let r:=st.drop 1
  if w == ")" then (k l.reverse :: r.headD []) :: r.drop 1 else (t w :: l) :: r) [[]]).headD []
 def xM (s:String) (a:List Syntax):Syntax:=(xB xK (xW a) (s.splitOn " ")).headD .missing
 def xS (l:List Syntax):Syntax:=xM "( T.tacticSeq ( T.tacticSeq1Indented % ) )" [.node .none `null ⟨(l.flatMap fun a=>[a,xA ";"]).dropLast⟩]
 def xGo (k:String):Syntax:=xM "( PyProof.Rows.tacticWalk_at_ 'walk_at % )" [Syntax.mkStrLit k]
 def xT (n:Name) (w:String):Syntax:=
 let r:=(w.drop 1).toString
 if w == "_" then xM "( S.hole '_ )" []
 else if w == "?_" then xM "( S.syntheticHole '? '_ )" []
 else if w.startsWith "?" then xM "( S.syntheticHole '? % )" [mkIdent (.str n r)]
 else if w.startsWith "@" then xM "( S.byTactic 'by % )" [xS [xGo r]]
 else if w.startsWith "'" then Syntax.mkStrLit (r.dropEnd 1).toString
 else mkIdent w.toName
 def Be:List Syntax→Syntax
 | [a]=>a
 | f :: r=>xM "( S.app % %% )" [f,.node .none `null ⟨r⟩]
 | []=>.missing
 def xP (n:Name) (ws:List String):Syntax:=Be (xB Be (xT n) ws).reverse
 def EO (n:Name) (p:String):Syntax:=
 let l:=p.splitOn " "
 let k:=l.headD ""
 let ws:=l.drop 1
 let a:=ws.headD ""
 if k == "go" then xGo a
 else if p == "intros" then xM "( T.intros 'intros ( null ) )" []
 else if k == "rot" then xM (if a == "1" then "( T.rotateLeft 'rotate_left ( null ) )" else "( T.rotateLeft 'rotate_left ( null % ) )") [Syntax.mkNumLit a]
 else if k == "case" then xM "( T.case 'case ( null ( T.caseArg ( Lean.binderIdent % ) ( null ) ) ) '=> %% )" [mkIdent (.str n a),xS [xGo (ws.getD 1 "")]]
 else if k == "show" then xM "( T.failIfSuccess 'fail_if_success % )" [xS [xM "( T.failIfSuccess 'fail_if_success % )" [xS [xM "( T.withReducible 'with_reducible % )" [xS [xM "( T.show 'show % )" [xP n ws]]]]]]]
 else if k == "go1" then xM "( T.focus 'focus % )" [xS [xGo a]]
 else if k == "d" then xM "( T.refine 'refine % )" [xP n ws]
 else xM "( T.withReducible 'with_reducible % )" [xS [xM "( T.refine 'refine % )" [xP n l]]]
 def FW (k:String) (ls:List String):Option String:=(ls.find? (·.startsWith k)).map fun l=>(l.drop k.length).toString
 def FX (n:Name) (e:String):Syntax:=if e.startsWith "# " then xM (e.drop 2).toString [] else xM "( T.first 'first % )" [.node .none `null ⟨(e.splitOn " | ").map fun a=>xM "( group '| % )" [xS ((a.splitOn " ; ").map (EO n))]⟩]
 def xRw (r:Syntax):Syntax:=
 let t:=r.getArg 1
 let h:=xM "( S.hole '_ )" []
 let f u:=xM "( group '| % )" [xS [xM "( T.withReducible 'with_reducible % )" [xS [xM "( T.refine 'refine ( S.app %% ( null % ( S.syntheticHole '? '_ ) ) ) )" [u,mkIdent (if (r.getArg 0).getNumArgs == 0 then `Internal.rw1 else `Internal.rw2)]]]]]
 xM "( T.first 'first ( null % %% %%% ( group '| ( T.tacticSeq ( T.tacticSeq1Indented ( null ( T.rewriteSeq 'rewrite ( T.optConfig ( null ) ) ( T.rwRuleSeq '[ ( null %%%% ) '] ) ( null ) ) ) ) ) ) ) )" [f t,f (Be [t,h]),f (Be [t,h,h]),r]
 def FV (l:List Syntax):Syntax:=xM "( T.paren '( % ') )" [xS (l.map xRw++[xM "( T.tacticTry_ 'try ( T.tacticSeq ( T.tacticSeq1Indented ( null ( T.withReducible 'with_reducible ( T.tacticSeq ( T.tacticSeq1Indented ( null ( T.tacticRfl 'rfl ) ) ) ) ) ) ) ) )" []])]
 def aR:Lean.Syntax:=xS [xGo "R"]
 def aD:Lean.Syntax:=xS [xGo "D"]
 def aL:Lean.Syntax:=xS [xGo "l"]
 def aI:Lean.Syntax:=xS [xGo "I"]
 def aK:Lean.Syntax:=xS [xGo "DK"]
 def aW:Lean.Syntax:=xS [xGo "W"]
end
@[elab_as_elim] theorem rw1.{u} {α:Sort u} {a b:α} {P:α→Prop} (h:a=b) (k:P b):P a:=h ▸ k
@[elab_as_elim] theorem rw2.{u} {α:Sort u} {a b:α} {P:α→Prop} (h:b=a) (k:P b):P a:=h ▸ k
theorem Bn {n i:Nat} (h:i < n):n - i=n - (i + 1) + 1:=(bx (gz h)).symm
theorem zj {L M R:Nat} (h1:L≤M) (h2:M≤R):M - L + (R - M)=R - L:=(aQ _ _).trans (Nat.sub_add_sub_cancel h2 h1)
theorem Fb {r m:Nat} (h:r + 1≤m):min 1 r + (r - 1)≤m:=aa (aX (gO 1 r) (bK r 1)) (aQ 1 r ▸ h)
theorem D4 {a r m:Nat} (h:a + (r + 1)≤m):a + min 1 r + (r - 1)≤m:=aa (bN a (min 1 r) (r - 1) ▸ bF (k:=a) (Fb (av _))) h
theorem EV {P:Nat} (h:0 < P):P - 1 < P:=gu h (by decide)
theorem le2 {a b c:Nat} (h:b≤c) (k:a≤b):a≤c:=aa k h
theorem lt2 {a b c:Nat} (h:b≤c) (k:a < b):a < c:=an k h
theorem ne2 {a b:Nat} (h:a≤b) (k:0 < a):b≠0:=bE (an k h)
theorem Ia.ifn {p q:Prop} {c:Prop} [Decidable c] (h:¬ c) (k:q):if c then p else q:=by rw [if_neg h];exact k
theorem Ia.ifp {p q:Prop} {c:Prop} [Decidable c] (h:c) (k:p):if c then p else q:=by rw [if_pos h];exact k
theorem Ib.ifn {M:Model} {A:Around} {α:Type} {x y:Sem α} {Q:α→Shared→Prop} {E:Value→Shared→Prop} {s:Shared} {c:Prop} [Decidable c] (h:¬ c) (k:wpAny M A y Q E s):wpAny M A (if c then x else y) Q E s:=by rw [if_neg h];exact k
theorem Ib.ifp {M:Model} {A:Around} {α:Type} {x y:Sem α} {Q:α→Shared→Prop} {E:Value→Shared→Prop} {s:Shared} {c:Prop} [Decidable c] (h:c) (k:wpAny M A x Q E s):wpAny M A (if c then x else y) Q E s:=by rw [if_pos h];exact k
 abbrev gaF (a:Str) (b:Bool):Value→Sem Value:=fun o=>getAttr o a b
end Internal
end
open Internal
/- the walker: a row of alternatives for each key, told as text; « | » parts alternatives, « ; » the steps of one; a step is a term to refine by (reducibly; «d» ahead: by default), or show T, go KEY, case TAG KEY, rot N -/
local macro_rules | `(tactic| walk_at $s:str)=>do
 let key:=s.getString
 let tab := "A : # ( T.assumption 'assumption )\n\
u : # ( T.paren '( ( T.tacticSeq ( T.tacticSeq1Indented ( null ( T.refine 'refine ( S.app bc ( null ( S.syntheticHole '? '_ ) ) ) ) '; ( T.intro 'intro ( null hbc ) ) ) ) ) ') )\n\
v : # ( T.paren '( ( T.tacticSeq ( T.tacticSeq1Indented ( null ( T.refine 'refine ( S.app hbc ( null ( S.syntheticHole '? '_ ) ) ) ) '; ( T.clear 'clear ( null hbc ) ) ) ) ) ') )\n\
I : # ( T.paren '( ( T.tacticSeq ( T.tacticSeq1Indented ( null ( T.intros 'intros ( null ) ) '; ( T.tacticRfl 'rfl ) ) ) ) ') )\n\
E : # ( T.paren '( ( T.tacticSeq ( T.tacticSeq1Indented ( null ( T.intro 'intro ( null c e ) ) '; ( T.cases 'cases ( null ( T.elimTarget ( null ) e ) ) ( null ) ( null ) ) ) ) ) ') )\n\
R : # ( T.tacticRfl 'rfl )\n\
K : # ( tacticKernel_rfl 'kernel_rfl )\n\
K! : # ( PyProof.Rows.tacticKernel_rfl! 'kernel_rfl! )\n\
D : # ( T.decide 'decide ( T.optConfig ( null ) ) )\n\
DK : # ( T.decide 'decide ( T.optConfig ( null ( T.configItem ( T.posConfigItem '+ kernel ) ) ) ) )\n\
O : # ( T.paren '( ( T.tacticSeq ( T.tacticSeq1Indented ( null ( T.failIfSuccess 'fail_if_success ( T.tacticSeq ( T.tacticSeq1Indented ( null ( T.failIfSuccess 'fail_if_success ( T.tacticSeq ( T.tacticSeq1Indented ( null ( T.omega 'omega ( T.optConfig ( null ) ) ) ) ) ) ) ) ) ) ) '; ( PyProof.Rows.tacticWalk_at_ 'walk_at ( str '\"l\" ) ) ) ) ) ') )\n\
W : # ( T.withUnfoldingAll 'with_unfolding_all ( T.tacticSeq ( T.tacticSeq1Indented ( null ( T.tacticRfl 'rfl ) ) ) ) )\n\
sa : # ( T.paren '( ( T.tacticSeq ( T.tacticSeq1Indented ( null ( T.simp 'simp ( T.optConfig ( null ( T.configItem ( T.posConfigItem '+ arith ) ) ) ) ( null ) ( null 'only ) ( null '[ ( null ) '] ) ( null ) ) '; ( T.done 'done ) ) ) ) ') )\n\
L : # ( T.lia 'lia ( T.optConfig ( null ) ) )\n\
simp : # ( T.simp 'simp ( T.optConfig ( null ) ) ( null ) ( null ) ( null ) ( null ) )\n\
go : # ( T.tacticRepeat_ 'repeat ( T.tacticSeq ( T.tacticSeq1Indented ( null ( PyProof.Rows.tacticWalk_at_ 'walk_at ( str '\"s\" ) ) ) ) ) )\n\
start : # ( T.paren '( ( T.tacticSeq ( T.tacticSeq1Indented ( null ( T.Conv.conv 'conv ( null ) ( null ) '=> ( T.Conv.convSeq ( T.Conv.convSeq1Indented ( null ( T.Conv.arg 'arg ( T.Conv.argArg ( null ) ( null ) ( num '4 ) ) ) '; ( T.Conv.whnf 'whnf ) ) ) ) ) '; ( T.Conv.conv 'conv ( null ) ( null ) '=> ( T.Conv.convSeq ( T.Conv.convSeq1Indented ( null ( T.Conv.arg 'arg ( T.Conv.argArg ( null ) ( null ) ( num '2 ) ) ) '; ( T.Conv.simp 'simp ( T.optConfig ( null ) ) ( null ) ( null 'only ) ( null '[ ( null ( T.simpLemma ( null ) ( null ) pslots ) ', ( T.simpLemma ( null ) ( null ) List.map_cons ) ', ( T.simpLemma ( null ) ( null ) List.map_nil ) ', ( T.simpLemma ( null ) ( null ) List.cons_append ) ', ( T.simpLemma ( null ) ( null ) List.nil_append ) ', ( T.simpLemma ( null ) ( null ) List.append_nil ) ) '] ) ) ) ) ) ) ) ) ) ') )\n\
mem : List.mem_cons_self | mem1 | mem2 | mem3 | mem4 | mem5 | mem6 | mem7 | mem8 | List.mem_cons_of_mem _ ?_ ; go mem\n\
gdl : B.g__DIV_LIMIT\n\
gval : B.g__DIV_LIMIT | B.g__netrclex | B.g_b1_set | B.g_b3_exceptions | B.g__div2n1n | B.g__div3n2n | B.g__int2digits | B.g__digits2int | B.g__divmod_pos | B.g_int_divmod | B.g_in_table_b1 | B.g_map_table_b3 | B.g__law_letters | B.g__law_words | B.g__law_file | B.g__law_lexer | B.g__law_ticks | B.g__law_number | B.g__law_divided | B.g__law_read\n\
bval : B.b_len | B.b_range | B.b_divmod | B.b_list | B.b_sum | B.b_max | B.b_reversed | B.b_iter | B.b_ord | B.b_chr | B.b_str | B.b_ZeroDivisionError\n\
bnone : B.n_len | B.n_range | B.n_divmod | B.n_list | B.n_sum | B.n_max | B.n_reversed | B.n_iter | B.n_ord | B.n_chr | B.n_str | B.n_ZeroDivisionError\n\
keep : keep_builtin | keep_type | FnB.keep B.f__div2n1n | FnB.keep B.f__div3n2n | FnB.keep B.f__int2digits | FnB.keep B.f__digits2int | FnB.keep B.f__divmod_pos | FnB.keep B.f_int_divmod | FnB.keep B.f_in_table_b1 | FnB.keep B.f_map_table_b3 | FnB.keep B.f__law_letters | FnB.keep B.f__law_words | FnB.keep B.f__law_file | FnB.keep B.f__law_lexer | FnB.keep B.f__law_ticks | FnB.keep B.f__law_number | FnB.keep B.f__law_divided | FnB.keep B.f__law_read\n\
lv : LV.fr _ | LV.ow @A | go A\n\
has : d Has.nil | d Has.cons ?h ?t ; case h mem ; case t has\n\
swp : d swap_nil ?_ | d swap_cons ( stores_local @K! ) ( upd_mk ?_ ?_ ) ?_ ; rot 1 ; go rest ; go swp\n\
call : show CallV _ ( V.raw ( PySem.Value.builtin 'len' ) ) ( List.cons _ List.nil ) _ _ ; go len | bn_divmod ?_ ?_ ?_ ; rot 2 | bi_divmod ?_ ?_ ?_ ; rot 2 | bi_ord ?_ | bi_chr ?_ ?_ ; rot 1 | bi_range1 ?_ | bi_range2 ?_ | show CallV _ ( V.raw ( PySem.Value.builtin 'sum' ) ) ( List.cons _ List.nil ) _ _ ; bi_sum @lv ?_ | show CallV _ ( V.raw ( PySem.Value.builtin 'list.append' ) ) ( List.cons _ ( List.cons _ List.nil ) ) _ _ ; bi_append @A ?_ ?_ ; rot 1 | bi_find ?_ | bi_count ?_ | bi_lower ?_ ?_ ; rot 1 | bn_bitlen ?_ | bi_bitlen ?_\n\
len : bi_len_list @lv ?_ ?_ ; rot 1 | bi_len_str ?_ ?_ ; rot 1\n\
ev : show EvP _ _ _ ( PySem.Expr.Name _ _ ) _ ; go nam | show EvP _ _ _ ( PySem.Expr.Constant _ _ _ ) _ ; go con | ev_binQ ?_ | show EvP _ _ _ ( PySem.Expr.Compare _ ( List.cons _ List.nil ) ( List.cons _ List.nil ) _ ) _ ; ev_cmpQ ?_ | ev_unQ ?_ | ev_ifexpQ ?_ | ev_subQ ?_ | ev_slcQ ?_ | ev_callQ ?_ ?h1 ; case h1 I | ev_tupleQ ?_ ?h1 ; case h1 I | show EvP _ _ _ ( PySem.Expr.List ( List.cons _ _ ) _ ) _ ; ev_listQ ?_ ?h1 ; case h1 I | ev_attrQ ?_ ?h1 ; case h1 I | gm_read ?_ ; d ev_methF ?_ | ev_methQ meth_append ?_ ?h1 ?h2 ?h3 ?h4 ; case h1 I ; case h2 I ; case h3 R ; case h4 I | ev_methQ meth_bitlen ?_ ?h1 ?h2 ?h3 ?h4 ; case h1 I ; case h2 I ; case h3 R ; case h4 I | ev_methQ meth_find ?_ ?h1 ?h2 ?h3 ?h4 ; case h1 I ; case h2 I ; case h3 R ; case h4 I | ev_methQ meth_count ?_ ?h1 ?h2 ?h3 ?h4 ; case h1 I ; case h2 I ; case h3 R ; case h4 I | ev_methQ meth_lower ?_ ?h1 ?h2 ?h3 ?h4 ; case h1 I ; case h2 I ; case h3 R ; case h4 I | ev_methQ meth_lstrip ?_ ?h1 ?h2 ?h3 ?h4 ; case h1 I ; case h2 I ; case h3 R ; case h4 I | ev_methQ meth_pop ?_ ?h1 ?h2 ?h3 ?h4 ; case h1 I ; case h2 I ; case h3 R ; case h4 I | ev_methQ meth_reverse ?_ ?h1 ?h2 ?h3 ?h4 ; case h1 I ; case h2 I ; case h3 R ; case h4 I | ev_methQ meth_join ?_ ?h1 ?h2 ?h3 ?h4 ; case h1 I ; case h2 I ; case h3 R ; case h4 I\n\
nam : ev_name @mem ?_ | ev_nameC @mem @A ?_ | ev_globalI ( Ctx.Ok2.toOk B.ok2 ) @K @gdl ?_ | ev_global ( Ctx.Ok2.toOk B.ok2 ) @K @gval ?_ | ev_builtin ( Ctx.Ok2.toOk B.ok2 ) @K @bnone @bval ?_\n\
con : ev_int ?_ | ev_lit_e ?_ | ev_lit_bs ?_ | ev_lit_dq ?_ | ev_lit_nl ?_ | ev_lit_sp ?_ | ev_lit_h ?_ | ev_lit_p ?_ | ev_str ?_ | ev_bool ?_ | ev_none ?_\n\
st : st_ifQ ?_ | st_retQ ?_ | st_ret0 ?_ | st_brk ?_ | st_cont ?_ | show StP _ _ _ ( PySem.Stmt.Assign ( List.cons ( PySem.Expr.Name _ _ ) List.nil ) _ _ ) _ ; go sas | show StP _ _ _ ( PySem.Stmt.AugAssign ( PySem.Expr.Name _ _ ) _ _ _ ) _ ; st_augQ ( stores_local @K! ) @mem ?_ | st_exprQ ?_ ?h1 ; case h1 I | show StP _ _ _ ( PySem.Stmt.Assign ( List.cons _ List.nil ) _ _ ) _ ; go sa2\n\
sas : st_assignQ ?h1 ?_ ?h2 ; case h1 K! ; case h2 I\n\
sa2 : st_assign_swap ?_ ?h1 ?h2 ; case h1 I ; case h2 I | st_assignTQ ?_ ?h1 ?h2 ?h3 ; case h1 I ; case h2 I ; case h3 I\n\
ts : show TsP _ _ _ ( PySem.Expr.Compare _ ( List.cons _ List.nil ) ( List.cons _ List.nil ) _ ) _ ; ts_cmpQ ?_ | ts_and_nil ?_ | ts_or_nil ?_ | ts_andQ ?_ | ts_orQ ?_ | ts_valQ ?_ ?h1 ; case h1 I\n\
m2 : bn_add _ _ ?_ | bn_addL _ _ ?_ | bn_addR _ _ ?_ | show M2 _ ( binaryOp PySem.Operator.Sub ) _ _ _ _ ; go m2s | bn_mul _ _ ?_ ?_ ; rot 1 | bn_fdivL _ _ @D @D ?_ | bn_modL _ _ @D @D ?_ | bn_fdiv _ _ ?_ ?_ ?_ ; rot 2 | bn_mod _ _ ?_ ?_ ?_ ; rot 2 | bn_and1 _ ?_ | bn_and _ _ ?_ | bn_xor _ _ ?_ | bn_xorL _ _ ?_ | bn_or _ _ ?_ | bn_shr1 _ ?_ | in_shr1 _ ?_ | in_shl1 _ ?_ ?_ ; rot 1 | bn_shl _ _ ?_ ?_ ; rot 1 | bn_shlR _ _ ?_ ?_ ; rot 1 | bn_shr _ _ ?_ | bn_pow _ _ ?_ ?_ ; rot 1 | bn_powR _ _ ?_ ?_ ; rot 1 | in_add _ _ ?_ | in_addL _ _ ?_ | cn_eq _ _ ?_ | cn_eqL _ _ ?_ | cn_lt _ _ ?_ | cn_ltL _ _ ?_ | cn_le _ _ ?_ | cn_leL _ _ ?_ | cn_gt _ _ ?_ | cn_gtL _ _ ?_ | cmp_ ( Cmp.eq _ _ ) ?_ | cmp_ ( Cmp.ne _ _ ) ?_ | cmp_ ( Cmp.lt _ _ ) ?_ | cmp_ ( Cmp.le _ _ ) ?_ | cmp_ ( Cmp.gt _ _ ) ?_ | cmp_ ( Cmp.ge _ _ ) ?_ | cmp_ ( Cmp.seq _ _ ) ?_ | cmp_ ( Cmp.sne _ _ ) ?_ | cmp_ ( Cmp.isB _ _ ) ?_ | cmp_ ( Cmp.isntN_str _ ) ?_ | cmp_ Cmp.isntN_none ?_ | bin_ ( Bin.cat _ _ ?_ ) ?_ ; rot 1 | bin_ ( Bin.rep _ _ ?_ ?_ ) ?_ ; rot 2 | ibin_ ( Ibin.cat _ _ ?_ ) ?_ ; rot 1 | bin_ ( Bin.add _ _ ) ?_ | bin_ ( Bin.sub _ _ ) ?_ | bin_ ( Bin.and _ _ ) ?_ | bin_ ( Bin.or _ _ ) ?_ | bin_ ( Bin.xor _ _ ) ?_ | bin_ ( Bin.mul _ _ ?_ ) ?_ ; rot 1 | bin_ ( Bin.fdiv _ _ ?_ ?_ ) ?_ ; rot 2 | bin_ ( Bin.mod _ _ ?_ ?_ ) ?_ ; rot 2 | bin_ ( Bin.shl _ _ ?_ ?_ ) ?_ ; rot 2 | bin_ ( Bin.shr _ _ ?_ ) ?_ ; rot 1 | bin_ ( Bin.pow _ _ ?_ ?_ ) ?_ ; rot 2 | ibin_ ( Ibin.add _ _ ) ?_ | ibin_ ( Ibin.sub _ _ ) ?_ | ibin_ ( Ibin.shl _ _ ?_ ?_ ) ?_ ; rot 2 | ibin_ ( Ibin.shr _ _ ?_ ) ?_ ; rot 1\n\
m2s : bn_sub _ _ @O ?_ | bn_subL _ _ @O ?_\n\
as : show AsP _ _ _ ( PySem.Expr.Name _ _ ) _ _ ; go asn | show AsP _ _ _ ( PySem.Expr.Tuple _ _ _ ) _ _ ; go ast | as_item ?_\n\
asn : as_name ( stores_local @K! ) ( upd_mkN @K! ) ?_ | as_name ( stores_local @K! ) ( upd_mk ?_ ?_ ) ?_ ; rot 1 ; go rest | as_nameP @K! @mem @E ( upd_mkN @K! ) ?_ | as_nameP @K! @mem @E ( upd_mk ?_ ?_ ) ?_ ; rot 1 ; go rest | as_nameF @K! @mem ( upd_mkN @K! ) ?_ | as_nameF @K! @mem ( upd_mk ?_ ?_ ) ?_ ; rot 1 ; go rest\n\
ast : d as_tuple ?_ rfl | d as_tuple ?_ @simp\n\
s : show EvP _ _ _ _ _ ; go ev | show M2 _ _ _ _ _ _ ; go m2 | show StP _ _ _ _ _ ; go st | show TsP _ _ _ _ _ ; go ts | show CallV _ _ _ _ _ ; go call | show AsP _ _ _ _ _ _ ; go as | show Cont _ _ _ _ _ _ ; go cont | show M1 _ _ _ _ _ ; go m1 | show M1B _ _ _ _ ; go m1b | show ExP _ _ _ _ _ ; go ex | show EvsP _ _ _ _ _ ; go evs | upd_asgN @K! ?_ | upd_asg ?_ ?_ ?_ ; rot 1 ; go rest | tbQ ?_ | tsb ?_ | q_sif ?_ | q_ife ?_ | q_and ?_ | q_or ?_ | retq_ret ?_ | retq_next ?_ | turnk_next ?_ | turnk_brk ?_ | ass_consQ ?_ | ass_nil ?_ | ifs_nil' ?_ | ifs_cons' ?_ | evo_none ?_ | evo_some ?_ | ite_true' ?_ | ite_false' ?_ | show And ( KeepOk _ _ ) _ ; And.intro @keep ?_ | show And ( TyOf _ _ _ ) _ ; go ty | show And ( SubTy _ _ ) _ ; go sub | len_1 ?_ | len_2 ?_ | len_3 ?_ | len_4 ?_ | len_5 ?_ | len_8 ?_\n\
cont : cont_next ?_ | cont_ret ?_ | cont_brk ?_ | cont_cont ?_\n\
m1 : show M1 _ ( unaryOp _ ) _ _ _ ; go un | show M1 _ _ _ _ _ ; go lex\n\
un : un_ ( Un.neg _ ) ?_ | un_ ( Un.inv _ ) ?_ | un_ ( Un.notB _ ) ?_\n\
lex : lex_lineno @A ?_ | lex_instream @A ?_ | lex_whitespace @A ?_ | lex_pushback @A ?_\n\
m1b : tn_int ?_ | tb_int ?_ | tb_bool ?_ | tb_lst @lv ?_ ?_ ; rot 1\n\
ex : ex_cons ?_ | ex_nil ?_\n\
evs : evs_consQ ?_ | evs_nil ?_\n\
q : q_sif ?_ | q_ife ?_ | q_and ?_ | q_or ?_\n\
ty : And.intro ( TyOf.int _ ) ?_ | And.intro ( TyOf.str _ ) ?_ | And.intro ( TyOf.lstO @A ) ?_\n\
sub : And.intro sub_str ?_ | And.intro sub_tup ?_ | And.intro ( sub_lst @lv ) ?_\n\
binds : binds_1 @b | binds_2 @b | binds_3 @b | binds_4 @b | binds_6 @b\n\
b : intros ; go K\n\
capl : CapL.nil _ | capl_free ?c ?o ?m ?t ; case m mem ; case t capl | capl_other ?o ?n ?t ; case n D ; case t capl\n\
rest : Rest.nil | rest_keep ?r ?h ?n ; case n K! ; case h rest | rest_drop ?r ?h ; case h rest\n\
upd : d upd_exE ?_ ?_ ?_ ; rot 1 ; go rest\n\
l : go A | go D | Nat.le_trans @A @D | Nat.lt_of_le_of_lt @A @D | Nat.lt_of_lt_of_le @A @D | Nat.le_trans ( Nat.le_of_lt @A ) @D | Nat.lt_of_le_of_lt ( Nat.le_of_eq @A ) @D | Nat.le_trans ( Nat.le_of_eq @A ) @D | d Nat.pos_of_ne_zero @A | d Nat.ne_of_gt @A | Nat.le_of_lt @A | le2 @A @D | lt2 @A @D | ne2 @A @D | Int.natCast_nonneg _ | Int.not_lt.mpr ( Int.natCast_nonneg _ ) | Nat.lt_of_le_of_lt ( Nat.le_trans ( Nat.le_of_eq List.length_map ) @A ) @D | Nat.le_trans ( Nat.le_trans ( Nat.le_of_eq List.length_map ) @A ) @D | Nat.lt_of_le_of_lt ( Nat.le_trans @A @A ) @D | Nat.le_trans ( Nat.le_trans @A @A ) @D | Nat.le_trans ( Nat.min_le_left _ _ ) @D | Nat.min_le_left _ _ | Nat.min_le_right _ _ | Nat.le_trans ( Nat.min_le_right _ _ ) ( Nat.le_trans @A @D ) | Nat.lt_of_le_of_lt ( Nat.min_le_right _ _ ) ( Nat.lt_of_le_of_lt @A @D ) | Nat.lt_of_le_of_lt ( Nat.sub_le _ _ ) ( Nat.lt_of_le_of_lt @A @D ) | Nat.le_trans ( Nat.sub_le _ _ ) ( Nat.le_trans @A @D ) | Nat.le_trans ( Nat.div_le_self _ _ ) ( Nat.le_trans @A @D ) | Nat.ne_of_gt ( Nat.lt_of_le_of_lt ( Nat.zero_le _ ) @A ) | Nat.lt_of_le_of_lt ( Nat.zero_le _ ) @A | Nat.lt_of_le_of_lt ( Nat.le_of_eq @A ) ( Nat.lt_of_le_of_lt @A @D ) | Nat.le_trans ( Nat.le_of_eq @A ) ( Nat.le_trans @A @D ) | Nat.le_trans ( Nat.add_le_add @A @A ) @D | Nat.le_trans ( Nat.add_le_add_left @A _ ) @D | Nat.le_trans ( Nat.add_le_add_right @A _ ) @D | Nat.lt_of_le_of_lt ( Nat.add_le_add_right @A _ ) @D | Nat.le_trans ( Nat.mul_le_mul_left _ @A ) @D | Nat.sub_le _ _ | Int.ofNat_lt.mpr @l1 | absurd @A ( Nat.not_lt.mpr @A ) | go sa | go L\n\
l1 : go A | Nat.lt_of_le_of_lt @A @D | Nat.lt_of_lt_of_le @A @D | Nat.pos_of_ne_zero @A\n\
share : rot 2 ; go mem ; go1 K ; go rest\n\
share0 : rot 1 ; go mem ; go rest"
 let some e:=FW (key ++ " : ") (tab.splitOn "\n") | Lean.Macro.throwUnsupported
 return FX (← Lean.Macro.addMacroScope `h) e
local macro_rules | `(tactic| rw [$l,*])=>return FV (l.getElems.toList.map (·.raw))
section
open PySem PySem.W PyProof.Rows
namespace Internal
noncomputable section
structure TE where
 p:Program
 w:World
 n₀:Nat
 ann:Option Value
 code:Code
 q:Pos
noncomputable def TE.run (e:TE) (N:Nat) (s:Shared) (cur:Sem Fin) (pos:Pos) (r:Shared):Prop:=topRun treeTable e.p e.w e.n₀ e.ann N s ⟨cur,e.code,pos,[topFrame e.q]⟩=some r
noncomputable def Op (e:TE) (B:Nat) {α:Type} (m:Sem α) (s:Shared) (a:α) (s':Shared):Prop:=
 ∀ (K:α→Sem Fin) (H:Value→Sem Fin) (gd:Bool→Bool) (lv:List Value→List Value) (pos:Pos),∃ (n:Nat) (pos':Pos),n≤B∧∀ (N:Nat) (r:Shared),
  e.run N s' (K a) pos' r→e.run (n + N) s (m.wrap K H gd lv) pos r
variable {e:TE} {α β:Type} {s s' s₁:Shared}
theorem Op.le {B B':Nat} {m:Sem α} {a:α} (pf:Op e B m s a s') (hle:B≤B'):Op e B' m s a s':=fun K H gd lv pos=>by
 walk_at "u"; obtain ⟨n,pos',hn,h⟩:=pf K H gd lv pos;walk_at "v"
 exact ⟨n,pos',aa hn hle,h⟩
theorem Ic.ifn {B:Nat} {x y:Sem α} {a:α} {c:Prop} [Decidable c] (h:¬ c) (k:Op e B y s a s'):Op e B (if c then x else y) s a s':=by rw [if_neg h];exact k
theorem Ic.ifp {B:Nat} {x y:Sem α} {a:α} {c:Prop} [Decidable c] (h:c) (k:Op e B x s a s'):Op e B (if c then x else y) s a s':=by rw [if_pos h];exact k
open Ia Ib Ic
theorem Op.pure {B:Nat} {a:α}:Op e B (Pure.pure a) s a s:=fun _ _ _ _ pos=>⟨0,pos,ba _,fun N r h=>by rw [dq];exact h⟩
theorem wi {a:α}:Op e 0 (Pure.pure a) s a s:=Op.pure
theorem Op.bind {B B':Nat} {m:Sem α} {f:α→Sem β} {a:α} {b:β} (h:Op e B' m s a s₁) (k:Op e (B - B') (f a) s₁ b s') (hle:autoParam (B'≤B) aL):Op e B (m >>= f) s b s':=fun K H gd lv pos=>by
 refine bc fun hbc=>?_
 obtain ⟨n,pos',hn,h⟩:=h (fun a=>(f a).wrap K H gd lv) H gd lv pos
 obtain ⟨n',pos'',hn',k⟩:=k K H gd lv pos'
 refine hbc ?_
 clear hbc
 refine ⟨n + n',pos'',by lia,fun N r x=>?_⟩
 rw [Sem.bind_eq_wrap',Sem.wrap_wrap,bN]
 exact h _ _ (k _ _ x)
theorem Op.keep {B:Nat} {vs:List Value} {m:Sem α} {a:α} (h:Op e B m s a s'):Op e B (m.keep vs) s a s':=fun K H gd lv pos=>by
 walk_at "u"; obtain ⟨n,pos',hn,h⟩:=h K H gd (fun l=>lv (vs++l)) pos;walk_at "v"
 refine ⟨n,pos',hn,fun N r x=>?_⟩
 rw [Sem.keep_eq_wrap,Sem.wrap_wrap]
 exact h _ _ x
theorem Op.holding {B:Nat} {vs:List Value} {m:Sem α} {a:α} (h:Op e B m s a s'):Op e B (holding vs m) s a s':=by
 unfold PySem.holding;split
 ·exact h
 ·exact h.keep
theorem Op.onRaise {B:Nat} {m:Sem α} {f:Value→Sem Unit} {a:α} (h:Op e B m s a s'):Op e B (m.onRaise f) s a s':=fun K H gd lv pos=>by
 walk_at "u"; obtain ⟨n,pos',hn,h⟩:=h K (fun x=>((f x).bind fun _=>(.raise x:Sem α)).wrap K H gd lv) gd lv pos;walk_at "v"
 refine ⟨n,pos',hn,fun N r x=>?_⟩
 rw [Sem.onRaise_eq_wrap,Sem.wrap_wrap]
 exact h _ _ x
theorem Op.one {m:Sem α} {a:α} (h:∀ (K:α→Sem Fin) (H:Value→Sem Fin) (gd:Bool→Bool) (lv:List Value→List Value) (pos:Pos),∃ pos':Pos,
  stepOk e.n₀ e.ann ⟨m.wrap K H gd lv,e.code,pos,[topFrame e.q]⟩=true∧through ⟨m.wrap K H gd lv,e.code,pos,[topFrame e.q]⟩=false∧
  step (denote treeTable) e.p e.w s ⟨m.wrap K H gd lv,e.code,pos,[topFrame e.q]⟩=.go s' ⟨K a,e.code,pos',[topFrame e.q]⟩):Op e 1 m s a s':=fun K H gd lv pos=>by
 walk_at "u"; obtain ⟨pos',h1,h2,h3⟩:=h K H gd lv pos;walk_at "v"
 refine ⟨1,pos',av _,fun N r x=>?_⟩
 unfold TE.run at *
 rw [aQ]
 unfold topRun
 rw [h2,h1,h3]
 exact x
theorem Op.loadPart {a:Addr} {q:Option Value} {o:Obj} (ho:s.heap.get? a=some o):Op e 1 (PySem.loadPart a q) s o s:=Op.one fun K H gd lv pos=>by
 walk_at "u"; obtain ⟨heap,gens,drawn,toks,os⟩:=s;walk_at "v"
 refine ⟨pos,rfl,rfl,?_⟩
 simp only [PySem.loadPart,Sem.wrap,step]
 rw [show heap.get? a=some o from ho]
theorem Op.alloc {o:Obj}:Op e 1 (PySem.alloc o) s s.heap.objs.size { s with heap:=s.heap.push o }:=Op.one fun K H gd lv pos=>⟨pos,rfl,rfl,rfl⟩
theorem Op.fresh:Op e 1 PySem.fresh s s.toks { s with toks:=s.toks + 1 }:=Op.one fun K H gd lv pos=>⟨pos,rfl,rfl,rfl⟩
theorem Op.rule {t:String}:Op e 1 (PySem.rule t) s () s:=Op.one fun K H gd lv pos=>⟨pos,rfl,rfl,rfl⟩
theorem Op.standAt {t:Pos}:Op e 1 (PySem.standAt t) s () s:=Op.one fun K H gd lv pos=>⟨t,rfl,rfl,rfl⟩
theorem Op.updatePart {a:Addr} {q:Option Value} {o:Obj} {f:Obj→Obj} (ho:s.heap.get? a=some o) (ha:e.n₀≤a):Op e 1 (PySem.updatePart a q f) s () { s with heap:=s.heap.update a f }:=Op.one fun K H gd lv pos=>by
 walk_at "u"; obtain ⟨heap,gens,drawn,toks,os⟩:=s;walk_at "v"
 refine ⟨pos,?_,rfl,?_⟩
 ·show (true && (Nat.ble e.n₀ a || a == mainNs || a == cStatics || e.ann == some (.ref a)))=true
  rw [Nat.ble_eq_true_of_le ha];rfl
 ·simp only [PySem.updatePart,Sem.wrap,step]
  rw [show heap.get? a=some o from ho];rfl
theorem Op.of_seg {B:Nat} {m:Sem α} {a:α} {f:Flow} (res:α→Flow) (inj:∀ b,res b=f→b=a)
  (h:∀ (gd:Bool→Bool) (lv:List Value→List Value) (pos:Pos),∃ (n:Nat) (pos':Pos),n≤B∧segRun treeTable e.p e.w e.n₀ e.ann 1 n s ⟨m.wrap (fun a=>.pure (.done (res a))) deadEnd gd lv,e.code,pos,[topFrame e.q]⟩=some (f,s',e.code,pos')):
  Op e B m s a s':=fun K H gd lv pos=>by
 refine bc fun hbc=>?_
 obtain ⟨n,pos',hn,h⟩:=h gd lv pos
 obtain ⟨b,hb,k⟩:=seg_top (res:=res) (K':=K) (H':=H) (gd:=gd) (lv:=lv) (B:=[topFrame e.q]) rfl n s ⟨m.wrap (fun a=>.pure (.done (res a))) deadEnd gd lv,e.code,pos,[topFrame e.q]⟩ ⟨m.wrap K H gd lv,e.code,pos,[topFrame e.q]⟩ _ _ _ _ ⟨rfl,rfl,.inl ⟨rfl,rfl,m,rfl,rfl⟩⟩ h
 refine hbc ?_
 clear hbc
 obtain rfl:=inj b hb
 exact ⟨n,pos',hn,fun N r x=>k N r x⟩
theorem Op.forIn_nil {B:Nat} {γ:Type} {f:γ→β→Sem (ForInStep β)} {b:β}:Op e B (forIn ([]:List γ) b f) s b s:=Op.pure
theorem Op.forIn_cons {B B':Nat} {γ:Type} {f:γ→β→Sem (ForInStep β)} {x:γ} {l:List γ} {b b' b'':β} (h:Op e B' (f x b) s (.yield b') s₁) (k:Op e (B - B') (forIn l b' f) s₁ b'' s') (hle:autoParam (B'≤B) aL):Op e B (forIn (x :: l) b f) s b'' s':=by
 rw [c8];exact Op.bind h k hle
/- a dict's entries, its epoch, a key that is not in it -/
theorem Op.dictEntries {a:Addr} {q:Option Value} {o:Obj} {es n} (ho:s.heap.get? a=some o) (hd:o.data=.dict es n):Op e (1) (PySem.dictEntries a q) s es s:=by
 unfold PySem.dictEntries;refine Op.bind (Op.loadPart ho) ?_;rw [hd];exact Op.pure
theorem Op.dictEpoch {a:Addr} {q:Option Value} {o:Obj} {es n} (ho:s.heap.get? a=some o) (hd:o.data=.dict es n):Op e (1) (PySem.dictEpoch a q) s n s:=by
 unfold PySem.dictEpoch;refine Op.bind (Op.loadPart ho) ?_;rw [hd];exact Op.pure
theorem wg {es:Array DictEntry} {h:Int} (hn:∀ x∈es,x.hash≠h):placesWithHash es.size (fun i=>es[i]?.map (·.hash)) h=[]:=by
 unfold placesWithHash
 rw [d7]
 intro i _
 rw [beq_iff_eq]
 intro hi
 walk_at "u"; obtain ⟨x,hx,eq0⟩:=di.mp hi;walk_at "v"
 subst eq0
 exact hn x (Array.mem_of_getElem? hx) rfl
theorem Op.dictFind_none {a:Addr} {o:Obj} {es n} {k:Int} {t:Tok} {h:Int} (ho:s.heap.get? a=some o) (hd:o.data=.dict es n) (hn:∀ x∈es,x.hash≠h):
  Op e (1) (PySem.dictFind a (.int k t) h) s none s:=by
 unfold PySem.dictFind
 refine Op.holding (Op.bind (Op.dictEntries ho hd) ?_)
 simp only [wg hn]
 exact Op.pure
theorem Op.pushNew {a:Addr} {q:Option Value} {o:Obj} {es:Array DictEntry} {n:Nat} {x:DictEntry} (ho:s.heap.get? a=some o) (hd:o=⟨.type "dict", none,.dict es n,#[]⟩) (ha:e.n₀≤a) (hz:es.size≤100000):
  Op e (3) (PySem.updateDictKeys a (·.push x) q) s () { s with heap:=s.heap.update a (Obj.mapDictKeys (·.push x)) }:=by
 subst hd
 unfold PySem.updateDictKeys
 refine Op.bind (Op.loadPart ho) (Op.bind (Op.updatePart ho ha) ?_)
 unfold lookBehind
 refine Op.bind (Op.loadPart (o:=⟨.type "dict", none,.dict (es.push x) (n + 1),#[]⟩) (Heap.get?_update_self _ ho rfl)) ?_
 have hp:(Data.dict (es.push x) (n + 1)).pastItsLine=none:=pastItsLine_dict (by rw [Array.size_push];have:sizeLine=16777216:=rfl;walk_at "l")
 simp only [hp]
 exact Op.pure


noncomputable abbrev zQ (v:Value):Sem (Option Value):=callSpecialIfBoundUnlessNone? v "__hash__" (do rule "hash.unhashable"; raiseError "TypeError" s!"unhashable type: '{← typeNameOf v}'")
noncomputable def D0:Option Value→Flow | some v=>.ret v | none=>.next
theorem Aj (p:Program) (n₀:Nat) (ann:Option Value) (q:Pos) (b:List Stmt) (env:Env) (heap:Heap) (gens:Array GenState) (drawn:Drawn) (toks:Nat) (os:OsState) (i:Int) (t:Tok) (gd:Bool→Bool) (lv:List Value→List Value) (pos:Pos):
  ∀ w:World,segRun treeTable p w n₀ ann 1 40 ⟨heap,gens,drawn,toks,os⟩ ⟨(zQ (.int i t)).wrap (fun a=>.pure (.done (D0 a))) deadEnd gd lv,.body b env,pos,[topFrame q]⟩=some (.ret (.int (rawHash i) toks),⟨heap,gens,drawn,toks + 1,os⟩,.body b env,pos):=by
 rw [show @segRun=@PySem.W.Fast.tw14374325043358763698 from PySem.W.Fast.te14374325043358763698,show @treeTable=@PySem.W.Fast.tw14364793385576792824 from PySem.W.Fast.te14364793385576792824]
 refine byRow2 "special-get-raises" ?_ ?_<;>(intro w;kernel_rfl)
theorem Op.pyHash {b:List Stmt} {env:Env} {k:Int} {t:Tok} (hc:e.code=.body b env):Op e (41) (PySem.pyHash (.int k t)) s (hashInt k) { s with toks:=s.toks + 1 }:=by
 have hr:=rawHash_range k
 unfold PySem.pyHash
 have hv:[Value.int k t].any Value.onHeap=false:=rfl
 refine Op.bind (a:=()) (s₁:=s) (B':=0) ?_ ?_
 ·rw [cRoomFor,if_neg (by rw [hv];exact ca)];exact Op.pure
 have sp:specialOf (.int k t) "__hash__" = Pure.pure (some (.builtin "int.__hash__")):=by
  show typeLookup (.type "int") "__hash__" = _
  exact slot_int_hash.lookup
 rw [sp]
 refine Op.bind wi ?_
 refine ifn (by rw [beq_builtin_none];exact ca) ?_
 refine Op.bind wi ?_
 refine Op.bind (B':=40) (m:=zQ (.int k t)) (a:=some (.int (rawHash k) s.toks)) (s₁:={ s with toks:=s.toks + 1 }) ?_ ?_
 ·refine Op.of_seg D0 (f:=.ret (.int (rawHash k) s.toks)) (fun x hx=>?_) (fun gd lv pos=>⟨40,pos,av _,?_⟩)
  ·cases x<;>simp [D0] at hx;rw [hx]
  ·walk_at "u"; obtain ⟨heap,gens,drawn,toks,os⟩:=s;walk_at "v"
   rw [hc];exact Aj _ _ _ _ _ _ _ _ _ _ _ _ _ _ _ _ _
 ·show Op e _ (if (decide (-(2:Int) ^ 63≤rawHash k) && decide (rawHash k < 2 ^ 63))=true then _ else _) _ _ _
  refine ifp (by rw [decide_eq_true hr.1,decide_eq_true hr.2];rfl) ?_
  exact Op.pure

/- heaps: one object put anew -/
noncomputable def jv (h:Heap) (d:Addr) (o:Obj):Heap:=h.update d fun _=>o
set_option tactic.hygienic true in
theorem xZ {h:Heap} {d:Addr} {o:Obj} (f:Obj→Obj) (ho:h.get? d=some o):h.update d f=jv h d (f o):=by
 walk_at "u"; obtain ⟨objs,life⟩:=h;walk_at "v"
 have hx:objs[d]?=some o:=((Heap.get?_eq_some ..).mp ho).1
 show (⟨objs.modify d f,life⟩:Heap)=⟨objs.modify d fun _=>f o,life⟩
 congr 1
 apply Array.ext_getElem?
 intro i
 rw [Array.getElem?_modify,Array.getElem?_modify]
 split
 ·rename_i e;subst e;rw [hx];rfl
 ·rfl
theorem rl (h:Heap) (d:Addr) (o o':Obj):jv (jv h d o) d o'=jv h d o':=by
 walk_at "u"; obtain ⟨objs,life⟩:=h;walk_at "v"
 show (⟨(objs.modify d fun _=>o).modify d fun _=>o',life⟩:Heap)=⟨objs.modify d fun _=>o',life⟩
 congr 1
 apply Array.ext_getElem?
 intro i
 simp only [Array.getElem?_modify]
 split
 ·cases objs[i]?<;>rfl
 ·rfl
theorem oG {h:Heap} {d:Addr} {o o':Obj} (ho:h.get? d=some o) (hf:o'.isFreed=false):(jv h d o').get? d=some o':=Heap.get?_update_self (fun _=>o') ho hf
noncomputable abbrev iz (es:List DictEntry) (n:Nat):Obj:=⟨.type "dict", none,.dict ⟨es⟩ n,#[]⟩
noncomputable def iA:Nat→List (Int×Str)→List DictEntry
 | _,[]=>[]
 | t,(k,v) :: r=>⟨hashInt k,.int k t,.str v (t + 1)⟩ :: iA (t + 3) r
noncomputable def i5:Nat→List (Int×Str)→List DictEntry
 | _,[]=>[]
 | t,(k,v) :: r=>⟨hashInt k,.int k t,.str v (t + 1)⟩ :: i5 (t + 2) r
noncomputable def yr (es:List DictEntry) (c:List (Int×Str)):Prop:=∀ x∈es,∀ p∈c,x.hash≠hashInt p.1
theorem Op.setNew {d:Addr} {es:List DictEntry} {n:Nat} {k:Int} {t:Tok} {v:Value} {b:List Stmt} {env:Env} (hc:e.code=.body b env) (ho:s.heap.get? d=some (iz es n)) (ha:e.n₀≤d) (hz:es.length≤100000) (hn:∀ x∈es,x.hash≠hashInt k):
  Op e (50) (dictSet d (.int k t) v) s () { s with heap:=jv s.heap d (iz (es++[⟨hashInt k,.int k t,v⟩]) (n + 1)),toks:=s.toks + 1 }:=by
 unfold dictSet
 refine Op.holding (Op.bind (Op.pyHash hc) ?_)
 unfold dictSetHashed
 refine Op.holding (Op.bind (Op.dictFind_none (s:={ s with toks:=s.toks + 1 }) ho rfl (by simpa using hn)) (Op.bind Op.rule ?_))
 have:=Op.pushNew (e:=e) (q:=keyPart (.int k t)) (x:=⟨hashInt k,.int k t,v⟩) (s:={ s with toks:=s.toks + 1 }) ho rfl ha (by simpa using hz)
 rw [xZ _ ho] at this
 refine Op.le ?_ (B:=3) (by walk_at "l")
 simpa [Obj.mapDictKeys] using this
theorem Op.putNew {d:Addr} {es:List DictEntry} {n:Nat} {k:Int} {t:Tok} {v:Value} (ho:s.heap.get? d=some (iz es n)) (ha:e.n₀≤d) (hz:es.length≤100000) (hn:∀ x∈es,x.hash≠hashInt k):
  Op e (10) (dictPut d (hashInt k) (.int k t) v) s () { s with heap:=jv s.heap d (iz (es++[⟨hashInt k,.int k t,v⟩]) (n + 1)) }:=by
 unfold dictPut
 refine Op.bind (Op.dictFind_none ho rfl (by simpa using hn)) ?_
 have:=Op.pushNew (e:=e) (q:=none) (x:=⟨hashInt k,.int k t,v⟩) ho rfl ha (by simpa using hz)
 rw [xZ _ ho] at this
 refine Op.le ?_ (B:=3) (by walk_at "l")
 simpa [Obj.mapDictKeys] using this
noncomputable abbrev prK (k:Int):Sem Value:=mkInt k
noncomputable abbrev prV (dp:Pos) (v:Str):Sem Value:=do let x ← mkText v;standAt dp;pure x
theorem zN {k:Int}:Op e (1) (prK k) s (.int k s.toks) { s with toks:=s.toks + 1 }:=Op.bind Op.fresh Op.pure
theorem zM {dp:Pos} {v:Str}:Op e (2) (prV dp v) s (.str v s.toks) { s with toks:=s.toks + 1 }:=Op.bind (B':=1) (Op.bind Op.fresh Op.pure) (Op.bind Op.standAt Op.pure)
noncomputable abbrev prs (dp:Pos) (c:List (Int×Str)):List (Sem Value×Sem Value):=c.map fun p=>(prK p.1,prV dp p.2)
theorem lB {c:List (Int×Str)}:∀ {t:Nat} {x:DictEntry},x∈iA t c→∃ p∈c,x.hash=hashInt p.1:=by
 induction c with
 | nil=>intro t x hx;cases hx
 | cons p c ih=>
  intro t x hx
  cases hx with
  | head=>exact ⟨p,.head _,rfl⟩
  | tail _ hx=>obtain ⟨q,hq,e⟩:=ih hx;exact ⟨q,.tail _ hq,e⟩
theorem wI {c:List (Int×Str)}:∀ {t:Nat} {x:DictEntry},x∈iA t c→∃ k t v,x=⟨hashInt k,.int k t,v⟩:=by
 induction c with
 | nil=>intro t x hx;cases hx
 | cons p c ih=>
  intro t x hx
  cases hx with
  | head=>exact ⟨_,_,_,rfl⟩
  | tail _ hx=>exact ih hx
theorem uC {c:List (Int×Str)}:∀ {t:Nat},(iA t c).map (·.hash)=c.map fun p=>hashInt p.1:=by
 induction c with
 | nil=>intro t;rfl
 | cons p c ih=>intro t;show hashInt p.1 :: (iA (t + 3) c).map (·.hash)=_;rw [ih];rfl
theorem wF {c:List (Int×Str)}:∀ {t:Nat} {x:DictEntry},x∈i5 t c→∃ k t v,x=⟨hashInt k,.int k t,v⟩:=by
 induction c with
 | nil=>intro t x hx;cases hx
 | cons p c ih=>
  intro t x hx
  cases hx with
  | head=>exact ⟨_,_,_,rfl⟩
  | tail _ hx=>exact ih hx
theorem nO {c:List (Int×Str)}:∀ {t:Nat},(i5 t c).map (·.hash)=c.map fun p=>hashInt p.1:=by
 induction c with
 | nil=>intro t;rfl
 | cons p c ih=>intro t;show hashInt p.1 :: (i5 (t + 2) c).map (·.hash)=_;rw [ih];rfl
theorem j9 {c:List (Int×Str)}:∀ {t:Nat},(iA t c).length=c.length:=by
 induction c with
 | nil=>intro t;rfl
 | cons p c ih=>intro t;show (iA (t + 3) c).length + 1=_;rw [ih];rfl
theorem uB {c:List (Int×Str)}:∀ {t:Nat},(i5 t c).length=c.length:=by
 induction c with
 | nil=>intro t;rfl
 | cons p c ih=>intro t;show (i5 (t + 2) c).length + 1=_;rw [ih];rfl
set_option tactic.hygienic true in
theorem Op.longLoop {f:Sem Value×Sem Value→PUnit→Sem (ForInStep PUnit)} {d:Addr} (hb:∀ k v u,f (k,v) u=(do
   let kv ← k
   let vv ← PySem.holding [kv] v
   PySem.holding [kv,vv] (dictSet d kv vv)
   Pure.pure (ForInStep.yield PUnit.unit))) {dp:Pos} {b:List Stmt} {env:Env} (hc:e.code=.body b env) (ha:e.n₀≤d):∀ (c:List (Int×Str)) (es:List DictEntry) (n:Nat) (s:Shared),s.heap.get? d=some (iz es n)→es.length + c.length≤100000→yr es c→(c.map fun p=>hashInt p.1).Nodup→
  Op e (60 * c.length) (forIn (prs dp c) PUnit.unit f) s PUnit.unit { s with heap:=jv s.heap d (iz (es++iA s.toks c) (n + c.length)),toks:=s.toks + 3 * c.length }
 | [],es,n,s,ho,_,_,_=>by
  have e1:jv s.heap d (iz (es++iA s.toks []) (n + 0))=s.heap:=by
   walk_at "u"; obtain ⟨⟨objs,life⟩,gens,drawn,toks,os⟩:=s;walk_at "v"
   have hx:objs[d]?=some (iz es n):=((Heap.get?_eq_some ..).mp ho).1
   show (⟨objs.modify d _,life⟩:Heap)=⟨objs,life⟩
   congr 1
   apply Array.ext_getElem?
   intro i
   rw [Array.getElem?_modify]
   split
   ·rename_i e';subst e';rw [hx];simp [iA]
   ·rfl
  show Op e _ _ s PUnit.unit { s with heap:=jv s.heap d (iz (es++iA s.toks []) (n + 0)),toks:=s.toks + 3 * 0 }
  rw [e1]
  exact Op.forIn_nil
 | (k,v) :: c,es,n,s,ho,hz,hf,hnd=>by
  rw [be,cj] at hnd
  have hz1:es.length≤100000:=by simp only [ax] at hz;lia
  have step:=Op.setNew (e:=e) (s:={ s with toks:=s.toks + 1 + 1 }) (t:=s.toks) (v:=.str v (s.toks + 1)) hc ho ha hz1 (fun x hx=>hf x hx (k,v) (.head _))
  have ih:=Op.longLoop hb (dp:=dp) hc ha c (es++[⟨hashInt k,.int k s.toks,.str v (s.toks + 1)⟩]) (n + 1) { s with heap:=jv s.heap d (iz (es++[⟨hashInt k,.int k s.toks,.str v (s.toks + 1)⟩]) (n + 1)),toks:=s.toks + 1 + 1 + 1 }
   (oG ho rfl) (by simp only [af,ax,cQ] at hz ⊢;lia) (fun x hx p hp=>by
    rcases bb.mp hx with hx | hx
    ·exact hf x hx p (.tail _ hp)
    ·rcases br.mp hx with rfl
     intro q
     exact hnd.1 (aA.mpr ⟨p,hp,q.symm⟩)) hnd.2
  have hone:Op e 60 (f (prK k,prV dp v) PUnit.unit) s (ForInStep.yield PUnit.unit) { s with heap:=jv s.heap d (iz (es++[⟨hashInt k,.int k s.toks,.str v (s.toks + 1)⟩]) (n + 1)),toks:=s.toks + 1 + 1 + 1 }:=by rw [hb];exact Op.bind zN (Op.bind (Op.holding zM) (Op.bind (Op.holding step) Op.pure))
  refine Op.forIn_cons hone (Op.le (B:=60 * c.length) ?_ (by rw [ax];lia)) (by rw [ax];walk_at "l")
  rw [rl] at ih
  have e2:es++[⟨hashInt k,.int k s.toks,.str v (s.toks + 1)⟩]++iA (s.toks + 1 + 1 + 1) c=es++iA s.toks ((k,v) :: c):=by rw [ay];rfl
  rw [e2] at ih
  have e3:n + 1 + c.length=n + ((k,v) :: c).length:=by rw [ax];walk_at "l"
  have e4:s.toks + 1 + 1 + 1 + 3 * c.length=s.toks + 3 * ((k,v) :: c).length:=by rw [ax];walk_at "l"
  rw [e3,e4] at ih
  exact ih
theorem Op.subLong {dp:Pos} {b:List Stmt} {env:Env} {c:List (Int×Str)} (hc:e.code=.body b env) (hl:c.length=17) (ha:e.n₀≤s.heap.objs.size) (hnd:(c.map fun p=>hashInt p.1).Nodup):
  Op e (1100) (subDict (prs dp c)) s s.heap.objs.size { s with heap:=s.heap.push (iz (iA s.toks c) 17),toks:=s.toks + 51 }:=by
 unfold subDict
 refine Op.bind Op.alloc (Op.bind (B':=1098) (a:=PUnit.unit) (s₁:={ s with heap:=s.heap.push (iz (iA s.toks c) 17),toks:=s.toks + 51 }) (Op.holding ?_) Op.pure)
 refine ifn (by rw [ag,hl];decide) ?_
 refine Op.bind Op.rule ?_
 have e1:jv (s.heap.push { cls:=.type "dict", data:=.dict #[] }) s.heap.objs.size (iz ([]++iA s.toks c) (0 + c.length))=s.heap.push (iz (iA s.toks c) 17):=by
  walk_at "u"; obtain ⟨⟨objs,life⟩,gens,drawn,toks,os⟩:=s;walk_at "v"
  show (⟨(objs.push _).modify objs.size _,life⟩:Heap)=⟨objs.push _,life⟩
  congr 1
  apply Array.ext_getElem?
  intro i
  rw [Array.getElem?_modify,Array.getElem?_push,Array.getElem?_push,hl]
  by_cases hi:i=objs.size
  ·subst hi;simp
  ·rw [if_neg (Ne.symm hi),if_neg hi,if_neg hi]
 have e2:({ s with heap:=jv (s.heap.push { cls:=.type "dict", data:=.dict #[] }) s.heap.objs.size (iz ([]++iA s.toks c) (0 + c.length)),toks:=s.toks + 3 * c.length }:Shared)={ s with heap:=s.heap.push (iz (iA s.toks c) 17),toks:=s.toks + 51 }:=by rw [e1,hl]
 rw [← e2]
 exact Op.bind (B':=60 * c.length) (Op.longLoop (d:=s.heap.objs.size) (s:={ s with heap:=s.heap.push { cls:=.type "dict", data:=.dict #[] } }) (fun k v u=>rfl) hc ha c [] 0 (Heap.get?_push_size _ rfl) (by rw [hl];decide) (fun _ hx=>nomatch hx) hnd) Op.pure (by rw [hl];decide)
theorem nQ:typeLookup (.type "dict") "__iter__" = pure (some (.builtin "dict.__iter__"))∧isSubtype (.type "dict") (.type "dict")=pure true:=by
 constructor
 ·rw [typeLookup_type,builtinLookup_eq_fast];kernel_rfl
 ·rw [isSubtype_type];kernel_rfl

theorem Op.forIn_to {Bs:Nat} {γ:Type} {f:γ→β→Sem (ForInStep β)} (I:List γ→β→Shared→Prop) {b₀:β} {s₀:Shared}
  (step:∀ x rest b s,I (x :: rest) b s→∃ b' s',Op e Bs (f x b) s (.yield b') s'∧I rest b' s') (fin:∀ b s,I [] b s→b=b₀∧s=s₀):
  ∀ (l:List γ) (b:β) (s:Shared),I l b s→Op e (Bs * l.length) (forIn l b f) s b₀ s₀
 | [],b,s,h=>by obtain ⟨rfl,rfl⟩:=fin b s h;exact Op.forIn_nil
 | x :: l,b,s,h=>by
  walk_at "u"; obtain ⟨b',s',h1,h2⟩:=step x l b s h;walk_at "v"
  exact Op.forIn_cons h1 ((Op.forIn_to I step fin l b' s' h2).le (by rw [ax,eX];lia)) (by rw [ax,eX];walk_at "l")
set_option tactic.hygienic true in
theorem x4 {h:Heap} {d:Addr} {o:Obj} (ho:h.get? d=some o):jv h d o=h:=by
 walk_at "u"; obtain ⟨objs,life⟩:=h;walk_at "v"
 have hx:objs[d]?=some o:=((Heap.get?_eq_some ..).mp ho).1
 show (⟨objs.modify d _,life⟩:Heap)=⟨objs,life⟩
 congr 1
 apply Array.ext_getElem?
 intro i
 rw [Array.getElem?_modify]
 split
 ·rename_i e';subst e';rw [hx];rfl
 ·rfl
theorem x3 {h:Heap} {d a:Addr} {o:Obj} (hda:d≠a):(jv h d o).get? a=h.get? a:=Heap.get?_update_ne _ _ _ _ (Ne.symm hda)
theorem Op.merge {d a:Addr} {es sub:List DictEntry} {n m:Nat} (ha:e.n₀≤d) (hda:d≠a) (hsys:a≠sysModules) (hd:s.heap.get? d=some (iz es n)) (hs:s.heap.get? a=some (iz sub m)) (hne:es≠[])
  (hz:es.length + sub.length≤100000) (hk:∀ x∈sub,∃ k t v,x=⟨hashInt k,.int k t,v⟩) (hf:∀ x∈es,∀ y∈sub,x.hash≠y.hash) (hnd:(sub.map (·.hash)).Nodup):
  Op e (20 + 20 * sub.length) (mergeMapping d (.ref a) false) s () { s with heap:=jv s.heap d (iz (es++sub) (n + sub.length)) }:=by
 unfold mergeMapping
 have hty:Op e 1 (typeOf (.ref a)) s (.type "dict") s:=Op.bind (Op.loadPart hs) Op.pure
 refine Op.bind (B':=1) (a:=true) (s₁:=s) (by unfold isInstance;refine Op.bind hty ?_;rw [nQ.2];exact Op.pure) ?_
 refine ifp rfl ?_
 refine Op.bind (B':=1) (a:=some (.builtin "dict.__iter__")) (s₁:=s) (by unfold specialOf;refine Op.bind hty ?_;rw [nQ.1];exact Op.pure) (Op.bind wi ?_)
 have hit:((some (Value.builtin "dict.__iter__"):Option Value) == some (.builtin "dict.__iter__"))=true:=by decide
 rw [hit]
 dsimp only
 have hsysb:(a == sysModules)=false:=by simpa using hsys
 refine ifn (by rw [hsysb];exact ca) ?_
 refine Op.bind (Op.dictEntries hd rfl) ?_
 have hemp:(⟨es⟩:Array DictEntry).isEmpty=false:=by cases es with | nil=>exact absurd rfl hne | cons=>rfl
 refine ifn (by rw [hemp];exact ca) ?_
 refine Op.bind (Op.dictEntries hs rfl) (Op.bind (Op.dictEpoch hs rfl) ?_)
 refine Op.bind (B':=20 * (aT sub.length).length) (a:=PUnit.unit) ?_ Op.pure (by rw [aH];lia)
 refine Op.forIn_to (Bs:=20) (fun rest _ s'=>∃ i,rest=List.range' i (sub.length - i)∧i≤sub.length∧s'={ s with heap:=jv s.heap d (iz (es++sub.take i) (n + i)) }) ?_ ?_ _ _ _ ⟨0,?_,ba _,?_⟩
 ·intro x rest _ s' hJ4
  walk_at "u"; obtain ⟨i,hr,hi,eq0⟩:=hJ4;walk_at "v"
  subst eq0
  have hlt:i < sub.length:=by
   rcases aZ i sub.length with h | h
   ·exact h
   ·(first | obtain rfl:=aq ((show sub.length - i=0 from bQ h).symm.trans hr) | exact absurd ((show sub.length - i=0 from bQ h).symm.trans hr) (al _) | exact absurd ((show sub.length - i=0 from bQ h).symm.trans hr).symm (al _) | exact (jW ((show sub.length - i=0 from bQ h).symm.trans hr) rfl).elim | (rw [show sub.length - i=0 from bQ h] at hr;cases hr))
  rw [show sub.length - i=(sub.length - (i + 1)) + 1 from Bn hlt,gA] at hr
  injection hr with hx hrest
  subst hx hrest
  have ha':(jv s.heap d (iz (es++sub.take x) (n + x))).get? a=some (iz sub m):=(x3 hda).trans hs
  walk_at "u"; obtain ⟨k,t,v,hkx⟩:=hk _ (bq hlt);walk_at "v"
  have hgx:(⟨sub⟩:Array DictEntry)[x]?=some ⟨hashInt k,.int k t,v⟩:=by rw [← hkx];simpa using ak hlt
  refine ⟨PUnit.unit,{ s with heap:=jv s.heap d (iz (es++sub.take (x + 1)) (n + (x + 1))) },?_,x + 1,rfl,hlt,rfl⟩
  refine Op.bind (Op.dictEntries ha' rfl) ?_
  rw [hgx]
  dsimp only
  rw [if_neg ca]
  have hput2:=Op.putNew (e:=e) (d:=d) (es:=es++sub.take x) (n:=n + x) (k:=k) (t:=t) (v:=v) (s:={ s with heap:=jv s.heap d (iz (es++sub.take x) (n + x)) }) (oG hd rfl) ha
   (by rw [af,aP];lia) (fun y hy=>by
    rcases bb.mp hy with hy | hy
    ·have:=hf y hy _ (bq hlt);rw [hkx] at this;exact this
    ·walk_at "u"; obtain ⟨j,hj,eq0⟩:=List.mem_take_iff_getElem.mp hy;walk_at "v"
     subst eq0
     intro q
     have hj':j < x:=by lia
     have h1:(sub.map (·.hash))[j]'(by rw [ag];lia)=(sub.map (·.hash))[x]'(by rw [ag];lia):=by
      rw [e8,e8,q,hkx]
     exact (List.pairwise_iff_getElem.mp hnd) j x _ _ hj' h1)
  have e1:es++sub.take x++[⟨hashInt k,.int k t,v⟩]=es++sub.take (x + 1):=by
   rw [ay,← hkx,fu]
  rw [e1,rl] at hput2
  refine Op.bind (Op.holding hput2) (Op.bind (Op.dictEpoch (o:=iz sub m) ((x3 hda).trans hs) rfl) ?_)
  refine ifn (by simp) ?_
  exact Op.pure
 ·intro b s' hJ2
  walk_at "u"; obtain ⟨i,hr,hi,eq0⟩:=hJ2;walk_at "v"
  subst eq0
  have hi':i=sub.length:=by
   rcases aZ i sub.length with h | h
   ·rw [show sub.length - i=(sub.length - (i + 1)) + 1 from Bn h,gA] at hr;cases hr
   ·lia
  subst hi'
  exact ⟨rfl,by rw [cC]⟩
 ·show aT sub.length=_
  rw [List.range_eq_range',dL]
 ·rw [dj,aE,cJ,x4 hd]
noncomputable abbrev DIt:=Option (Sem Value)×Sem Value
noncomputable abbrev DSt:=Option Addr×List (Sem Value×Sem Value)
noncomputable def AG:{ p:(DIt→DSt→Sem (ForInStep DSt))×(DSt→Sem Value) // ∀ l:List DIt,dictDisplay l=(forIn l ((none,[]):DSt) p.1) >>= p.2 }:=⟨(_,_),fun l=>rfl⟩
noncomputable abbrev dF:=AG.1.1
theorem mq {α β γ:Type} (m:Sem α) (f:α→Sem β) (g:β→Sem γ):(m >>= f) >>= g=m >>= fun a=>f a >>= g:=by
 rw [Sem.bind_eq_wrap',Sem.bind_eq_wrap',Sem.bind_eq_wrap',Sem.wrap_wrap]
 exact Sem.wrap_congr _ _ _ (fun a=>(Sem.bind_eq_wrap' _ _).symm) (fun _=>rfl)
theorem yO {α β:Type} (f:α→β→Sem (ForInStep β)):∀ (l r:List α) (b:β) (hy:∀ x∈l,∀ b,∃ m:Sem β,f x b=m >>= fun y=>pure (.yield y)),forIn (l++r) b f=(forIn l b f) >>= fun b'=>forIn r b' f:=by
 intro lr
 induction lr with
 | nil=>
  intro r b _
  exact rfl
 | cons x l ihr=>
  intro r b hy
  walk_at "u"; obtain ⟨m,hm⟩:=hy x (.head _) b;walk_at "v"
  rw [ar,c8,c8,hm,mq,mq,mq]
  refine congrArg (m >>= ·) (funext fun y=>?_)
  show forIn (l++r) y f=forIn l y f >>= _
  exact ihr r y fun x hx b=>hy x (.tail _ hx) b
theorem yW (k v:Sem Value) (b:DSt):∃ m:Sem DSt,dF (some k,v) b=m >>= fun y=>pure (.yield y):=by
 walk_at "u"; obtain ⟨main,run⟩:=b;walk_at "v"
 by_cases h:((run++[(k,v)]).length == 17)=true
 ·obtain ⟨X,e⟩:∃ X,dF (some k,v) (main,run)=X >>= fun (mn:Option Addr)=>pure (.yield ((mn,[]):DSt)):=by
   apply Exists.intro
   show (if ((run++[(k,v)]).length == 17)=true then _ else _)=_
   exact (if_pos h).trans rfl
  exact ⟨X >>= fun (mn:Option Addr)=>pure ((mn,[]):DSt),by rw [mq];exact e⟩
 ·refine ⟨pure (main,run++[(k,v)]),?_⟩
  show (if ((run++[(k,v)]).length == 17)=true then _ else _)=_
  rw [if_neg h]
  rfl
noncomputable abbrev lw (dp:Pos) (p:Int×Str):DIt:=(some (prK p.1),prV dp p.2)
theorem k9 {dp:Pos} {c r:List (Int×Str)} {b:DSt}:forIn ((c++r).map (lw dp)) b dF=(forIn (c.map (lw dp)) b dF) >>= fun b'=>forIn (r.map (lw dp)) b' dF:=by
 rw [aU]
 refine yO dF _ _ b fun x hx b=>?_
 walk_at "u"; obtain ⟨p,_,eq0⟩:=aA.mp hx;walk_at "v"
 subst eq0
 exact yW _ _ b
theorem Op.accum {dp:Pos} {main:Option Addr}:∀ (c:List (Int×Str)) (run:List (Sem Value×Sem Value)),run.length + c.length≤16→Op e (0) (forIn (c.map (lw dp)) ((main,run):DSt) dF) s (main,run++prs dp c) s
 | [],run,_=>by
  show Op e _ (forIn ([]:List DIt) ((main,run):DSt) dF) s (main,run++[]) s
  rw [aE];exact Op.forIn_nil
 | p :: c,run,h=>by
  have hl:¬ ((run++[(prK p.1,prV dp p.2)]).length == 17)=true:=by
   rw [af,beq_iff_eq];simp only [ax,cQ] at h ⊢;lia
  refine Op.forIn_cons (B':=0) (b':=((main,run++[(prK p.1,prV dp p.2)]):DSt)) (s₁:=s) ?_ ?_
  ·show Op e _ (if ((run++[(prK p.1,prV dp p.2)]).length == 17)=true then _ else _) _ _ _
   refine ifn hl ?_
   exact Op.pure
  ·have:=Op.accum (main:=main) (dp:=dp) c (run++[(prK p.1,prV dp p.2)]) (by rw [af];simp only [ax,cQ] at h ⊢;lia)
   rw [ay] at this
   exact this
theorem w6 {c:List (Int×Str)} (hl:c.length=17):∃ a p,c=a++[p]∧a.length=16:=by
 refine ⟨c.take 16,c[16],?_,by rw [aP];lia⟩
 rw [fu,aG (by walk_at "l")]
theorem Op.chunk0 {dp:Pos} {b:List Stmt} {env:Env} {c:List (Int×Str)} (hc:e.code=.body b env) (hl:c.length=17) (ha:e.n₀≤s.heap.objs.size) (hnd:(c.map fun p=>hashInt p.1).Nodup):
  Op e (1200) (forIn (c.map (lw dp)) ((none,[]):DSt) dF) s (some s.heap.objs.size,[]) { s with heap:=s.heap.push (iz (iA s.toks c) 17),toks:=s.toks + 51 }:=by
 walk_at "u"; obtain ⟨a,p,hx,h16⟩:=w6 hl;walk_at "v"
 have hrun:prs dp a++[(prK p.1,prV dp p.2)]=prs dp c:=by rw [hx];simp [prs]
 have e0:forIn (c.map (lw dp)) ((none,[]):DSt) dF=(forIn (a.map (lw dp)) ((none,[]):DSt) dF) >>= fun b'=>forIn ([p].map (lw dp)) b' dF:=by rw [hx];exact k9
 rw [e0]
 refine Op.bind (Op.accum a [] (by rw [h16];decide)) (Op.forIn_cons (B':=1200) (b':=((some s.heap.objs.size,[]):DSt)) (s₁:={ s with heap:=s.heap.push (iz (iA s.toks c) 17),toks:=s.toks + 51 }) ?_ Op.forIn_nil)
 rw [aw]
 show Op e _ (if ((prs dp a++[(prK p.1,prV dp p.2)]).length == 17)=true then _ else _) _ _ _
 rw [hrun,if_pos (by rw [ag,hl];rfl)]
 refine Op.bind (B':=1200) (a:=some s.heap.objs.size) ?_ Op.pure
 show Op e _ (if (prs dp c).isEmpty=true then _ else _) _ _ _
 refine ifn (by cases c with | nil=>cases hl | cons=>exact ca) ?_
 exact Op.bind (Op.subLong hc hl ha hnd) Op.pure
theorem Op.flushOn {Bs:Nat} {dp:Pos} {d:Addr} {c:List (Int×Str)} {es sub:List DictEntry} {n:Nat} {s₁:Shared}
  (hsub:Op e Bs (subDict (prs dp c)) s s.heap.objs.size s₁) (hd:s₁.heap.get? d=some (iz es n)) (hs:s₁.heap.get? s.heap.objs.size=some (iz sub sub.length)) (ha:e.n₀≤d) (hda:d≠s.heap.objs.size) (hsys:s.heap.objs.size≠sysModules)
  (hne:es≠[]) (hz:es.length + sub.length≤100000) (hk:∀ x∈sub,∃ k t v,x=⟨hashInt k,.int k t,v⟩) (hf:∀ x∈es,∀ y∈sub,x.hash≠y.hash) (hnd:(sub.map (·.hash)).Nodup):
  Op e (Bs + 20 + 20 * sub.length) (do
   let sub ← PySem.holding [.ref d] (subDict (prs dp c))
   (PySem.holding [.ref d,.ref sub] (mergeMapping d (.ref sub) false)).onRaise fun x=>do
    let _ ← PySem.holding [.ref d,x] (runValue (.builtin "proto.let_go" {}))
    Pure.pure ()
   Pure.pure (some d)) s (some d) { s₁ with heap:=jv s₁.heap d (iz (es++sub) (n + sub.length)) }:=
 Op.bind (Op.holding hsub) (Op.bind (Op.onRaise (Op.holding (Op.merge ha hda hsys hd hs hne hz hk hf hnd))) Op.pure)
theorem Op.chunk {dp:Pos} {d:Addr} {b:List Stmt} {env:Env} {c:List (Int×Str)} {es:List DictEntry} {n:Nat} (hc:e.code=.body b env) (hl:c.length=17) (ha:e.n₀≤d) (hlt:d < s.heap.objs.size) (hsys:1 < s.heap.objs.size) (hnd:(c.map fun p=>hashInt p.1).Nodup)
  (hd:s.heap.get? d=some (iz es n)) (hne:es≠[]) (hz:es.length≤90000) (hf:yr es c):
  Op e (1600) (forIn (c.map (lw dp)) ((some d,[]):DSt) dF) s (some d,[]) { s with heap:=jv (s.heap.push (iz (iA s.toks c) 17)) d (iz (es++iA s.toks c) (n + 17)),toks:=s.toks + 51 }:=by
 walk_at "u"; obtain ⟨a,p,hx,h16⟩:=w6 hl;walk_at "v"
 have hrun:prs dp a++[(prK p.1,prV dp p.2)]=prs dp c:=by rw [hx];simp [prs]
 have e0:forIn (c.map (lw dp)) ((some d,[]):DSt) dF=(forIn (a.map (lw dp)) ((some d,[]):DSt) dF) >>= fun b'=>forIn ([p].map (lw dp)) b' dF:=by rw [hx];exact k9
 rw [e0]
 refine Op.bind (Op.accum a [] (by rw [h16];decide)) (Op.forIn_cons (B':=1600) (b':=((some d,[]):DSt)) (s₁:={ s with heap:=jv (s.heap.push (iz (iA s.toks c) 17)) d (iz (es++iA s.toks c) (n + 17)),toks:=s.toks + 51 }) ?_ Op.forIn_nil)
 rw [aw]
 show Op e _ (if ((prs dp a++[(prK p.1,prV dp p.2)]).length == 17)=true then _ else _) _ _ _
 rw [hrun,if_pos (by rw [ag,hl];rfl)]
 refine Op.bind (B':=1600) (a:=some d) ?_ Op.pure
 show Op e _ (if (prs dp c).isEmpty=true then _ else _) _ _ _
 refine ifn (by cases c with | nil=>cases hl | cons=>exact ca) ?_
 have hlen:(iA s.toks c).length=17:=by rw [j9,hl]
 have:=Op.flushOn (e:=e) (dp:=dp) (d:=d) (c:=c) (s:=s) (es:=es) (n:=n) (sub:=iA s.toks c) (Op.subLong hc hl (aa ha (aF hlt)) hnd) (Heap.get?_push_of_some _ hd) (by rw [hlen];exact Heap.get?_push_size _ rfl) ha (ce hlt) (bE hsys) hne (by rw [hlen];lia)
  (fun x hx=>wI hx)
  (fun x hx y hy=>by obtain ⟨p,hp,e⟩:=lB hy;rw [e];exact hf x hx p hp)
  (by rw [uC];exact hnd)
 rw [hlen] at this
 exact this.le (by decide)

/- the short way: first all pairs, then the stores -/
noncomputable def zc:Nat→List (Int×Str)→List (Value×Value)
 | _,[]=>[]
 | t,(k,v) :: r=>(.int k t,.str v (t + 1)) :: zc (t + 2) r
theorem Op.evalPairs {dp:Pos}:∀ (c:List (Int×Str)) (s:Shared),Op e (5 * c.length) (PySem.evalPairs (prs dp c)) s (zc s.toks c) { s with toks:=s.toks + 2 * c.length }
 | [],s=>Op.pure
 | (k,v) :: c,s=>by
  have ih:=Op.evalPairs (dp:=dp) c { s with toks:=s.toks + 1 + 1 }
  have e4:s.toks + 1 + 1 + 2 * c.length=s.toks + 2 * ((k,v) :: c).length:=by rw [ax];walk_at "l"
  dsimp only at ih
  rw [e4] at ih
  show Op e _ (do let kv ← prK k;let vv ← PySem.holding [kv] (prV dp v);return (kv,vv) :: (← PySem.holding [kv,vv] (PySem.evalPairs (prs dp c)))) _ _ _
  exact Op.bind zN (Op.bind (Op.holding zM) (Op.bind (Op.holding ih) Op.pure (by rw [ax];lia)) (by rw [ax];lia)) (by rw [ax];walk_at "l")
theorem Op.shortLoop {f:Value×Value→PUnit→Sem (ForInStep PUnit)} {d:Addr} (hb:∀ k v u,f (k,v) u=(do
   dictSet d k v
   Pure.pure (ForInStep.yield PUnit.unit))) {b:List Stmt} {env:Env} (hc:e.code=.body b env) (ha:e.n₀≤d):∀ (c:List (Int×Str)) (t:Nat) (es:List DictEntry) (n:Nat) (s:Shared),s.heap.get? d=some (iz es n)→es.length + c.length≤100000→yr es c→(c.map fun p=>hashInt p.1).Nodup→
  Op e (60 * c.length) (forIn (zc t c) PUnit.unit f) s PUnit.unit { s with heap:=jv s.heap d (iz (es++i5 t c) (n + c.length)),toks:=s.toks + c.length }:=by
 intro lr
 induction lr with
 | nil=>
  intro t es n s ho _ _ _
  have:jv s.heap d (iz (es++i5 t []) (n + [].length (α:=Int×Str)))=s.heap:=by
   rw [show es++i5 t []=es from aE _];exact x4 ho
  rw [this]
  exact Op.forIn_nil
 | cons hdp c ihr=>
  obtain ⟨k,v⟩:=hdp
  intro t es n s ho hz hf hnd
  rw [be,cj] at hnd
  have hz1:es.length≤100000:=by simp only [ax] at hz;lia
  have step:=Op.setNew (e:=e) (s:=s) (t:=t) (v:=.str v (t + 1)) hc ho ha hz1 (fun x hx=>hf x hx (k,v) (.head _))
  have ih:=ihr (t + 2) (es++[⟨hashInt k,.int k t,.str v (t + 1)⟩]) (n + 1) { s with heap:=jv s.heap d (iz (es++[⟨hashInt k,.int k t,.str v (t + 1)⟩]) (n + 1)),toks:=s.toks + 1 }
   (oG ho rfl) (by simp only [af,ax,cQ] at hz ⊢;lia) (fun x hx p hp=>by
    rcases bb.mp hx with hx | hx
    ·exact hf x hx p (.tail _ hp)
    ·rcases br.mp hx with rfl
     intro q
     exact hnd.1 (aA.mpr ⟨p,hp,q.symm⟩)) hnd.2
  have hone:Op e 60 (f (.int k t,.str v (t + 1)) PUnit.unit) s (ForInStep.yield PUnit.unit) { s with heap:=jv s.heap d (iz (es++[⟨hashInt k,.int k t,.str v (t + 1)⟩]) (n + 1)),toks:=s.toks + 1 }:=by rw [hb];exact Op.bind step Op.pure
  refine Op.forIn_cons hone (Op.le (B:=60 * c.length) ?_ (by rw [ax];lia)) (by rw [ax];walk_at "l")
  rw [rl] at ih
  have e2:es++[⟨hashInt k,.int k t,.str v (t + 1)⟩]++i5 (t + 2) c=es++i5 t ((k,v) :: c):=by rw [ay];rfl
  rw [e2] at ih
  have e3:n + 1 + c.length=n + ((k,v) :: c).length:=by rw [ax];walk_at "l"
  have e4:s.toks + 1 + c.length=s.toks + ((k,v) :: c).length:=by rw [ax];walk_at "l"
  rw [e3,e4] at ih
  exact ih
theorem zH (h:Heap) (o o':Obj):jv (h.push o) h.objs.size o'=h.push o':=by
 walk_at "u"; obtain ⟨objs,life⟩:=h;walk_at "v"
 show (⟨(objs.push _).modify objs.size _,life⟩:Heap)=⟨objs.push _,life⟩
 congr 1
 apply Array.ext_getElem?
 intro i
 rw [Array.getElem?_modify,Array.getElem?_push,Array.getElem?_push]
 by_cases hi:i=objs.size
 ·subst hi;simp
 ·rw [if_neg (Ne.symm hi),if_neg hi,if_neg hi]
theorem Op.subShort {dp:Pos} {b:List Stmt} {env:Env} {c:List (Int×Str)} (hc:e.code=.body b env) (hl:c.length≤15) (ha:e.n₀≤s.heap.objs.size) (hnd:(c.map fun p=>hashInt p.1).Nodup):
  Op e (1100) (subDict (prs dp c)) s s.heap.objs.size { s with heap:=s.heap.push (iz (i5 s.toks c) c.length),toks:=s.toks + 2 * c.length + c.length }:=by
 unfold subDict
 refine Op.bind Op.alloc (Op.bind (B':=1098) (a:=PUnit.unit) (s₁:={ s with heap:=s.heap.push (iz (i5 s.toks c) c.length),toks:=s.toks + 2 * c.length + c.length }) (Op.holding ?_) Op.pure)
 refine ifp (by rw [ag];exact hl) ?_
 have e1:jv (s.heap.push { cls:=.type "dict", data:=.dict #[] }) s.heap.objs.size (iz ([]++i5 s.toks c) (0 + c.length))=s.heap.push (iz (i5 s.toks c) c.length):=by
  rw [zH,aw,dq]
 have e2:({ s with heap:=jv (s.heap.push { cls:=.type "dict", data:=.dict #[] }) s.heap.objs.size (iz ([]++i5 s.toks c) (0 + c.length)),toks:=s.toks + 2 * c.length + c.length }:Shared)={ s with heap:=s.heap.push (iz (i5 s.toks c) c.length),toks:=s.toks + 2 * c.length + c.length }:=by rw [e1]
 rw [← e2]
 exact Op.bind (Op.evalPairs c { s with heap:=s.heap.push { cls:=.type "dict", data:=.dict #[] } }) (Op.holding (Op.bind (B':=60 * c.length) (Op.shortLoop (d:=s.heap.objs.size) (s:={ s with heap:=s.heap.push { cls:=.type "dict", data:=.dict #[] },toks:=s.toks + 2 * c.length }) (fun k v u=>rfl) hc ha c s.toks [] 0 (Heap.get?_push_size _ rfl) (by simp only [cQ];lia) (fun _ hx=>nomatch hx) hnd) Op.pure (by lia))) (by lia)
noncomputable def Hs (h:Heap) (m:Obj) (subs:List Obj):Heap:=⟨⟨h.objs.toList++m :: subs⟩,h.life⟩
theorem Ba (h:Heap) (m:Obj):h.push m=Hs h m []:=by
 walk_at "u"; obtain ⟨⟨l⟩,life⟩:=h;walk_at "v"
 show (⟨(⟨l⟩:Array Obj).push m,life⟩:Heap)=⟨⟨l++[m]⟩,life⟩
 rw [gx]
theorem uV (h:Heap) (m o:Obj) (subs:List Obj):(Hs h m subs).push o=Hs h m (subs++[o]):=by
 walk_at "u"; obtain ⟨⟨l⟩,life⟩:=h;walk_at "v"
 show (⟨(⟨l++m :: subs⟩:Array Obj).push o,life⟩:Heap)=⟨⟨l++m :: (subs++[o])⟩,life⟩
 rw [gx,ay];rfl
theorem Bb (h:Heap) (m m':Obj) (subs:List Obj):jv (Hs h m subs) h.objs.size m'=Hs h m' subs:=by
 walk_at "u"; obtain ⟨⟨l⟩,life⟩:=h;walk_at "v"
 show (⟨(⟨l++m :: subs⟩:Array Obj).modify l.length _,life⟩:Heap)=⟨⟨l++m' :: subs⟩,life⟩
 congr 1
 apply Array.ext_getElem?
 intro i
 rw [Array.getElem?_modify]
 simp only [List.getElem?_toArray]
 by_cases hi:l.length=i
 ·subst hi;simp
 ·rw [if_neg hi]
  by_cases hl:i < l.length
  ·rw [bH hl,bH hl]
  ·rw [bf (by lia),bf (by lia)]
   obtain ⟨k,hk⟩:∃ k,i - l.length=k + 1:=⟨i - l.length - 1,Bn (i:=0) (gz (gw (b7.mp hl) hi))⟩
   rw [hk];rfl
theorem Bc (h:Heap) (es:List DictEntry) (n:Nat) (subs:List Obj):(Hs h (iz es n) subs).get? h.objs.size=some (iz es n):=by
 walk_at "u"; obtain ⟨⟨l⟩,life⟩:=h;walk_at "v"
 have:(⟨l++iz es n :: subs⟩:Array Obj)[l.length]?=some (iz es n):=by simp
 show (match (⟨l++iz es n :: subs⟩:Array Obj)[l.length]? with | some ⟨_,_,.freed,_⟩=>none | o=>o)=_
 rw [this]
theorem yq (h:Heap) (m:Obj) (subs:List Obj):(Hs h m subs).objs.size=h.objs.size + 1 + subs.length:=by
 walk_at "u"; obtain ⟨⟨l⟩,life⟩:=h;walk_at "v"
 show (l++m :: subs).length=l.length + 1 + subs.length
 rw [af,ax];walk_at "l"
theorem nP:∀ (c r:List (Int×Str)) (t:Nat),iA t (c++r)=iA t c++iA (t + 3 * c.length) r:=by
 intro lr
 induction lr with
 | nil=>
  intro r t
  exact rfl
 | cons hdp c ihr=>
  obtain ⟨k,v⟩:=hdp
  intro r t
  show _ :: iA (t + 3) (c++r)=_ :: (iA (t + 3) c++_)
  rw [ihr r,ax,show t + 3 + 3 * c.length=t + 3 * (c.length + 1) by lia]
noncomputable def kj:Nat→List (List (Int×Str))→List Obj
 | _,[]=>[]
 | t,c :: cs=>iz (iA t c) 17 :: kj (t + 51) cs
theorem tr:∀ (cs:List (List (Int×Str))) (t:Nat),(kj t cs).length=cs.length:=by
 intro lr
 induction lr with
 | nil=>
  intro _
  exact rfl
 | cons c cs ihr=>
  intro t
  show (kj (t + 51) cs).length + 1=_;rw [ihr];rfl
noncomputable abbrev hs (c:List (Int×Str)):List Int:=c.map fun p=>hashInt p.1
theorem Op.chunks {h₀:Heap} {dp:Pos} {b:List Stmt} {env:Env} (hc:e.code=.body b env) (ha:e.n₀≤h₀.objs.size) (h1:1 < h₀.objs.size):∀ (cs:List (List (Int×Str))) (es:List DictEntry) (n:Nat) (subs:List Obj) (s:Shared),s.heap=Hs h₀ (iz es n) subs→(∀ c∈cs,c.length=17)→
  es≠[]→es.length + 17 * cs.length≤90000→yr es cs.flatten→(hs cs.flatten).Nodup→
  Op e (1600 * cs.length) (forIn (cs.flatten.map (lw dp)) ((some h₀.objs.size,[]):DSt) dF) s (some h₀.objs.size,[]) { s with heap:=Hs h₀ (iz (es++iA s.toks cs.flatten) (n + 17 * cs.length)) (subs++kj s.toks cs),toks:=s.toks + 51 * cs.length }
 | [],es,n,subs,s,hh,_,_,_,_,_=>by
  have:({ s with heap:=Hs h₀ (iz (es++iA s.toks []) (n + 17 * 0)) (subs++kj s.toks []),toks:=s.toks + 51 * 0 }:Shared)=s:=by
   rw [show es++iA s.toks []=es from aE _,show subs++kj s.toks []=subs from aE _,← show s.heap=Hs h₀ (iz es (n + 17 * 0)) subs from hh]
   rfl
  show Op e _ _ s _ { s with heap:=Hs h₀ (iz (es++iA s.toks []) (n + 17 * 0)) (subs++kj s.toks []),toks:=s.toks + 51 * 0 }
  rw [this]
  exact Op.forIn_nil
 | c :: cs,es,n,subs,s,hh,hl,hne,hz,hf,hnd=>by
  have hlc:=hl c (.head _)
  rw [bT,show hs (c++cs.flatten)=hs c++hs cs.flatten from aU,eU] at hnd
  have hsz:h₀.objs.size < s.heap.objs.size:=by rw [hh,yq];walk_at "l"
  have hd:s.heap.get? h₀.objs.size=some (iz es n):=by rw [hh];exact Bc ..
  have step:=Op.chunk (e:=e) (dp:=dp) (s:=s) (c:=c) hc hlc ha hsz (cz h1 hsz) hnd.1 hd hne (by lia) (fun x hx p hp=>hf x hx p (List.mem_flatten.mpr ⟨c,.head _,hp⟩))
  have hheap:jv (s.heap.push (iz (iA s.toks c) 17)) h₀.objs.size (iz (es++iA s.toks c) (n + 17))=Hs h₀ (iz (es++iA s.toks c) (n + 17)) (subs++[iz (iA s.toks c) 17]):=by
   rw [hh,uV,Bb]
  rw [hheap] at step
  have ih:=Op.chunks (dp:=dp) hc ha h1 cs (es++iA s.toks c) (n + 17) (subs++[iz (iA s.toks c) 17]) { s with heap:=Hs h₀ (iz (es++iA s.toks c) (n + 17)) (subs++[iz (iA s.toks c) 17]),toks:=s.toks + 51 } rfl
   (fun c hc=>hl c (.tail _ hc)) (by intro q;exact hne (List.append_eq_nil_iff.mp q).1) (by rw [af,j9,hlc];rw [ax] at hz;lia)
   (fun x hx p hp=>by
    rcases bb.mp hx with hx | hx
    ·exact hf x hx p (by rw [bT];exact bz _ hp)
    ·walk_at "u"; obtain ⟨q,hq,eq⟩:=lB hx;walk_at "v"
     rw [eq]
     exact hnd.2.2 _ (aA.mpr ⟨q,hq,rfl⟩) _ (aA.mpr ⟨p,hp,rfl⟩)) hnd.2.1
  rw [bT,k9]
  have e1:es++iA s.toks c++iA (s.toks + 51) cs.flatten=es++iA s.toks (c++cs.flatten):=by
   rw [nP,hlc,ay]
  have e2:subs++[iz (iA s.toks c) 17]++kj (s.toks + 51) cs=subs++kj s.toks (c :: cs):=by rw [ay];rfl
  have e3:n + 17 + 17 * cs.length=n + 17 * (c :: cs).length:=by rw [ax];walk_at "l"
  have e4:s.toks + 51 + 51 * cs.length=s.toks + 51 * (c :: cs).length:=by rw [ax];walk_at "l"
  dsimp only at ih
  rw [e1,e2,e3,e4] at ih
  exact Op.bind step (ih.le (by rw [ax];lia)) (by rw [ax];walk_at "l")
theorem vu:∀ (cs:List (List (Int×Str))),(∀ c∈cs,c.length=17)→cs.flatten.length=17 * cs.length:=by
 intro lr
 induction lr with
 | nil=>
  intro _
  exact rfl
 | cons c cs ihr=>
  intro h
  rw [bT,af,h c (.head _),ihr fun c hc=>h c (.tail _ hc),ax];lia
theorem Op.display {dp:Pos} {b:List Stmt} {env:Env} {c₀ l:List (Int×Str)} {cs:List (List (Int×Str))} (hc:e.code=.body b env) (ha:e.n₀≤s.heap.objs.size) (h1:1 < s.heap.objs.size)
  (hl₀:c₀.length=17) (hl:∀ c∈cs,c.length=17) (hll:l.length≤15) (hlp:l≠[]) (hz:cs.length≤1000) (hnd:(hs (c₀++(cs.flatten++l))).Nodup):
  Op e (3200 + 1600 * cs.length) (dictDisplay ((c₀++(cs.flatten++l)).map (lw dp))) s (.ref s.heap.objs.size) { s with
   heap:=Hs s.heap (iz (iA s.toks (c₀++cs.flatten)++i5 (s.toks + 51 + 51 * cs.length) l) (17 + 17 * cs.length + l.length)) (kj (s.toks + 51) cs++[iz (i5 (s.toks + 51 + 51 * cs.length) l) l.length]),
   toks:=s.toks + 51 + 51 * cs.length + 2 * l.length + l.length }:=by
 rw [AG.2]
 rw [show hs (c₀++(cs.flatten++l))=hs c₀++(hs cs.flatten++hs l) by simp [hs],eU,eU] at hnd
 walk_at "u"; obtain ⟨n1,⟨n2,n3,n4⟩,n5⟩:=hnd;walk_at "v"
 have hlen0:(iA s.toks c₀).length=17:=by rw [j9,hl₀]
 have st0:=Op.chunk0 (e:=e) (dp:=dp) (s:=s) hc hl₀ ha n1
 rw [Ba] at st0
 have st1:=Op.chunks (e:=e) (dp:=dp) hc ha h1 cs (iA s.toks c₀) 17 [] { s with heap:=Hs s.heap (iz (iA s.toks c₀) 17) [],toks:=s.toks + 51 } rfl hl (by intro q;(first | obtain rfl:=aq (q.symm.trans hlen0) | exact absurd (q.symm.trans hlen0) (al _) | exact absurd (q.symm.trans hlen0).symm (al _) | exact (jW (q.symm.trans hlen0) rfl).elim | (rw [q] at hlen0;cases hlen0))) (by lia)
  (fun x hx p hp=>by
   walk_at "u"; obtain ⟨q,hq,eq⟩:=lB hx;walk_at "v"
   rw [eq]
   exact n5 _ (aA.mpr ⟨q,hq,rfl⟩) _ (fQ _ (aA.mpr ⟨p,hp,rfl⟩))) n2
 dsimp only at st1
 have e1:iA s.toks c₀++iA (s.toks + 51) cs.flatten=iA s.toks (c₀++cs.flatten):=by rw [nP,hl₀]
 rw [e1,aw] at st1
 have hE:(iA s.toks (c₀++cs.flatten)).length=17 + 17 * cs.length:=by
  rw [j9,af,hl₀,vu cs hl]
 have hll':(i5 (s.toks + 51 + 51 * cs.length) l).length=l.length:=uB
 have hsz:(Hs s.heap (iz (iA s.toks (c₀++cs.flatten)) (17 + 17 * cs.length)) (kj (s.toks + 51) cs)).objs.size=s.heap.objs.size + 1 + cs.length:=by rw [yq,tr]
 have sub:=Op.subShort (e:=e) (dp:=dp) (c:=l) (s:={ s with heap:=Hs s.heap (iz (iA s.toks (c₀++cs.flatten)) (17 + 17 * cs.length)) (kj (s.toks + 51) cs),toks:=s.toks + 51 + 51 * cs.length }) hc hll (by rw [hsz];lia) n3
 have fl:=Op.flushOn (e:=e) (dp:=dp) (d:=s.heap.objs.size) (c:=l) (es:=iA s.toks (c₀++cs.flatten)) (n:=17 + 17 * cs.length) (sub:=i5 (s.toks + 51 + 51 * cs.length) l) sub
  (by dsimp only;rw [uV];exact Bc ..) (by dsimp only;rw [hll'];exact Heap.get?_push_size _ rfl) ha (by dsimp only;rw [hsz];exact ce (an (bv _) (aM _ _))) (by dsimp only;rw [hsz];exact bE (an h1 (aa (cG _) (aM _ _))))
  (by intro q;rw [q] at hE;simp at hE;lia) (by rw [hE,hll'];lia) (fun x hx=>wF hx)
  (fun x hx y hy=>by
   walk_at "u"; obtain ⟨p,hp,ep⟩:=lB hx;walk_at "v"
   have hy':y.hash∈hs l:=by
    have:=c5 (f:=(·.hash)) hy
    rw [nO] at this
    exact this
   rw [ep]
   rcases bb.mp hp with hp | hp
   ·exact n5 _ (aA.mpr ⟨p,hp,rfl⟩) _ (bz _ hy')
   ·exact n4 _ (aA.mpr ⟨p,hp,rfl⟩) _ hy') (by rw [nO];exact n3)
 dsimp only at fl
 rw [uV,Bb,hll'] at fl
 rw [k9]
 refine Op.bind (B':=1200 + 1600 * cs.length) (Op.bind st0 ?_) ?_ (a:=(some s.heap.objs.size,prs dp l)) (s₁:={ s with heap:=Hs s.heap (iz (iA s.toks (c₀++cs.flatten)) (17 + 17 * cs.length)) (kj (s.toks + 51) cs),toks:=s.toks + 51 + 51 * cs.length })
 ·rw [k9]
  exact Op.bind (st1.le (B':=1600 * cs.length) (av _)) (by have:=Op.accum (e:=e) (s:={ s with heap:=Hs s.heap (iz (iA s.toks (c₀++cs.flatten)) (17 + 17 * cs.length)) (kj (s.toks + 51) cs),toks:=s.toks + 51 + 51 * cs.length }) (dp:=dp) (main:=some s.heap.objs.size) l [] (by rw [cQ];walk_at "l");exact this.le (ba _))
 ·show Op e _ (do
   let x ← (if (prs dp l).isEmpty=true then Pure.pure (some s.heap.objs.size) else do
    let sub ← PySem.holding [.ref s.heap.objs.size] (subDict (prs dp l))
    (PySem.holding [.ref s.heap.objs.size,.ref sub] (mergeMapping s.heap.objs.size (.ref sub) false)).onRaise fun x=>do
     let _ ← PySem.holding [.ref s.heap.objs.size,x] (runValue (.builtin "proto.let_go" {}))
     Pure.pure ()
    Pure.pure (some s.heap.objs.size))
   match x with
   | some d=>Pure.pure (Value.ref d)
   | none=>newDict) _ _ _
  rewrite [if_neg (by cases l with | nil=>exact absurd rfl hlp | cons=>exact ca)]
  exact Op.bind (fl.le (B':=1500) (by lia)) Op.pure
end
end Internal
end
section
open PySem PySem.W PyProof.Rows
namespace Internal
noncomputable section
noncomputable abbrev PR:Program:=PySem.Challenge.pw_rw0121_01
noncomputable def mY:List Stmt→Nat→Stmt
 | [],_=>.Pass default
 | s :: _,0=>s
 | _ :: r,n + 1=>mY r n
noncomputable def stm (n:Nat):Stmt:=mY PR.main.body n
noncomputable def im:Stmt→Arguments | .FunctionDef _ a _ _ _ _ _ _ _ _=>a | _=>default
noncomputable def iu:Stmt→List Stmt | .FunctionDef _ _ b _ _ _ _ _ _ _=>b | .ClassDef _ _ _ b _ _ _ _ _ _ _=>b | _=>[]
noncomputable def iq:Stmt→Scope | .FunctionDef _ _ _ _ _ _ sc _ _ _=>sc | _=>default
noncomputable def iR (n k:Nat):Stmt:=mY (iu (stm n)) k
/- the big table of the module's top -/
noncomputable def AL:Stmt→List (Option Expr) | .Assign _ (.Dict ks _ _) _=>ks | _=>[]
noncomputable def AK:Stmt→List Expr | .Assign _ (.Dict _ vs _) _=>vs | _=>[]
noncomputable def Fn:Option Expr→Int | some (.Constant (.int i) _ _)=>i | _=>0
noncomputable def strOf:Expr→Str | .Constant (.str s) _ _=>s | _=>⟨⟨[]⟩⟩
noncomputable def xL:List (Option Expr)→List Expr→List (Int×Str)
 | k :: ks,v :: vs=>(Fn k,strOf v) :: xL ks vs
 | _,_=>[]
noncomputable def k7:List (Int×Str):=xL (AL (stm 13)) (AK (stm 13))
noncomputable def pC0:List (Int×Str):=k7.take 17
noncomputable def pCs:List (List (Int×Str)):=(aT 37).map fun j=>(k7.drop (17 * (j + 1))).take 17
noncomputable def pL:List (Int×Str):=k7.drop 646
noncomputable def kI:Obj:=iz (iA 398 (pC0++pCs.flatten)++i5 (398 + 51 + 51 * pCs.length) pL) (17 + 17 * pCs.length + pL.length)
noncomputable def zi:List Obj:=kj (398 + 51) pCs++[iz (i5 (398 + 51 + 51 * pCs.length) pL) pL.length]
noncomputable def je (k:Nat):Obj:=zi.getD k default
noncomputable def Ag:BT→Nat→List Obj→BT
 | t,_,[]=>t
 | t,a,o :: os=>Ag (t.ins a o) (a + 1) os
noncomputable abbrev z0:Str:=⟨⟨[47,99,108,97,105,109,47,99,117,116,46,112,121]⟩⟩
noncomputable abbrev z1:Str:=⟨⟨[95,110,101,116,114,99,108,101,120]⟩⟩
noncomputable abbrev z2:Str:=⟨⟨[95,100,105,118,50,110,49,110]⟩⟩
noncomputable abbrev z3:Str:=⟨⟨[95,100,105,118,51,110,50,110]⟩⟩
noncomputable abbrev z4:Str:=⟨⟨[95,105,110,116,50,100,105,103,105,116,115]⟩⟩
noncomputable abbrev z5:Str:=⟨⟨[95,100,105,103,105,116,115,50,105,110,116]⟩⟩
noncomputable abbrev z6:Str:=⟨⟨[95,100,105,118,109,111,100,95,112,111,115]⟩⟩
noncomputable abbrev z7:Str:=⟨⟨[105,110,116,95,100,105,118,109,111,100]⟩⟩
noncomputable abbrev z8:Str:=⟨⟨[95,95,100,111,99,95,95]⟩⟩
noncomputable abbrev z9:Str:=⟨⟨[95,95,110,97,109,101,95,95]⟩⟩
noncomputable abbrev z10:Str:=⟨⟨[95,95,112,97,99,107,97,103,101,95,95]⟩⟩
noncomputable abbrev z11:Str:=⟨⟨[95,95,108,111,97,100,101,114,95,95]⟩⟩
noncomputable abbrev z12:Str:=⟨⟨[95,95,115,112,101,99,95,95]⟩⟩
noncomputable abbrev z13:Str:=⟨⟨[95,95,97,110,110,111,116,97,116,105,111,110,115,95,95]⟩⟩
noncomputable abbrev z14:Str:=⟨⟨[95,95,98,117,105,108,116,105,110,115,95,95]⟩⟩
noncomputable abbrev z15:Str:=⟨⟨[95,95,102,105,108,101,95,95]⟩⟩
noncomputable abbrev z16:Str:=⟨⟨[95,95,99,97,99,104,101,100,95,95]⟩⟩
noncomputable abbrev z17:Str:=⟨⟨[95,68,73,86,95,76,73,77,73,84]⟩⟩
noncomputable abbrev z18:Str:=⟨⟨[105,110,95,116,97,98,108,101,95,98,49]⟩⟩
noncomputable abbrev z19:Str:=⟨⟨[108,97,119,95,114,119,48,49,50,49,95,48,49]⟩⟩
noncomputable abbrev z20:Str:=⟨⟨[98,49,95,115,101,116]⟩⟩
noncomputable abbrev z21:Str:=⟨⟨[109,97,112,95,116,97,98,108,101,95,98,51]⟩⟩
noncomputable abbrev z22:Str:=⟨⟨[95,108,97,119,95,108,101,116,116,101,114,115]⟩⟩
noncomputable abbrev z23:Str:=⟨⟨[95,108,97,119,95,119,111,114,100,115]⟩⟩
noncomputable abbrev z24:Str:=⟨⟨[95,108,97,119,95,102,105,108,101]⟩⟩
noncomputable abbrev z25:Str:=⟨⟨[95,108,97,119,95,108,101,120,101,114]⟩⟩
noncomputable abbrev z26:Str:=⟨⟨[95,108,97,119,95,116,105,99,107,115]⟩⟩
noncomputable abbrev z27:Str:=⟨⟨[95,108,97,119,95,110,117,109,98,101,114]⟩⟩
noncomputable abbrev z28:Str:=⟨⟨[95,108,97,119,95,100,105,118,105,100,101,100]⟩⟩
noncomputable abbrev z29:Str:=⟨⟨[95,108,97,119,95,114,101,97,100]⟩⟩
noncomputable abbrev z30:Str:=⟨⟨[108,97,119]⟩⟩
noncomputable abbrev z31:Str:=⟨⟨[99,112,121,51,49,51,46,95,112,121,108,111,110,103]⟩⟩
noncomputable abbrev z32:Str:=⟨⟨[99,112,121,51,49,51,46,110,101,116,114,99]⟩⟩
noncomputable abbrev z33:Str:=⟨⟨[95,95,105,110,105,116,95,95]⟩⟩
noncomputable abbrev z34:Str:=⟨⟨[95,114,101,97,100,95,99,104,97,114]⟩⟩
noncomputable abbrev z35:Str:=⟨⟨[103,101,116,95,116,111,107,101,110]⟩⟩
noncomputable abbrev z36:Str:=⟨⟨[112,117,115,104,95,116,111,107,101,110]⟩⟩
noncomputable abbrev z38:Str:=⟨⟨[99,112,121,51,49,51,46,115,116,114,105,110,103,112,114,101,112]⟩⟩
noncomputable abbrev z40:Str:=⟨⟨[95,95,109,111,100,117,108,101,95,95]⟩⟩
noncomputable abbrev z41:Str:=⟨⟨[95,95,102,105,114,115,116,108,105,110,101,110,111,95,95]⟩⟩
noncomputable abbrev z42:Str:=⟨⟨[95,95,115,116,97,116,105,99,95,97,116,116,114,105,98,117,116,101,115,95,95]⟩⟩
noncomputable abbrev z43:Str:=⟨⟨[115,101,108,102]⟩⟩
noncomputable abbrev z46:Str:=⟨⟨[98,51,95,101,120,99,101,112,116,105,111,110,115]⟩⟩
noncomputable abbrev z47:Str:=⟨⟨[95,110,101,116,114,99,108,101,120,46,95,95,105,110,105,116,95,95]⟩⟩
noncomputable abbrev z48:Str:=⟨⟨[95,110,101,116,114,99,108,101,120,46,95,114,101,97,100,95,99,104,97,114]⟩⟩
noncomputable abbrev z49:Str:=⟨⟨[95,110,101,116,114,99,108,101,120,46,103,101,116,95,116,111,107,101,110]⟩⟩
noncomputable abbrev z50:Str:=⟨⟨[95,110,101,116,114,99,108,101,120,46,112,117,115,104,95,116,111,107,101,110]⟩⟩
noncomputable abbrev z51:Str:=⟨⟨[95,95,100,105,99,116,95,95]⟩⟩
noncomputable abbrev z52:Str:=⟨⟨[95,95,119,101,97,107,114,101,102,95,95]⟩⟩
noncomputable abbrev z54:Str:=⟨⟨[60,109,111,100,117,108,101,62]⟩⟩
noncomputable abbrev z55:Str:=⟨⟨[95,95,113,117,97,108,110,97,109,101,95,95]⟩⟩
noncomputable abbrev z57:Str:=⟨⟨[116,111,107,101,110]⟩⟩
noncomputable abbrev z60:Str:=⟨⟨[97,95,100,105,103,105,116,115]⟩⟩
noncomputable abbrev z61:Str:=⟨⟨[105,110,110,101,114]⟩⟩
noncomputable abbrev z62:Str:=⟨⟨[100,105,103,105,116,115]⟩⟩
noncomputable abbrev z63:Str:=⟨⟨[99,111,100,101]⟩⟩
noncomputable abbrev z64:Str:=⟨⟨[108,101,102,116]⟩⟩
noncomputable def oD (P:Params):Obj:=⟨(.type "tuple"),none,(.seq ⟨[]⟩ 0),⟨[]⟩⟩
noncomputable def DW (P:Params):Obj:=⟨.none,none,(.fields ⟨[]⟩),⟨[]⟩⟩
noncomputable def oC (P:Params):Obj:=⟨(.type "code"),none,(.fields ⟨[(.str z54 182),(.str z54 183),(.str z0 184),(.int (.ofNat 1) 0),(.int (.ofNat 0) 0),(.int (.ofNat 0) 0),(.int (.ofNat 0) 0),(.int (.ofNat 0) 0),(.ref 11),(.bool false),(.int (.ofNat 181) 0),(.ref 12),.none,.none,.none,.none,(.int (.ofNat 185) 0),(.int (.ofNat 1) 0),(.str z0 186)]⟩),⟨[]⟩⟩
noncomputable def oB (P:Params):Obj:=⟨(.type "frame"),none,.plain,⟨[(some (.ref 13)),(some (.ref 3)),(some (.ref 3)),none,(some (.str ⟨⟨[95,95,109,97,105,110,95,95]⟩⟩ 164)),none,(some (.ref 0))]⟩⟩
noncomputable def T_a (P:Params):BT:=(.node (boot_o_0 P) (.node (boot_o_1 P) (.node (boot_o_3 P) (.node (boot_o_7 P) .nil .nil) (.node (oD P) .nil .nil)) (.node (boot_o_5 P) (.node (boot_o_9 P) .nil .nil) (.node (oC P) .nil .nil))) (.node (boot_o_2 P) (.node (boot_o_4 P) (.node (boot_o_8 P) .nil .nil) (.node (DW P) .nil .nil)) (.node (boot_o_6 P) (.node (boot_o_10 P) .nil .nil) (.node (oB P) .nil .nil))))
noncomputable def E7 (P:Params):Obj:=⟨(.type "dict"),none,(.dict ⟨[⟨PyData.keyHash P z9,(.str z9 165),(.str z31 247)⟩,⟨PyData.keyHash P z8,(.str z8 166),.none⟩,⟨PyData.keyHash P z10,(.str z10 167),.none⟩,⟨PyData.keyHash P z11,(.str z11 168),(.builtin "__main__.__loader__#opaque")⟩,⟨PyData.keyHash P z12,(.str z12 169),.none⟩,⟨PyData.keyHash P z13,(.str z13 170),(.ref 6)⟩,⟨PyData.keyHash P z14,(.str z14 171),(.ref 4)⟩,⟨PyData.keyHash P z15,(.str z15 173),(.str z0 172)⟩,⟨PyData.keyHash P z16,(.str z16 174),.none⟩,⟨PyData.keyHash P z1,(.str z1 246),(.ref 52)⟩,⟨PyData.keyHash P z17,(.str z17 250),(.int (.ofNat 4000) 249)⟩,⟨PyData.keyHash P z2,(.str z2 267),(.ref 63)⟩]⟩ 12),⟨[]⟩⟩
noncomputable def DZ (P:Params):Obj:=⟨.none,none,(.fields ⟨[(.int (.ofNat 2) 0),(.int (.ofNat 0) 0),(.ref 20),(.int (.ofNat 47) 0),(.int (.ofNat 0) 0),(.ref 62)]⟩),⟨[]⟩⟩
noncomputable def q5 (P:Params):Obj:=⟨(.type "tuple"),none,(.seq ⟨[]⟩ 0),⟨[]⟩⟩
noncomputable def q4 (P:Params):Obj:=⟨(.type "builtin_function_or_method"),none,(.fields ⟨[(.builtin "type.__prepare__"),(.type "type")]⟩),⟨[]⟩⟩
noncomputable def qZ (P:Params):Obj:=⟨(.type "dict"),none,(.dict ⟨[⟨PyData.keyHash P z40,(.str z40 196),(.str z32 187)⟩,⟨PyData.keyHash P z55,(.str z55 198),(.str z1 197)⟩,⟨PyData.keyHash P z41,(.str z41 200),(.int (.ofNat 2) 199)⟩,⟨PyData.keyHash P z33,(.str z33 208),(.ref 28)⟩,⟨PyData.keyHash P z34,(.str z34 216),(.ref 35)⟩,⟨PyData.keyHash P z35,(.str z35 226),(.ref 42)⟩,⟨PyData.keyHash P z36,(.str z36 234),(.ref 49)⟩,⟨PyData.keyHash P z42,(.str z42 239),(.ref 50)⟩]⟩ 8),⟨[]⟩⟩
noncomputable def qY (P:Params):Obj:=⟨(.type "tuple"),none,(.seq ⟨[]⟩ 0),⟨[]⟩⟩
noncomputable def qX (P:Params):Obj:=⟨.none,none,(.fields ⟨[(.int (.ofNat 4) 0),(.int (.ofNat 4) 0),(.ref 27),(.int (.ofNat 10) 0),(.int (.ofNat 4) 0),(.ref 34),(.int (.ofNat 16) 0),(.int (.ofNat 4) 0),(.ref 41),(.int (.ofNat 43) 0),(.int (.ofNat 4) 0),(.ref 48)]⟩),⟨[]⟩⟩
noncomputable def qW (P:Params):Obj:=⟨(.type "code"),none,(.fields ⟨[(.str z1 191),(.str z1 192),(.str z0 193),(.int (.ofNat 2) 0),(.int (.ofNat 0) 0),(.int (.ofNat 0) 0),(.int (.ofNat 0) 0),(.int (.ofNat 0) 0),(.ref 18),(.bool false),(.int (.ofNat 181) 0),(.ref 19),.none,.none,.none,.none,(.int (.ofNat 194) 0),(.int (.ofNat 2) 0),(.str z0 195)]⟩),⟨[]⟩⟩
noncomputable def qU (P:Params):Obj:=⟨(.type "frame"),none,.plain,⟨[(some (.ref 20)),(some (.ref 3)),(some (.ref 17)),none,(some (.str z32 187)),none,(some (.ref 0))]⟩⟩
noncomputable def qT (P:Params):Obj:=⟨(.type "tuple"),none,(.seq ⟨[]⟩ 0),⟨[]⟩⟩
noncomputable def qS (P:Params):Obj:=⟨.none,none,(.fields ⟨[]⟩),⟨[]⟩⟩
noncomputable def qR (P:Params):Obj:=⟨(.type "tuple"),none,(.seq ⟨[(.str z43 204),(.str ⟨⟨[102,112]⟩⟩ 205)]⟩ 0),⟨[]⟩⟩
noncomputable def qQ (P:Params):Obj:=⟨(.type "tuple"),none,(.seq ⟨[]⟩ 0),⟨[]⟩⟩
noncomputable def qP (P:Params):Obj:=⟨.none,none,(.func ⟨z33,z47,im (iR 1 0),.stmts (iu (iR 1 0)),iq (iR 1 0),0,[],.none,.none,.none,.none,none,.none,.none,0⟩),⟨[]⟩⟩
noncomputable def oA (P:Params):Obj:=⟨(.type "code"),none,(.fields ⟨[(.str z33 201),(.str z47 202),(.str z0 203),(.int (.ofNat 4) 0),(.int (.ofNat 2) 0),(.int (.ofNat 0) 0),(.int (.ofNat 0) 0),(.int (.ofNat 3) 0),(.ref 22),(.bool true),(.int (.ofNat 181) 0),(.ref 23),.none,(.ref 24),(.ref 25),(.ref 26),(.int (.ofNat 206) 0),(.int (.ofNat 4) 0),(.str z0 207)]⟩),⟨[]⟩⟩
noncomputable def l0 (P:Params):Obj:=⟨(.type "function"),none,(.func ⟨z33,z47,im (iR 1 0),.stmts (iu (iR 1 0)),iq (iR 1 0),3,[],.none,.none,.none,(.str z32 187),none,(.ref 27),.none,0⟩),⟨[]⟩⟩
noncomputable def qO (P:Params):Obj:=⟨(.type "tuple"),none,(.seq ⟨[]⟩ 0),⟨[]⟩⟩
noncomputable def qN (P:Params):Obj:=⟨.none,none,(.fields ⟨[]⟩),⟨[]⟩⟩
noncomputable def qM (P:Params):Obj:=⟨(.type "tuple"),none,(.seq ⟨[(.str z43 212),(.str ⟨⟨[99,104]⟩⟩ 213)]⟩ 0),⟨[]⟩⟩
noncomputable def qL (P:Params):Obj:=⟨(.type "tuple"),none,(.seq ⟨[]⟩ 0),⟨[]⟩⟩
noncomputable def qK (P:Params):Obj:=⟨.none,none,(.func ⟨z34,z48,im (iR 1 1),.stmts (iu (iR 1 1)),iq (iR 1 1),0,[],.none,.none,.none,.none,none,.none,.none,0⟩),⟨[]⟩⟩
noncomputable def oz (P:Params):Obj:=⟨(.type "code"),none,(.fields ⟨[(.str z34 209),(.str z48 210),(.str z0 211),(.int (.ofNat 10) 0),(.int (.ofNat 1) 0),(.int (.ofNat 0) 0),(.int (.ofNat 0) 0),(.int (.ofNat 3) 0),(.ref 29),(.bool true),(.int (.ofNat 181) 0),(.ref 30),.none,(.ref 31),(.ref 32),(.ref 33),(.int (.ofNat 214) 0),(.int (.ofNat 10) 0),(.str z0 215)]⟩),⟨[]⟩⟩
noncomputable def lZ (P:Params):Obj:=⟨(.type "function"),none,(.func ⟨z34,z48,im (iR 1 1),.stmts (iu (iR 1 1)),iq (iR 1 1),3,[],.none,.none,.none,(.str z32 187),none,(.ref 34),.none,0⟩),⟨[]⟩⟩
noncomputable def qJ (P:Params):Obj:=⟨(.type "tuple"),none,(.seq ⟨[]⟩ 0),⟨[]⟩⟩
noncomputable def qI (P:Params):Obj:=⟨.none,none,(.fields ⟨[]⟩),⟨[]⟩⟩
noncomputable def qH (P:Params):Obj:=⟨(.type "tuple"),none,(.seq ⟨[(.str z43 220),(.str z57 221),(.str ⟨⟨[102,105,116,101,114]⟩⟩ 222),(.str ⟨⟨[99,104]⟩⟩ 223)]⟩ 0),⟨[]⟩⟩
noncomputable def qG (P:Params):Obj:=⟨(.type "tuple"),none,(.seq ⟨[]⟩ 0),⟨[]⟩⟩
noncomputable def qF (P:Params):Obj:=⟨.none,none,(.func ⟨z35,z49,im (iR 1 2),.stmts (iu (iR 1 2)),iq (iR 1 2),0,[],.none,.none,.none,.none,none,.none,.none,0⟩),⟨[]⟩⟩
noncomputable def ou (P:Params):Obj:=⟨(.type "code"),none,(.fields ⟨[(.str z35 217),(.str z49 218),(.str z0 219),(.int (.ofNat 16) 0),(.int (.ofNat 1) 0),(.int (.ofNat 0) 0),(.int (.ofNat 0) 0),(.int (.ofNat 3) 0),(.ref 36),(.bool true),(.int (.ofNat 181) 0),(.ref 37),.none,(.ref 38),(.ref 39),(.ref 40),(.int (.ofNat 224) 0),(.int (.ofNat 16) 0),(.str z0 225)]⟩),⟨[]⟩⟩
noncomputable def lY (P:Params):Obj:=⟨(.type "function"),none,(.func ⟨z35,z49,im (iR 1 2),.stmts (iu (iR 1 2)),iq (iR 1 2),3,[],.none,.none,.none,(.str z32 187),none,(.ref 41),.none,0⟩),⟨[]⟩⟩
noncomputable def qE (P:Params):Obj:=⟨(.type "tuple"),none,(.seq ⟨[]⟩ 0),⟨[]⟩⟩
noncomputable def qD (P:Params):Obj:=⟨.none,none,(.fields ⟨[]⟩),⟨[]⟩⟩
noncomputable def qC (P:Params):Obj:=⟨(.type "tuple"),none,(.seq ⟨[(.str z43 230),(.str z57 231)]⟩ 0),⟨[]⟩⟩
noncomputable def qB (P:Params):Obj:=⟨(.type "tuple"),none,(.seq ⟨[]⟩ 0),⟨[]⟩⟩
noncomputable def qA (P:Params):Obj:=⟨.none,none,(.func ⟨z36,z50,im (iR 1 3),.stmts (iu (iR 1 3)),iq (iR 1 3),0,[],.none,.none,.none,.none,none,.none,.none,0⟩),⟨[]⟩⟩
noncomputable def ot (P:Params):Obj:=⟨(.type "code"),none,(.fields ⟨[(.str z36 227),(.str z50 228),(.str z0 229),(.int (.ofNat 43) 0),(.int (.ofNat 2) 0),(.int (.ofNat 0) 0),(.int (.ofNat 0) 0),(.int (.ofNat 3) 0),(.ref 43),(.bool true),(.int (.ofNat 181) 0),(.ref 44),.none,(.ref 45),(.ref 46),(.ref 47),(.int (.ofNat 232) 0),(.int (.ofNat 43) 0),(.str z0 233)]⟩),⟨[]⟩⟩
noncomputable def lX (P:Params):Obj:=⟨(.type "function"),none,(.func ⟨z36,z50,im (iR 1 3),.stmts (iu (iR 1 3)),iq (iR 1 3),3,[],.none,.none,.none,(.str z32 187),none,(.ref 48),.none,0⟩),⟨[]⟩⟩
noncomputable def qz (P:Params):Obj:=⟨(.type "tuple"),none,(.seq ⟨[(.str ⟨⟨[105,110,115,116,114,101,97,109]⟩⟩ 235),(.str ⟨⟨[108,105,110,101,110,111]⟩⟩ 236),(.str ⟨⟨[112,117,115,104,98,97,99,107]⟩⟩ 237),(.str ⟨⟨[119,104,105,116,101,115,112,97,99,101]⟩⟩ 238)]⟩ 0),⟨[]⟩⟩
noncomputable def mX (P:Params):Obj:=⟨(.type "dict"),none,(.dict ⟨[⟨PyData.keyHash P z40,(.str z40 196),(.str z32 187)⟩,⟨PyData.keyHash P z41,(.str z41 200),(.int (.ofNat 2) 199)⟩,⟨PyData.keyHash P z33,(.str z33 208),(.ref 28)⟩,⟨PyData.keyHash P z34,(.str z34 216),(.ref 35)⟩,⟨PyData.keyHash P z35,(.str z35 226),(.ref 42)⟩,⟨PyData.keyHash P z36,(.str z36 234),(.ref 49)⟩,⟨PyData.keyHash P z42,(.str z42 239),(.ref 50)⟩,⟨PyData.keyHash P z51,(.str z51 241),(.ref 53)⟩,⟨PyData.keyHash P z52,(.str z52 243),(.ref 54)⟩,⟨PyData.keyHash P z8,(.str z8 244),.none⟩]⟩ 4),⟨[]⟩⟩
noncomputable def mW (P:Params):Obj:=⟨(.type "type"),none,(.cls ⟨z1,[(.type "object")],[(.ref 52),(.type "object")],51,z1,true,[],[],false,none,false⟩),⟨[none,none,(some (.str z1 189)),(some (.str z1 197)),(some (.builtin "object.__new__")),(some (.bool true))]⟩⟩
noncomputable def qy (P:Params):Obj:=⟨(.type "getset_descriptor"),none,(.fields ⟨[(.str z51 240),(.ref 52),(.builtin "function.__dict__"),(.builtin "function.__dict__#set")]⟩),⟨[]⟩⟩
noncomputable def qx (P:Params):Obj:=⟨(.type "getset_descriptor"),none,(.fields ⟨[(.str z52 242),(.ref 52),(.builtin "ExceptionGroup.__weakref__"),.none]⟩),⟨[]⟩⟩
noncomputable def qw (P:Params):Obj:=⟨(.type "super"),none,(.fields ⟨[(.ref 52),(.ref 52),(.ref 52)]⟩),⟨[]⟩⟩
noncomputable def qv (P:Params):Obj:=⟨(.type "builtin_function_or_method"),none,(.fields ⟨[(.builtin "object.__init_subclass__"),(.ref 52)]⟩),⟨[]⟩⟩
noncomputable def qt (P:Params):Obj:=⟨(.type "tuple"),none,(.seq ⟨[]⟩ 0),⟨[]⟩⟩
noncomputable def qr (P:Params):Obj:=⟨.none,none,(.fields ⟨[]⟩),⟨[]⟩⟩
noncomputable def qp (P:Params):Obj:=⟨(.type "tuple"),none,(.seq ⟨[(.str ⟨⟨[97]⟩⟩ 254),(.str ⟨⟨[98]⟩⟩ 255),(.str ⟨⟨[110]⟩⟩ 256),(.str ⟨⟨[112,97,100]⟩⟩ 257),(.str ⟨⟨[104,97,108,102,95,110]⟩⟩ 258),(.str ⟨⟨[109,97,115,107]⟩⟩ 259),(.str ⟨⟨[98,49]⟩⟩ 260),(.str ⟨⟨[98,50]⟩⟩ 261),(.str ⟨⟨[113,49]⟩⟩ 262),(.str ⟨⟨[114]⟩⟩ 263),(.str ⟨⟨[113,50]⟩⟩ 264)]⟩ 0),⟨[]⟩⟩
noncomputable def qo (P:Params):Obj:=⟨(.type "tuple"),none,(.seq ⟨[]⟩ 0),⟨[]⟩⟩
noncomputable def qn (P:Params):Obj:=⟨.none,none,(.func ⟨z2,z2,im (stm 4),.stmts (iu (stm 4)),iq (stm 4),0,[],.none,.none,.none,.none,none,.none,.none,0⟩),⟨[]⟩⟩
noncomputable def oq (P:Params):Obj:=⟨(.type "code"),none,(.fields ⟨[(.str z2 251),(.str z2 252),(.str z0 253),(.int (.ofNat 47) 0),(.int (.ofNat 3) 0),(.int (.ofNat 0) 0),(.int (.ofNat 0) 0),(.int (.ofNat 3) 0),(.ref 57),(.bool true),(.int (.ofNat 181) 0),(.ref 58),.none,(.ref 59),(.ref 60),(.ref 61),(.int (.ofNat 265) 0),(.int (.ofNat 47) 0),(.str z0 266)]⟩),⟨[]⟩⟩
noncomputable def oo (P:Params):Obj:=⟨(.type "function"),none,(.func ⟨z2,z2,im (stm 4),.stmts (iu (stm 4)),iq (stm 4),3,[],.none,.none,.none,(.str z31 247),none,(.ref 62),.none,0⟩),⟨[]⟩⟩
noncomputable def T_1 (P:Params):BT:=(.node (boot_o_0 P) (.node (boot_o_1 P) (.node (E7 P) (.node (boot_o_7 P) (.node (q5 P) (.node (qM P) (.node (oo P) .nil .nil) .nil) (.node (qA P) .nil .nil)) (.node (qS P) (.node (qG P) .nil .nil) (.node (qw P) .nil .nil))) (.node (oD P) (.node (qX P) (.node (lZ P) .nil .nil) (.node (mX P) .nil .nil)) (.node (oA P) (.node (qE P) .nil .nil) (.node (qp P) .nil .nil)))) (.node (boot_o_5 P) (.node (boot_o_9 P) (.node (qZ P) (.node (qK P) .nil .nil) (.node (lX P) .nil .nil)) (.node (qQ P) (.node (ou P) .nil .nil) (.node (qt P) .nil .nil))) (.node (oC P) (.node (qU P) (.node (qI P) .nil .nil) (.node (qy P) .nil .nil)) (.node (qO P) (.node (qC P) .nil .nil) (.node (qn P) .nil .nil))))) (.node (boot_o_2 P) (.node (boot_o_4 P) (.node (boot_o_8 P) (.node (q4 P) (.node (qL P) .nil .nil) (.node (ot P) .nil .nil)) (.node (qR P) (.node (qF P) .nil .nil) (.node (qv P) .nil .nil))) (.node (DZ P) (.node (qW P) (.node (qJ P) .nil .nil) (.node (mW P) .nil .nil)) (.node (l0 P) (.node (qD P) .nil .nil) (.node (qo P) .nil .nil)))) (.node (boot_o_6 P) (.node (boot_o_10 P) (.node (qY P) (.node (oz P) .nil .nil) (.node (qz P) .nil .nil)) (.node (qP P) (.node (lY P) .nil .nil) (.node (qr P) .nil .nil))) (.node (oB P) (.node (qT P) (.node (qH P) .nil .nil) (.node (qx P) .nil .nil)) (.node (qN P) (.node (qB P) .nil .nil) (.node (oq P) .nil .nil))))))
noncomputable def E6 (P:Params):Obj:=⟨(.type "dict"),none,(.dict ⟨[⟨PyData.keyHash P z9,(.str z9 165),(.str z38 329)⟩,⟨PyData.keyHash P z8,(.str z8 166),.none⟩,⟨PyData.keyHash P z10,(.str z10 167),.none⟩,⟨PyData.keyHash P z11,(.str z11 168),(.builtin "__main__.__loader__#opaque")⟩,⟨PyData.keyHash P z12,(.str z12 169),.none⟩,⟨PyData.keyHash P z13,(.str z13 170),(.ref 6)⟩,⟨PyData.keyHash P z14,(.str z14 171),(.ref 4)⟩,⟨PyData.keyHash P z15,(.str z15 173),(.str z0 172)⟩,⟨PyData.keyHash P z16,(.str z16 174),.none⟩,⟨PyData.keyHash P z1,(.str z1 246),(.ref 52)⟩,⟨PyData.keyHash P z17,(.str z17 250),(.int (.ofNat 4000) 249)⟩,⟨PyData.keyHash P z2,(.str z2 267),(.ref 63)⟩,⟨PyData.keyHash P z3,(.str z3 281),(.ref 70)⟩,⟨PyData.keyHash P z4,(.str z4 292),(.ref 77)⟩,⟨PyData.keyHash P z5,(.str z5 303),(.ref 84)⟩,⟨PyData.keyHash P z6,(.str z6 318),(.ref 91)⟩,⟨PyData.keyHash P z7,(.str z7 328),(.ref 98)⟩]⟩ 17),⟨[]⟩⟩
noncomputable def zP (P:Params):Obj:=⟨.none,none,(.fields ⟨[(.int (.ofNat 2) 0),(.int (.ofNat 0) 0),(.ref 20),(.int (.ofNat 47) 0),(.int (.ofNat 0) 0),(.ref 62),(.int (.ofNat 63) 0),(.int (.ofNat 0) 0),(.ref 69),(.int (.ofNat 73) 0),(.int (.ofNat 0) 0),(.ref 76),(.int (.ofNat 89) 0),(.int (.ofNat 0) 0),(.ref 83),(.int (.ofNat 98) 0),(.int (.ofNat 0) 0),(.ref 90),(.int (.ofNat 109) 0),(.int (.ofNat 0) 0),(.ref 97)]⟩),⟨[]⟩⟩
noncomputable def t7 (P:Params):Obj:=⟨(.type "tuple"),none,(.seq ⟨[]⟩ 0),⟨[]⟩⟩
noncomputable def t6 (P:Params):Obj:=⟨.none,none,(.fields ⟨[]⟩),⟨[]⟩⟩
noncomputable def t5 (P:Params):Obj:=⟨(.type "tuple"),none,(.seq ⟨[(.str ⟨⟨[97,49,50]⟩⟩ 271),(.str ⟨⟨[97,51]⟩⟩ 272),(.str ⟨⟨[98]⟩⟩ 273),(.str ⟨⟨[98,49]⟩⟩ 274),(.str ⟨⟨[98,50]⟩⟩ 275),(.str ⟨⟨[110]⟩⟩ 276),(.str ⟨⟨[113]⟩⟩ 277),(.str ⟨⟨[114]⟩⟩ 278)]⟩ 0),⟨[]⟩⟩
noncomputable def t4 (P:Params):Obj:=⟨(.type "tuple"),none,(.seq ⟨[]⟩ 0),⟨[]⟩⟩
noncomputable def t0 (P:Params):Obj:=⟨.none,none,(.func ⟨z3,z3,im (stm 5),.stmts (iu (stm 5)),iq (stm 5),0,[],.none,.none,.none,.none,none,.none,.none,0⟩),⟨[]⟩⟩
noncomputable def qm (P:Params):Obj:=⟨(.type "code"),none,(.fields ⟨[(.str z3 268),(.str z3 269),(.str z0 270),(.int (.ofNat 63) 0),(.int (.ofNat 6) 0),(.int (.ofNat 0) 0),(.int (.ofNat 0) 0),(.int (.ofNat 3) 0),(.ref 64),(.bool true),(.int (.ofNat 181) 0),(.ref 65),.none,(.ref 66),(.ref 67),(.ref 68),(.int (.ofNat 279) 0),(.int (.ofNat 63) 0),(.str z0 280)]⟩),⟨[]⟩⟩
noncomputable def ql (P:Params):Obj:=⟨(.type "function"),none,(.func ⟨z3,z3,im (stm 5),.stmts (iu (stm 5)),iq (stm 5),3,[],.none,.none,.none,(.str z31 247),none,(.ref 69),.none,0⟩),⟨[]⟩⟩
noncomputable def tZ (P:Params):Obj:=⟨(.type "tuple"),none,(.seq ⟨[]⟩ 0),⟨[]⟩⟩
noncomputable def tY (P:Params):Obj:=⟨.none,none,(.fields ⟨[]⟩),⟨[]⟩⟩
noncomputable def tX (P:Params):Obj:=⟨(.type "tuple"),none,(.seq ⟨[(.str ⟨⟨[97]⟩⟩ 285),(.str ⟨⟨[110]⟩⟩ 286)]⟩ 0),⟨[]⟩⟩
noncomputable def tW (P:Params):Obj:=⟨(.type "tuple"),none,(.seq ⟨[(.str ⟨⟨[110]⟩⟩ 287),(.str z60 288),(.str z61 289)]⟩ 0),⟨[]⟩⟩
noncomputable def tV (P:Params):Obj:=⟨.none,none,(.func ⟨z4,z4,im (stm 6),.stmts (iu (stm 6)),iq (stm 6),0,[],.none,.none,.none,.none,none,.none,.none,0⟩),⟨[]⟩⟩
noncomputable def ol (P:Params):Obj:=⟨(.type "code"),none,(.fields ⟨[(.str z4 282),(.str z4 283),(.str z0 284),(.int (.ofNat 73) 0),(.int (.ofNat 2) 0),(.int (.ofNat 0) 0),(.int (.ofNat 0) 0),(.int (.ofNat 3) 0),(.ref 71),(.bool true),(.int (.ofNat 181) 0),(.ref 72),.none,(.ref 73),(.ref 74),(.ref 75),(.int (.ofNat 290) 0),(.int (.ofNat 73) 0),(.str z0 291)]⟩),⟨[]⟩⟩
noncomputable def qk (P:Params):Obj:=⟨(.type "function"),none,(.func ⟨z4,z4,im (stm 6),.stmts (iu (stm 6)),iq (stm 6),3,[],.none,.none,.none,(.str z31 247),none,(.ref 76),.none,0⟩),⟨[]⟩⟩
noncomputable def tU (P:Params):Obj:=⟨(.type "tuple"),none,(.seq ⟨[]⟩ 0),⟨[]⟩⟩
noncomputable def tT (P:Params):Obj:=⟨.none,none,(.fields ⟨[]⟩),⟨[]⟩⟩
noncomputable def tR (P:Params):Obj:=⟨(.type "tuple"),none,(.seq ⟨[(.str z62 296),(.str ⟨⟨[110]⟩⟩ 297)]⟩ 0),⟨[]⟩⟩
noncomputable def tQ (P:Params):Obj:=⟨(.type "tuple"),none,(.seq ⟨[(.str z62 298),(.str ⟨⟨[110]⟩⟩ 299),(.str z61 300)]⟩ 0),⟨[]⟩⟩
noncomputable def tP (P:Params):Obj:=⟨.none,none,(.func ⟨z5,z5,im (stm 7),.stmts (iu (stm 7)),iq (stm 7),0,[],.none,.none,.none,.none,none,.none,.none,0⟩),⟨[]⟩⟩
noncomputable def oj (P:Params):Obj:=⟨(.type "code"),none,(.fields ⟨[(.str z5 293),(.str z5 294),(.str z0 295),(.int (.ofNat 89) 0),(.int (.ofNat 2) 0),(.int (.ofNat 0) 0),(.int (.ofNat 0) 0),(.int (.ofNat 3) 0),(.ref 78),(.bool true),(.int (.ofNat 181) 0),(.ref 79),.none,(.ref 80),(.ref 81),(.ref 82),(.int (.ofNat 301) 0),(.int (.ofNat 89) 0),(.str z0 302)]⟩),⟨[]⟩⟩
noncomputable def qj (P:Params):Obj:=⟨(.type "function"),none,(.func ⟨z5,z5,im (stm 7),.stmts (iu (stm 7)),iq (stm 7),3,[],.none,.none,.none,(.str z31 247),none,(.ref 83),.none,0⟩),⟨[]⟩⟩
noncomputable def tO (P:Params):Obj:=⟨(.type "tuple"),none,(.seq ⟨[]⟩ 0),⟨[]⟩⟩
noncomputable def tN (P:Params):Obj:=⟨.none,none,(.fields ⟨[]⟩),⟨[]⟩⟩
noncomputable def tM (P:Params):Obj:=⟨(.type "tuple"),none,(.seq ⟨[(.str ⟨⟨[97]⟩⟩ 307),(.str ⟨⟨[98]⟩⟩ 308),(.str ⟨⟨[110]⟩⟩ 309),(.str z60 310),(.str ⟨⟨[114]⟩⟩ 311),(.str ⟨⟨[113,95,100,105,103,105,116,115]⟩⟩ 312),(.str ⟨⟨[97,95,100,105,103,105,116]⟩⟩ 313),(.str ⟨⟨[113,95,100,105,103,105,116]⟩⟩ 314),(.str ⟨⟨[113]⟩⟩ 315)]⟩ 0),⟨[]⟩⟩
noncomputable def tL (P:Params):Obj:=⟨(.type "tuple"),none,(.seq ⟨[]⟩ 0),⟨[]⟩⟩
noncomputable def tK (P:Params):Obj:=⟨.none,none,(.func ⟨z6,z6,im (stm 8),.stmts (iu (stm 8)),iq (stm 8),0,[],.none,.none,.none,.none,none,.none,.none,0⟩),⟨[]⟩⟩
noncomputable def qi (P:Params):Obj:=⟨(.type "code"),none,(.fields ⟨[(.str z6 304),(.str z6 305),(.str z0 306),(.int (.ofNat 98) 0),(.int (.ofNat 2) 0),(.int (.ofNat 0) 0),(.int (.ofNat 0) 0),(.int (.ofNat 3) 0),(.ref 85),(.bool true),(.int (.ofNat 181) 0),(.ref 86),.none,(.ref 87),(.ref 88),(.ref 89),(.int (.ofNat 316) 0),(.int (.ofNat 98) 0),(.str z0 317)]⟩),⟨[]⟩⟩
noncomputable def qg (P:Params):Obj:=⟨(.type "function"),none,(.func ⟨z6,z6,im (stm 8),.stmts (iu (stm 8)),iq (stm 8),3,[],.none,.none,.none,(.str z31 247),none,(.ref 90),.none,0⟩),⟨[]⟩⟩
noncomputable def tJ (P:Params):Obj:=⟨(.type "tuple"),none,(.seq ⟨[]⟩ 0),⟨[]⟩⟩
noncomputable def tI (P:Params):Obj:=⟨.none,none,(.fields ⟨[]⟩),⟨[]⟩⟩
noncomputable def tH (P:Params):Obj:=⟨(.type "tuple"),none,(.seq ⟨[(.str ⟨⟨[97]⟩⟩ 322),(.str ⟨⟨[98]⟩⟩ 323),(.str ⟨⟨[113]⟩⟩ 324),(.str ⟨⟨[114]⟩⟩ 325)]⟩ 0),⟨[]⟩⟩
noncomputable def tG (P:Params):Obj:=⟨(.type "tuple"),none,(.seq ⟨[]⟩ 0),⟨[]⟩⟩
noncomputable def tF (P:Params):Obj:=⟨.none,none,(.func ⟨z7,z7,im (stm 9),.stmts (iu (stm 9)),iq (stm 9),0,[],.none,.none,.none,.none,none,.none,.none,0⟩),⟨[]⟩⟩
noncomputable def qf (P:Params):Obj:=⟨(.type "code"),none,(.fields ⟨[(.str z7 319),(.str z7 320),(.str z0 321),(.int (.ofNat 109) 0),(.int (.ofNat 2) 0),(.int (.ofNat 0) 0),(.int (.ofNat 0) 0),(.int (.ofNat 3) 0),(.ref 92),(.bool true),(.int (.ofNat 181) 0),(.ref 93),.none,(.ref 94),(.ref 95),(.ref 96),(.int (.ofNat 326) 0),(.int (.ofNat 109) 0),(.str z0 327)]⟩),⟨[]⟩⟩
noncomputable def qe (P:Params):Obj:=⟨(.type "function"),none,(.func ⟨z7,z7,im (stm 9),.stmts (iu (stm 9)),iq (stm 9),3,[],.none,.none,.none,(.str z31 247),none,(.ref 97),.none,0⟩),⟨[]⟩⟩
noncomputable def T_2 (P:Params):BT:=(.node (boot_o_0 P) (.node (boot_o_1 P) (.node (E6 P) (.node (boot_o_7 P) (.node (q5 P) (.node (qM P) (.node (oo P) .nil .nil) (.node (tG P) .nil .nil)) (.node (qA P) (.node (tT P) .nil .nil) .nil)) (.node (qS P) (.node (qG P) (.node (tZ P) .nil .nil) .nil) (.node (qw P) (.node (tM P) .nil .nil) .nil))) (.node (oD P) (.node (qX P) (.node (lZ P) (.node (t4 P) .nil .nil) .nil) (.node (mX P) (.node (oj P) .nil .nil) .nil)) (.node (oA P) (.node (qE P) (.node (tV P) .nil .nil) .nil) (.node (qp P) (.node (qg P) .nil .nil) .nil)))) (.node (boot_o_5 P) (.node (boot_o_9 P) (.node (qZ P) (.node (qK P) (.node (t6 P) .nil .nil) (.node (qf P) .nil .nil)) (.node (lX P) (.node (tQ P) .nil .nil) .nil)) (.node (qQ P) (.node (ou P) (.node (tX P) .nil .nil) .nil) (.node (qt P) (.node (tK P) .nil .nil) .nil))) (.node (oC P) (.node (qU P) (.node (qI P) (.node (qm P) .nil .nil) .nil) (.node (qy P) (.node (tO P) .nil .nil) .nil)) (.node (qO P) (.node (qC P) (.node (qk P) .nil .nil) .nil) (.node (qn P) (.node (tI P) .nil .nil) .nil))))) (.node (boot_o_2 P) (.node (boot_o_4 P) (.node (boot_o_8 P) (.node (q4 P) (.node (qL P) (.node (t7 P) .nil .nil) (.node (tF P) .nil .nil)) (.node (ot P) (.node (tR P) .nil .nil) .nil)) (.node (qR P) (.node (qF P) (.node (tY P) .nil .nil) .nil) (.node (qv P) (.node (tL P) .nil .nil) .nil))) (.node (zP P) (.node (qW P) (.node (qJ P) (.node (t0 P) .nil .nil) .nil) (.node (mW P) (.node (qj P) .nil .nil) .nil)) (.node (l0 P) (.node (qD P) (.node (ol P) .nil .nil) .nil) (.node (qo P) (.node (tJ P) .nil .nil) .nil)))) (.node (boot_o_6 P) (.node (boot_o_10 P) (.node (qY P) (.node (oz P) (.node (t5 P) .nil .nil) (.node (qe P) .nil .nil)) (.node (qz P) (.node (tP P) .nil .nil) .nil)) (.node (qP P) (.node (lY P) (.node (tW P) .nil .nil) .nil) (.node (qr P) (.node (qi P) .nil .nil) .nil))) (.node (oB P) (.node (qT P) (.node (qH P) (.node (ql P) .nil .nil) .nil) (.node (qx P) (.node (tN P) .nil .nil) .nil)) (.node (qN P) (.node (qB P) (.node (tU P) .nil .nil) .nil) (.node (oq P) (.node (tH P) .nil .nil) .nil))))))
noncomputable def E5 (P:Params):Obj:=⟨(.type "dict"),none,(.dict ⟨[⟨PyData.keyHash P z9,(.str z9 165),(.str z38 329)⟩,⟨PyData.keyHash P z8,(.str z8 166),.none⟩,⟨PyData.keyHash P z10,(.str z10 167),.none⟩,⟨PyData.keyHash P z11,(.str z11 168),(.builtin "__main__.__loader__#opaque")⟩,⟨PyData.keyHash P z12,(.str z12 169),.none⟩,⟨PyData.keyHash P z13,(.str z13 170),(.ref 6)⟩,⟨PyData.keyHash P z14,(.str z14 171),(.ref 4)⟩,⟨PyData.keyHash P z15,(.str z15 173),(.str z0 172)⟩,⟨PyData.keyHash P z16,(.str z16 174),.none⟩,⟨PyData.keyHash P z1,(.str z1 246),(.ref 52)⟩,⟨PyData.keyHash P z17,(.str z17 250),(.int (.ofNat 4000) 249)⟩,⟨PyData.keyHash P z2,(.str z2 267),(.ref 63)⟩,⟨PyData.keyHash P z3,(.str z3 281),(.ref 70)⟩,⟨PyData.keyHash P z4,(.str z4 292),(.ref 77)⟩,⟨PyData.keyHash P z5,(.str z5 303),(.ref 84)⟩,⟨PyData.keyHash P z6,(.str z6 318),(.ref 91)⟩,⟨PyData.keyHash P z7,(.str z7 328),(.ref 98)⟩,⟨PyData.keyHash P z20,(.str z20 390),(.ref 106)⟩]⟩ 18),⟨[]⟩⟩
noncomputable def wm (P:Params):Obj:=⟨(.type "list"),none,(.seq ⟨[(.int (.ofNat 173) 331),(.int (.ofNat 847) 332),(.int (.ofNat 6150) 333),(.int (.ofNat 6155) 334),(.int (.ofNat 6156) 335),(.int (.ofNat 6157) 336),(.int (.ofNat 8203) 337),(.int (.ofNat 8204) 338),(.int (.ofNat 8205) 339),(.int (.ofNat 8288) 340),(.int (.ofNat 65279) 341)]⟩ 0),⟨[]⟩⟩
noncomputable def um (P:Params):Obj:=⟨(.type "range"),none,(.fields ⟨[(.int (.ofNat 65024) 342),(.int (.ofNat 65040) 343),(.int (.ofNat 1) 344)]⟩),⟨[]⟩⟩
noncomputable def ul (P:Params):Obj:=⟨(.type "list"),none,(.seq ⟨[(.int (.ofNat 65024) 347),(.int (.ofNat 65025) 348),(.int (.ofNat 65026) 349),(.int (.ofNat 65027) 350),(.int (.ofNat 65028) 351),(.int (.ofNat 65029) 352),(.int (.ofNat 65030) 353),(.int (.ofNat 65031) 354),(.int (.ofNat 65032) 355),(.int (.ofNat 65033) 356),(.int (.ofNat 65034) 357),(.int (.ofNat 65035) 358),(.int (.ofNat 65036) 359),(.int (.ofNat 65037) 360),(.int (.ofNat 65038) 361),(.int (.ofNat 65039) 362)]⟩ 18),⟨[]⟩⟩
noncomputable def uk (P:Params):Obj:=⟨(.type "range_iterator"),none,(.fields ⟨[(.int (.ofNat 65040) 0),(.int (.ofNat 0) 0),(.int (.ofNat 1) 0)]⟩),⟨[]⟩⟩
noncomputable def uj (P:Params):Obj:=⟨(.type "tuple"),none,(.seq ⟨[]⟩ 0),⟨[]⟩⟩
noncomputable def ui (P:Params):Obj:=⟨(.type "StopIteration"),none,(.fields ⟨[(.ref 103),.none,.none,.none,(.bool false),.none]⟩),⟨[]⟩⟩
noncomputable def uh (P:Params):Obj:=⟨(.type "list"),none,(.seq ⟨[(.int (.ofNat 173) 331),(.int (.ofNat 847) 332),(.int (.ofNat 6150) 333),(.int (.ofNat 6155) 334),(.int (.ofNat 6156) 335),(.int (.ofNat 6157) 336),(.int (.ofNat 8203) 337),(.int (.ofNat 8204) 338),(.int (.ofNat 8205) 339),(.int (.ofNat 8288) 340),(.int (.ofNat 65279) 341),(.int (.ofNat 65024) 347),(.int (.ofNat 65025) 348),(.int (.ofNat 65026) 349),(.int (.ofNat 65027) 350),(.int (.ofNat 65028) 351),(.int (.ofNat 65029) 352),(.int (.ofNat 65030) 353),(.int (.ofNat 65031) 354),(.int (.ofNat 65032) 355),(.int (.ofNat 65033) 356),(.int (.ofNat 65034) 357),(.int (.ofNat 65035) 358),(.int (.ofNat 65036) 359),(.int (.ofNat 65037) 360),(.int (.ofNat 65038) 361),(.int (.ofNat 65039) 362)]⟩ 0),⟨[]⟩⟩
noncomputable def nB (P:Params):Obj:=⟨(.type "set"),none,(.set ⟨[((.ofNat 65024),(.int (.ofNat 65024) 347)),((.ofNat 65025),(.int (.ofNat 65025) 348)),((.ofNat 65026),(.int (.ofNat 65026) 349)),((.ofNat 65027),(.int (.ofNat 65027) 350)),((.ofNat 65028),(.int (.ofNat 65028) 351)),((.ofNat 65029),(.int (.ofNat 65029) 352)),((.ofNat 6150),(.int (.ofNat 6150) 333)),((.ofNat 65030),(.int (.ofNat 65030) 353)),((.ofNat 65031),(.int (.ofNat 65031) 354)),((.ofNat 65032),(.int (.ofNat 65032) 355)),((.ofNat 65033),(.int (.ofNat 65033) 356)),((.ofNat 6155),(.int (.ofNat 6155) 334)),((.ofNat 6156),(.int (.ofNat 6156) 335)),((.ofNat 6157),(.int (.ofNat 6157) 336)),((.ofNat 8203),(.int (.ofNat 8203) 337)),((.ofNat 8204),(.int (.ofNat 8204) 338)),((.ofNat 8205),(.int (.ofNat 8205) 339)),((.ofNat 65034),(.int (.ofNat 65034) 357)),((.ofNat 65035),(.int (.ofNat 65035) 358)),((.ofNat 65036),(.int (.ofNat 65036) 359)),((.ofNat 65037),(.int (.ofNat 65037) 360)),((.ofNat 65038),(.int (.ofNat 65038) 361)),((.ofNat 65039),(.int (.ofNat 65039) 362)),((.ofNat 173),(.int (.ofNat 173) 331)),((.ofNat 847),(.int (.ofNat 847) 332)),((.ofNat 8288),(.int (.ofNat 8288) 340)),((.ofNat 65279),(.int (.ofNat 65279) 341))]⟩ 29 { mask:=127,place:=⟨[0,1,2,3,4,5,6,7,8,9,10,11,12,13,14,15,16,17,18,19,20,21,22,45,79,96,127]⟩,dummies:=⟨[]⟩,finger:=0,led:=(!P.followText "set-order"),moves:=2,plain:=true }),⟨[]⟩⟩
noncomputable def ug (P:Params):Obj:=⟨(.type "list_iterator"),none,(.fields ⟨[.none,(.int (.ofNat 27) 0)]⟩),⟨[]⟩⟩
noncomputable def uf (P:Params):Obj:=⟨(.type "tuple"),none,(.seq ⟨[]⟩ 0),⟨[]⟩⟩
noncomputable def ue (P:Params):Obj:=⟨(.type "StopIteration"),none,(.fields ⟨[(.ref 108),.none,.none,.none,(.bool false),.none]⟩),⟨[]⟩⟩
noncomputable def T_3 (P:Params):BT:=(.node (boot_o_0 P) (.node (boot_o_1 P) (.node (E5 P) (.node (boot_o_7 P) (.node (q5 P) (.node (qM P) (.node (oo P) .nil .nil) (.node (tG P) .nil .nil)) (.node (qA P) (.node (tT P) .nil .nil) .nil)) (.node (qS P) (.node (qG P) (.node (tZ P) .nil .nil) (.node (uj P) .nil .nil)) (.node (qw P) (.node (tM P) .nil .nil) .nil))) (.node (oD P) (.node (qX P) (.node (lZ P) (.node (t4 P) .nil .nil) (.node (wm P) .nil .nil)) (.node (mX P) (.node (oj P) .nil .nil) .nil)) (.node (oA P) (.node (qE P) (.node (tV P) .nil .nil) (.node (ug P) .nil .nil)) (.node (qp P) (.node (qg P) .nil .nil) .nil)))) (.node (boot_o_5 P) (.node (boot_o_9 P) (.node (qZ P) (.node (qK P) (.node (t6 P) .nil .nil) (.node (qf P) .nil .nil)) (.node (lX P) (.node (tQ P) .nil .nil) .nil)) (.node (qQ P) (.node (ou P) (.node (tX P) .nil .nil) (.node (uh P) .nil .nil)) (.node (qt P) (.node (tK P) .nil .nil) .nil))) (.node (oC P) (.node (qU P) (.node (qI P) (.node (qm P) .nil .nil) (.node (ul P) .nil .nil)) (.node (qy P) (.node (tO P) .nil .nil) .nil)) (.node (qO P) (.node (qC P) (.node (qk P) .nil .nil) (.node (ue P) .nil .nil)) (.node (qn P) (.node (tI P) .nil .nil) .nil))))) (.node (boot_o_2 P) (.node (boot_o_4 P) (.node (boot_o_8 P) (.node (q4 P) (.node (qL P) (.node (t7 P) .nil .nil) (.node (tF P) .nil .nil)) (.node (ot P) (.node (tR P) .nil .nil) .nil)) (.node (qR P) (.node (qF P) (.node (tY P) .nil .nil) (.node (ui P) .nil .nil)) (.node (qv P) (.node (tL P) .nil .nil) .nil))) (.node (zP P) (.node (qW P) (.node (qJ P) (.node (t0 P) .nil .nil) (.node (um P) .nil .nil)) (.node (mW P) (.node (qj P) .nil .nil) .nil)) (.node (l0 P) (.node (qD P) (.node (ol P) .nil .nil) (.node (uf P) .nil .nil)) (.node (qo P) (.node (tJ P) .nil .nil) .nil)))) (.node (boot_o_6 P) (.node (boot_o_10 P) (.node (qY P) (.node (oz P) (.node (t5 P) .nil .nil) (.node (qe P) .nil .nil)) (.node (qz P) (.node (tP P) .nil .nil) .nil)) (.node (qP P) (.node (lY P) (.node (tW P) .nil .nil) (.node (nB P) .nil .nil)) (.node (qr P) (.node (qi P) .nil .nil) .nil))) (.node (oB P) (.node (qT P) (.node (qH P) (.node (ql P) .nil .nil) (.node (uk P) .nil .nil)) (.node (qx P) (.node (tN P) .nil .nil) .nil)) (.node (qN P) (.node (qB P) (.node (tU P) .nil .nil) .nil) (.node (oq P) (.node (tH P) .nil .nil) .nil))))))
noncomputable def E3 (P:Params):Obj:=⟨(.type "dict"),none,(.dict ⟨[⟨PyData.keyHash P z9,(.str z9 165),(.str z38 329)⟩,⟨PyData.keyHash P z8,(.str z8 166),.none⟩,⟨PyData.keyHash P z10,(.str z10 167),.none⟩,⟨PyData.keyHash P z11,(.str z11 168),(.builtin "__main__.__loader__#opaque")⟩,⟨PyData.keyHash P z12,(.str z12 169),.none⟩,⟨PyData.keyHash P z13,(.str z13 170),(.ref 6)⟩,⟨PyData.keyHash P z14,(.str z14 171),(.ref 4)⟩,⟨PyData.keyHash P z15,(.str z15 173),(.str z0 172)⟩,⟨PyData.keyHash P z16,(.str z16 174),.none⟩,⟨PyData.keyHash P z1,(.str z1 246),(.ref 52)⟩,⟨PyData.keyHash P z17,(.str z17 250),(.int (.ofNat 4000) 249)⟩,⟨PyData.keyHash P z2,(.str z2 267),(.ref 63)⟩,⟨PyData.keyHash P z3,(.str z3 281),(.ref 70)⟩,⟨PyData.keyHash P z4,(.str z4 292),(.ref 77)⟩,⟨PyData.keyHash P z5,(.str z5 303),(.ref 84)⟩,⟨PyData.keyHash P z6,(.str z6 318),(.ref 91)⟩,⟨PyData.keyHash P z7,(.str z7 328),(.ref 98)⟩,⟨PyData.keyHash P z20,(.str z20 390),(.ref 106)⟩,⟨PyData.keyHash P z18,(.str z18 397),(.ref 116)⟩]⟩ 19),⟨[]⟩⟩
noncomputable def DY (P:Params):Obj:=⟨.none,none,(.fields ⟨[(.int (.ofNat 2) 0),(.int (.ofNat 0) 0),(.ref 20),(.int (.ofNat 47) 0),(.int (.ofNat 0) 0),(.ref 62),(.int (.ofNat 63) 0),(.int (.ofNat 0) 0),(.ref 69),(.int (.ofNat 73) 0),(.int (.ofNat 0) 0),(.ref 76),(.int (.ofNat 89) 0),(.int (.ofNat 0) 0),(.ref 83),(.int (.ofNat 98) 0),(.int (.ofNat 0) 0),(.ref 90),(.int (.ofNat 109) 0),(.int (.ofNat 0) 0),(.ref 97),(.int (.ofNat 122) 0),(.int (.ofNat 0) 0),(.ref 115)]⟩),⟨[]⟩⟩
noncomputable def xG (P:Params):Obj:=⟨(.type "tuple"),none,(.seq ⟨[]⟩ 0),⟨[]⟩⟩
noncomputable def xF (P:Params):Obj:=⟨.none,none,(.fields ⟨[]⟩),⟨[]⟩⟩
noncomputable def xE (P:Params):Obj:=⟨(.type "tuple"),none,(.seq ⟨[(.str z63 394)]⟩ 0),⟨[]⟩⟩
noncomputable def xD (P:Params):Obj:=⟨(.type "tuple"),none,(.seq ⟨[]⟩ 0),⟨[]⟩⟩
noncomputable def xC (P:Params):Obj:=⟨.none,none,(.func ⟨z18,z18,im (stm 12),.stmts (iu (stm 12)),iq (stm 12),0,[],.none,.none,.none,.none,none,.none,.none,0⟩),⟨[]⟩⟩
noncomputable def ud (P:Params):Obj:=⟨(.type "code"),none,(.fields ⟨[(.str z18 391),(.str z18 392),(.str z0 393),(.int (.ofNat 122) 0),(.int (.ofNat 1) 0),(.int (.ofNat 0) 0),(.int (.ofNat 0) 0),(.int (.ofNat 3) 0),(.ref 110),(.bool true),(.int (.ofNat 181) 0),(.ref 111),.none,(.ref 112),(.ref 113),(.ref 114),(.int (.ofNat 395) 0),(.int (.ofNat 122) 0),(.str z0 396)]⟩),⟨[]⟩⟩
noncomputable def uc (P:Params):Obj:=⟨(.type "function"),none,(.func ⟨z18,z18,im (stm 12),.stmts (iu (stm 12)),iq (stm 12),3,[],.none,.none,.none,(.str z38 329),none,(.ref 115),.none,0⟩),⟨[]⟩⟩
noncomputable def T_4 (P:Params):BT:=(.node (boot_o_0 P) (.node (boot_o_1 P) (.node (E3 P) (.node (boot_o_7 P) (.node (q5 P) (.node (qM P) (.node (oo P) .nil .nil) (.node (tG P) .nil .nil)) (.node (qA P) (.node (tT P) .nil .nil) (.node (xF P) .nil .nil))) (.node (qS P) (.node (qG P) (.node (tZ P) .nil .nil) (.node (uj P) .nil .nil)) (.node (qw P) (.node (tM P) .nil .nil) .nil))) (.node (oD P) (.node (qX P) (.node (lZ P) (.node (t4 P) .nil .nil) (.node (wm P) .nil .nil)) (.node (mX P) (.node (oj P) .nil .nil) (.node (ud P) .nil .nil))) (.node (oA P) (.node (qE P) (.node (tV P) .nil .nil) (.node (ug P) .nil .nil)) (.node (qp P) (.node (qg P) .nil .nil) .nil)))) (.node (boot_o_5 P) (.node (boot_o_9 P) (.node (qZ P) (.node (qK P) (.node (t6 P) .nil .nil) (.node (qf P) .nil .nil)) (.node (lX P) (.node (tQ P) .nil .nil) (.node (xD P) .nil .nil))) (.node (qQ P) (.node (ou P) (.node (tX P) .nil .nil) (.node (uh P) .nil .nil)) (.node (qt P) (.node (tK P) .nil .nil) .nil))) (.node (oC P) (.node (qU P) (.node (qI P) (.node (qm P) .nil .nil) (.node (ul P) .nil .nil)) (.node (qy P) (.node (tO P) .nil .nil) .nil)) (.node (qO P) (.node (qC P) (.node (qk P) .nil .nil) (.node (ue P) .nil .nil)) (.node (qn P) (.node (tI P) .nil .nil) .nil))))) (.node (boot_o_2 P) (.node (boot_o_4 P) (.node (boot_o_8 P) (.node (q4 P) (.node (qL P) (.node (t7 P) .nil .nil) (.node (tF P) .nil .nil)) (.node (ot P) (.node (tR P) .nil .nil) (.node (xE P) .nil .nil))) (.node (qR P) (.node (qF P) (.node (tY P) .nil .nil) (.node (ui P) .nil .nil)) (.node (qv P) (.node (tL P) .nil .nil) .nil))) (.node (DY P) (.node (qW P) (.node (qJ P) (.node (t0 P) .nil .nil) (.node (um P) .nil .nil)) (.node (mW P) (.node (qj P) .nil .nil) (.node (uc P) .nil .nil))) (.node (l0 P) (.node (qD P) (.node (ol P) .nil .nil) (.node (uf P) .nil .nil)) (.node (qo P) (.node (tJ P) .nil .nil) .nil)))) (.node (boot_o_6 P) (.node (boot_o_10 P) (.node (qY P) (.node (oz P) (.node (t5 P) .nil .nil) (.node (qe P) .nil .nil)) (.node (qz P) (.node (tP P) .nil .nil) (.node (xC P) .nil .nil))) (.node (qP P) (.node (lY P) (.node (tW P) .nil .nil) (.node (nB P) .nil .nil)) (.node (qr P) (.node (qi P) .nil .nil) .nil))) (.node (oB P) (.node (qT P) (.node (qH P) (.node (ql P) .nil .nil) (.node (uk P) .nil .nil)) (.node (qx P) (.node (tN P) .nil .nil) .nil)) (.node (qN P) (.node (qB P) (.node (tU P) .nil .nil) (.node (xG P) .nil .nil)) (.node (oq P) (.node (tH P) .nil .nil) .nil))))))
noncomputable def E0 (P:Params):Obj:=⟨(.type "dict"),none,(.dict ⟨[⟨PyData.keyHash P z9,(.str z9 165),(.str z38 329)⟩,⟨PyData.keyHash P z8,(.str z8 166),.none⟩,⟨PyData.keyHash P z10,(.str z10 167),.none⟩,⟨PyData.keyHash P z11,(.str z11 168),(.builtin "__main__.__loader__#opaque")⟩,⟨PyData.keyHash P z12,(.str z12 169),.none⟩,⟨PyData.keyHash P z13,(.str z13 170),(.ref 6)⟩,⟨PyData.keyHash P z14,(.str z14 171),(.ref 4)⟩,⟨PyData.keyHash P z15,(.str z15 173),(.str z0 172)⟩,⟨PyData.keyHash P z16,(.str z16 174),.none⟩,⟨PyData.keyHash P z1,(.str z1 246),(.ref 52)⟩,⟨PyData.keyHash P z17,(.str z17 250),(.int (.ofNat 4000) 249)⟩,⟨PyData.keyHash P z2,(.str z2 267),(.ref 63)⟩,⟨PyData.keyHash P z3,(.str z3 281),(.ref 70)⟩,⟨PyData.keyHash P z4,(.str z4 292),(.ref 77)⟩,⟨PyData.keyHash P z5,(.str z5 303),(.ref 84)⟩,⟨PyData.keyHash P z6,(.str z6 318),(.ref 91)⟩,⟨PyData.keyHash P z7,(.str z7 328),(.ref 98)⟩,⟨PyData.keyHash P z20,(.str z20 390),(.ref 106)⟩,⟨PyData.keyHash P z18,(.str z18 397),(.ref 116)⟩,⟨PyData.keyHash P z46,(.str z46 2348),(.ref 117)⟩]⟩ 20),⟨[]⟩⟩
noncomputable def T_d (P:Params):BT:=Ag (T_4 P) 117 (kI :: zi)
noncomputable def T_5 (P:Params):BT:=(T_d P).set 3 (fun _=>E0 P)
noncomputable def EZ (P:Params):Obj:=⟨(.type "dict"),none,(.dict ⟨[⟨PyData.keyHash P z9,(.str z9 165),(.str z19 2357)⟩,⟨PyData.keyHash P z8,(.str z8 166),.none⟩,⟨PyData.keyHash P z10,(.str z10 167),.none⟩,⟨PyData.keyHash P z11,(.str z11 168),(.builtin "__main__.__loader__#opaque")⟩,⟨PyData.keyHash P z12,(.str z12 169),.none⟩,⟨PyData.keyHash P z13,(.str z13 170),(.ref 6)⟩,⟨PyData.keyHash P z14,(.str z14 171),(.ref 4)⟩,⟨PyData.keyHash P z15,(.str z15 173),(.str z0 172)⟩,⟨PyData.keyHash P z16,(.str z16 174),.none⟩,⟨PyData.keyHash P z1,(.str z1 246),(.ref 52)⟩,⟨PyData.keyHash P z17,(.str z17 250),(.int (.ofNat 4000) 249)⟩,⟨PyData.keyHash P z2,(.str z2 267),(.ref 63)⟩,⟨PyData.keyHash P z3,(.str z3 281),(.ref 70)⟩,⟨PyData.keyHash P z4,(.str z4 292),(.ref 77)⟩,⟨PyData.keyHash P z5,(.str z5 303),(.ref 84)⟩,⟨PyData.keyHash P z6,(.str z6 318),(.ref 91)⟩,⟨PyData.keyHash P z7,(.str z7 328),(.ref 98)⟩,⟨PyData.keyHash P z20,(.str z20 390),(.ref 106)⟩,⟨PyData.keyHash P z18,(.str z18 397),(.ref 116)⟩,⟨PyData.keyHash P z46,(.str z46 2348),(.ref 117)⟩,⟨PyData.keyHash P z21,(.str z21 2356),(.ref 162)⟩,⟨PyData.keyHash P z22,(.str z22 2364),(.ref 169)⟩,⟨PyData.keyHash P z23,(.str z23 2370),(.ref 174)⟩,⟨PyData.keyHash P z24,(.str z24 2376),(.ref 179)⟩,⟨PyData.keyHash P z25,(.str z25 2385),(.ref 186)⟩,⟨PyData.keyHash P z26,(.str z26 2391),(.ref 191)⟩,⟨PyData.keyHash P z27,(.str z27 2397),(.ref 196)⟩,⟨PyData.keyHash P z28,(.str z28 2403),(.ref 201)⟩,⟨PyData.keyHash P z29,(.str z29 2423),(.ref 208)⟩,⟨PyData.keyHash P z30,(.str z30 2429),(.ref 213)⟩]⟩ 30),⟨[]⟩⟩
noncomputable def DX (P:Params):Obj:=⟨.none,none,(.fields ⟨[(.int (.ofNat 2) 0),(.int (.ofNat 0) 0),(.ref 20),(.int (.ofNat 47) 0),(.int (.ofNat 0) 0),(.ref 62),(.int (.ofNat 63) 0),(.int (.ofNat 0) 0),(.ref 69),(.int (.ofNat 73) 0),(.int (.ofNat 0) 0),(.ref 76),(.int (.ofNat 89) 0),(.int (.ofNat 0) 0),(.ref 83),(.int (.ofNat 98) 0),(.int (.ofNat 0) 0),(.ref 90),(.int (.ofNat 109) 0),(.int (.ofNat 0) 0),(.ref 97),(.int (.ofNat 122) 0),(.int (.ofNat 0) 0),(.ref 115),(.int (.ofNat 125) 0),(.int (.ofNat 0) 0),(.ref 161),(.int (.ofNat 131) 0),(.int (.ofNat 0) 0),(.ref 168),(.int (.ofNat 133) 0),(.int (.ofNat 0) 0),(.ref 173),(.int (.ofNat 142) 0),(.int (.ofNat 0) 0),(.ref 178),(.int (.ofNat 166) 0),(.int (.ofNat 0) 0),(.ref 185),(.int (.ofNat 171) 0),(.int (.ofNat 0) 0),(.ref 190),(.int (.ofNat 183) 0),(.int (.ofNat 0) 0),(.ref 195),(.int (.ofNat 185) 0),(.int (.ofNat 0) 0),(.ref 200),(.int (.ofNat 197) 0),(.int (.ofNat 0) 0),(.ref 207),(.int (.ofNat 209) 0),(.int (.ofNat 0) 0),(.ref 212)]⟩),⟨[]⟩⟩
noncomputable def Cf (P:Params):Obj:=⟨(.type "tuple"),none,(.seq ⟨[]⟩ 0),⟨[]⟩⟩
noncomputable def Ce (P:Params):Obj:=⟨.none,none,(.fields ⟨[]⟩),⟨[]⟩⟩
noncomputable def Cd (P:Params):Obj:=⟨(.type "tuple"),none,(.seq ⟨[(.str z63 2352),(.str ⟨⟨[114]⟩⟩ 2353)]⟩ 0),⟨[]⟩⟩
noncomputable def Cc (P:Params):Obj:=⟨(.type "tuple"),none,(.seq ⟨[]⟩ 0),⟨[]⟩⟩
noncomputable def Cb (P:Params):Obj:=⟨.none,none,(.func ⟨z21,z21,im (stm 14),.stmts (iu (stm 14)),iq (stm 14),0,[],.none,.none,.none,.none,none,.none,.none,0⟩),⟨[]⟩⟩
noncomputable def xz (P:Params):Obj:=⟨(.type "code"),none,(.fields ⟨[(.str z21 2349),(.str z21 2350),(.str z0 2351),(.int (.ofNat 125) 0),(.int (.ofNat 1) 0),(.int (.ofNat 0) 0),(.int (.ofNat 0) 0),(.int (.ofNat 3) 0),(.ref 156),(.bool true),(.int (.ofNat 181) 0),(.ref 157),.none,(.ref 158),(.ref 159),(.ref 160),(.int (.ofNat 2354) 0),(.int (.ofNat 125) 0),(.str z0 2355)]⟩),⟨[]⟩⟩
noncomputable def xy (P:Params):Obj:=⟨(.type "function"),none,(.func ⟨z21,z21,im (stm 14),.stmts (iu (stm 14)),iq (stm 14),3,[],.none,.none,.none,(.str z38 329),none,(.ref 161),.none,0⟩),⟨[]⟩⟩
noncomputable def Ca (P:Params):Obj:=⟨(.type "tuple"),none,(.seq ⟨[]⟩ 0),⟨[]⟩⟩
noncomputable def B9 (P:Params):Obj:=⟨.none,none,(.fields ⟨[]⟩),⟨[]⟩⟩
noncomputable def B8 (P:Params):Obj:=⟨(.type "tuple"),none,(.seq ⟨[]⟩ 0),⟨[]⟩⟩
noncomputable def B7 (P:Params):Obj:=⟨(.type "tuple"),none,(.seq ⟨[]⟩ 0),⟨[]⟩⟩
noncomputable def B6 (P:Params):Obj:=⟨.none,none,(.func ⟨z22,z22,im (stm 16),.stmts (iu (stm 16)),iq (stm 16),0,[],.none,.none,.none,.none,none,.none,.none,0⟩),⟨[]⟩⟩
noncomputable def xx (P:Params):Obj:=⟨(.type "code"),none,(.fields ⟨[(.str z22 2359),(.str z22 2360),(.str z0 2361),(.int (.ofNat 131) 0),(.int (.ofNat 0) 0),(.int (.ofNat 0) 0),(.int (.ofNat 0) 0),(.int (.ofNat 3) 0),(.ref 163),(.bool true),(.int (.ofNat 181) 0),(.ref 164),.none,(.ref 165),(.ref 166),(.ref 167),(.int (.ofNat 2362) 0),(.int (.ofNat 131) 0),(.str z0 2363)]⟩),⟨[]⟩⟩
noncomputable def xw (P:Params):Obj:=⟨(.type "function"),none,(.func ⟨z22,z22,im (stm 16),.stmts (iu (stm 16)),iq (stm 16),3,[],.none,.none,.none,(.str z19 2357),none,(.ref 168),.none,0⟩),⟨[]⟩⟩
noncomputable def B5 (P:Params):Obj:=⟨(.type "tuple"),none,(.seq ⟨[]⟩ 0),⟨[]⟩⟩
noncomputable def B4 (P:Params):Obj:=⟨.none,none,(.fields ⟨[]⟩),⟨[]⟩⟩
noncomputable def B3 (P:Params):Obj:=⟨.none,none,(.func ⟨z23,z23,im (stm 17),.stmts (iu (stm 17)),iq (stm 17),0,[],.none,.none,.none,.none,none,.none,.none,0⟩),⟨[]⟩⟩
noncomputable def xv (P:Params):Obj:=⟨(.type "code"),none,(.fields ⟨[(.str z23 2365),(.str z23 2366),(.str z0 2367),(.int (.ofNat 133) 0),(.int (.ofNat 1) 0),(.int (.ofNat 0) 0),(.int (.ofNat 0) 0),(.int (.ofNat 3) 0),(.ref 170),(.bool true),(.int (.ofNat 181) 0),(.ref 171),.none,.none,.none,(.ref 172),(.int (.ofNat 2368) 0),(.int (.ofNat 133) 0),(.str z0 2369)]⟩),⟨[]⟩⟩
noncomputable def xu (P:Params):Obj:=⟨(.type "function"),none,(.func ⟨z23,z23,im (stm 17),.stmts (iu (stm 17)),iq (stm 17),3,[],.none,.none,.none,(.str z19 2357),none,(.ref 173),.none,0⟩),⟨[]⟩⟩
noncomputable def B2 (P:Params):Obj:=⟨(.type "tuple"),none,(.seq ⟨[]⟩ 0),⟨[]⟩⟩
noncomputable def B1 (P:Params):Obj:=⟨.none,none,(.fields ⟨[]⟩),⟨[]⟩⟩
noncomputable def B0 (P:Params):Obj:=⟨.none,none,(.func ⟨z24,z24,im (stm 18),.stmts (iu (stm 18)),iq (stm 18),0,[],.none,.none,.none,.none,none,.none,.none,0⟩),⟨[]⟩⟩
noncomputable def xt (P:Params):Obj:=⟨(.type "code"),none,(.fields ⟨[(.str z24 2371),(.str z24 2372),(.str z0 2373),(.int (.ofNat 142) 0),(.int (.ofNat 2) 0),(.int (.ofNat 0) 0),(.int (.ofNat 0) 0),(.int (.ofNat 3) 0),(.ref 175),(.bool true),(.int (.ofNat 181) 0),(.ref 176),.none,.none,.none,(.ref 177),(.int (.ofNat 2374) 0),(.int (.ofNat 142) 0),(.str z0 2375)]⟩),⟨[]⟩⟩
noncomputable def xr (P:Params):Obj:=⟨(.type "function"),none,(.func ⟨z24,z24,im (stm 18),.stmts (iu (stm 18)),iq (stm 18),3,[],.none,.none,.none,(.str z19 2357),none,(.ref 178),.none,0⟩),⟨[]⟩⟩
noncomputable def BZ (P:Params):Obj:=⟨(.type "tuple"),none,(.seq ⟨[]⟩ 0),⟨[]⟩⟩
noncomputable def BY (P:Params):Obj:=⟨.none,none,(.fields ⟨[]⟩),⟨[]⟩⟩
noncomputable def BX (P:Params):Obj:=⟨(.type "tuple"),none,(.seq ⟨[(.str ⟨⟨[116,101,120,116]⟩⟩ 2380),(.str ⟨⟨[115,116,114,101,97,109]⟩⟩ 2381)]⟩ 0),⟨[]⟩⟩
noncomputable def BW (P:Params):Obj:=⟨(.type "tuple"),none,(.seq ⟨[(.str z64 2382)]⟩ 0),⟨[]⟩⟩
noncomputable def BV (P:Params):Obj:=⟨.none,none,(.func ⟨z25,z25,im (stm 19),.stmts (iu (stm 19)),iq (stm 19),0,[],.none,.none,.none,.none,none,.none,.none,0⟩),⟨[]⟩⟩
noncomputable def t8 (P:Params):Obj:=⟨(.type "code"),none,(.fields ⟨[(.str z25 2377),(.str z25 2378),(.str z0 2379),(.int (.ofNat 166) 0),(.int (.ofNat 1) 0),(.int (.ofNat 0) 0),(.int (.ofNat 0) 0),(.int (.ofNat 3) 0),(.ref 180),(.bool true),(.int (.ofNat 181) 0),(.ref 181),.none,(.ref 182),(.ref 183),(.ref 184),(.int (.ofNat 2383) 0),(.int (.ofNat 166) 0),(.str z0 2384)]⟩),⟨[]⟩⟩
noncomputable def xq (P:Params):Obj:=⟨(.type "function"),none,(.func ⟨z25,z25,im (stm 19),.stmts (iu (stm 19)),iq (stm 19),3,[],.none,.none,.none,(.str z19 2357),none,(.ref 185),.none,0⟩),⟨[]⟩⟩
noncomputable def BU (P:Params):Obj:=⟨(.type "tuple"),none,(.seq ⟨[]⟩ 0),⟨[]⟩⟩
noncomputable def BS (P:Params):Obj:=⟨.none,none,(.fields ⟨[]⟩),⟨[]⟩⟩
noncomputable def BR (P:Params):Obj:=⟨.none,none,(.func ⟨z26,z26,im (stm 20),.stmts (iu (stm 20)),iq (stm 20),0,[],.none,.none,.none,.none,none,.none,.none,0⟩),⟨[]⟩⟩
noncomputable def xp (P:Params):Obj:=⟨(.type "code"),none,(.fields ⟨[(.str z26 2386),(.str z26 2387),(.str z0 2388),(.int (.ofNat 171) 0),(.int (.ofNat 3) 0),(.int (.ofNat 0) 0),(.int (.ofNat 0) 0),(.int (.ofNat 3) 0),(.ref 187),(.bool true),(.int (.ofNat 181) 0),(.ref 188),.none,.none,.none,(.ref 189),(.int (.ofNat 2389) 0),(.int (.ofNat 171) 0),(.str z0 2390)]⟩),⟨[]⟩⟩
noncomputable def xo (P:Params):Obj:=⟨(.type "function"),none,(.func ⟨z26,z26,im (stm 20),.stmts (iu (stm 20)),iq (stm 20),3,[],.none,.none,.none,(.str z19 2357),none,(.ref 190),.none,0⟩),⟨[]⟩⟩
noncomputable def BQ (P:Params):Obj:=⟨(.type "tuple"),none,(.seq ⟨[]⟩ 0),⟨[]⟩⟩
noncomputable def BP (P:Params):Obj:=⟨.none,none,(.fields ⟨[]⟩),⟨[]⟩⟩
noncomputable def BO (P:Params):Obj:=⟨.none,none,(.func ⟨z27,z27,im (stm 21),.stmts (iu (stm 21)),iq (stm 21),0,[],.none,.none,.none,.none,none,.none,.none,0⟩),⟨[]⟩⟩
noncomputable def xn (P:Params):Obj:=⟨(.type "code"),none,(.fields ⟨[(.str z27 2392),(.str z27 2393),(.str z0 2394),(.int (.ofNat 183) 0),(.int (.ofNat 2) 0),(.int (.ofNat 0) 0),(.int (.ofNat 0) 0),(.int (.ofNat 3) 0),(.ref 192),(.bool true),(.int (.ofNat 181) 0),(.ref 193),.none,.none,.none,(.ref 194),(.int (.ofNat 2395) 0),(.int (.ofNat 183) 0),(.str z0 2396)]⟩),⟨[]⟩⟩
noncomputable def xm (P:Params):Obj:=⟨(.type "function"),none,(.func ⟨z27,z27,im (stm 21),.stmts (iu (stm 21)),iq (stm 21),3,[],.none,.none,.none,(.str z19 2357),none,(.ref 195),.none,0⟩),⟨[]⟩⟩
noncomputable def BN (P:Params):Obj:=⟨(.type "tuple"),none,(.seq ⟨[]⟩ 0),⟨[]⟩⟩
noncomputable def BM (P:Params):Obj:=⟨.none,none,(.fields ⟨[]⟩),⟨[]⟩⟩
noncomputable def BL (P:Params):Obj:=⟨.none,none,(.func ⟨z28,z28,im (stm 22),.stmts (iu (stm 22)),iq (stm 22),0,[],.none,.none,.none,.none,none,.none,.none,0⟩),⟨[]⟩⟩
noncomputable def xl (P:Params):Obj:=⟨(.type "code"),none,(.fields ⟨[(.str z28 2398),(.str z28 2399),(.str z0 2400),(.int (.ofNat 185) 0),(.int (.ofNat 4) 0),(.int (.ofNat 0) 0),(.int (.ofNat 0) 0),(.int (.ofNat 3) 0),(.ref 197),(.bool true),(.int (.ofNat 181) 0),(.ref 198),.none,.none,.none,(.ref 199),(.int (.ofNat 2401) 0),(.int (.ofNat 185) 0),(.str z0 2402)]⟩),⟨[]⟩⟩
noncomputable def xj (P:Params):Obj:=⟨(.type "function"),none,(.func ⟨z28,z28,im (stm 22),.stmts (iu (stm 22)),iq (stm 22),3,[],.none,.none,.none,(.str z19 2357),none,(.ref 200),.none,0⟩),⟨[]⟩⟩
noncomputable def BK (P:Params):Obj:=⟨(.type "tuple"),none,(.seq ⟨[]⟩ 0),⟨[]⟩⟩
noncomputable def BJ (P:Params):Obj:=⟨.none,none,(.fields ⟨[]⟩),⟨[]⟩⟩
noncomputable def BI (P:Params):Obj:=⟨(.type "tuple"),none,(.seq ⟨[(.str ⟨⟨[108,101,120,101,114]⟩⟩ 2407),(.str z64 2408),(.str ⟨⟨[97,104,101,97,100]⟩⟩ 2409),(.str ⟨⟨[109,97,114,107]⟩⟩ 2410),(.str ⟨⟨[115,105,122,101,115]⟩⟩ 2411),(.str ⟨⟨[116,117,114,110,115]⟩⟩ 2412),(.str ⟨⟨[109,111,115,116]⟩⟩ 2413),(.str ⟨⟨[114,101,97,100]⟩⟩ 2414),(.str ⟨⟨[116,111,108,100]⟩⟩ 2415),(.str ⟨⟨[108,111,111,107,115]⟩⟩ 2416),(.str ⟨⟨[112,108,97,99,101]⟩⟩ 2417),(.str ⟨⟨[116,117,114,110]⟩⟩ 2418),(.str ⟨⟨[115,105,103,110]⟩⟩ 2419),(.str ⟨⟨[110,111,116,104,105,110,103]⟩⟩ 2420)]⟩ 0),⟨[]⟩⟩
noncomputable def BH (P:Params):Obj:=⟨(.type "tuple"),none,(.seq ⟨[]⟩ 0),⟨[]⟩⟩
noncomputable def BG (P:Params):Obj:=⟨.none,none,(.func ⟨z29,z29,im (stm 23),.stmts (iu (stm 23)),iq (stm 23),0,[],.none,.none,.none,.none,none,.none,.none,0⟩),⟨[]⟩⟩
noncomputable def xi (P:Params):Obj:=⟨(.type "code"),none,(.fields ⟨[(.str z29 2404),(.str z29 2405),(.str z0 2406),(.int (.ofNat 197) 0),(.int (.ofNat 7) 0),(.int (.ofNat 0) 0),(.int (.ofNat 0) 0),(.int (.ofNat 3) 0),(.ref 202),(.bool true),(.int (.ofNat 181) 0),(.ref 203),.none,(.ref 204),(.ref 205),(.ref 206),(.int (.ofNat 2421) 0),(.int (.ofNat 197) 0),(.str z0 2422)]⟩),⟨[]⟩⟩
noncomputable def xh (P:Params):Obj:=⟨(.type "function"),none,(.func ⟨z29,z29,im (stm 23),.stmts (iu (stm 23)),iq (stm 23),3,[],.none,.none,.none,(.str z19 2357),none,(.ref 207),.none,0⟩),⟨[]⟩⟩
noncomputable def BF (P:Params):Obj:=⟨(.type "tuple"),none,(.seq ⟨[]⟩ 0),⟨[]⟩⟩
noncomputable def BE (P:Params):Obj:=⟨.none,none,(.fields ⟨[]⟩),⟨[]⟩⟩
noncomputable def BD (P:Params):Obj:=⟨.none,none,(.func ⟨z30,z30,im (stm 24),.stmts (iu (stm 24)),iq (stm 24),0,[],.none,.none,.none,.none,none,.none,.none,0⟩),⟨[]⟩⟩
noncomputable def xg (P:Params):Obj:=⟨(.type "code"),none,(.fields ⟨[(.str z30 2424),(.str z30 2425),(.str z0 2426),(.int (.ofNat 209) 0),(.int (.ofNat 1) 0),(.int (.ofNat 0) 0),(.int (.ofNat 0) 0),(.int (.ofNat 3) 0),(.ref 209),(.bool true),(.int (.ofNat 181) 0),(.ref 210),.none,.none,.none,(.ref 211),(.int (.ofNat 2427) 0),(.int (.ofNat 209) 0),(.str z0 2428)]⟩),⟨[]⟩⟩
noncomputable def xf (P:Params):Obj:=⟨(.type "function"),none,(.func ⟨z30,z30,im (stm 24),.stmts (iu (stm 24)),iq (stm 24),3,[],.none,.none,.none,(.str z19 2357),none,(.ref 212),.none,0⟩),⟨[]⟩⟩
noncomputable def T_6 (P:Params):BT:=(.node (boot_o_0 P) (.node (boot_o_1 P) (.node (EZ P) (.node (boot_o_7 P) (.node (q5 P) (.node (qM P) (.node (oo P) (.node (je 9) .nil .nil) (.node (xo P) .nil .nil)) (.node (tG P) (.node (Cc P) .nil .nil) .nil)) (.node (qA P) (.node (tT P) (.node (je 25) .nil .nil) (.node (xi P) .nil .nil)) (.node (xF P) (.node (B2 P) .nil .nil) .nil))) (.node (qS P) (.node (qG P) (.node (tZ P) (.node (je 17) .nil .nil) (.node (BL P) .nil .nil)) (.node (uj P) (.node (B6 P) .nil .nil) .nil)) (.node (qw P) (.node (tM P) (.node (je 33) .nil .nil) .nil) (.node (je 1) (.node (BW P) .nil .nil) .nil)))) (.node (oD P) (.node (qX P) (.node (lZ P) (.node (t4 P) (.node (je 13) .nil .nil) (.node (xn P) .nil .nil)) (.node (wm P) (.node (Ca P) .nil .nil) .nil)) (.node (mX P) (.node (oj P) (.node (je 29) .nil .nil) (.node (BD P) .nil .nil)) (.node (ud P) (.node (xr P) .nil .nil) .nil))) (.node (oA P) (.node (qE P) (.node (tV P) (.node (je 21) .nil .nil) (.node (BJ P) .nil .nil)) (.node (ug P) (.node (B4 P) .nil .nil) .nil)) (.node (qp P) (.node (qg P) (.node (je 37) .nil .nil) .nil) (.node (je 5) (.node (BU P) .nil .nil) .nil))))) (.node (boot_o_5 P) (.node (boot_o_9 P) (.node (qZ P) (.node (qK P) (.node (t6 P) (.node (je 11) .nil .nil) (.node (BP P) .nil .nil)) (.node (qf P) (.node (xz P) .nil .nil) .nil)) (.node (lX P) (.node (tQ P) (.node (je 27) .nil .nil) (.node (BF P) .nil .nil)) (.node (xD P) (.node (B0 P) .nil .nil) .nil))) (.node (qQ P) (.node (ou P) (.node (tX P) (.node (je 19) .nil .nil) (.node (xj P) .nil .nil)) (.node (uh P) (.node (xw P) .nil .nil) .nil)) (.node (qt P) (.node (tK P) (.node (je 35) .nil .nil) .nil) (.node (je 3) (.node (t8 P) .nil .nil) .nil)))) (.node (oC P) (.node (qU P) (.node (qI P) (.node (qm P) (.node (je 15) .nil .nil) (.node (BN P) .nil .nil)) (.node (ul P) (.node (B8 P) .nil .nil) .nil)) (.node (qy P) (.node (tO P) (.node (je 31) .nil .nil) (.node (xf P) .nil .nil)) (.node kI (.node (BY P) .nil .nil) .nil))) (.node (qO P) (.node (qC P) (.node (qk P) (.node (je 23) .nil .nil) (.node (BH P) .nil .nil)) (.node (ue P) (.node (xv P) .nil .nil) .nil)) (.node (qn P) (.node (tI P) (.node (Ce P) .nil .nil) .nil) (.node (je 7) (.node (BR P) .nil .nil) .nil)))))) (.node (boot_o_2 P) (.node (boot_o_4 P) (.node (boot_o_8 P) (.node (q4 P) (.node (qL P) (.node (t7 P) (.node (je 10) .nil .nil) (.node (BQ P) .nil .nil)) (.node (tF P) (.node (Cb P) .nil .nil) .nil)) (.node (ot P) (.node (tR P) (.node (je 26) .nil .nil) (.node (xh P) .nil .nil)) (.node (xE P) (.node (B1 P) .nil .nil) .nil))) (.node (qR P) (.node (qF P) (.node (tY P) (.node (je 18) .nil .nil) (.node (xl P) .nil .nil)) (.node (ui P) (.node (xx P) .nil .nil) .nil)) (.node (qv P) (.node (tL P) (.node (je 34) .nil .nil) .nil) (.node (je 2) (.node (BV P) .nil .nil) .nil)))) (.node (DX P) (.node (qW P) (.node (qJ P) (.node (t0 P) (.node (je 14) .nil .nil) (.node (xm P) .nil .nil)) (.node (um P) (.node (B9 P) .nil .nil) .nil)) (.node (mW P) (.node (qj P) (.node (je 30) .nil .nil) (.node (xg P) .nil .nil)) (.node (uc P) (.node (BZ P) .nil .nil) .nil))) (.node (l0 P) (.node (qD P) (.node (ol P) (.node (je 22) .nil .nil) (.node (BI P) .nil .nil)) (.node (uf P) (.node (B3 P) .nil .nil) .nil)) (.node (qo P) (.node (tJ P) (.node (Cf P) .nil .nil) .nil) (.node (je 6) (.node (BS P) .nil .nil) .nil))))) (.node (boot_o_6 P) (.node (boot_o_10 P) (.node (qY P) (.node (oz P) (.node (t5 P) (.node (je 12) .nil .nil) (.node (BO P) .nil .nil)) (.node (qe P) (.node (xy P) .nil .nil) .nil)) (.node (qz P) (.node (tP P) (.node (je 28) .nil .nil) (.node (BE P) .nil .nil)) (.node (xC P) (.node (xt P) .nil .nil) .nil))) (.node (qP P) (.node (lY P) (.node (tW P) (.node (je 20) .nil .nil) (.node (BK P) .nil .nil)) (.node (nB P) (.node (B5 P) .nil .nil) .nil)) (.node (qr P) (.node (qi P) (.node (je 36) .nil .nil) .nil) (.node (je 4) (.node (xq P) .nil .nil) .nil)))) (.node (oB P) (.node (qT P) (.node (qH P) (.node (ql P) (.node (je 16) .nil .nil) (.node (BM P) .nil .nil)) (.node (uk P) (.node (B7 P) .nil .nil) .nil)) (.node (qx P) (.node (tN P) (.node (je 32) .nil .nil) .nil) (.node (je 0) (.node (BX P) .nil .nil) .nil))) (.node (qN P) (.node (qB P) (.node (tU P) (.node (je 24) .nil .nil) (.node (BG P) .nil .nil)) (.node (xG P) (.node (xu P) .nil .nil) .nil)) (.node (oq P) (.node (tH P) (.node (Cd P) .nil .nil) .nil) (.node (je 8) (.node (xp P) .nil .nil) .nil)))))))
noncomputable abbrev jR:Env:={ scope:=PR.main.scope,locals:=mainNs,globals:=mainNs,cells:=[],code:=.ref 13,frame:=some 14 }
noncomputable abbrev jd:Code:=.body (behindTheImports PR) jR
noncomputable abbrev q0:Pos:=⟨0,0,0,0⟩
noncomputable abbrev kY:Option Value:=some (.ref 6)
noncomputable abbrev stT (t:Params→BT) (n k:Nat) (w:World) (os:OsState):SharedT:=⟨t w.params,n,{},⟨[]⟩,{},k,os⟩
theorem qb:@segRunT=@PySem.W.Fast.tw10110043849684766642:=PySem.W.Fast.te10110043849684766642
theorem p4:@treeTable=@PySem.W.Fast.tw14364793385576792824:=PySem.W.Fast.te14364793385576792824
theorem DV:∀ w:World,(fun os=>topGo treeTable PR w 11 kY 12 ⟨boot_heap w.params,⟨[]⟩,boot_drawn,boot_toks,os⟩ (topStub PR))=
 fun os=>some ((stT T_a 15 187 w os).abs,⟨denote treeTable jd,jd,q0,[topFrame q0]⟩):=by
 intro w;kernel_rfl
theorem F5:∀ w:World,(fun os=>segRunT treeTable PR w 11 kY 1 1 (stT T_a 15 187 w os) (blockOf (behindTheImports PR) jR jd q0 [topFrame q0]))=
 fun os=>some (.next,stT T_a 15 187 w os,jd,q0):=by
 rw [qb,p4];intro w;kernel_rfl
theorem F4:∀ w:World,(fun os=>segRunT treeTable PR w 11 kY 1 391 (stT T_a 15 187 w os) (piecesOf [stm 0,stm 1,stm 2,stm 3,stm 4] jR jd ⟨0,0,0,0⟩ [topFrame q0]))=
 fun os=>some (.next,stT T_1 64 268 w os,jd,⟨47,0,62,33⟩):=by
 rw [qb,p4]
 intro w;kernel_rfl
theorem F3:∀ w:World,(fun os=>segRunT treeTable PR w 11 kY 1 182 (stT T_1 64 268 w os) (piecesOf [stm 5,stm 6,stm 7,stm 8,stm 9,stm 10] jR jd ⟨47,0,62,33⟩ [topFrame q0]))=
 fun os=>some (.next,stT T_2 99 331 w os,jd,⟨120,0,120,8⟩):=by
 rw [qb,p4]
 intro w;kernel_rfl
theorem F2:∀ w:World,(fun os=>segRunT treeTable PR w 11 kY 1 1000 (stT T_2 99 331 w os) (piecesOf [stm 11] jR jd ⟨120,0,120,8⟩ [topFrame q0]))=
 fun os=>some (.next,stT T_3 110 391 w os,jd,⟨121,0,121,6⟩):=by
 rw [qb,p4]
 refine byRow2 "set-order" (byRow2 "special-get-raises" ?_ ?_) (byRow2 "special-get-raises" ?_ ?_)<;>(intro w;kernel_rfl)
theorem F1:∀ w:World,(fun os=>segRunT treeTable PR w 11 kY 1 31 (stT T_3 110 391 w os) (piecesOf [stm 12] jR jd ⟨121,0,121,6⟩ [topFrame q0]))=
 fun os=>some (.next,stT T_4 117 398 w os,jd,⟨122,0,123,30⟩):=by
 rw [qb,p4]
 intro w;kernel_rfl
/- the big table -/
noncomputable abbrev so:Pos:=⟨124,16,124,8704⟩
noncomputable abbrev EH:Pos:=⟨124,0,124,8704⟩
noncomputable abbrev EP:Pos:=⟨124,0,124,13⟩
noncomputable abbrev Dx:Str:=Str.ofString "b3_exceptions"
theorem oh:k7=pC0++(pCs.flatten++pL):=by kernel_rfl
noncomputable def Cv:List Int→Bool
 | []=>true
 | [_]=>true
 | a :: b :: r=>decide (a < b) && Cv (b :: r)
theorem mI:∀ {l:List Int},Cv l=true→l.Pairwise (· < ·)
 | [],_=>.nil
 | [a],_=>.cons (fun _ h=>nomatch h) .nil
 | a :: b :: r,h=>by
  rw [Cv,aV,decide_eq_true_eq] at h
  have ih:=mI h.2
  refine .cons (fun x hx=>?_) ih
  cases hx with
  | head=>exact h.1
  | tail _ hx=>exact hU h.1 (List.rel_of_pairwise_cons ih hx)
theorem vf:(hs (pC0++(pCs.flatten++pL))).Nodup:=by
 rw [← oh]
 exact (mI (by kernel_rfl:Cv (hs k7)=true)).imp fun h=>Int.ne_of_lt h
theorem Ea:(evalEachOpt (AL (stm 13)) jR).zip ((evalEach (AK (stm 13)) jR).map fun v=>do let x ← v;standAt so;pure x)=k7.map (lw so):=by kernel_rfl
noncomputable abbrev vz (v:Value):Sem Flow:=standAt EP >>= fun _=>bindName jR Dx v >>= fun _=>pure .next
theorem yV:exec (stm 13) jR=(standAt EH >>= fun _=>standAt so >>= fun _=>dictDisplay (k7.map (lw so))) >>= vz:=by
 rw [← Ea]
 have h:stm 13=.Assign [.Name Dx EP] (.Dict (AL (stm 13)) (AK (stm 13)) so) EH:=by kernel_rfl
 conv=>lhs;rw [h]
 rw [exec_Assign_Name _ _ _ _ _ rfl]
 rfl
theorem wL:∀ w:World,(fun os=>(⟨Hs (absHeap (T_4 w.params) 117 {}) kI zi,⟨[]⟩,{},398 + 51 + 51 * pCs.length + 2 * pL.length + pL.length,os⟩:Shared))=fun os=>(stT T_d 156 2348 w os).abs:=by
 intro w;kernel_rfl
theorem Eu (p':Pos):∀ w:World,(fun os=>segRunT treeTable PR w 11 kY 1 20 (stT T_d 156 2348 w os) ⟨(vz (.ref 117)).wrap doneF deadEnd id id,jd,p',[topFrame q0]⟩)=
 fun os=>some (.next,stT T_5 156 2349 w os,jd,⟨124,0,124,13⟩):=by
 rw [qb,p4];intro w;kernel_rfl
noncomputable abbrev tE (w:World):TE:=⟨PR,w,11,kY,jd,q0⟩
theorem AJ (w:World) (os:OsState):Op (tE w) 70000 (standAt EH >>= fun _=>standAt so >>= fun _=>dictDisplay (k7.map (lw so))) (stT T_4 117 398 w os).abs (.ref 117) (stT T_d 156 2348 w os).abs:=by
 have hcs:pCs.length=37:=by kernel_rfl
 have hsz:(stT T_4 117 398 w os).abs.heap.objs.size=117:=absHeap_size _ _ _
 have h:=Op.display (e:=tE w) (s:=(stT T_4 117 398 w os).abs) (dp:=so) (c₀:=pC0) (cs:=pCs) (l:=pL) rfl (by rw [hsz];exact (by decide:11≤117)) (by rw [hsz];decide) (by kernel_rfl) (fun c hc=>by
  have:pCs.all (fun c=>c.length == 17)=true:=by kernel_rfl
  exact beq_iff_eq.mp (a9.mp this c hc)) (by have:pL.length=4:=(by kernel_rfl);omega) (by intro q;have:pL.length=4:=(by kernel_rfl);rw [q] at this;cases this) (by omega) vf
 rw [← oh,hsz] at h
 have e:∀ x:Shared,x=(stT T_d 156 2348 w os).abs→Op (tE w) (3200 + 1600 * pCs.length) (dictDisplay (k7.map (lw so))) (stT T_4 117 398 w os).abs (.ref 117) x→Op (tE w) 69000 (dictDisplay (k7.map (lw so))) (stT T_4 117 398 w os).abs (.ref 117) (stT T_d 156 2348 w os).abs:=fun x hx k=>by
  subst hx;exact k.le (by rw [hcs];decide)
 exact Op.bind Op.standAt (Op.bind Op.standAt ((e _ (congrFun (wL w) os) h).le (by decide)))
theorem F0 (w:World) (os:OsState) (rest:List Stmt) (N:Nat) (r:Shared) (k:topRun treeTable PR w 11 kY N (stT T_5 156 2349 w os).abs (restOf rest jR jd ⟨124,0,124,13⟩ [topFrame q0])=some r):
  ∃ n,n≤70100∧topRun treeTable PR w 11 kY (n + N) (stT T_4 117 398 w os).abs (restOf (stm 13 :: rest) jR jd ⟨122,0,123,30⟩ [topFrame q0])=some r:=by
 obtain ⟨n,pos',hn,h⟩:=AJ w os (fun v=>(vz v).wrap (fun f=>match f with | .next=>(execs rest jR).wrap doneF (leaveH jR) id id | f=>doneF f) (leaveH jR) id id) (leaveH jR) id id ⟨122,0,123,30⟩
 have hs:=segRun_of (congrFun (Eu pos' w) os)
 obtain ⟨a,ha,hN⟩:=seg_top (res:=id) (K':=fun f=>match f with | .next=>(execs rest jR).wrap doneF (leaveH jR) id id | f=>doneF f) (H':=leaveH jR) (B:=[topFrame q0]) rfl 20 _ ⟨(vz (.ref 117)).wrap doneF deadEnd id id,jd,pos',[topFrame q0]⟩
  ⟨(vz (.ref 117)).wrap (fun f=>match f with | .next=>(execs rest jR).wrap doneF (leaveH jR) id id | f=>doneF f) (leaveH jR) id id,jd,pos',[topFrame q0]⟩ _ _ _ _ ⟨rfl,rfl,.inl ⟨rfl,rfl,_,rfl,rfl⟩⟩ hs
 obtain rfl:a=.next:=ha
 refine ⟨n + 20,by omega,?_⟩
 have:=h (20 + N) r (hN N r k)
 unfold restOf
 rw [execs_cons_wrap,yV,Sem.bind_eq_wrap',Sem.wrap_wrap,bN]
 exact this
theorem FZ:∀ w:World,(fun os=>segRunT treeTable PR w 11 kY 1 298 (stT T_5 156 2349 w os) (piecesOf [stm 14,stm 15,stm 16,stm 17,stm 18,stm 19,stm 20,stm 21,stm 22,stm 23,stm 24] jR jd ⟨124,0,124,13⟩ [topFrame q0]))=
 fun os=>some (.next,stT T_6 214 2430 w os,jd,⟨209,0,235,70⟩):=by
 rw [qb,p4]
 intro w;kernel_rfl
theorem AY:behindTheImports PR=[stm 0,stm 1,stm 2,stm 3,stm 4]++([stm 5,stm 6,stm 7,stm 8,stm 9,stm 10]++([stm 11]++([stm 12]++([stm 13]++([stm 14,stm 15,stm 16,stm 17,stm 18,stm 19,stm 20,stm 21,stm 22,stm 23,stm 24]++[]))))):=by kernel_rfl
noncomputable def iB (P:Params):Heap:=absHeap (T_6 P) 214 {}
theorem CG (w:World) (os:OsState):topRun treeTable PR w 11 kY 2 (stT T_6 214 2430 w os).abs (restOf [] jR jd ⟨209,0,235,70⟩ [topFrame q0])=some (stT T_6 214 2430 w os).abs:=by
 have h:∀ w:World,(fun os=>topRun treeTable PR w 11 kY 2 (stT T_6 214 2430 w os).abs (restOf [] jR jd ⟨209,0,235,70⟩ [topFrame q0]))=fun os=>some (stT T_6 214 2430 w os).abs:=by intro w;kernel_rfl
 exact congrFun (h w) os
theorem yy {w:World} {n M:Nat} {s r:Shared} {t:Thread} (h:topRun treeTable PR w 11 kY n s t=some r) (hle:n≤M):topRun treeTable PR w 11 kY M s t=some r:=by
 have:=topRun_mono (M - n) _ _ _ _ h
 rwa [bn hle] at this
theorem yw (w:World) (os:OsState):topRun treeTable PR w 11 kY 72017 ⟨boot_heap w.params,⟨[]⟩,boot_drawn,boot_toks,os⟩ (topStub PR)=some (stT T_6 214 2430 w os).abs:=by
 have k0:=CG w os
 have k1:=piece_app (q:=q0) (segRun_of (congrFun (FZ w) os)) k0
 obtain ⟨n,hn,k2⟩:=F0 w os _ _ _ k1
 have k3:=piece_app (q:=q0) (segRun_of (congrFun (F1 w) os)) k2
 have k4:=piece_app (q:=q0) (segRun_of (congrFun (F2 w) os)) k3
 have k5:=piece_app (q:=q0) (segRun_of (congrFun (F3 w) os)) k4
 have k6:=piece_app (q:=q0) (segRun_of (congrFun (F4 w) os)) k5
 have hb:topRun treeTable PR w 11 kY _ (stT T_a 15 187 w os).abs (restOf (behindTheImports PR) jR jd q0 [topFrame q0])=some (stT T_6 214 2430 w os).abs:=(congrArg (fun l=>topRun treeTable PR w 11 kY _ (stT T_a 15 187 w os).abs (restOf l jR jd q0 [topFrame q0])) AY).trans k6
 have kb:=piece_block (q:=q0) (segRun_of (congrFun (F5 w) os)) hb
 have kt:=go_top (congrFun (DV w) os) kb
 exact yy kt (by omega)
end
end Internal
end
section
open PySem PySem.W PyProof.Rows PySem.Calls
namespace Internal
noncomputable abbrev vr:Nat:=214
structure Nest where
 table:Addr
 code:Addr
 defs:List (Pos×Str)
structure Ctx where
 prog:Program
 w:World
 h1:Heap
 mg:Str→Option Value
 mb:Str→Option Value
 nest:List Nest
 gens:Array GenState
 os:OsState
noncomputable def Ctx.tabs (C:Ctx):List Addr:=C.nest.map (·.table)
noncomputable def kP:Nest:=⟨72,76,[(⟨76,4,85,28⟩, "_int2digits.<locals>.inner")]⟩
noncomputable def kQ:Nest:=⟨79,83,[(⟨91,4,96,55⟩, "_digits2int.<locals>.inner")]⟩
noncomputable def ka:Nest:=⟨181,185,[(⟨168,13,168,25⟩, "_law_lexer.<locals>.<lambda>"),(⟨169,18,169,64⟩, "_law_lexer.<locals>.<lambda>")]⟩
noncomputable def q6:List Nest:=[kP,kQ,ka]
noncomputable def pj:List Addr:=[72,79,181]
structure Dc (C:Ctx):Prop where
 prog:C.prog=PR
 nest:C.nest=q6
 h1:C.h1=iB C.w.params
 mg:C.mg=(iB C.w.params).nsMap mainGlobals
 mb:C.mb=(iB C.w.params).nsMap builtinsNs
 gens:C.gens=#[]
noncomputable def yi (w:World) (os:OsState):Ctx:=⟨PR,w,iB w.params,(iB w.params).nsMap mainGlobals,(iB w.params).nsMap builtinsNs,q6,#[],os⟩
noncomputable def vS (C:Ctx):Prop:=(∀ n∈C.nest,CodeHd C.h1 n.code n.table)∧∀ (s:Shared) (a:Addr) (n:Nat) (its:List Value) (ns:List Int),s.os=C.os→s.gens=#[]→(∀ b o,C.h1.get? b=some o→s.heap.get? b=some o)→
 s.heap.get? a=some { cls:=.type "list", dict:=none,data:=.seq its.toArray n,slots:=#[] }→IntsAre its ns→vr≤a→ns.length≤63→
 wpAny (model PR C.w) callerA (PySem.call (.ref 213) [.ref a]) (fun v s'=>v=.bool true∧s'.os=C.os∧s'.gens=#[]∧(∀ b o,s.heap.get? b=some o→b∉C.tabs→s'.heap.get? b=some o)∧∀ n∈C.nest,∃ ps,s'.heap.get? n.table=some (tabObj ps)) (fun _ _=>False) s
noncomputable def cS:{ C:Ctx // Dc C }:=@Classical.epsilon _ ⟨⟨yi ⟨fun _ _=>0,{ strHash:=fun _=>0,shareClass:=fun _=>0,mergeTok:=id,idOf:=fun _=>0,idOfShared:=fun _ _=>0,followText:=fun _=>false,idOfImm:=fun _=>0 }⟩ {},⟨rfl,rfl,rfl,rfl,rfl,rfl⟩⟩⟩ fun c=>¬ vS c.1
noncomputable def C:Ctx:=cS.1
theorem B:Dc C:=cS.2
theorem Cq (h:vS C) {c:Ctx} (b:Dc c):vS c:=bc fun n=>Classical.epsilon_spec (p:=fun c:{ C:Ctx // Dc C }=>¬ vS c.1) ⟨⟨c,b⟩,n⟩ h
end Internal
end
section
open PySem PySem.W PyProof.Rows
namespace Internal
set_option genCtorIdx true in
inductive V where
 | none
 | bool (b:Bool)
 | int (i:Int)
 | str (s:List Nat)
 | tup (vs:List V)
 | lst (vs:List V)
 | rng (lo hi st:Int)
 | slc (lo hi st:Option Int)
 | loc (a:Addr)
 | raw (v:Value)
structure FnRec where
 name:Str
 qual:Str
 params:Arguments
 body:FuncBody
 scope:Scope
set_option genCtorIdx true in
inductive PObj where
 | list (vs:List V)
 | ns (at_:List (Str×V))
 | inst (cls:Addr) (d:Addr)
 | cell (v:Option V)
 | func (f:FnRec) (cap:List (Str×Addr)) (d:Option Addr)
 | bound (f:Value) (self:V)
 | citer (f:V) (sent:V)
 | cend
 | riter (vs:List V) (i:Nat)
noncomputable abbrev ij:=Addr→Option PObj
noncomputable def upd (σ:ij) (a:Addr) (o:Option PObj):ij:=fun b=>if b=a then o else σ b
theorem ik (σ:ij) (a:Addr) (o:Option PObj):upd σ a o a=o:=by simp [upd]
theorem ir (σ:ij) {a b:Addr} (o:Option PObj) (h:b≠a):upd σ a o b=σ b:=by simp [upd,h]
noncomputable abbrev ze (items:Array Value) (n:Nat):Obj:={ cls:=.type "tuple", dict:=none,data:=.seq items n,slots:=#[] }
noncomputable abbrev wP (v u e:Value):Obj:={ cls:=.type "callable_iterator", dict:=none,data:=.fields #[v,u,e],slots:=#[] }
noncomputable abbrev vb (v:Value) (i:Int):Obj:={ cls:=.type "list_reverseiterator", dict:=none,data:=.fields #[v,.int i 0],slots:=#[] }
noncomputable abbrev lstO (items:Array Value) (n:Nat):Obj:={ cls:=.type "list", dict:=none,data:=.seq items n,slots:=#[] }
mutual
inductive Rel (σ:ij) (h:Heap):Value→V→Prop
 | none:Rel σ h .none .none
 | bool (b:Bool):Rel σ h (.bool b) (.bool b)
 | int (i:Int) (t:Tok):Rel σ h (.int i t) (.int i)
 | str (s:List Nat) (t:Tok):Rel σ h (.str ⟨s.toArray⟩ t) (.str s)
 | tup {a:Addr} {items:List Value} {n:Nat} {vs:List V} (ho:h.get? a=some (ze items.toArray n)) (hσ:σ a=cT) (ht:a∉C.tabs) (hr:iF σ h items vs):Rel σ h (.ref a) (.tup vs)
 | lst {a:Addr} {items:List Value} {n:Nat} {vs:List V} (ho:h.get? a=some (lstO items.toArray n)) (hσ:σ a=cT) (ht:a∉C.tabs) (hr:iF σ h items vs):Rel σ h (.ref a) (.lst vs)
 | rng {a:Addr} {lo hi st:Int} {t u v:Tok} (ho:IsRange h a lo hi st t u v) (hσ:σ a=cT) (ht:a∉C.tabs):Rel σ h (.ref a) (.rng lo hi st)
 | slc {a:Addr} {l u t:Option (Int×Tok)} (ho:h.get? a=some { cls:=.type "slice", dict:=none,data:=.fields #[partValue l,partValue u,partValue t],slots:=#[] }) (hσ:σ a=cT) (ht:a∉C.tabs):
   Rel σ h (.ref a) (.slc (l.map (·.1)) (u.map (·.1)) (t.map (·.1)))
 | loc (a:Addr):Rel σ h (.ref a) (.loc a)
 | raw (v:Value):Rel σ h v (.raw v)
inductive iF (σ:ij) (h:Heap):List Value→List V→Prop
 | nil:iF σ h [] []
 | cons {v:Value} {pv:V} {l:List Value} {pl:List V} (hv:Rel σ h v pv) (hl:iF σ h l pl):iF σ h (v :: l) (pv :: pl)
end
noncomputable def Ga (σ:ij) (h:Heap) (x:Value):V→Prop
 | .none=>x=.none
 | .bool b=>x=.bool b
 | .int i=>∃ t,x=.int i t
 | .str s=>∃ t,x=.str ⟨s.toArray⟩ t
 | .loc a=>x=.ref a
 | .raw v=>x=v
 | .tup vs=>∃ a items n,x=.ref a∧h.get? a=some (ze items n)∧σ a=cT∧a∉C.tabs∧iF σ h items.toList vs
 | .lst vs=>∃ a items n,x=.ref a∧h.get? a=some (lstO items n)∧σ a=cT∧a∉C.tabs∧iF σ h items.toList vs
 | .rng lo hi st=>∃ a t u v,x=.ref a∧IsRange h a lo hi st t u v∧σ a=cT∧a∉C.tabs
 | _=>∀ _:Nat,True
theorem Rel.inv {σ:ij} {h:Heap} {x:Value} {pv:V} (r:Rel σ h x pv):Ga σ h x pv:=by
 cases r<;>first | rfl | exact ⟨_,rfl⟩ | exact ⟨_,_,_,rfl,‹_›,‹_›,‹_›,‹_›⟩ | exact ⟨_,_,_,_,rfl,‹_›,‹_›,‹_›⟩ | exact fun _=>trivial
noncomputable def FJ (σ:ij) (h:Heap) (l:List Value):List V→Prop
 | []=>l=[]
 | p :: ps=>∃ v l',l=v :: l'∧Rel σ h v p∧iF σ h l' ps
theorem iF.inv {σ:ij} {h:Heap} {l:List Value} {pl:List V} (r:iF σ h l pl):FJ σ h l pl:=by
 cases r with
 | nil=>rfl
 | cons a b=>exact ⟨_,_,rfl,a,b⟩
theorem iF.ind {σ:ij} {h:Heap} {P:List Value→List V→Prop} (n:P [] []) (c:∀ v pv l pl,Rel σ h v pv→iF σ h l pl→P l pl→P (v :: l) (pv :: pl)) {l:List Value} {pl:List V} (r:iF σ h l pl):P l pl:=
 iF.rec (motive_1:=fun _ _ _=>True) (motive_2:=fun l pl _=>P l pl) trivial (fun _=>trivial) (fun _ _=>trivial) (fun _ _=>trivial) (fun _ _ _ _ _=>trivial) (fun _ _ _ _ _=>trivial) (fun _ _ _=>trivial) (fun _ _ _=>trivial) (fun _=>trivial) (fun _=>trivial) n (fun hv hl _ ih=>c _ _ _ _ hv hl ih) r
noncomputable def yt (o:Obj):Prop:=(∃ items n,o.data=.seq items n)∨((o.cls=.type "range" ∨ o.cls=.type "slice")∧∃ vs,o.data=.fields vs)
structure iW (σ:ij) (h:Heap) (σ':ij) (h':Heap):Prop where
 keep:∀ a o,h.get? a=some o→yt o→σ a=none→a∉C.tabs→h'.get? a=some o
 free:∀ a o,h.get? a=some o→yt o→σ a=none→a∉C.tabs→σ' a=none
theorem Rel.mono {σ σ':ij} {h h':Heap} (k:iW σ h σ' h') {v:Value} {pv:V} (r:Rel σ h v pv):Rel σ' h' v pv:=
 Rel.rec (motive_1:=fun v pv _=>Rel σ' h' v pv) (motive_2:=fun l pl _=>iF σ' h' l pl) .none .bool .int .str
  (fun ho hσ ht _ ih=>.tup (k.keep _ _ ho (.inl ⟨_,_,rfl⟩) hσ ht) (k.free _ _ ho (.inl ⟨_,_,rfl⟩) hσ ht) ht ih)
  (fun ho hσ ht _ ih=>.lst (k.keep _ _ ho (.inl ⟨_,_,rfl⟩) hσ ht) (k.free _ _ ho (.inl ⟨_,_,rfl⟩) hσ ht) ht ih)
  (fun ho hσ ht=>.rng (k.keep _ _ ho (.inr ⟨.inl rfl,_,rfl⟩) hσ ht) (k.free _ _ ho (.inr ⟨.inl rfl,_,rfl⟩) hσ ht) ht)
  (fun ho hσ ht=>.slc (k.keep _ _ ho (.inr ⟨.inr rfl,_,rfl⟩) hσ ht) (k.free _ _ ho (.inr ⟨.inr rfl,_,rfl⟩) hσ ht) ht)
  .loc .raw .nil (fun _ _ a b=>.cons a b) r
theorem iF.mono {σ σ':ij} {h h':Heap} (k:iW σ h σ' h') {l:List Value} {pl:List V} (r:iF σ h l pl):iF σ' h' l pl:=r.ind (P:=iF σ' h') .nil fun _ _ _ _ hv _ ih=>.cons (hv.mono k) ih
theorem iF.length {σ:ij} {h:Heap} {l:List Value} {pl:List V} (r:iF σ h l pl):l.length=pl.length:=r.ind (P:=fun l pl=>l.length=pl.length) rfl fun _ _ _ _ _ _ ih=>congrArg (· + 1) ih
theorem iF.get {σ:ij} {h:Heap} {l:List Value} {pl:List V} (r:iF σ h l pl) {i:Nat} {pv:V} (e:pl[i]?=some pv):∃ v,l[i]?=some v∧Rel σ h v pv:=
 r.ind (P:=fun l pl=>∀ i pv,pl[i]?=some pv→∃ v,l[i]?=some v∧Rel σ h v pv) (fun _ _ e=>absurd (List.getElem?_nil.symm.trans e) (al _).symm)
  (fun v p l pl hv _ ih i=>Nat.casesOn i (fun q e=>⟨v,rfl,aq e ▸ hv⟩) (fun i q e=>ih i q e)) i pv e
theorem iF.append {σ:ij} {h:Heap} {l l':List Value} {pl pl':List V} (r:iF σ h l pl) (r':iF σ h l' pl'):iF σ h (l++l') (pl++pl'):=r.ind (P:=fun l pl=>iF σ h (l++l') (pl++pl')) r' fun _ _ _ _ hv _ ih=>.cons hv ih
inductive mD (σ:ij) (h:Heap):List DictEntry→List (Str×V)→Prop
 | nil:mD σ h [] []
 | cons {x:Str} {t:Tok} {hs:Int} {v:Value} {pv:V} {es:List DictEntry} {at_:List (Str×V)} (hv:Rel σ h v pv) (hl:mD σ h es at_):mD σ h (⟨hs,.str x t,v⟩ :: es) ((x,pv) :: at_)
theorem mD.mono {σ σ':ij} {h h':Heap} (k:iW σ h σ' h') {es:List DictEntry} {at_:List (Str×V)} (x:mD σ h es at_):mD σ' h' es at_:=by
 induction x with
 | nil=>exact .nil
 | cons hv _ ih=>exact .cons (hv.mono k) ih
noncomputable def j7 (σ:ij) (h:Heap) (cd:Value) (q:Str):Prop:=h.CodeRec cd q∧∀ c,cd=.ref c→σ c=none∧c∉C.tabs
theorem jW {a b:Data} (h:a=b) (k:Nat.beq a.ctorIdx b.ctorIdx=false):False:=by
 subst h
 rw [Nat.beq_refl] at k
 cases k
inductive FN (σ:ij) (h:Heap) (a:Addr) (f:FnRec) (cap:List (Str×Addr)) (d:Option Addr):Prop
 | mk (o:Obj) (fd:FuncData) (h0:h.get? a=some o) (h1:o.cls=.type "function") (h2:o.dict=d) (h3:o.data=.func fd) (h4:fd.name=f.name) (h5:fd.qualname=f.qual) (h6:fd.params=f.params) (h7:fd.body=f.body) (h8:fd.scope=f.scope)
   (h9:fd.globals=mainGlobals) (h10:fd.closure=cap) (h11:fd.defaults=.none) (h12:fd.kwdefaults=.none) (h13:fd.builtins=builtinsNs) (h14:j7 σ h fd.code f.qual)
noncomputable def jj (σ:ij) (h:Heap) (a:Addr):PObj→Prop
 | .list vs=>∃ items n,h.get? a=some (lstO items n)∧iF σ h items.toList vs
 | .ns at_=>∃ es n,h.get? a=some (dictOf es n)∧mD σ h es at_
 | .inst c d=>h.get? a=some (instObj c d)
 | .cell none=>h.IsCell a none
 | .cell (some pv)=>∃ v,h.IsCell a (some v)∧Rel σ h v pv
 | .func f cap d=>FN σ h a f cap d
 | .bound f self=>∃ v,h.get? a=some (methodObj f v)∧Rel σ h v self
 | .citer f sent=>∃ v u,h.get? a=some (wP v u (.bool false))∧Rel σ h v f∧Rel σ h u sent
 | .cend=>h.get? a=some (wP .none .none (.bool true))
 | .riter vs i=>∃ l,h.get? a=some (vb (.ref l) ((i:Int) - 1))∧Rel σ h (.ref l) (.lst vs)
noncomputable def yl (σ:ij) (h:Heap) (n:Nest):Prop:=
 ∃ ps,h.get? n.table=some (tabObj ps)∧TriplesOk ps.toList∧∀ d∈n.defs,∀ cv,codeAmong d.1 ps.toList=some cv→j7 σ h cv d.2
structure Inv (σ:ij) (s:Shared):Prop where
 base:∀ a o,C.h1.get? a=some o→a∉C.tabs→s.heap.get? a=some o
 top:∃ o,C.h1.get? (C.h1.objs.size - 1)=some o∧C.h1.objs.size - 1∉C.tabs∧0 < C.h1.objs.size
 own:∀ a o,σ a=some o→C.h1.objs.size≤a∧jj σ s.heap a o
 tabLt:∀ n∈C.nest,n.table < C.h1.objs.size
 tabs:∀ n∈C.nest,yl σ s.heap n
 gens:s.gens=C.gens
 os:s.os=C.os
theorem Inv.size {σ:ij} {s:Shared} (i:Inv σ s):C.h1.objs.size≤s.heap.objs.size:=by
 walk_at "u"; obtain ⟨o,h1,h2,h3⟩:=i.top;walk_at "v"
 have h4:C.h1.objs.size - 1 < s.heap.objs.size:=Heap.lt_size (i.base _ o h1 h2)
 exact Nat.le_of_pred_lt h4
structure Ext (σ:ij) (h:Heap) (σ':ij) (h':Heap):Prop where
 keep:∀ a o,h.get? a=some o→σ a=none→a∉C.tabs→h'.get? a=some o
 free:∀ a o,h.get? a=some o→σ a=none→a∉C.tabs→σ' a=none
 cell:∀ c v,σ c=some (.cell v)→∃ v',σ' c=some (.cell v')
theorem Ext.seq {σ σ':ij} {h h':Heap} (x:Ext σ h σ' h'):iW σ h σ' h':=⟨fun a o ho _ hs ht=>x.keep a o ho hs ht,fun a o ho _ hs ht=>x.free a o ho hs ht⟩
theorem Ext.refl {σ:ij} {h:Heap}:Ext σ h σ h:=⟨fun _ _ e _ _=>e,fun _ _ _ e _=>e,fun _ v e=>⟨v,e⟩⟩
theorem Ext.trans {σ σ₁ σ₂:ij} {h h₁ h₂:Heap} (x:Ext σ h σ₁ h₁) (y:Ext σ₁ h₁ σ₂ h₂):Ext σ h σ₂ h₂:=
 ⟨fun a o e hs ht=>y.keep a o (x.keep a o e hs ht) (x.free a o e hs ht) ht,fun a o e hs ht=>y.free a o (x.keep a o e hs ht) (x.free a o e hs ht) ht,fun c v e=>(x.cell c v e).elim fun _ e'=>y.cell c _ e'⟩
structure Kx where
 names:List (Str×NameKind)
 qual:Str
 code:Value
 d:Nat
set_option genCtorIdx true in
inductive Slot where
 | val (v:V)
 | sh (c:Addr)
 | emp
noncomputable abbrev Fm:=List (Str×Slot)
inductive FF (K:Kx) (env:Env) (σ:ij) (h:Heap) (x:Str) (pv:V):Prop
 | mk (h1:K.names.lookup x=some .local) (m:Str→Option Value) (v:Value) (h2:h.Ns env.locals m) (h3:m x=some v) (h4:Rel σ h v pv)
inductive FG (K:Kx) (env:Env) (σ:ij) (h:Heap) (x:Str) (pv:V):Prop
 | mk (h1:K.names.lookup x=some .cell∨K.names.lookup x=some .free) (c:Addr) (v:Value) (h2:env.cells.lookup x=some c) (h3:h.IsCell c (some v)) (h4:Rel σ h v pv) (h5:σ c=none) (h6:c∉C.tabs)
structure FQ (env:Env) (σ:ij) (h:Heap) (c:Addr):Prop where
 ne:env.locals≠c
 lo:C.h1.objs.size≤c
 nt:c∉C.tabs
 ex:σ c=none→∃ v,h.IsCell c v
 cl:∀ o,σ c=some o→∃ v,o=.cell v
noncomputable def EI (K:Kx) (env:Env) (σ:ij) (h:Heap) (x:Str):Slot→Prop
 | .val pv=>FF K env σ h x pv∨FG K env σ h x pv
 | .sh c=>(K.names.lookup x=some .cell∨K.names.lookup x=some .free)∧env.cells.lookup x=some c∧∃ o,σ c=some (.cell o)
 | .emp=>K.names.lookup x=some .cell∧∃ c,env.cells.lookup x=some c∧(∃ v:{ v:Option Value // v=cT },h.IsCell c v)∧σ c=none∧c∉C.tabs
structure Rep (K:Kx) (env:Env) (ρ:Fm) (σ:ij) (h:Heap):Prop where
 kind:env.scope.kind=.function
 names:env.scope.names=K.names
 glob:env.globals=mainGlobals
 blt:env.builtins=builtinsNs
 qual:env.qual=K.qual
 code:env.code=K.code
 loc:∃ m,h.Ns env.locals m
 locF:σ env.locals=none∧env.locals∉C.tabs∧C.h1.objs.size≤env.locals
 cells:∀ x c,env.cells.lookup x=some c→FQ env σ h c
 cinj:∀ x y c,env.cells.lookup x=some c→env.cells.lookup y=some c→x=y
 vars:∀ p∈ρ,EI K env σ h p.1 p.2
noncomputable def AOk (d:Nat) (A:Around):Prop:=A.handled=none∧A.depth + d≤990∧A.units + 10 * d≤9800
theorem oS {h h':Heap} {c:Addr} {v:Option Value} (x:h.IsCell c v) (k:∀ o,h.get? c=some o→h'.get? c=some o):h'.IsCell c v:=x.elim fun o q=>⟨o,k o q.1,q.2⟩
theorem nC {h h':Heap} {a:Addr} {m:Str→Option Value} (x:h.Ns a m) (k:∀ o,h.get? a=some o→h'.get? a=some o):h'.Ns a m:=by
 obtain ⟨o,es,ep,e,q⟩:=x
 exact ⟨o,es,ep,k o e,q⟩
theorem Rep.mono {K:Kx} {env:Env} {ρ:Fm} {σ σ':ij} {h h':Heap} (r:Rep K env ρ σ h) (x:Ext σ h σ' h'):Rep K env ρ σ' h':=by
 have hcell:=x.cell
 walk_at "u"; obtain ⟨m,hm⟩:=r.loc;walk_at "v"
 have hns:∀ m,h.Ns env.locals m→h'.Ns env.locals m:=fun m y=>nC y fun _ ho=>x.keep _ _ ho r.locF.1 r.locF.2.1
 have hce:∀ c v,σ c=none→c∉C.tabs→h.IsCell c v→h'.IsCell c v:=fun c v hs ht y=>oS y fun _ ho=>x.keep _ _ ho hs ht
 refine ⟨r.kind,r.names,r.glob,r.blt,r.qual,r.code,⟨m,hns m hm⟩,⟨(by obtain ⟨o,es,ep,ho,q⟩:=hm;exact x.free _ o ho r.locF.1 r.locF.2.1),r.locF.2⟩,fun y c hc=>?_,r.cinj,fun p hp=>?_⟩
 ·walk_at "u"; obtain ⟨h1,h2,h3,h4,h5⟩:=r.cells y c hc;walk_at "v"
  refine ⟨h1,h2,h3,fun hs=>?_,fun o hs=>?_⟩
  ·cases hq:σ c with
   | none=>obtain ⟨v,hv⟩:=h4 hq;exact ⟨v,hce c v hq h3 hv⟩
   | some o=>
    refine bc fun hbc=>?_
    obtain ⟨v,rfl⟩:=h5 o hq
    obtain ⟨o',e'⟩:=hcell c v hq
    refine hbc ?_
    clear hbc
    exact absurd (e'.symm.trans hs) (al _)
  ·cases hq:σ c with
   | none=>
    walk_at "u"; obtain ⟨v,hv⟩:=h4 hq;walk_at "v"
    have:=hv.elim fun o' ho'=>x.free c o' ho'.1 hq h3
    exact absurd (this.symm.trans hs).symm (al _)
   | some o₀=>
    refine bc fun hbc=>?_
    obtain ⟨v,rfl⟩:=h5 o₀ hq
    obtain ⟨o',e'⟩:=hcell c v hq
    refine hbc ?_
    clear hbc
    obtain rfl:=aq (e'.symm.trans hs);exact ⟨o',rfl⟩
 ·have hv:=r.vars p hp
  walk_at "u"; obtain ⟨y,sl⟩:=p;walk_at "v"
  cases sl with
  | val pv=>
   rcases hv with ⟨h1,m,v,h2,h3,h4⟩ | ⟨h1,c,v,h2,h3,h4,h5,h6⟩
   ·exact .inl ⟨h1,m,v,hns m h2,h3,h4.mono x.seq⟩
   ·exact .inr ⟨h1,c,v,h2,hce c _ h5 h6 h3,h4.mono x.seq,(h3.elim fun o' ho'=>x.free c o' ho'.1 h5 h6),h6⟩
  | sh c=>
   refine bc fun hbc=>?_
   obtain ⟨h1,h2,o,h3⟩:=hv
   obtain ⟨o',e'⟩:=hcell c o h3
   refine hbc ?_
   clear hbc
   exact ⟨h1,h2,o',e'⟩
  | emp=>
   walk_at "u"; obtain ⟨h1,c,h2,⟨v,h3⟩,h5,h6⟩:=hv;walk_at "v"
   exact ⟨h1,c,h2,⟨v,hce c _ h5 h6 h3⟩,(h3.elim fun o' ho'=>x.free c o' ho'.1 h5 h6),h6⟩

noncomputable def Bot:Value→Shared→Prop:=fun _ _=>False
theorem lD {prog:Program} {w:World} {α:Type} {A:Around} {t:Sem α} {Q:α→Shared→Prop} {E:Value→Shared→Prop} {s:Shared} (h:wpAny (model prog w) A t Q Bot s):wpAny (model prog w) A t Q E s:=wpAny_mono h (fun _ _ x=>x) fun _ _ x=>x.elim
noncomputable def EvP (K:Kx) (ρ:Fm) (σ:ij) (e:Expr) (Q:V→ij→Prop):Prop:=
 ∀ (A:Around) (env:Env) (s:Shared),AOk K.d A→Rep K env ρ σ s.heap→Inv σ s→∀ QM:Value→Shared→Prop,
  (∀ v pv σ' s',Q pv σ'→Inv σ' s'→Ext σ s.heap σ' s'.heap→Rel σ' s'.heap v pv→QM v s')→wpAny (model C.prog C.w) A (eval e env) QM Bot s
noncomputable def EvsP (K:Kx) (ρ:Fm):List Expr→ij→(List V→ij→Prop)→Prop
 | [],σ,Q=>Q [] σ
 | e :: r,σ,Q=>EvP K ρ σ e (fun pv σ₁=>EvsP K ρ r σ₁ (fun pl σ₂=>Q (pv :: pl) σ₂))
noncomputable def TsP (K:Kx) (ρ:Fm) (σ:ij) (e:Expr) (Q:Bool→ij→Prop):Prop:=
 ∀ (A:Around) (env:Env) (s:Shared),AOk K.d A→Rep K env ρ σ s.heap→Inv σ s→∀ QM:Bool→Shared→Prop,
  (∀ b σ' s',Q b σ'→Inv σ' s'→Ext σ s.heap σ' s'.heap→QM b s')→wpAny (model C.prog C.w) A (isTrue e env (eval e env)) QM Bot s
set_option genCtorIdx true in
inductive Fl where
 | next | brk | cont
 | ret (v:V)
noncomputable def DC (σ:ij) (h:Heap):Flow→Fl→Prop
 | .next,.next=>True
 | .brk,.brk=>True
 | .cont,.cont=>True
 | .ret v,.ret pv=>Rel σ h v pv
 | _,_=>False
noncomputable def lh (env:Env) (a:Addr):Prop:=a=env.locals∨∃ x,env.scope.names.lookup x=some .cell∧env.cells.lookup x=some a
structure jz (env:Env) (σ:ij) (h:Heap) (σ':ij) (h':Heap):Prop where
 keep:∀ a o,h.get? a=some o→σ a=none→a∉C.tabs→¬ lh env a→h'.get? a=some o
 free:∀ a o,h.get? a=some o→σ a=none→a∉C.tabs→¬ lh env a→σ' a=none
 cell:∀ c v,σ c=some (.cell v)→∃ v',σ' c=some (.cell v')
theorem Ext.toF {env:Env} {σ σ':ij} {h h':Heap} (x:Ext σ h σ' h'):jz env σ h σ' h':=⟨fun a o e hs ht _=>x.keep a o e hs ht,fun a o e hs ht _=>x.free a o e hs ht,x.cell⟩
theorem jz.refl {env:Env} {σ:ij} {h:Heap}:jz env σ h σ h:=Ext.refl.toF
theorem jz.trans {env:Env} {σ σ₁ σ₂:ij} {h h₁ h₂:Heap} (x:jz env σ h σ₁ h₁) (y:jz env σ₁ h₁ σ₂ h₂):jz env σ h σ₂ h₂:=
 ⟨fun a o e hs ht hf=>y.keep a o (x.keep a o e hs ht hf) (x.free a o e hs ht hf) ht hf,fun a o e hs ht hf=>y.free a o (x.keep a o e hs ht hf) (x.free a o e hs ht hf) ht hf,fun c v e=>(x.cell c v e).elim fun _ e'=>y.cell c _ e'⟩
noncomputable def ExP (K:Kx) (ρ:Fm) (σ:ij) (ss:List Stmt) (Q:Fl→Fm→ij→Prop):Prop:=
 ∀ (A:Around) (env:Env) (s:Shared),AOk K.d A→Rep K env ρ σ s.heap→Inv σ s→∀ QM:Flow→Shared→Prop,
  (∀ f fl ρ' σ' s',Q fl ρ' σ'→DC σ' s'.heap f fl→Rep K env ρ' σ' s'.heap→Inv σ' s'→jz env σ s.heap σ' s'.heap→QM f s')→wpAny (model C.prog C.w) A (execs ss env) QM Bot s
noncomputable def StP (K:Kx) (ρ:Fm) (σ:ij) (st:Stmt) (Q:Fl→Fm→ij→Prop):Prop:=
 ∀ (A:Around) (env:Env) (s:Shared),AOk K.d A→Rep K env ρ σ s.heap→Inv σ s→∀ QM:Flow→Shared→Prop,
  (∀ f fl ρ' σ' s',Q fl ρ' σ'→DC σ' s'.heap f fl→Rep K env ρ' σ' s'.heap→Inv σ' s'→jz env σ s.heap σ' s'.heap→QM f s')→wpAny (model C.prog C.w) A (exec st env) QM Bot s
noncomputable def AsP (K:Kx) (ρ:Fm) (σ:ij) (t:Expr) (pv:V) (Q:Fm→ij→Prop):Prop:=
 ∀ (A:Around) (env:Env) (s:Shared) (v:Value),AOk K.d A→Rep K env ρ σ s.heap→Inv σ s→Rel σ s.heap v pv→∀ QM:Unit→Shared→Prop,
  (∀ ρ' σ' s',Q ρ' σ'→Rep K env ρ' σ' s'.heap→Inv σ' s'→jz env σ s.heap σ' s'.heap→QM () s')→wpAny (model C.prog C.w) A (assign t env v) QM Bot s
section
variable {K:Kx} {ρ:Fm} {σ:ij}
theorem EvP.mono {e:Expr} {Q Q':V→ij→Prop} (h:EvP K ρ σ e Q) (k:∀ v σ',Q v σ'→Q' v σ'):EvP K ρ σ e Q':=
 fun A env s ha hr hi QM hq=>h A env s ha hr hi QM fun v pv σ' s' q=>hq v pv σ' s' (k _ _ q)
theorem TsP.mono {e:Expr} {Q Q':Bool→ij→Prop} (h:TsP K ρ σ e Q) (k:∀ v σ',Q v σ'→Q' v σ'):TsP K ρ σ e Q':=
 fun A env s ha hr hi QM hq=>h A env s ha hr hi QM fun b σ' s' q=>hq b σ' s' (k _ _ q)
theorem ExP.mono {ss:List Stmt} {Q Q':Fl→Fm→ij→Prop} (h:ExP K ρ σ ss Q) (k:∀ f ρ' σ',Q f ρ' σ'→Q' f ρ' σ'):ExP K ρ σ ss Q':=
 fun A env s ha hr hi QM hq=>h A env s ha hr hi QM fun f fl ρ' σ' s' q=>hq f fl ρ' σ' s' (k _ _ _ q)
theorem Inv.toks {s:Shared} {t:Nat} (i:Inv σ s):Inv σ { s with toks:=t }:=⟨i.base,i.top,i.own,i.tabLt,i.tabs,i.gens,i.os⟩
theorem ev_none {k:Nat} {pos:Pos} {Q:V→ij→Prop} (h:Q .none σ):EvP K ρ σ (.Constant .none k pos) Q:=
 fun A env s ha hr hi QM hq=>wpAny_Constant_none (hq _ _ _ _ h hi .refl .none)
theorem ev_bool {b:Bool} {k:Nat} {pos:Pos} {Q:V→ij→Prop} (h:Q (.bool b) σ):EvP K ρ σ (.Constant (.bool b) k pos) Q:=
 fun A env s ha hr hi QM hq=>wpAny_Constant_bool (hq _ _ _ _ h hi .refl (.bool b))
theorem ev_int {i:Int} {k:Nat} {pos:Pos} {Q:V→ij→Prop} (h:Q (.int i) σ):EvP K ρ σ (.Constant (.int i) k pos) Q:=
 fun A env s ha hr hi QM hq=>wpAny_Constant_int (hq _ _ _ _ h hi.toks .refl (.int i _))
theorem ev_str {x:Str} {k:Nat} {pos:Pos} {Q:V→ij→Prop} (h:Q (.str x.cps.toList) σ):EvP K ρ σ (.Constant (.str x) k pos) Q:=
 fun A env s ha hr hi QM hq=>wpAny_Constant_str (hq _ _ _ _ h hi.toks .refl (.str x.cps.toList _))
theorem ev_name {x:Str} {pos:Pos} {v:V} {Q:V→ij→Prop} (hx:(x,Slot.val v)∈ρ) (h:Q v σ) (hd:autoParam ((x == ("__debug__" : Str))=false) aD) (hn:autoParam ((x == ("__classdict__" : Str))=false) aD):
  EvP K ρ σ (.Name x pos) Q:=fun A env s ha hr hi QM hq=>by
 refine wpAny_Name ?_ hd
 rcases hr.vars _ hx with ⟨h1,m,mv,h2,h3,h4⟩ | ⟨h1,c,mv,h2,h3,h4,_,_⟩
 ·exact wpAny_loadName_local hr.kind ((congrArg (·.lookup x) hr.names).trans h1) h2 h3 (hq _ _ _ _ h hi .refl h4)
 ·rcases h1 with h1 | h1
  ·exact wpAny_loadName_cell hr.kind ((congrArg (·.lookup x) hr.names).trans h1) h2 h3 (hq _ _ _ _ h hi .refl h4)
  ·exact wpAny_loadName_free hr.kind ((congrArg (·.lookup x) hr.names).trans h1) h2 h3 (hq _ _ _ _ h hi .refl h4) hn
theorem ev_nameC {x:Str} {pos:Pos} {c:Addr} {v:V} {Q:V→ij→Prop} (hx:(x,Slot.sh c)∈ρ) (hc:σ c=some (.cell (some v))) (h:Q v σ) (hd:autoParam ((x == ("__debug__" : Str))=false) aD) (hn:autoParam ((x == ("__classdict__" : Str))=false) aD):
  EvP K ρ σ (.Name x pos) Q:=fun A env s ha hr hi QM hq=>by
 refine wpAny_Name ?_ hd
 refine bc fun hbc=>?_
 obtain ⟨h1,h2,_⟩:=hr.vars _ hx
 obtain ⟨mv,h3,h4⟩:=(hi.own c _ hc).2
 refine hbc ?_
 clear hbc
 rcases h1 with h1 | h1
 ·exact wpAny_loadName_cell hr.kind ((congrArg (·.lookup x) hr.names).trans h1) h2 h3 (hq _ _ _ _ h hi .refl h4)
 ·exact wpAny_loadName_free hr.kind ((congrArg (·.lookup x) hr.names).trans h1) h2 h3 (hq _ _ _ _ h hi .refl h4) hn
end
end Internal
end
section
open PySem PySem.W PyProof.Rows PySem.Calls
namespace Internal
noncomputable def M1 (d:Nat) (m:Value→Sem Value) (a:V) (σ:ij) (Q:V→ij→Prop):Prop:=
 ∀ (A:Around) (s:Shared) (x:Value),AOk d A→Inv σ s→Rel σ s.heap x a→∀ QM:Value→Shared→Prop,
  (∀ v pv σ' s',Q pv σ'→Inv σ' s'→Ext σ s.heap σ' s'.heap→Rel σ' s'.heap v pv→QM v s')→wpAny (model C.prog C.w) A (m x) QM Bot s
noncomputable def M2 (d:Nat) (m:Value→Value→Sem Value) (a b:V) (σ:ij) (Q:V→ij→Prop):Prop:=
 ∀ (A:Around) (s:Shared) (x y:Value),AOk d A→Inv σ s→Rel σ s.heap x a→Rel σ s.heap y b→∀ QM:Value→Shared→Prop,
  (∀ v pv σ' s',Q pv σ'→Inv σ' s'→Ext σ s.heap σ' s'.heap→Rel σ' s'.heap v pv→QM v s')→wpAny (model C.prog C.w) A (m x y) QM Bot s
noncomputable def M1B (d:Nat) (a:V) (σ:ij) (Q:Bool→ij→Prop):Prop:=
 ∀ (A:Around) (s:Shared) (x:Value),AOk d A→Inv σ s→Rel σ s.heap x a→∀ QM:Bool→Shared→Prop,
  (∀ b σ' s',Q b σ'→Inv σ' s'→Ext σ s.heap σ' s'.heap→QM b s')→wpAny (model C.prog C.w) A (truthy x) QM Bot s
section
variable {K:Kx} {ρ:Fm} {σ:ij}
structure Ctx.Ok (C:Ctx):Prop where
 g:C.h1.Ns mainGlobals C.mg
 b:C.h1.Ns builtinsNs C.mb
 gt:mainGlobals∉C.tabs
 bt:builtinsNs∉C.tabs
theorem Inv.ns (i:Inv σ s) {a:Addr} {m:Str→Option Value} (h:C.h1.Ns a m) (ht:a∉C.tabs):s.heap.Ns a m:=
 by obtain ⟨o,es,ep,e,r⟩:=h;exact ⟨o,es,ep,i.base a o e ht,r⟩
theorem ev_global (O:C.Ok) {x:Str} {pos:Pos} {v:Value} {Q:V→ij→Prop} (hk:K.names.lookup x=some .globalImplicit) (hv:C.mg x=some v) (h:Q (.raw v) σ) (hd:autoParam ((x == ("__debug__" : Str))=false) aD):
  EvP K ρ σ (.Name x pos) Q:=fun A env s ha hr hi QM hq=>
 Name_function_global hr.kind ((congrArg (·.lookup x) hr.names).trans hk) (loadGlobal_global (hr.glob ▸ hi.ns O.g O.gt) hv (hq _ _ _ _ h hi .refl (.raw v))) hd
theorem ev_builtin (O:C.Ok) {x:Str} {pos:Pos} {v:Value} {Q:V→ij→Prop} (hk:K.names.lookup x=some .globalImplicit) (hm:C.mg x=none) (hv:C.mb x=some v) (h:Q (.raw v) σ) (hd:autoParam ((x == ("__debug__" : Str))=false) aD):
  EvP K ρ σ (.Name x pos) Q:=fun A env s ha hr hi QM hq=>
 Name_function_global hr.kind ((congrArg (·.lookup x) hr.names).trans hk) (loadGlobal_builtin (hr.glob ▸ hi.ns O.g O.gt) hm (hr.blt ▸ hi.ns O.b O.bt) hv (hq _ _ _ _ h hi .refl (.raw v))) hd
theorem DU {A:Around} {env:Env} {s:Shared} {l r:Expr} {P:V→ij→Prop} {R:V→V→ij→Prop} (ha:AOk K.d A) (hr:Rep K env ρ σ s.heap) (hi:Inv σ s)
  (h:EvP K ρ σ l (fun a σ₁=>EvP K ρ σ₁ r (fun b σ₂=>R a b σ₂))) {QM:Value→Value→Shared→Prop}
  (k:∀ x y a b σ₂ s₂,R a b σ₂→Inv σ₂ s₂→Ext σ s.heap σ₂ s₂.heap→Rel σ₂ s₂.heap x a→Rel σ₂ s₂.heap y b→QM x y s₂):
  wpAny (model C.prog C.w) A (eval l env) (fun x s₁=>wpAny (model C.prog C.w) A (eval r env) (fun y s₂=>QM x y s₂) Bot s₁) Bot s:=
 h A env s ha hr hi _ fun x a σ₁ s₁ h₁ i₁ e₁ r₁=>h₁ A env s₁ ha (hr.mono e₁) i₁ _ fun y b σ₂ s₂ h₂ i₂ e₂ r₂=>k x y a b σ₂ s₂ h₂ i₂ (e₁.trans e₂) (r₁.mono e₂.seq) r₂
theorem Es {l r:Expr} {op:Operator} {pos:Pos} {Q:V→ij→Prop} (h:EvP K ρ σ l (fun a σ₁=>EvP K ρ σ₁ r (fun b σ₂=>M2 K.d (binaryOp op) a b σ₂ Q))):
  EvP K ρ σ (.BinOp l op r pos) Q:=fun A env s ha hr hi QM hq=>
 wpAny_BinOp (DU (P:=fun _ _=>True) ha hr hi h fun x y a b σ₂ s₂ h₂ i₂ e₂ rx ry=>h₂ A s₂ x y ha i₂ rx ry _ fun v pv σ₃ s₃ q i₃ e₃ r₃=>hq v pv σ₃ s₃ q i₃ (e₂.trans e₃) r₃)
theorem Er {l r:Expr} {op:CmpOp} {pos:Pos} {Q:V→ij→Prop} (h:EvP K ρ σ l (fun a σ₁=>EvP K ρ σ₁ r (fun b σ₂=>M2 K.d (compareOp op) a b σ₂ Q)))
  (hm:autoParam (behindInMarks op r=false) aW):EvP K ρ σ (.Compare l [op] [r] pos) Q:=fun A env s ha hr hi QM hq=>
 wpAny_Compare1 (DU (P:=fun _ _=>True) ha hr hi h fun x y a b σ₂ s₂ h₂ i₂ e₂ rx ry=>h₂ A s₂ x y ha i₂ rx ry _ fun v pv σ₃ s₃ q i₃ e₃ r₃=>hq v pv σ₃ s₃ q i₃ (e₂.trans e₃) r₃) hm
theorem DI {l r:Expr} {op:CmpOp} {pos:Pos} {Q:Bool→ij→Prop}
  (h:EvP K ρ σ l (fun a σ₁=>EvP K ρ σ₁ r (fun b σ₂=>M2 K.d (compareOp op) a b σ₂ (fun v σ₃=>∃ b,v=.bool b∧Q b σ₃))))
  (hm:autoParam (behindInMarks op r=false) aW):TsP K ρ σ (.Compare l [op] [r] pos) Q:=fun A env s ha hr hi QM hq=>
 wpAny_isTrue_Compare1 (DU (P:=fun _ _=>True) ha hr hi h fun x y a b σ₂ s₂ h₂ i₂ e₂ rx ry=>h₂ A s₂ x y ha i₂ rx ry _ fun v pv σ₃ s₃ q i₃ e₃ r₃=>by
  obtain ⟨b,rfl,q⟩:=q;cases r₃
  exact wpAny_truthy_bool (hq b σ₃ s₃ q i₃ (e₂.trans e₃))) hm
theorem Fp {x:Expr} {op:UnaryOp} {pos:Pos} {Q:V→ij→Prop} (h:EvP K ρ σ x (fun a σ₁=>M1 K.d (unaryOp op) a σ₁ Q)):EvP K ρ σ (.UnaryOp op x pos) Q:=fun A env s ha hr hi QM hq=>
 wpAny_UnaryOp (h A env s ha hr hi _ fun v a σ₁ s₁ h₁ i₁ e₁ r₁=>h₁ A s₁ v ha i₁ r₁ _ fun v' pv σ₂ s₂ q i₂ e₂ r₂=>hq v' pv σ₂ s₂ q i₂ (e₁.trans e₂) r₂)
theorem vx {t a b:Expr} {pos:Pos} {Q:V→ij→Prop} (h:TsP K ρ σ t (fun c σ₁=>if c then EvP K ρ σ₁ a Q else EvP K ρ σ₁ b Q)):EvP K ρ σ (.IfExp t a b pos) Q:=fun A env s ha hr hi QM hq=>
 wpAny_IfExp (h A env s ha hr hi _ fun c σ₁ s₁ h₁ i₁ e₁=>by
  cases c<;>exact h₁ A env s₁ ha (hr.mono e₁) i₁ _ fun v pv σ₂ s₂ q i₂ e₂ r₂=>hq v pv σ₂ s₂ q i₂ (e₁.trans e₂) r₂)
theorem ts_and_nil {pos:Pos} {Q:Bool→ij→Prop} (h:Q true σ):TsP K ρ σ (.BoolOp .And [] pos) Q:=fun A env s ha hr hi QM hq=>isTrue_and_nil (hq true σ s h hi .refl)
theorem ts_or_nil {pos:Pos} {Q:Bool→ij→Prop} (h:Q false σ):TsP K ρ σ (.BoolOp .Or [] pos) Q:=fun A env s ha hr hi QM hq=>isTrue_or_nil (hq false σ s h hi .refl)
theorem DJ {x:Expr} {r:List Expr} {pos:Pos} {Q:Bool→ij→Prop} (h:TsP K ρ σ x (fun c σ₁=>if c then TsP K ρ σ₁ (.BoolOp .And r pos) Q else Q false σ₁)):TsP K ρ σ (.BoolOp .And (x :: r) pos) Q:=fun A env s ha hr hi QM hq=>
 isTrue_and (h A env s ha hr hi _ fun c σ₁ s₁ h₁ i₁ e₁=>by
  cases c
  ·exact hq false σ₁ s₁ h₁ i₁ e₁
  ·exact h₁ A env s₁ ha (hr.mono e₁) i₁ _ fun b σ₂ s₂ q i₂ e₂=>hq b σ₂ s₂ q i₂ (e₁.trans e₂))
theorem ES {x:Expr} {r:List Expr} {pos:Pos} {Q:Bool→ij→Prop} (h:TsP K ρ σ x (fun c σ₁=>if c then Q true σ₁ else TsP K ρ σ₁ (.BoolOp .Or r pos) Q)):TsP K ρ σ (.BoolOp .Or (x :: r) pos) Q:=fun A env s ha hr hi QM hq=>
 isTrue_or (h A env s ha hr hi _ fun c σ₁ s₁ h₁ i₁ e₁=>by
  cases c
  ·exact h₁ A env s₁ ha (hr.mono e₁) i₁ _ fun b σ₂ s₂ q i₂ e₂=>hq b σ₂ s₂ q i₂ (e₁.trans e₂)
  ·exact hq true σ₁ s₁ h₁ i₁ e₁)
theorem DH {e:Expr} {Q:Bool→ij→Prop} (h:EvP K ρ σ e (fun v σ₁=>M1B K.d v σ₁ Q))
  (he:autoParam (∀ env whole,isTrue e env whole=(do let v ← whole;standAt e.pos;holding [v] (truthy v))) aI):TsP K ρ σ e Q:=fun A env s ha hr hi QM hq=>
 wpAny_isTrue_value (h A env s ha hr hi _ fun v pv σ₁ s₁ h₁ i₁ e₁ r₁=>h₁ A s₁ v ha i₁ r₁ _ fun b σ₂ s₂ q i₂ e₂=>hq b σ₂ s₂ q i₂ (e₁.trans e₂)) (he env _)
theorem lA {x:Expr} {op:BoolOp} {pos:Pos} {Q:V→ij→Prop} (h:EvP K ρ σ x Q):EvP K ρ σ (.BoolOp op [x] pos) Q:=fun A env s ha hr hi QM hq=>BoolOp_one (h A env s ha hr hi QM hq)
theorem AE {x y:Expr} {r:List Expr} {pos:Pos} {Q:V→ij→Prop}
  (h:EvP K ρ σ x (fun v σ₁=>M1B K.d v σ₁ (fun c σ₂=>σ₂=σ₁∧if c then EvP K ρ σ₂ (.BoolOp .And (y :: r) pos) Q else Q v σ₂))):EvP K ρ σ (.BoolOp .And (x :: y :: r) pos) Q:=fun A env s ha hr hi QM hq=>
 BoolOp_and (h A env s ha hr hi _ fun v pv σ₁ s₁ h₁ i₁ e₁ r₁=>h₁ A s₁ v ha i₁ r₁ _ fun c σ₂ s₂ q i₂ e₂=>by
  walk_at "u"; obtain ⟨eq0,q⟩:=q;walk_at "v"
  subst eq0
  cases c
  ·exact hq v pv σ₂ s₂ q i₂ (e₁.trans e₂) (r₁.mono e₂.seq)
  ·exact q A env s₂ ha (hr.mono (e₁.trans e₂)) i₂ _ fun v pv σ₃ s₃ q i₃ e₃ r₃=>hq v pv σ₃ s₃ q i₃ ((e₁.trans e₂).trans e₃) r₃)
theorem Fq {x y:Expr} {r:List Expr} {pos:Pos} {Q:V→ij→Prop}
  (h:EvP K ρ σ x (fun v σ₁=>M1B K.d v σ₁ (fun c σ₂=>σ₂=σ₁∧if c then Q v σ₂ else EvP K ρ σ₂ (.BoolOp .Or (y :: r) pos) Q))):EvP K ρ σ (.BoolOp .Or (x :: y :: r) pos) Q:=fun A env s ha hr hi QM hq=>
 BoolOp_or (h A env s ha hr hi _ fun v pv σ₁ s₁ h₁ i₁ e₁ r₁=>h₁ A s₁ v ha i₁ r₁ _ fun c σ₂ s₂ q i₂ e₂=>by
  walk_at "u"; obtain ⟨eq0,q⟩:=q;walk_at "v"
  subst eq0
  cases c
  ·exact q A env s₂ ha (hr.mono (e₁.trans e₂)) i₂ _ fun v pv σ₃ s₃ q i₃ e₃ r₃=>hq v pv σ₃ s₃ q i₃ ((e₁.trans e₂).trans e₃) r₃
  ·exact hq v pv σ₂ s₂ q i₂ (e₁.trans e₂) (r₁.mono e₂.seq))
open Builtin in
inductive Bin:Operator→V→V→V→Prop where
 | add (a b:Int):Bin .Add (.int a) (.int b) (.int (a + b))
 | sub (a b:Int):Bin .Sub (.int a) (.int b) (.int (a - b))
 | mul (a b:Int) (h:IntMulOk a b):Bin .Mult (.int a) (.int b) (.int (a * b))
 | fdiv (a b:Int) (h:b≠0) (hp:b.natAbs.log2 < 9000):Bin .FloorDiv (.int a) (.int b) (.int (a.fdiv b))
 | mod (a b:Int) (h:b≠0) (hp:b.natAbs.log2 < 9000):Bin .Mod (.int a) (.int b) (.int (a.fmod b))
 | and (a b:Int):Bin .BitAnd (.int a) (.int b) (.int (bitAnd a b))
 | or (a b:Int):Bin .BitOr (.int a) (.int b) (.int (bitOr a b))
 | xor (a b:Int):Bin .BitXor (.int a) (.int b) (.int (bitXor a b))
 | shl (a n:Int) (hn:0≤n) (h:(Builtin.Int.intBits a:Int) + n≤2 ^ 27):Bin .LShift (.int a) (.int n) (.int (a * 2 ^ n.toNat))
 | shr (a n:Int) (hn:0≤n):Bin .RShift (.int a) (.int n) (.int (a.fdiv (2 ^ n.toNat)))
 | pow (a n:Int) (hn:0≤n) (h:(Builtin.Int.intBits a:Int) * n≤2 ^ 27):Bin .Pow (.int a) (.int n) (.int (a ^ n.toNat))
 | cat (x y:List Nat) (h:x.length + y.length≤2 ^ 24):Bin .Add (.str x) (.str y) (.str (x++y))
 | rep (x:List Nat) (n:Nat) (h:n * x.length≤2 ^ 24) (hn:n≤2 ^ 24):Bin .Mult (.str x) (.int n) (.str (aC n x).flatten)
theorem yP (l:List (Array Nat)):∀ a:Array Nat,(l.foldl (·++·) a).toList=a.toList++(l.map Array.toList).flatten:=by
 induction l with
 | nil=>intro a;simp
 | cons x l ih=>intro a;simp [ih]
theorem DN (x:Str) (l:List Nat) (h:x.cps.toList=l):x=⟨l.toArray⟩:=by cases x;subst h;rfl
theorem Rel.strOf {σ:ij} {h:Heap} {x:Str} {t:Tok} {l:List Nat} (e:x.cps.toList=l):Rel σ h (.str x t) (.str l):=by
 rw [DN x l e];exact .str l t
theorem ko {d:Nat} {f:Value→Value→Sem Value} {a b c:Int} {Q:V→ij→Prop} (q:Q (.int c) σ) (k:∀ {A:Around} {s:Shared} {t u:Tok} {QM:Value→Shared→Prop},(∀ z tk,QM (.int c z) { s with toks:=tk })→wpAny (model C.prog C.w) A (f (.int a t) (.int b u)) QM Bot s):M2 d f (.int a) (.int b) σ Q:=fun A s x y ha hi hx hy QM hq=>by
 obtain ⟨t,rfl⟩:=Rel.inv hx;obtain ⟨u,rfl⟩:=Rel.inv hy
 exact k fun z tk=>hq _ _ _ _ q hi.toks .refl (.int _ _)
theorem sY {d:Nat} {f:Value→Value→Sem Value} {a b:Int} {c:Bool} {Q:V→ij→Prop} (q:Q (.bool c) σ) (k:∀ {A:Around} {s:Shared} {t u:Tok} {QM:Value→Shared→Prop},QM (.bool c) s→wpAny (model C.prog C.w) A (f (.int a t) (.int b u)) QM Bot s):M2 d f (.int a) (.int b) σ Q:=fun A s x y ha hi hx hy QM hq=>by
 obtain ⟨t,rfl⟩:=Rel.inv hx;obtain ⟨u,rfl⟩:=Rel.inv hy
 exact k (hq _ _ _ _ q hi .refl (.bool _))
theorem Ds {d:Nat} {f:Value→Value→Sem Value} {a b:List Nat} {c:Bool} {Q:V→ij→Prop} (q:Q (.bool c) σ) (k:∀ {A:Around} {s:Shared} {t u:Tok} {QM:Value→Shared→Prop},QM (.bool c) s→wpAny (model C.prog C.w) A (f (.str ⟨a.toArray⟩ t) (.str ⟨b.toArray⟩ u)) QM Bot s):M2 d f (.str a) (.str b) σ Q:=fun A s x y ha hi hx hy QM hq=>by
 obtain ⟨t,rfl⟩:=Rel.inv hx;obtain ⟨u,rfl⟩:=Rel.inv hy
 exact k (hq _ _ _ _ q hi .refl (.bool _))
theorem Dr {d:Nat} {f:Value→Value→Sem Value} {a b:List Nat} {Q:V→ij→Prop} (q:Q (.str (a++b)) σ) (k:∀ {A:Around} {s:Shared} {t u:Tok} {QM:Value→Shared→Prop},(∀ z tk,QM (.str (⟨a.toArray⟩++⟨b.toArray⟩) z) { s with toks:=tk })→wpAny (model C.prog C.w) A (f (.str ⟨a.toArray⟩ t) (.str ⟨b.toArray⟩ u)) QM Bot s):M2 d f (.str a) (.str b) σ Q:=fun A s x y ha hi hx hy QM hq=>by
 obtain ⟨t,rfl⟩:=Rel.inv hx;obtain ⟨u,rfl⟩:=Rel.inv hy
 exact k fun z tk=>hq _ _ _ _ q hi.toks .refl (.strOf (by show (a.toArray++b.toArray).toList=_;simp))
theorem D6 {d:Nat} {x:List Nat} {n:Nat} {Q:V→ij→Prop} (h:n * x.length≤2 ^ 24) (hn:n≤2 ^ 24) (q:Q (.str (aC n x).flatten) σ):M2 d (binaryOp .Mult) (.str x) (.int n) σ Q:=fun A s x' y ha hi hx hy QM hq=>by
 obtain ⟨t,rfl⟩:=Rel.inv hx;obtain ⟨u,rfl⟩:=Rel.inv hy
 refine P.mul_str (by simp;lia) (fun h1 h2=>?_) (fun h1 h2=>?_) ?_
 ·show ¬ ((x.toArray.size:Int) > _)
  have hx:(x.length:Int)≤(2 ^ 63 - 1) / (n:Int):=by
   have hn0:(0:Int) < n:=by lia
   rw [Int.le_ediv_iff_mul_le hn0]
   have:x.length * n≤2 ^ 24:=by rw [bo];exact h
   have:((x.length * n:Nat):Int)≤2 ^ 24:=by exact_mod_cast this
   simp at this;lia
  simpa using hx
 ·show decide (x.toArray.size * (n:Int).toNat > 2 ^ 24)=false
  have:x.length * n≤2 ^ 24:=by rw [bo];exact h
  simpa using this
 ·have hpost:(∀ v t',v.cps.toList=(aC n x).flatten→QM (.str v t') { s with toks:=s.toks + 1 }):=fun v t' e=>hq _ _ _ _ q hi.toks .refl (.strOf e)
  by_cases h1:(n:Int) < 1
  ·rw [if_pos h1]
   have:n=0:=by lia
   subst this
   exact ⟨by decide,hpost _ _ (by simp [PySem.Str.empty])⟩
  ·rw [if_neg h1]
   by_cases h2:((n:Int) == 1 || PySem.Str.length ⟨x.toArray⟩ == 0)=true
   ·rw [if_pos h2]
    have:(aC n x).flatten=x:=by
     simp [PySem.Str.length] at h2
     rcases h2 with h2 | h2
     ·have:n=1:=by lia
      subst this;simp
     ·subst h2;simp
    rw [this] at q
    exact hq _ _ _ _ q hi .refl (.str x t)
   ·rw [if_neg h2]
    have e:((aC (n:Int).toNat x.toArray).foldl (·++·) #[]).toList=(aC n x).flatten:=by rw [yP];simp
    refine ⟨?_,hpost _ _ e⟩
    show ((aC (n:Int).toNat x.toArray).foldl (·++·) #[]).size≤2 ^ 24
    rw [← Array.length_toList,e];simpa using h
theorem bin_ {d:Nat} {op:Operator} {a b v:V} {Q:V→ij→Prop} (h:Bin op a b v) (q:Q v σ):M2 d (binaryOp op) a b σ Q:=
 (Bin.casesOn (motive:=fun op a b v _=>Q v σ→M2 d (binaryOp op) a b σ Q) h
  (fun a b q=>ko q fun h=>P.add_int (h _ _))
  (fun a b q=>ko q fun h=>P.sub_int (h _ _))
  (fun a b h' q=>ko q fun h=>P.mul_int (h _ _) h')
  (fun a b h' hp q=>ko q fun h=>floordiv_int h' (h _ _) (.inl (PyProof.noPylong_of_log2 hp)))
  (fun a b h' hp q=>ko q fun h=>mod_int' h' (h _ _))
  (fun a b q=>ko q fun h=>and_int (h _ _))
  (fun a b q=>ko q fun h=>or_int (h _ _))
  (fun a b q=>ko q fun h=>xor_int (h _ _))
  (fun a n hn h' q=>ko q fun h=>lshift_int hn h' (h _ _))
  (fun a n hn q=>ko q fun h=>rshift_int hn (h _ _))
  (fun a n hn h' q=>ko q fun h=>pow_int hn h' (h _ _))
  (fun x y h' q=>Dr q fun h=>add_str h (by show x.toArray.size + y.toArray.size≤2 ^ 24;simpa using h'))
  (fun x n h hn q=>D6 h hn q)) q
inductive Cmp:CmpOp→V→V→Bool→Prop where
 | eq (a b:Int):Cmp .Eq (.int a) (.int b) (a == b)
 | ne (a b:Int):Cmp .NotEq (.int a) (.int b) (a != b)
 | lt (a b:Int):Cmp .Lt (.int a) (.int b) (decide (a < b))
 | le (a b:Int):Cmp .LtE (.int a) (.int b) (decide (a≤b))
 | gt (a b:Int):Cmp .Gt (.int a) (.int b) (decide (a > b))
 | ge (a b:Int):Cmp .GtE (.int a) (.int b) (decide (a ≥ b))
 | seq (a b:List Nat):Cmp .Eq (.str a) (.str b) (a == b)
 | sne (a b:List Nat):Cmp .NotEq (.str a) (.str b) (a != b)
 | isB (a b:Bool):Cmp .Is (.bool a) (.bool b) (a == b)
 | isntN_str (a:List Nat):Cmp .IsNot (.str a) .none true
 | isntN_none:Cmp .IsNot .none .none false
theorem F7 {d:Nat} {a b:Bool} {Q:V→ij→Prop} (q:Q (.bool (a == b)) σ):M2 d (compareOp .Is) (.bool a) (.bool b) σ Q:=fun A s x y ha hi hx hy QM hq=>by
 obtain rfl:=Rel.inv hx;obtain rfl:=Rel.inv hy
 have:=hq _ _ _ _ q hi .refl (.bool _)
 cases a<;>cases b<;>exact fun _ _ _=>this
theorem Eb {d:Nat} {a:List Nat} {Q:V→ij→Prop} (q:Q (.bool true) σ):M2 d (compareOp .IsNot) (.str a) .none σ Q:=fun A s x y ha hi hx hy QM hq=>by
 obtain ⟨t,rfl⟩:=Rel.inv hx;obtain rfl:=Rel.inv hy
 exact isNot_none (hq _ _ _ _ q hi .refl (.bool _))
theorem Ec {d:Nat} {Q:V→ij→Prop} (q:Q (.bool false) σ):M2 d (compareOp .IsNot) .none .none σ Q:=fun A s x y ha hi hx hy QM hq=>by
 obtain rfl:=Rel.inv hx;obtain rfl:=Rel.inv hy
 exact isNot_none (hq _ _ _ _ q hi .refl (.bool _))
theorem cmp_ {d:Nat} {op:CmpOp} {a b:V} {r:Bool} {Q:V→ij→Prop} (h:Cmp op a b r) (q:Q (.bool r) σ):M2 d (compareOp op) a b σ Q:=
 (Cmp.casesOn (motive:=fun op a b r _=>Q (.bool r) σ→M2 d (compareOp op) a b σ Q) h
  (fun a b q=>sY q fun h=>P.eq_int h)
  (fun a b q=>sY q fun h=>P.ne_int h)
  (fun a b q=>sY q fun h=>P.lt_int h)
  (fun a b q=>sY q fun h=>P.le_int h)
  (fun a b q=>sY q fun h=>P.gt_int h)
  (fun a b q=>sY q fun h=>P.ge_int h)
  (fun a b q=>Ds q fun h=>P.eq_str h)
  (fun a b q=>Ds q fun h=>P.ne_str h)
  (fun a b q=>F7 q)
  (fun a q=>Eb q)
  (fun q=>Ec q)) q
open Builtin in
inductive Un:UnaryOp→V→V→Prop where
 | neg (a:Int):Un .USub (.int a) (.int (-a))
 | inv (a:Int):Un .Invert (.int a) (.int (bitNot a))
 | notB (b:Bool):Un .Not (.bool b) (.bool (!b))
theorem Fc {d:Nat} {f:Value→Sem Value} {a c:Int} {Q:V→ij→Prop} (q:Q (.int c) σ) (k:∀ {A:Around} {s:Shared} {t:Tok} {QM:Value→Shared→Prop},(∀ z tk,QM (.int c z) { s with toks:=tk })→wpAny (model C.prog C.w) A (f (.int a t)) QM Bot s):M1 d f (.int a) σ Q:=fun A s x ha hi hx QM hq=>by
 walk_at "u"; obtain ⟨t,eq0⟩:=Rel.inv hx;walk_at "v"
 subst eq0
 exact k fun z tk=>hq _ _ _ _ q hi.toks .refl (.int _ _)
theorem E8 {d:Nat} {b:Bool} {Q:V→ij→Prop} (q:Q (.bool (!b)) σ):M1 d (unaryOp .Not) (.bool b) σ Q:=fun A s x ha hi hx QM hq=>by
 obtain rfl:=Rel.inv hx
 exact not_value (wpAny_truthy_bool (hq _ _ _ _ q hi .refl (.bool _)))
theorem un_ {d:Nat} {op:UnaryOp} {a v:V} {Q:V→ij→Prop} (h:Un op a v) (q:Q v σ):M1 d (unaryOp op) a σ Q:=
 (Un.casesOn (motive:=fun op a v _=>Q v σ→M1 d (unaryOp op) a σ Q) h
  (fun a q=>Fc q fun h=>P.neg_int (h _ _))
  (fun a q=>Fc q fun h=>invert_int (h _ _))
  (fun b q=>E8 q)) q
theorem tb_bool {d:Nat} {b:Bool} {Q:Bool→ij→Prop} (q:Q b σ):M1B d (.bool b) σ Q:=fun A s x ha hi hx QM hq=>by
 obtain ⟨_,rfl⟩:=Rel.inv hx;exact wpAny_truthy_bool (hq _ _ _ q hi .refl)
theorem tb_int {d:Nat} {a:Int} {Q:Bool→ij→Prop} (q:Q (a != 0) σ):M1B d (.int a) σ Q:=fun A s x ha hi hx QM hq=>by
 obtain ⟨_,rfl⟩:=Rel.inv hx;exact P.truthy_int (hq _ _ _ q hi .refl)
end
end Internal
end
section
open PySem PySem.W PyProof.Rows PySem.Calls
namespace Internal
noncomputable def yo (o:Obj):Prop:=¬ yt o∧∀ vs,o.data=.fields vs→∀ q t,vs[1]?≠some (.str q t)
structure ji (σ:ij) (a:Addr) (h h':Heap):Prop where
 keep:∀ b o,b≠a→h.get? b=some o→h'.get? b=some o
 unown:∀ o,h.get? a=some o→σ a=none∧C.h1.objs.size≤a∧yo o
theorem ji.ne {σ:ij} {a b:Addr} {h h':Heap} {o:Obj} {p:PObj} (k:ji σ a h h') (hb:h.get? b=some o) (hs:σ b=some p):b≠a:=fun e=>by
 subst e;have:=(k.unown _ hb).1;exact absurd (hs.symm.trans this) (al _)
theorem ji.seq {σ:ij} {a:Addr} {h h':Heap} (k:ji σ a h h'):iW σ h σ h':=
 ⟨fun b o hb hd _ _=>k.keep b o (fun e=>by subst e;exact (k.unown _ hb).2.2.1 hd) hb,fun _ _ _ _ e _=>e⟩
theorem ji.code {σ:ij} {a:Addr} {h h':Heap} (k:ji σ a h h') {cd:Value} {q:Str} (x:j7 σ h cd q):j7 σ h' cd q:=
 by obtain ⟨⟨c,o,vs,t,e,g,d,r⟩,z⟩:=x;exact ⟨⟨c,o,vs,t,e,k.keep c o (fun e=>by subst e;exact (k.unown _ g).2.2.2 _ d _ _ r) g,d,r⟩,z⟩
theorem jj.poke {σ:ij} {a b:Addr} {h h':Heap} {p:PObj} (k:ji σ a h h') (hs:σ b=some p) (x:jj σ h b p):jj σ h' b p:=by
 have K:∀ o,h.get? b=some o→h'.get? b=some o:=fun o e=>k.keep b o (k.ne e hs) e
 cases p with
 | list vs=>obtain ⟨items,n,e,r⟩:=x;exact ⟨items,n,K _ e,r.mono k.seq⟩
 | ns at_=>obtain ⟨es,n,e,r⟩:=x;exact ⟨es,n,K _ e,r.mono k.seq⟩
 | inst c d=>exact K _ x
 | cell v=>cases v with
  | none=>obtain ⟨o,e,r⟩:=x;exact ⟨o,K o e,r⟩
  | some v=>obtain ⟨v,⟨o,e,r⟩,q⟩:=x;exact ⟨v,⟨o,K o e,r⟩,q.mono k.seq⟩
 | func f cap d=>obtain ⟨o,fd,e,c,d,f1,f2,f3,f4,f5,f6,f7,f8,f9,f10,f11,f12⟩:=x;exact ⟨o,fd,K o e,c,d,f1,f2,f3,f4,f5,f6,f7,f8,f9,f10,f11,k.code f12⟩
 | bound f self=>obtain ⟨v,e,q⟩:=x;exact ⟨v,K _ e,q.mono k.seq⟩
 | citer f sent=>obtain ⟨v,u,e,q,q'⟩:=x;exact ⟨v,u,K _ e,q.mono k.seq,q'.mono k.seq⟩
 | cend=>exact K _ x
 | riter vs i=>obtain ⟨l,e,q⟩:=x;exact ⟨l,K _ e,q.mono k.seq⟩
theorem yl.poke {σ:ij} {a:Addr} {h h':Heap} {n:Nest} (k:ji σ a h h') (hn:n.table < C.h1.objs.size) (x:yl σ h n):yl σ h' n:=
 by obtain ⟨ps,e,t,f⟩:=x;exact ⟨ps,k.keep _ _ (fun q=>by have:=(k.unown _ (q ▸ e)).2.1;rw [← q] at this;exact absurd hn (b7.mpr this)) e,t,fun d hd cv hc=>k.code (f d hd cv hc)⟩
theorem Inv.poke {σ:ij} {a:Addr} {s s':Shared} (i:Inv σ s) (k:ji σ a s.heap s'.heap) (hg:s'.gens=s.gens) (ho:s'.os=s.os):Inv σ s' where
 base:=fun b o e ht=>k.keep b o (fun q=>by subst q;exact absurd (Heap.lt_size e) (b7.mpr (k.unown _ (i.base _ o e ht)).2.1)) (i.base b o e ht)
 top:=i.top
 own:=fun b p e=>⟨(i.own b p e).1,jj.poke k e (i.own b p e).2⟩
 tabLt:=i.tabLt
 tabs:=fun n hn=>(i.tabs n hn).poke k (i.tabLt n hn)
 gens:=hg.trans i.gens
 os:=ho.trans i.os
theorem j7.mono {σ σ':ij} {h h':Heap} (x:Ext σ h σ' h') {cd:Value} {q:Str} (y:j7 σ h cd q):j7 σ' h' cd q:=
 by obtain ⟨⟨c,o,vs,t,e,g,d,r⟩,z⟩:=y;exact ⟨⟨c,o,vs,t,e,x.keep c o g (z c e).1 (z c e).2,d,r⟩,fun c' e'=>by
  (rw [e] at e';cases e');exact ⟨x.free c o g (z c e).1 (z c e).2,(z c e).2⟩⟩
theorem jj.mono {σ σ':ij} {b:Addr} {h h':Heap} {p:PObj} (k:Ext σ h σ' h') (K:∀ o,h.get? b=some o→h'.get? b=some o) (x:jj σ h b p):jj σ' h' b p:=by
 cases p with
 | list vs=>obtain ⟨items,n,e,r⟩:=x;exact ⟨items,n,K _ e,r.mono k.seq⟩
 | ns at_=>obtain ⟨es,n,e,r⟩:=x;exact ⟨es,n,K _ e,r.mono k.seq⟩
 | inst c d=>exact K _ x
 | cell v=>cases v with
  | none=>obtain ⟨o,e,r⟩:=x;exact ⟨o,K o e,r⟩
  | some v=>obtain ⟨v,⟨o,e,r⟩,q⟩:=x;exact ⟨v,⟨o,K o e,r⟩,q.mono k.seq⟩
 | func f cap d=>obtain ⟨o,fd,e,c,d,f1,f2,f3,f4,f5,f6,f7,f8,f9,f10,f11,f12⟩:=x;exact ⟨o,fd,K o e,c,d,f1,f2,f3,f4,f5,f6,f7,f8,f9,f10,f11,f12.mono k⟩
 | bound f self=>obtain ⟨v,e,q⟩:=x;exact ⟨v,K _ e,q.mono k.seq⟩
 | citer f sent=>obtain ⟨v,u,e,q,q'⟩:=x;exact ⟨v,u,K _ e,q.mono k.seq,q'.mono k.seq⟩
 | cend=>exact K _ x
 | riter vs i=>obtain ⟨l,e,q⟩:=x;exact ⟨l,K _ e,q.mono k.seq⟩
theorem Inv.lo {σ:ij} {s:Shared} (i:Inv σ s) {a:Addr} (h:a < C.h1.objs.size):σ a=none:=by
 cases e:σ a with
 | none=>rfl
 | some p=>exact absurd h (b7.mpr (i.own a p e).1)
theorem Inv.notTab {σ:ij} {s:Shared} (i:Inv σ s) {a:Addr} (h:C.h1.objs.size≤a):a∉C.tabs:=fun q=>by
 walk_at "u"; obtain ⟨n,hn,e⟩:=aA.mp q;walk_at "v"
 have:=i.tabLt n hn
 rw [e] at this
 exact absurd h (eO.mpr this)
theorem Inv.step {σ σ':ij} {s s':Shared} (i:Inv σ s) (e:Ext σ s.heap σ' s'.heap)
  (own:∀ a p,σ' a=some p→(σ a=some p∧∀ o,s.heap.get? a=some o→s'.heap.get? a=some o)∨(C.h1.objs.size≤a∧jj σ' s'.heap a p))
  (tb:∀ n∈C.nest,∀ o,s.heap.get? n.table=some o→s'.heap.get? n.table=some o) (hg:s'.gens=s.gens) (ho:s'.os=s.os):Inv σ' s' where
 base:=fun a o g ht=>e.keep a o (i.base a o g ht) (i.lo (Heap.lt_size g)) ht
 top:=i.top
 own:=fun a p g=>by
  rcases own a p g with ⟨h1,h2⟩ | h
  ·exact ⟨(i.own a p h1).1,jj.mono e h2 (i.own a p h1).2⟩
  ·exact h
 tabLt:=i.tabLt
 tabs:=fun n hn=>(i.tabs n hn).elim fun ps h=>⟨ps,tb n hn _ h.1,h.2.1,fun d hd cv hc=>(h.2.2 d hd cv hc).mono e⟩
 gens:=hg.trans i.gens
 os:=ho.trans i.os
theorem Inv.set {σ:ij} {s s':Shared} {a:Addr} {p p':PObj} (i:Inv σ s) (ha:σ a=some p) (hs:∀ b o,b≠a→s.heap.get? b=some o→s'.heap.get? b=some o)
  (hcell:∀ v,p=.cell v→∃ v',p'=.cell v') (hp:jj (upd σ a (some p')) s'.heap a p') (hg:s'.gens=s.gens) (ho:s'.os=s.os):
  Inv (upd σ a (some p')) s'∧Ext σ s.heap (upd σ a (some p')) s'.heap:=by
 have lo:=(i.own a p ha).1
 have ne:∀ b,σ b=none→b≠a:=fun b hb q=>by rw [q,ha] at hb;cases hb
 have E:Ext σ s.heap (upd σ a (some p')) s'.heap:=⟨fun b o g hb _=>hs b o (ne b hb) g,fun b o g hb _=>by rw [ir σ _ (ne b hb)];exact hb,fun c v hc=>by
  by_cases hca:c=a
  ·subst hca
   obtain rfl:=aq (ha.symm.trans hc)
   walk_at "u"; obtain ⟨v',eq0⟩:=hcell v rfl;walk_at "v"
   subst eq0
   exact ⟨v',ik ..⟩
  ·exact ⟨v,by rw [ir σ _ hca];exact hc⟩⟩
 refine ⟨i.step E (fun b q hb=>?_) (fun n hn o g=>hs _ o (fun q=>?_) g) hg ho,E⟩
 ·by_cases hba:b=a
  ·subst hba
   (rw [ik] at hb;cases hb)
   exact .inr ⟨lo,hp⟩
  ·rw [ir σ _ hba] at hb
   exact .inl ⟨hb,fun o g=>hs b o hba g⟩
 ·exact absurd (i.tabLt n hn) (b7.mpr (q ▸ lo))
theorem Rep.poke {K:Kx} {env:Env} {ρ:Fm} {σ:ij} {h h':Heap} {a:Addr} (r:Rep K env ρ σ h) (k:ji σ a h h')
  (hd:∀ o,h.get? a=some o→(∀ es ep,o.data≠.dict es ep)∧∀ v,o.data≠.cell v):Rep K env ρ σ h':=by
 have hns:∀ b m,h.Ns b m→h'.Ns b m:=fun b m h=>by obtain ⟨o,es,ep,e,d,q⟩:=h;exact ⟨o,es,ep,k.keep b o (fun x=>by subst x;exact (hd _ e).1 _ _ d) e,d,q⟩
 have hce:∀ b v,h.IsCell b v→h'.IsCell b v:=fun b v h=>h.elim fun o h=>⟨o,k.keep b o (fun x=>by subst x;exact (hd _ h.1).2 _ h.2) h.1,h.2⟩
 walk_at "u"; obtain ⟨m,hm⟩:=r.loc;walk_at "v"
 refine ⟨r.kind,r.names,r.glob,r.blt,r.qual,r.code,⟨m,hns _ m hm⟩,r.locF,fun y c hc=>?_,r.cinj,fun p hp=>?_⟩
 ·walk_at "u"; obtain ⟨h1,h2,h3,h4,h5⟩:=r.cells y c hc;walk_at "v"
  exact ⟨h1,h2,h3,fun e=>(h4 e).elim fun v q=>⟨v,hce _ _ q⟩,h5⟩
 ·have hv:=r.vars p hp
  walk_at "u"; obtain ⟨y,sl⟩:=p;walk_at "v"
  cases sl with
  | val pv=>
   rcases hv with ⟨h1,m,v,h2,h3,h4⟩ | ⟨h1,c,v,h2,h3,h4,h5,h6⟩
   ·exact .inl ⟨h1,m,v,hns _ m h2,h3,h4.mono k.seq⟩
   ·exact .inr ⟨h1,c,v,h2,hce c _ h3,h4.mono k.seq,h5,h6⟩
  | sh c=>exact hv
  | emp=>obtain ⟨h1,c,h2,⟨v,h3⟩,h5,h6⟩:=hv;exact ⟨h1,c,h2,⟨v,hce c _ h3⟩,h5,h6⟩
noncomputable def Upd (ρ:Fm) (x:Str) (sl:Slot) (ρ':Fm):Prop:=∀ p∈ρ',p=(x,sl)∨(p∈ρ∧p.1≠x)
noncomputable def Rest (ρ:Fm) (x:Str) (r':Fm):Prop:=∀ p∈r',p∈ρ∧p.1≠x
theorem Rest.nil {x:Str}:Rest [] x []:=fun p hp=>by cases hp
theorem Rest.keep {ρ r':Fm} {x y:Str} {s:Slot} (h:Rest ρ x r') (hne:y≠x):Rest ((y,s) :: ρ) x ((y,s) :: r'):=fun p hp=>by
 rcases am.mp hp with rfl | hp
 ·exact ⟨ao,hne⟩
 ·exact ⟨ai _ (h p hp).1,(h p hp).2⟩
theorem Rest.drop {ρ r':Fm} {x:Str} {q:Str×Slot} (h:Rest ρ x r'):Rest (q :: ρ) x r':=fun p hp=>⟨ai _ (h p hp).1,(h p hp).2⟩
theorem Upd.mk {ρ r':Fm} {x:Str} {s:Slot} (h:Rest ρ x r'):Upd ρ x s ((x,s) :: r'):=fun p hp=>by
 rcases am.mp hp with rfl | hp
 ·exact .inl rfl
 ·exact .inr (h p hp)
theorem Rep.sub {K:Kx} {env:Env} {ρ ρ':Fm} {σ:ij} {h:Heap} (r:Rep K env ρ σ h) (hs:∀ p∈ρ',p∈ρ):Rep K env ρ' σ h:=
 ⟨r.kind,r.names,r.glob,r.blt,r.qual,r.code,r.loc,r.locF,r.cells,r.cinj,fun p hp=>r.vars p (hs p hp)⟩
section
variable {K:Kx} {ρ:Fm} {σ:ij}
theorem ExP.sub {ρ':Fm} {ss:List Stmt} {Q:Fl→Fm→ij→Prop} (h:ExP K ρ' σ ss Q) (hs:∀ p∈ρ',p∈ρ):ExP K ρ σ ss Q:=
 fun A env s ha hr hi QM hq=>h A env s ha (hr.sub hs) hi QM hq
noncomputable def kO (K:Kx) (ρ:Fm) (x:Str):Prop:=K.names.lookup x=some .local∨(K.names.lookup x=some .cell∧∃ sl,(x,sl)∈ρ∧∀ c,sl≠.sh c)
theorem kl {x:Str} {ρ':Fm} {v:Value} {pv:V} {A:Around} {env:Env} {s:Shared} (hk:kO K ρ x)
  (hr:Rep K env ρ σ s.heap) (hi:Inv σ s) (hv:Rel σ s.heap v pv) (hu:Upd ρ x (.val pv) ρ') {QM:Unit→Shared→Prop}
  (hq:∀ s',Rep K env ρ' σ s'.heap→Inv σ s'→jz env σ s.heap σ s'.heap→QM () s'):wpAny (model C.prog C.w) A (storeName env x v) QM Bot s:=by
 walk_at "u"; obtain ⟨m,hm⟩:=hr.loc;walk_at "v"
 rcases hk with hk | ⟨hk,sl₀,hsl,hnsh⟩
 ·refine wpAny_storeName_local ((congrArg (·.lookup x) hr.names).trans hk) hm (fun h' hn hs=>?_) (by rw [hr.kind];rfl)
  have k:ji σ env.locals s.heap h':=⟨fun b o hb e=>(hs.2 b hb).trans e,fun o e=>⟨hr.locF.1,hr.locF.2.2,by
   walk_at "u"; obtain ⟨o',es,ep,e',d,_⟩:=hm;walk_at "v"
   obtain rfl:=aq (e.symm.trans e')
   exact ⟨fun q=>(by rcases q with ⟨_,_,q⟩ | ⟨_,_,q⟩<;>rw [d] at q<;>cases q),fun vs q=>(by exact (jW (d.symm.trans q) rfl).elim)⟩⟩⟩
  have hce:∀ c v,env.locals≠c→s.heap.IsCell c v→h'.IsCell c v:=fun c v hne y=>oS y fun _ e=>(hs.2 c (fun q=>hne q.symm)).trans e
  refine hq _ ⟨hr.kind,hr.names,hr.glob,hr.blt,hr.qual,hr.code,⟨_,hn⟩,hr.locF,fun y c hc=>?_,hr.cinj,fun p hp=>?_⟩ (hi.poke k rfl rfl)
   ⟨fun b o e _ _ hf=>k.keep b o (fun q=>hf (.inl q)) e,fun b _ _ e _ _=>e,fun c v e=>⟨v,e⟩⟩
  ·walk_at "u"; obtain ⟨h1,h2,h3,h4,h5⟩:=hr.cells y c hc;walk_at "v"
   exact ⟨h1,h2,h3,fun e=>(h4 e).elim fun v q=>⟨v,hce _ _ h1 q⟩,h5⟩
  ·rcases hu p hp with rfl | ⟨hp,hne⟩
   ·exact .inl ⟨hk,_,v,hn,if_pos rfl,hv.mono k.seq⟩
   ·have hv':=hr.vars p hp
    walk_at "u"; obtain ⟨y,sl⟩:=p;walk_at "v"
    cases sl with
    | val pv'=>
     rcases hv' with ⟨h1,m₀,v',h2,h3,h4⟩ | ⟨h1,c,v',h2,h3,h4,h5,h6⟩
     ·refine .inl ⟨h1,_,v',hn,?_,h4.mono k.seq⟩
      show (if y=x then some v else m y)=_
      rw [if_neg hne,← h3]
      refine bc fun hbc=>?_
      obtain ⟨o,es,ep,e,d,_,f⟩:=hm
      obtain ⟨o',es',ep',e',d',_,f'⟩:=h2
      refine hbc ?_
      clear hbc
      obtain rfl:=aq (e.symm.trans e')
      (rw [d] at d';cases d')
      rw [← f y,← f' y]
     ·exact .inr ⟨h1,c,v',h2,hce c _ (hr.cells y c h2).ne h3,h4.mono k.seq,h5,h6⟩
    | sh c=>exact hv'
    | emp=>obtain ⟨h1,c,h2,⟨v',h3⟩,h5,h6⟩:=hv';exact ⟨h1,c,h2,⟨v',hce c _ (hr.cells y c h2).ne h3⟩,h5,h6⟩
 ·have hcc:∃ c,env.cells.lookup x=some c∧σ c=none:=by
   have:=hr.vars _ hsl
   cases sl₀ with
   | val pv₀=>
    rcases this with ⟨h1,_⟩ | ⟨_,c,v,h2,_,_,h5,_⟩
    ·(rw [hk] at h1;cases h1)
    ·exact ⟨c,h2,h5⟩
   | sh c=>exact absurd rfl (hnsh c)
   | emp=>obtain ⟨_,c,h2,_,h5,_⟩:=this;exact ⟨c,h2,h5⟩
  refine bc fun hbc=>?_
  obtain ⟨c,hcl,hsc⟩:=hcc
  obtain ⟨h1,h2,h3,h4,h5⟩:=hr.cells x c hcl
  obtain ⟨v₀,hv₀⟩:=h4 hsc
  refine hbc ?_
  clear hbc
  refine wpAny_storeName_cell hr.kind ((congrArg (·.lookup x) hr.names).trans hk) hcl hv₀ (fun h' hn hs=>?_)
  have k:ji σ c s.heap h':=⟨fun b o hb e=>(hs.2 b hb).trans e,fun o e=>⟨hsc,h2,by
   walk_at "u"; obtain ⟨o',e',d⟩:=hv₀;walk_at "v"
   obtain rfl:=aq (e.symm.trans e')
   exact ⟨fun q=>(by rcases q with ⟨_,_,q⟩ | ⟨_,_,q⟩<;>rw [d] at q<;>cases q),fun vs q=>(by exact (jW (d.symm.trans q) rfl).elim)⟩⟩⟩
  have hns:∀ m,s.heap.Ns env.locals m→h'.Ns env.locals m:=fun m y=>nC y fun _ e=>(hs.2 _ h1).trans e
  have hce:∀ c' v,c'≠c→s.heap.IsCell c' v→h'.IsCell c' v:=fun c v hne y=>oS y fun _ e=>(hs.2 _ hne).trans e
  refine hq _ ⟨hr.kind,hr.names,hr.glob,hr.blt,hr.qual,hr.code,⟨_,hns m hm⟩,hr.locF,fun y c' hc'=>?_,hr.cinj,fun p hp=>?_⟩ (hi.poke k rfl rfl)
   ⟨fun b o e _ _ hf=>k.keep b o (fun q=>hf (.inr ⟨x,(congrArg (·.lookup x) hr.names).trans hk,q ▸ hcl⟩)) e,fun b _ _ e _ _=>e,fun c v e=>⟨v,e⟩⟩
  ·walk_at "u"; obtain ⟨g1,g2,g3,g4,g5⟩:=hr.cells y c' hc';walk_at "v"
   refine ⟨g1,g2,g3,fun e=>?_,g5⟩
   by_cases hcc:c'=c
   ·subst hcc;exact ⟨_,hn⟩
   ·obtain ⟨v,q⟩:=g4 e;exact ⟨v,hce _ _ hcc q⟩
  ·rcases hu p hp with rfl | ⟨hp,hne⟩
   ·exact .inr ⟨.inl hk,c,v,hcl,hn,hv.mono k.seq,hsc,h3⟩
   ·have hv':=hr.vars p hp
    walk_at "u"; obtain ⟨y,sl⟩:=p;walk_at "v"
    cases sl with
    | val pv'=>
     rcases hv' with ⟨h1,m₀,v',h2,h3,h4⟩ | ⟨h1,c',v',h2,h3,h4,h5,h6⟩
     ·exact .inl ⟨h1,m₀,v',hns m₀ h2,h3,h4.mono k.seq⟩
     ·exact .inr ⟨h1,c',v',h2,hce c' _ (fun q=>hne (hr.cinj y x c' h2 (q ▸ hcl))) h3,h4.mono k.seq,h5,h6⟩
    | sh c'=>exact hv'
    | emp=>obtain ⟨h1,c',h2,⟨v',h3⟩,h5,h6⟩:=hv';exact ⟨h1,c',h2,⟨v',hce c' _ (fun q=>hne (hr.cinj y x c' h2 (q ▸ hcl))) h3⟩,h5,h6⟩
noncomputable def Cont (K:Kx) (rest:List Stmt) (Q:Fl→Fm→ij→Prop):Fl→Fm→ij→Prop
 | .next,ρ',σ'=>ExP K ρ' σ' rest Q
 | fl,ρ',σ'=>Q fl ρ' σ'
theorem ex_nil {Q:Fl→Fm→ij→Prop} (h:Q .next ρ σ):ExP K ρ σ [] Q:=fun A env s ha hr hi QM hq=>wpAny_execs_nil (hq .next .next ρ σ s h trivial hr hi .refl)
theorem ex_cons {st:Stmt} {rest:List Stmt} {Q:Fl→Fm→ij→Prop} (h:StP K ρ σ st (Cont K rest Q)):ExP K ρ σ (st :: rest) Q:=fun A env s ha hr hi QM hq=>
 wpAny_execs_cons (h A env s ha hr hi _ fun f fl ρ₁ σ₁ s₁ h₁ r₁ hr₁ i₁ e₁=>by
  cases fl with
  | next=>cases f<;>first | exact r₁.elim | exact h₁ A env s₁ ha hr₁ i₁ _ fun f fl ρ₂ σ₂ s₂ h₂ r₂ hr₂ i₂ e₂=>hq f fl ρ₂ σ₂ s₂ h₂ r₂ hr₂ i₂ (e₁.trans e₂)
  | brk=>cases f<;>first | exact r₁.elim | exact hq _ _ _ _ _ h₁ r₁ hr₁ i₁ e₁
  | cont=>cases f<;>first | exact r₁.elim | exact hq _ _ _ _ _ h₁ r₁ hr₁ i₁ e₁
  | ret v=>cases f<;>first | exact r₁.elim | exact hq _ _ _ _ _ h₁ r₁ hr₁ i₁ e₁)
theorem EW {t:Expr} {b o:List Stmt} {pos:Pos} {Q:Fl→Fm→ij→Prop} (h:TsP K ρ σ t (fun c σ₁=>if c then ExP K ρ σ₁ b Q else ExP K ρ σ₁ o Q)):StP K ρ σ (.If t b o pos) Q:=fun A env s ha hr hi QM hq=>
 wpAny_If (h A env s ha hr hi _ fun c σ₁ s₁ h₁ i₁ e₁=>by
  cases c<;>exact h₁ A env s₁ ha (hr.mono e₁) i₁ _ fun f fl ρ₂ σ₂ s₂ h₂ r₂ hr₂ i₂ e₂=>hq f fl ρ₂ σ₂ s₂ h₂ r₂ hr₂ i₂ (e₁.toF.trans e₂))
theorem DQ {e:Expr} {pos:Pos} {Q:Fl→Fm→ij→Prop} (h:EvP K ρ σ e (fun v σ₁=>Q (.ret v) ρ σ₁)):StP K ρ σ (.Return (some e) pos) Q:=fun A env s ha hr hi QM hq=>
 wpAny_Return_some (h A env s ha hr hi _ fun v pv σ₁ s₁ h₁ i₁ e₁ r₁=>hq (.ret v) (.ret pv) ρ σ₁ s₁ h₁ r₁ (hr.mono e₁) i₁ e₁.toF)
theorem st_ret0 {pos:Pos} {Q:Fl→Fm→ij→Prop} (h:Q (.ret .none) ρ σ):StP K ρ σ (.Return none pos) Q:=fun A env s ha hr hi QM hq=>
 wpAny_Return_none (hq (.ret .none) (.ret .none) ρ σ s h Rel.none hr hi .refl)
theorem st_brk {pos:Pos} {Q:Fl→Fm→ij→Prop} (h:Q .brk ρ σ):StP K ρ σ (.Break pos) Q:=fun A env s ha hr hi QM hq=>wpAny_Break (hq .brk .brk ρ σ s h trivial hr hi .refl)
theorem st_cont {pos:Pos} {Q:Fl→Fm→ij→Prop} (h:Q .cont ρ σ):StP K ρ σ (.Continue pos) Q:=fun A env s ha hr hi QM hq=>wpAny_Continue (hq .cont .cont ρ σ s h trivial hr hi .refl)
theorem Bp {e:Expr} {pos:Pos} {Q:Fl→Fm→ij→Prop} (h:EvP K ρ σ e (fun _ σ₁=>Q .next ρ σ₁)) (hs:autoParam (∀ env,swapsWith e none pos.line env=pure false) aI):StP K ρ σ (.Expr e pos) Q:=fun A env s ha hr hi QM hq=>
 wpAny_Expr_any (h A env s ha hr hi _ fun v pv σ₁ s₁ h₁ i₁ e₁ r₁=>hq .next .next ρ σ₁ s₁ h₁ trivial (hr.mono e₁) i₁ e₁.toF) (by unfold interactive;rw [hr.kind];rfl) (hs env)
theorem yA {x:Str} {e:Expr} {pos' pos:Pos} {Q:Fl→Fm→ij→Prop} (hk:kO K ρ x) (h:EvP K ρ σ e (fun v σ₁=>∃ ρ',Upd ρ x (.val v) ρ'∧Q .next ρ' σ₁))
  (hs:autoParam (∀ env,swapsWith e (some (.Name x pos')) pos.line env=pure false) aI):StP K ρ σ (.Assign [.Name x pos'] e pos) Q:=fun A env s ha hr hi QM hq=>
 wpAny_Assign_Name (h A env s ha hr hi _ fun v pv σ₁ s₁ h₁ i₁ e₁ r₁=>by
  walk_at "u"; obtain ⟨ρ',hu,h₁⟩:=h₁;walk_at "v"
  exact kl hk (hr.mono e₁) i₁ r₁ hu fun s₂ hr₂ i₂ e₂=>hq .next .next ρ' σ₁ s₂ h₁ trivial hr₂ i₂ (e₁.toF.trans e₂)) (hs env)
theorem jL {x:Str} {pv:V} (hx:(x,Slot.val pv)∈ρ) {A:Around} {env:Env} {s:Shared} (hr:Rep K env ρ σ s.heap) {QM:Value→Shared→Prop} (hq:∀ v,Rel σ s.heap v pv→QM v s) (hn:autoParam ((x == ("__classdict__" : Str))=false) aD):
  wpAny (model C.prog C.w) A (loadName env x) QM Bot s:=by
 rcases hr.vars _ hx with ⟨h1,m,mv,h2,h3,h4⟩ | ⟨h1,c,mv,h2,h3,h4,_,_⟩
 ·exact wpAny_loadName_local hr.kind ((congrArg (·.lookup x) hr.names).trans h1) h2 h3 (hq _ h4)
 ·rcases h1 with h1 | h1
  ·exact wpAny_loadName_cell hr.kind ((congrArg (·.lookup x) hr.names).trans h1) h2 h3 (hq _ h4)
  ·exact wpAny_loadName_free hr.kind ((congrArg (·.lookup x) hr.names).trans h1) h2 h3 (hq _ h4) hn
theorem DS {x:Str} {a:V} {op:Operator} {e:Expr} {pos' pos:Pos} {Q:Fl→Fm→ij→Prop} (hk:kO K ρ x) (hx:(x,Slot.val a)∈ρ)
  (h:EvP K ρ σ e (fun b σ₂=>M2 K.d (inplaceOp op) a b σ₂ (fun v σ₃=>∃ ρ',Upd ρ x (.val v) ρ'∧Q .next ρ' σ₃)))
  (hn:autoParam ((x == ("__classdict__" : Str))=false) aD):StP K ρ σ (.AugAssign (.Name x pos') op e pos) Q:=fun A env s ha hr hi QM hq=>
 wpAny_AugAssign_Name (jL hx hr (fun x' r₁=>h A env s ha hr hi _ fun y b σ₂ s₂ h₂ i₂ e₂ r₂=>h₂ A s₂ x' y ha i₂ (r₁.mono e₂.seq) r₂ _ fun v pv σ₃ s₃ q i₃ e₃ r₃=>by
   walk_at "u"; obtain ⟨ρ',hu,q⟩:=q;walk_at "v"
   exact kl hk (hr.mono (e₂.trans e₃)) i₃ r₃ hu fun s₄ hr₄ i₄ e₄=>hq .next .next ρ' σ₃ s₄ q trivial hr₄ i₄ ((e₂.trans e₃).toF.trans e₄)) hn)
theorem EvP.of {e:Expr} {Q:V→ij→Prop} (h:EvP K ρ σ e Q):EvP K ρ σ e Q:=fun A env s ha hr hi QM hq=>wpAny_mono (h A env s ha hr hi QM hq) (fun _ _ x=>x) fun _ _ x=>x.elim
theorem TsP.of {e:Expr} {Q:Bool→ij→Prop} (h:TsP K ρ σ e Q):TsP K ρ σ e Q:=fun A env s ha hr hi QM hq=>wpAny_mono (h A env s ha hr hi QM hq) (fun _ _ x=>x) fun _ _ x=>x.elim
noncomputable def Da (J:Nat→Fm→ij→Prop) (n:Nat) (Q:Fl→Fm→ij→Prop):Fl→Fm→ij→Prop
 | .next,ρ₃,σ₃=>∃ m,m < n∧J m ρ₃ σ₃
 | .cont,ρ₃,σ₃=>∃ m,m < n∧J m ρ₃ σ₃
 | .brk,ρ₃,σ₃=>Q .next ρ₃ σ₃
 | .ret v,ρ₃,σ₃=>Q (.ret v) ρ₃ σ₃
inductive WhJ (K:Kx) (env:Env) (J:Nat→Fm→ij→Prop) (σ:ij) (h:Heap) (n:Nat) (s':Shared):Prop
 | mk (ρ₁:Fm) (σ₁:ij) (hJ:J n ρ₁ σ₁) (hr:Rep K env ρ₁ σ₁ s'.heap) (hi:Inv σ₁ s') (E:jz env σ h σ₁ s'.heap)
theorem p6 {t:Expr} {b:List Stmt} {pos:Pos} {Q:Fl→Fm→ij→Prop} (J:Nat→Fm→ij→Prop) (n:Nat) (h0:J n ρ σ)
  (h:∀ n ρ₁ σ₁,J n ρ₁ σ₁→TsP K ρ₁ σ₁ t (fun c σ₂=>if c then ExP K ρ₁ σ₂ b (Da J n Q) else Q .next ρ₁ σ₂)):StP K ρ σ (.While t b [] pos) Q:=fun A env s ha hr hi QM hq=>by
 refine wpAny_While ?_
 refine codeAny_whileLoop (WhJ K env J σ s.heap) ?_ n ⟨ρ,σ,h0,hr,hi,.refl⟩
 intro n s₁ hJ2
 walk_at "u"; obtain ⟨ρ₁,σ₁,hJ,hr₁,hi₁,e₁⟩:=hJ2;walk_at "v"
 refine wpAny_mono (h n ρ₁ σ₁ hJ A env s₁ ha hr₁ hi₁ _ fun c σ₂ s₂ q i₂ e₂=>?_) (fun _ _ h=>h) fun _ _ x=>x.elim
 cases c with
 | false=>exact wpAny_execs_nil (hq .next .next ρ₁ σ₂ s₂ q trivial (hr₁.mono e₂) i₂ (e₁.trans e₂.toF))
 | true=>
  refine wpAny_mono (q A env s₂ ha (hr₁.mono e₂) i₂ _ fun f fl ρ₃ σ₃ s₃ q r hr₃ i₃ e₃=>?_) (fun _ _ h=>h) fun _ _ x=>x.elim
  have E:=(e₁.trans e₂.toF).trans e₃
  cases fl with
  | next=>cases f<;>first | exact r.elim | (obtain ⟨m,hm,hJ⟩:=q;exact ⟨m,hm,ρ₃,σ₃,hJ,hr₃,i₃,E⟩)
  | cont=>cases f<;>first | exact r.elim | (obtain ⟨m,hm,hJ⟩:=q;exact ⟨m,hm,ρ₃,σ₃,hJ,hr₃,i₃,E⟩)
  | brk=>cases f<;>first | exact r.elim | exact hq .next .next ρ₃ σ₃ s₃ q trivial hr₃ i₃ E
  | ret v=>cases f<;>first | exact r.elim | exact hq _ (.ret v) ρ₃ σ₃ s₃ q r hr₃ i₃ E
end
end Internal
end
section
open PySem PySem.W PyProof.Rows PySem.Calls
namespace Internal
section
variable {K:Kx} {ρ:Fm} {σ:ij}
theorem Heap.get?_size (h:Heap):h.get? h.objs.size=none:=by
 cases e:h.get? h.objs.size with
 | none=>rfl
 | some o=>exact absurd (Heap.lt_size e) (cB _)
theorem ji.fresh {h h':Heap} {a:Addr} (k:∀ b o,h.get? b=some o→h'.get? b=some o) (ha:h.get? a=none):ji σ a h h':=
 ⟨fun b o _ e=>k b o e,fun o e=>by exact absurd (ha.symm.trans e).symm (al _)⟩
theorem Ext.grow {h h':Heap} (k:∀ b o,h.get? b=some o→h'.get? b=some o):Ext σ h σ h':=⟨fun a o e _ _=>k a o e,fun _ _ _ e _=>e,fun _ v e=>⟨v,e⟩⟩
theorem Inv.grow {s s':Shared} (i:Inv σ s) (k:∀ b o,s.heap.get? b=some o→s'.heap.get? b=some o) (hg:s'.gens=s.gens) (ho:s'.os=s.os):Inv σ s':=
 i.poke (ji.fresh (a:=s.heap.objs.size) k (Heap.get?_size _)) hg ho
theorem jz.poke {env:Env} {σ':ij} {h h₁ h₂:Heap} {it:Addr} (e:jz env σ h σ' h₁) (k:ji σ' it h₁ h₂) (hn:h.get? it=none):jz env σ h σ' h₂:=
 ⟨fun a o g hs ht hf=>k.keep a o (fun q=>by subst q;exact absurd (hn.symm.trans g).symm (al _)) (e.keep a o g hs ht hf),e.free,e.cell⟩
theorem Inv.off {s:Shared} (i:Inv σ s) {a:Addr} (h:s.heap.get? a=none):σ a=none:=by
 cases e:σ a with
 | none=>rfl
 | some p=>
  have:=(i.own a p e).2
  cases p with
  | list vs=>obtain ⟨_,_,q,_⟩:=this;exact absurd (h.symm.trans q).symm (al _)
  | ns at_=>obtain ⟨_,_,q,_⟩:=this;exact absurd (h.symm.trans q).symm (al _)
  | inst c d=>have q:s.heap.get? a=some _:=this;exact absurd (h.symm.trans q).symm (al _)
  | cell v=>cases v with
   | none=>obtain ⟨o,q,_⟩:=this;exact absurd (h.symm.trans q).symm (al _)
   | some v=>obtain ⟨v,⟨o,q,_⟩,_⟩:=this;exact absurd (h.symm.trans q).symm (al _)
  | func f cap d=>obtain ⟨o,fd,q,_⟩:=this;exact absurd (h.symm.trans q).symm (al _)
  | bound f self=>obtain ⟨v,q,_⟩:=this;exact absurd (h.symm.trans q).symm (al _)
  | citer f sent=>obtain ⟨v,u,q,_⟩:=this;exact absurd (h.symm.trans q).symm (al _)
  | cend=>have q:s.heap.get? a=some _:=this;exact absurd (h.symm.trans q).symm (al _)
  | riter vs i=>obtain ⟨l,q,_⟩:=this;exact absurd (h.symm.trans q).symm (al _)
noncomputable def zw (x:Int):Nat→Int→List V
 | 0,_=>[]
 | n + 1,st=>.int x :: zw (x + st) n st
inductive iM:V→List V→Prop where
 | lst (vs:List V):iM (.lst vs) vs
 | tup (vs:List V):iM (.tup vs) vs
 | str (x:List Nat):iM (.str x) (x.map fun c=>.str [c])
 | rng (lo hi st:Int) (h:Builtin.Range.small lo hi st=true):iM (.rng lo hi st) (zw lo (Builtin.Range.rangeSize lo hi st).toNat st)
inductive nV (σ:ij) (h:Heap) (it:Addr):List V→Prop where
 | lst (l:Addr) (vs:List V) (i:Nat) (hi:h.IsListIter it l i) (hr:Rel σ h (.ref l) (.lst vs)):nV σ h it (vs.drop i)
 | tup (l:Addr) (vs:List V) (i:Nat) (hi:h.IsTupleIter it l i) (hr:Rel σ h (.ref l) (.tup vs)):nV σ h it (vs.drop i)
 | str (ty:String) (hty:ty = "str_ascii_iterator" ∨ ty = "str_iterator") (x:Str) (t:Tok) (i:Nat) (hi:h.IsStrIter it ty x t i):nV σ h it ((x.cps.toList.drop i).map fun c=>.str [c])
 | rng (x:Int) (n:Nat) (st:Int) (hi:IsRangeIter h it x n st):nV σ h it (zw x n st)
structure Itr (σ:ij) (h:Heap) (it:Addr) (r:List V):Prop where
 st:nV σ h it r
 un:σ it=none
 lo:C.h1.objs.size≤it
 nt:it∉C.tabs
theorem Rel.lst_inv {h:Heap} {a:Addr} {vs:List V} (r:Rel σ h (.ref a) (.lst vs)):∃ items n,h.get? a=some (lstO items n)∧iF σ h items.toList vs:=by
 walk_at "u"; obtain ⟨_,_,_,e,ho,_,_,hr⟩:=r.inv;walk_at "v"
 cases e
 exact ⟨_,_,ho,hr⟩
theorem Rel.tup_inv {h:Heap} {a:Addr} {vs:List V} (r:Rel σ h (.ref a) (.tup vs)):∃ items n,h.get? a=some (ze items n)∧iF σ h items.toList vs:=by
 walk_at "u"; obtain ⟨_,_,_,e,ho,_,_,hr⟩:=r.inv;walk_at "v"
 cases e
 exact ⟨_,_,ho,hr⟩
theorem yo.of_fields {o:Obj} {vs:Array Value} (hd:o.data=.fields vs) (hc:¬ (o.cls=.type "range" ∨ o.cls=.type "slice")) (hv:∀ q t,vs[1]?≠some (.str q t)):yo o:=
 ⟨fun q=>by
  rcases q with ⟨_,_,q⟩ | ⟨q,_⟩
  ·exact (jW (hd.symm.trans q) rfl).elim
  ·exact hc q,fun vs' q=>by (rw [hd] at q;cases q);exact hv⟩
theorem nV.obj {h:Heap} {it:Addr} {r:List V} (x:nV σ h it r):∃ o vs,h.get? it=some o∧o.data=.fields vs∧yo o:=by
 cases x with
 | lst l vs i hi hr=>obtain ⟨o,e,c,d⟩:=hi;exact ⟨o,_,e,d,.of_fields d (by rw [c];decide) (fun q t=>by simp)⟩
 | tup l vs i hi hr=>obtain ⟨o,e,c,d⟩:=hi;exact ⟨o,_,e,d,.of_fields d (by rw [c];decide) (fun q t=>by simp)⟩
 | str ty hty x t i hi=>obtain ⟨o,e,c,d⟩:=hi;exact ⟨o,_,e,d,.of_fields d (by rw [c];rcases hty with rfl | rfl<;>decide) (fun q t=>by simp)⟩
 | rng x n st hi=>exact ⟨_,_,hi,rfl,.of_fields rfl (by show ¬ (Value.type "range_iterator" = _∨Value.type "range_iterator" = _);decide) (fun q t=>by simp [rawInt])⟩
theorem nV.mono {σ':ij} {h h':Heap} {it:Addr} {r:List V} (x:nV σ h it r) (k:∀ o,h.get? it=some o→h'.get? it=some o) (s:iW σ h σ' h'):nV σ' h' it r:=by
 cases x with
 | lst l vs i hi hr=>obtain ⟨o,e,q⟩:=hi;exact .lst l vs i ⟨o,k o e,q⟩ (hr.mono s)
 | tup l vs i hi hr=>obtain ⟨o,e,q⟩:=hi;exact .tup l vs i ⟨o,k o e,q⟩ (hr.mono s)
 | str ty hty x t i hi=>obtain ⟨o,e,q⟩:=hi;exact .str ty hty x t i ⟨o,k o e,q⟩
 | rng x n st hi=>exact .rng x n st (k _ hi)
theorem Itr.pokeE {h h':Heap} {it:Addr} {r:List V} (x:Itr σ h it r) (e:Heap.ExtBut it h h'):ji σ it h h':=
 ⟨fun b o hb q=>e b o hb q,fun o q=>⟨x.un,x.lo,by obtain ⟨o',vs,q',d,l⟩:=x.st.obj;obtain rfl:=aq (q.symm.trans q');exact l⟩⟩
theorem k8 {it:Addr} {r:List V} {A:Around} {s:Shared} {d:Nat} (x:Itr σ s.heap it r) (ha:AOk d A) {QM:Option Value→Shared→Prop} {E:Value→Shared→Prop}
  (hq0:r=[]→∀ h',ji σ it s.heap h'→QM none { s with heap:=h' })
  (hq1:∀ p r',r=p :: r'→∀ v h' tk,ji σ it s.heap h'→Rel σ h' v p→Itr σ h' it r'→QM (some v) { s with heap:=h',toks:=tk }):
  wpAny (model C.prog C.w) A (pyNext (.ref it)) QM E s:=by
 have hx:=x
 walk_at "u"; obtain ⟨st,un,lo,nt⟩:=x;walk_at "v"
 revert hx hq0 hq1
 cases st with
 | lst l vs i hi hr=>
  intro hq0 hq1 hx
  walk_at "u"; obtain ⟨items,n,e,rs⟩:=hr.lst_inv;walk_at "v"
  have hl:s.heap.IsList l items:=⟨_,e,rfl,n,rfl⟩
  cases hv:vs.drop i with
  | nil=>
   have hlen:vs.length≤i:=dB.mp hv
   have:items[i]?=none:=by rw [← Array.getElem?_toList];exact bd (by rw [rs.length];exact hlen)
   exact wpAny_pyNext_list_end ha.1 hi hl this fun h' q=>hq0 hv h' (hx.pokeE q)
  | cons p r'=>
   have hp:vs[i]?=some p:=by rw [← eh,hv];rfl
   walk_at "u"; obtain ⟨v,gv,rv⟩:=rs.get hp;walk_at "v"
   refine wpAny_pyNext_list_item hi hl (by rw [← Array.getElem?_toList];exact gv) fun h' q sb=>hq1 p r' hv v h' s.toks (hx.pokeE sb.extBut) (rv.mono (hx.pokeE sb.extBut).seq) ⟨?_,un,lo,nt⟩
   have:r'=vs.drop (i + 1):=by rw [← dk,hv];rfl
   rw [this]
   exact .lst l vs (i + 1) q (hr.mono (hx.pokeE sb.extBut).seq)
 | tup l vs i hi hr=>
  intro hq0 hq1 hx
  walk_at "u"; obtain ⟨items,n,e,rs⟩:=hr.tup_inv;walk_at "v"
  have hl:s.heap.IsTuple l items:=⟨_,e,rfl,n,rfl⟩
  cases hv:vs.drop i with
  | nil=>
   have hlen:vs.length≤i:=dB.mp hv
   have:items[i]?=none:=by rw [← Array.getElem?_toList];exact bd (by rw [rs.length];exact hlen)
   exact wpAny_pyNext_tuple_end ha.1 hi hl this fun h' q=>hq0 hv h' (hx.pokeE q)
  | cons p r'=>
   have hp:vs[i]?=some p:=by rw [← eh,hv];rfl
   walk_at "u"; obtain ⟨v,gv,rv⟩:=rs.get hp;walk_at "v"
   refine wpAny_pyNext_tuple_item hi hl (by rw [← Array.getElem?_toList];exact gv) fun h' q sb=>hq1 p r' hv v h' s.toks (hx.pokeE sb.extBut) (rv.mono (hx.pokeE sb.extBut).seq) ⟨?_,un,lo,nt⟩
   have:r'=vs.drop (i + 1):=by rw [← dk,hv];rfl
   rw [this]
   exact .tup l vs (i + 1) q (hr.mono (hx.pokeE sb.extBut).seq)
 | str ty hty y t i hi=>
  intro hq0 hq1 hx
  cases hv:y.cps.toList.drop i with
  | nil=>
   have hlen:y.cps.toList.length≤i:=dB.mp hv
   have:y.cps[i]?=none:=by rw [← Array.getElem?_toList];exact bd hlen
   rcases hty with rfl | rfl
   ·exact wpAny_pyNext_ascii_end ha.1 hi this fun h' q=>hq0 (by simp [hv]) h' (hx.pokeE q)
   ·exact wpAny_pyNext_wide_end ha.1 hi this fun h' q=>hq0 (by simp [hv]) h' (hx.pokeE q)
  | cons p r'=>
   have hp:y.cps[i]?=some p:=by rw [← Array.getElem?_toList,← eh,hv];rfl
   have e:r'=y.cps.toList.drop (i + 1):=by rw [← dk,hv];rfl
   rcases hty with rfl | rfl
   ·refine wpAny_pyNext_ascii_item hi hp fun h' q sb=>hq1 _ _ (by rw [hv];rfl) _ h' _ (hx.pokeE sb.extBut) (.str [p] _) ⟨?_,un,lo,nt⟩
    rw [e];exact .str _ (.inl rfl) y t (i + 1) q
   ·refine wpAny_pyNext_wide_item hi hp fun h' q sb=>hq1 _ _ (by rw [hv];rfl) _ h' _ (hx.pokeE sb.extBut) (.str [p] _) ⟨?_,un,lo,nt⟩
    rw [e];exact .str _ (.inr rfl) y t (i + 1) q
 | rng y n st hi=>
  intro hq0 hq1 hx
  cases n with
  | zero=>exact wpAny_pyNext_range_end ha.1 hi (by walk_at "l") fun h' q=>hq0 rfl h' (hx.pokeE q)
  | succ n=>
   refine wpAny_pyNext_range_item hi (by lia) fun h' q sb=>hq1 _ _ rfl _ h' _ (hx.pokeE sb.extBut) (.int y _) ⟨?_,un,lo,nt⟩
   have:((n + 1:Nat):Int) - 1=n:=by lia
   rw [this] at q
   exact .rng (y + st) n st q
theorem nH {v:Value} {pv:V} {items:List V} {A:Around} {s:Shared} {d:Nat} (h:iM pv items) (hr:Rel σ s.heap v pv) (hi:Inv σ s) (ha:AOk d A) {QM:Value→Shared→Prop}
  (hq:∀ it h',s.heap.get? it=none→(∀ b o,s.heap.get? b=some o→h'.get? b=some o)→Itr σ h' it items→QM (.ref it) { s with heap:=h' }):wpAny (model C.prog C.w) A (pyIter v) QM Bot s:=by
 have un:σ s.heap.objs.size=none:=hi.off (Heap.get?_size _)
 have lo:C.h1.objs.size≤s.heap.objs.size:=hi.size
 have nt:s.heap.objs.size∉C.tabs:=fun q=>by
  walk_at "u"; obtain ⟨n,hn,e⟩:=aA.mp q;walk_at "v"
  have:=hi.tabLt n hn
  rw [e] at this
  exact absurd lo (eO.mpr this)
 have g:∀ o b o',s.heap.get? b=some o'→(s.heap.push o).get? b=some o':=fun o b o' e=>Heap.get?_push_of_some _ e
 revert hr hq
 cases h with
 | lst vs=>
  intro hr hq
  walk_at "u"; obtain ⟨a,items,n,e,ho,_,_,_⟩:=hr.inv;walk_at "v"
  subst e
  exact wpAny_pyIter_list ⟨_,ho,rfl,_,rfl⟩ (hq _ _ (Heap.get?_size _) (g _) ⟨.lst _ _ 0 ⟨_,Heap.get?_push_size _ rfl,rfl,rfl⟩ (hr.mono (Ext.grow (g _)).seq),un,lo,nt⟩)
 | tup vs=>
  intro hr hq
  walk_at "u"; obtain ⟨a,items,n,e,ho,_,_,_⟩:=hr.inv;walk_at "v"
  subst e
  exact wpAny_pyIter_tuple ⟨_,ho,rfl,_,rfl⟩ (hq _ _ (Heap.get?_size _) (g _) ⟨.tup _ _ 0 ⟨_,Heap.get?_push_size _ rfl,rfl,rfl⟩ (hr.mono (Ext.grow (g _)).seq),un,lo,nt⟩)
 | str x=>
  intro hr hq
  walk_at "u"; obtain ⟨t,e⟩:=hr.inv;walk_at "v"
  subst e
  cases hall:(Str.mk x.toArray).cps.all (· < 128)
  ·exact wpAny_pyIter_wide hall (hq _ _ (Heap.get?_size _) (g _) ⟨.str _ (.inr rfl) ⟨x.toArray⟩ t 0 ⟨_,Heap.get?_push_size _ rfl,rfl,rfl⟩,un,lo,nt⟩)
  ·exact wpAny_pyIter_ascii hall (hq _ _ (Heap.get?_size _) (g _) ⟨.str _ (.inl rfl) ⟨x.toArray⟩ t 0 ⟨_,Heap.get?_push_size _ rfl,rfl,rfl⟩,un,lo,nt⟩)
 | rng a b c hs=>
  intro hr hq
  walk_at "u"; obtain ⟨_,t,u,v,e,ho,_,_⟩:=hr.inv;walk_at "v"
  subst e
  refine wpAny_pyIter_range ho hs (hq _ _ (Heap.get?_size _) (g _) ⟨.rng a _ c ?_,un,lo,nt⟩)
  have h0:0≤Builtin.Range.rangeSize a b c:=by
   unfold Builtin.Range.rangeSize
   split<;>split
   ·have:0≤(b - a - 1) / c:=gS (by lia) (by lia)
    lia
   ·walk_at "l"
   ·have:0≤(a - b - 1) / (-c):=gS (by lia) (by lia)
    lia
   ·walk_at "l"
  show (s.heap.push _).get? _=_
  rw [gq h0]
  exact Heap.get?_push_size _ rfl
theorem lh.notFixed {env:Env} {h:Heap} (hr:Rep K env ρ σ h) {a:Addr} {o:Obj} (hs:σ a=none) (e:h.get? a=some o) (hF:yt o):¬ lh env a:=fun f=>by
 have dd:∀ d,o.data=d→(∀ x y,d≠.seq x y)→(∀ x,d≠.fields x)→False:=fun d hd h1 h2=>by
  rcases hF with ⟨_,_,q⟩ | ⟨_,_,q⟩
  ·exact h1 _ _ (hd.symm.trans q)
  ·exact h2 _ (hd.symm.trans q)
 rcases f with rfl | ⟨x,_,hc⟩
 ·walk_at "u"; obtain ⟨m,o',es,ep,e',d,_⟩:=hr.loc;walk_at "v"
  obtain rfl:=aq (e.symm.trans e')
  exact dd _ d (fun _ _ q=>by cases q) (fun _ q=>by cases q)
 ·walk_at "u"; obtain ⟨v,o',e',d⟩:=(hr.cells x a hc).ex hs;walk_at "v"
  obtain rfl:=aq (e.symm.trans e')
  exact dd _ d (fun _ _ q=>by cases q) (fun _ q=>by cases q)
theorem jz.seq {env:Env} {σ':ij} {h h':Heap} (hr:Rep K env ρ σ h) (x:jz env σ h σ' h'):iW σ h σ' h':=
 ⟨fun a o e f hs ht=>x.keep a o e hs ht (lh.notFixed hr hs e f),fun a o e f hs ht=>x.free a o e hs ht (lh.notFixed hr hs e f)⟩
theorem as_name {x:Str} {pos:Pos} {pv:V} {ρ':Fm} {Q:Fm→ij→Prop} (hk:kO K ρ x) (hu:Upd ρ x (.val pv) ρ') (h:Q ρ' σ):AsP K ρ σ (.Name x pos) pv Q:=fun A env s v ha hr hi hv QM hq=>
 wpAny_assign_Name (kl hk hr hi hv hu fun s' hr' i' e'=>hq ρ' σ s' h hr' i' e')
noncomputable def vV (K:Kx) (Q:Fm→ij→Prop):Fm→ij→List Expr→List V→Prop
 | ρ,σ,[],[]=>Q ρ σ
 | ρ,σ,t :: ts,v :: vs=>AsP K ρ σ t v (fun ρ₁ σ₁=>vV K Q ρ₁ σ₁ ts vs)
 | _,_,_,_=>False
theorem td {A:Around} {env:Env} {Q:Fm→ij→Prop} (ha:AOk K.d A):∀ {ts:List Expr} {pl:List V} {vs:List Value} {ρ:Fm} {σ:ij} {s:Shared},vV K Q ρ σ ts pl→Rep K env ρ σ s.heap→Inv σ s→iF σ s.heap vs pl→
  ∀ {QM:Unit→Shared→Prop},(∀ ρ' σ' s',Q ρ' σ'→Rep K env ρ' σ' s'.heap→Inv σ' s'→jz env σ s.heap σ' s'.heap→QM () s')→wpAny (model C.prog C.w) A (assignInOrder (ts.map fun t=>assign t env) vs) QM Bot s:=by
 intro ts
 induction ts with
 | nil=>
  intro pl vs ρ σ s h hr hi hrs QM hq
  cases pl with
  | nil=>
   cases hrs
   exact wpAny_assignInOrder_none (hq ρ σ s h hr hi .refl)
  | cons p pl=>exact h.elim
 | cons t ts ih=>
  intro pl vs ρ σ s h hr hi hrs QM hq
  cases pl with
  | nil=>exact h.elim
  | cons p pl=>
   cases hrs with
   | cons hv hl=>
    exact wpAny_assignInOrder_more (h A env s _ ha hr hi hv _ fun ρ₁ σ₁ s₁ h₁ hr₁ i₁ e₁=>
     ih h₁ hr₁ i₁ (hl.mono (e₁.seq hr)) fun ρ' σ' s' q hr' i' e'=>hq ρ' σ' s' q hr' i' (e₁.trans e'))
theorem as_tuple {elts:List Expr} {k:Nat} {pos:Pos} {vs:List V} {Q:Fm→ij→Prop} (h:vV K Q ρ σ elts vs) (hl:elts.length=vs.length)
  (he:autoParam (∀ env,assignEach elts env=elts.map fun t=>(false,assign t env)) aI):AsP K ρ σ (.Tuple elts k pos) (.tup vs) Q:=fun A env s v ha hr hi hv QM hq=>by
 walk_at "u"; obtain ⟨a,items,n,e₀,ho,_,_,hrs⟩:=hv.inv;walk_at "v"
 subst e₀
 refine wpAny_assign_Tuple ha.1 ⟨_,ho,rfl,_,rfl⟩ ?_ ?_ fun h' e=>?_
 ·rw [he];simpa [hl] using hrs.length.symm
 ·rw [he];simp
 ·have k:ji σ s.heap.objs.size s.heap h':=⟨fun b o' hb q=>e b o' hb q,fun o' q=>by (rw [Heap.get?_size] at q;cases q)⟩
  have E:Ext σ s.heap σ h':=Ext.grow fun b o' q=>e b o' (fun q'=>by subst q';(rw [Heap.get?_size] at q;cases q)) q
  rw [he]
  have:((elts.map fun t=>(false,assign t env)).map (·.2))=elts.map fun t=>assign t env:=by simp
  rw [this]
  exact td ha h (hr.mono E) (hi.poke (s':={ s with heap:=h' }) k rfl rfl) (hrs.mono k.seq) fun ρ' σ' s' q hr' i' e'=>hq ρ' σ' s' q hr' i' (E.toF.trans e')
noncomputable def FC (J:List V→Fm→ij→Prop) (r:List V) (Q:Fl→Fm→ij→Prop):Fl→Fm→ij→Prop
 | .next,ρ₃,σ₃=>J r ρ₃ σ₃
 | .cont,ρ₃,σ₃=>J r ρ₃ σ₃
 | .brk,ρ₃,σ₃=>Q .next ρ₃ σ₃
 | .ret v,ρ₃,σ₃=>Q (.ret v) ρ₃ σ₃
theorem Itr.notFoot {env:Env} {h:Heap} {it:Addr} {r:List V} (x:Itr σ h it r) (hr:Rep K env ρ σ h):¬ lh env it:=fun f=>by
 walk_at "u"; obtain ⟨o,vs,e,d,_⟩:=x.st.obj;walk_at "v"
 rcases f with rfl | ⟨y,_,hc⟩
 ·walk_at "u"; obtain ⟨m,o',es,ep,e',d',_⟩:=hr.loc;walk_at "v"
  obtain rfl:=aq (e.symm.trans e');exact (jW (d.symm.trans d') rfl).elim
 ·walk_at "u"; obtain ⟨v,o',e',d'⟩:=(hr.cells y it hc).ex x.un;walk_at "v"
  obtain rfl:=aq (e.symm.trans e');exact (jW (d.symm.trans d') rfl).elim
theorem Itr.keep {env:Env} {σ':ij} {h h':Heap} {it:Addr} {r:List V} (x:Itr σ h it r) (hr:Rep K env ρ σ h) (e:jz env σ h σ' h'):Itr σ' h' it r:=by
 walk_at "u"; obtain ⟨o,vs,g,d,_⟩:=x.st.obj;walk_at "v"
 exact ⟨x.st.mono (fun o' g'=>e.keep it o' g' x.un x.nt (x.notFoot hr)) (e.seq hr),e.free it o g x.un x.nt (x.notFoot hr),x.lo,x.nt⟩
theorem nV.cls {h:Heap} {it:Addr} {r:List V} (x:nV σ h it r):∃ o n vs,h.get? it=some o∧o.cls=.type n∧o.data=.fields vs∧["enumerate", "zip", "dict_itemiterator", "dict_reverseitemiterator", "odict_iterator", "itertools.zip_longest", "itertools.pairwise"].contains n=false:=by
 cases x with
 | lst l vs i hi hr=>obtain ⟨o,e,c,d⟩:=hi;exact ⟨o,_,_,e,c,d,by decide +kernel⟩
 | tup l vs i hi hr=>obtain ⟨o,e,c,d⟩:=hi;exact ⟨o,_,_,e,c,d,by decide +kernel⟩
 | str ty hty x t i hi=>obtain ⟨o,e,c,d⟩:=hi;exact ⟨o,_,_,e,c,d,by rcases hty with rfl | rfl<;>decide +kernel⟩
 | rng x n st hi=>exact ⟨_,_,_,hi,rfl,rfl,by decide +kernel⟩
theorem oi {M:Model} {target:Expr} {it:Addr} {v:Value} {r:List V} {A:Around} {E:Value→Shared→Prop} {s:Shared} {Q:Unit→Shared→Prop} (x:nV σ s.heap it r) (h:Q () s):wpAny M A (letOwnedTupleGo target (.ref it) v) Q E s:=by
 walk_at "u"; obtain ⟨o,n,vs,e,c,d,hn⟩:=x.cls;walk_at "v"
 have main:wpAny M A (do
  let (.ref r,.ref a):=((Value.ref it,v):Value×Value) | return
  let o ← load r
  match o.cls,o.data with
  | .type n,.fields vs=>
   if ["enumerate", "zip", "dict_itemiterator", "dict_reverseitemiterator", "odict_iterator", "itertools.zip_longest", "itertools.pairwise"].contains n && vs[0]? == some (rawInt a) then
    rule "for.unpacks-the-owned-tuple"
    updateField r 0 .none
  | _,_=>pure ()) Q E s:=by
  cases v<;>first | exact wpAny_pure h | skip
  refine wpAny_bind (wpAny_load e ?_)
  rw [c,d]
  simp only [hn,dm,bJ,if_false]
  exact wpAny_pure h
 unfold letOwnedTupleGo
 cases target<;>first | exact wpAny_pure h | exact main
theorem Itr.nd {h:Heap} {it:Addr} {r:List V} (x:Itr σ h it r):∀ o,h.get? it=some o→(∀ es ep,o.data≠.dict es ep)∧∀ v,o.data≠.cell v:=fun o q=>by
 refine bc fun hbc=>?_
 obtain ⟨o',vs,q',d,_⟩:=x.st.obj
 refine hbc ?_
 obtain rfl:=aq (q.symm.trans q')
 exact ⟨fun _ _ x=>(jW (d.symm.trans x) rfl).elim,fun _ x=>(jW (d.symm.trans x) rfl).elim⟩
inductive Gl (K:Kx) (env:Env) (J:List V→Fm→ij→Prop) (it:Addr) (σ₁:ij) (h₁:Heap) (n:Nat) (s':Shared):Prop
 | mk (r:List V) (ρ₁:Fm) (σ₂:ij) (e:n=r.length) (hJ:J r ρ₁ σ₂) (hI:Itr σ₂ s'.heap it r) (hr:Rep K env ρ₁ σ₂ s'.heap) (hi:Inv σ₂ s') (E:jz env σ₁ h₁ σ₂ s'.heap)
theorem DR {target iter:Expr} {b:List Stmt} {pos:Pos} {Q:Fl→Fm→ij→Prop}
  (h:EvP K ρ σ iter (fun v σ₁=>∃ items,iM v items∧∃ J:List V→Fm→ij→Prop,J items ρ σ₁∧
   (∀ x r ρ₁ σ₂,J (x :: r) ρ₁ σ₂→AsP K ρ₁ σ₂ target x (fun ρ₂ σ₃=>ExP K ρ₂ σ₃ b (FC J r Q)))∧
   (∀ ρ₁ σ₂,J [] ρ₁ σ₂→Q .next ρ₁ σ₂)))
  (hs:autoParam (∀ env x,foldedSetIterable iter env x=pure x) aI):StP K ρ σ (.For target iter b [] pos) Q:=fun A env s ha hr hi QM hq=>by
 refine wpAny_For (h A env s ha hr hi _ fun v pv σ₁ s₁ h₁ i₁ e₁ r₁=>?_) (hs env)
 walk_at "u"; obtain ⟨items,hit,J,hJ,turn,done⟩:=h₁;walk_at "v"
 refine nH hit r₁ i₁ ha fun it h' fr gr hI=>?_
 have E₁:Ext σ₁ s₁.heap σ₁ h':=Ext.grow gr
 have hr₁:=(hr.mono e₁).mono E₁
 refine codeAny_forLoop_any (Gl K env J it σ₁ s₁.heap) ?_ items.length
  ⟨items,ρ,σ₁,rfl,hJ,hI,hr₁,i₁.grow (s':={ s₁ with heap:=h' }) gr rfl rfl,E₁.toF⟩
 intro n s' hJ2
 walk_at "u"; obtain ⟨r,ρ₁,σ₂,eq0,hJ,hI,hr',hi',E'⟩:=hJ2;walk_at "v"
 subst eq0
 refine k8 hI ha (fun e h'' k=>?_) (fun p r' e v h'' tk k rv hI'=>?_)
 ·subst e
  have nd:=hI.nd
  exact wpAny_execs_nil (hq .next .next ρ₁ σ₂ _ (done ρ₁ σ₂ hJ) trivial (hr'.poke k nd) (hi'.poke (s':={ s' with heap:=h'' }) k rfl rfl) (e₁.toF.trans (E'.poke k fr)))
 ·subst e
  have nd:=hI.nd
  have hr'':=hr'.poke k nd
  have hi'':=hi'.poke (s':={ s' with heap:=h'',toks:=tk }) k rfl rfl
  have E'':=E'.poke k fr
  refine oi (s:={ s' with heap:=h'',toks:=tk }) hI'.st ?_
  refine wpAny_mono (turn p r' ρ₁ σ₂ hJ A env { s' with heap:=h'',toks:=tk } v ha hr'' hi'' rv _ fun ρ₂ σ₃ s₂ q hr₂ hi₂ E₂=>?_) (fun _ _ h=>h) fun _ _ x=>x.elim
  have hI₂:=hI'.keep hr'' E₂
  refine wpAny_mono (q A env s₂ ha hr₂ hi₂ _ fun f fl ρ₃ σ₄ s₃ q rf hr₃ hi₃ E₃=>?_) (fun _ _ h=>h) fun _ _ x=>x.elim
  have hI₃:=hI₂.keep hr₂ E₃
  have EE:=(E''.trans E₂).trans E₃
  cases fl with
  | next=>cases f<;>first | exact rf.elim | exact ⟨r'.length,by simp,r',ρ₃,σ₄,rfl,q,hI₃,hr₃,hi₃,EE⟩
  | cont=>cases f<;>first | exact rf.elim | exact ⟨r'.length,by simp,r',ρ₃,σ₄,rfl,q,hI₃,hr₃,hi₃,EE⟩
  | brk=>cases f<;>first | exact rf.elim | exact hq .next .next ρ₃ σ₄ s₃ q trivial hr₃ hi₃ (e₁.toF.trans EE)
  | ret v=>cases f<;>first | exact rf.elim | exact hq _ (.ret v) ρ₃ σ₄ s₃ q rf hr₃ hi₃ (e₁.toF.trans EE)
end
end Internal
end
section
open PySem PySem.W PyProof.Rows PySem.Calls
namespace Internal
section
variable {K:Kx} {ρ:Fm} {σ:ij}
theorem get?_ge {h:Heap} {a:Addr} (ha:h.objs.size≤a):h.get? a=none:=by
 cases e:h.get? a with
 | none=>rfl
 | some o=>exact absurd (Heap.lt_size e) (b7.mpr ha)
noncomputable def y6 (QM:Value→Shared→Prop) (X:Value→Shared→Prop):Result→Shared→Prop:=fun r s'=>match r with | .ok (.ret v)=>QM v s' | .ok _=>False | .error e=>X e s'
structure wZ (h:Heap) (f:Addr) (R:FnRec) (cap:List (Str×Addr)) (code:Value):Prop where
 get:∃ o fd,h.get? f=some o∧o.data=.func fd∧fd.params=R.params∧fd.body=R.body∧fd.scope=R.scope∧fd.globals=mainGlobals∧fd.closure=cap∧fd.defaults=.none∧fd.kwdefaults=.none∧
  fd.builtins=builtinsNs∧fd.qualname=R.qual∧fd.code=code
 cr:h.CodeRec code R.qual
noncomputable def iH (R:FnRec) (names:List Str):Prop:=∀ fd:FuncData,fd.params=R.params→fd.defaults=.none→fd.kwdefaults=.none→∀ vs:List Value,vs.length=names.length→bindArgs fd ⟨vs,[]⟩=pure (names.zip vs)
noncomputable def kE (R:FnRec) (code:Value) (d:Nat):Kx:=⟨R.scope.names,R.qual ++ ".<locals>.", code,d⟩
noncomputable def pslots:List Str→List V→Fm
 | x :: xs,v :: vs=>(x,.val v) :: pslots xs vs
 | _,_=>[]
noncomputable def oV (Q:V→ij→Prop):Fl→Fm→ij→Prop
 | .ret v,_,σ'=>Q v σ'
 | _,_,σ'=>Q .none σ'
theorem AOk.call {d:Nat} {A:Around} {env:Env} (h:AOk (d + 1) A):AOk d (A.deeper env):=by
 walk_at "u"; obtain ⟨h1,h2,h3⟩:=h;walk_at "v"
 refine ⟨h1,?_,?_⟩
 ·show A.depth + 1 + d≤990;lia
 ·show A.units + 3 + 10 * d≤9800;lia
theorem AOk.le {d d':Nat} {A:Around} (h:AOk d A) (hd:d'≤d):AOk d' A:=by
 walk_at "u"; obtain ⟨h1,h2,h3⟩:=h;walk_at "v"
 exact ⟨h1,by lia,by lia⟩
theorem lu:∀ {names:List Str} {args:List V} {p:Str×Slot},p∈pslots names args→∃ a,p=(p.1,.val a)∧p.1∈names
 | x :: xs,v :: vs,p,h=>by
  rcases am.mp h with rfl | h
  ·exact ⟨v,rfl,ao⟩
  ·obtain ⟨a,e,m⟩:=lu h;exact ⟨a,e,ai _ m⟩
theorem l4 {β:Type} {x:Str}:∀ {l l':List (Str×β)},(l++l').lookup x=(l.lookup x).or (l'.lookup x)
 | [],l'=>by simp
 | (n,v) :: l,l'=>by
  simp only [ar,aS]
  cases hx:x == n<;>simp [l4]
theorem kg {σ:ij} {h:Heap}:∀ {names:List Str} {vs:List Value} {args:List V} {x:Str} {a:V},names.Nodup→iF σ h vs args→(x,Slot.val a)∈pslots names args→
  ∃ v,(names.zip vs).reverse.lookup x=some v∧Rel σ h v a:=by
 intro names
 induction names with
 | nil=>intro _ _ _ _ _ _ hm;cases hm
 | cons n ns ih=>
  intro vs args x a hn hr hm
  cases args with
  | nil=>cases hm
  | cons p pl=>
   walk_at "u"; obtain ⟨w,l,eq0,hv,hl⟩:=hr.inv;walk_at "v"
   subst eq0
   simp only [df,dR,l4]
   rcases am.mp hm with e | hm
   ·injection e with e1 e2
    injection e2 with e2
    subst e1;subst e2
    have:((ns.zip l).reverse).lookup x=none:=by
     have hz:∀ (q:List (Str×Value)),(∀ p∈q,p.1≠x)→q.lookup x=none:=by
      intro q
      induction q with
      | nil=>intro _;rfl
      | cons p q ih=>
       intro hq
       have h1:(x == p.1)=false:=by simp;exact fun e=>hq p ao e.symm
       rw [aS,h1];exact ih fun p hp=>hq p (ai _ hp)
     refine hz _ fun p hp e=>?_
     have:=(eg (dz.mp hp)).1
     rw [e] at this
     exact (cj.mp hn).1 this
    rw [this]
    exact ⟨_,by simp,hv⟩
   ·walk_at "u"; obtain ⟨v,e,r⟩:=ih (cj.mp hn).2 hl hm;walk_at "v"
    exact ⟨v,by rw [e];rfl,r⟩
structure Ctx.Ok2 (C:Ctx):Prop extends C.Ok where
 nl:C.h1.NoLimit
 st:cStatics∉C.tabs
theorem Inv.nolimit {s:Shared} (O:C.Ok2) (i:Inv σ s):s.heap.NoLimit:=O.nl.elim fun mc h=>⟨mc,i.ns h.1 O.st,h.2⟩
theorem s7 {env:Env} {s s₀ s':Shared} {σ':ij} (hk:∀ b o,s.heap.get? b=some o→s₀.heap.get? b=some o) (hf:∀ a o,s.heap.get? a=some o→¬ lh env a) (e:jz env σ s₀.heap σ' s'.heap):Ext σ s.heap σ' s'.heap:=
 ⟨fun a o g hs ht=>e.keep a o (hk a o g) hs ht (hf a o g),fun a o g hs ht=>e.free a o (hk a o g) hs ht (hf a o g),e.cell⟩
structure y4 (K:Kx) (ρ:Fm) (σ:ij) (s:Shared) (env:Env) (s':Shared):Prop where
 rep:Rep K env ρ σ s'.heap
 inv:Inv σ s'
 keep:∀ b o,s.heap.get? b=some o→s'.heap.get? b=some o
 foot:∀ a o,s.heap.get? a=some o→¬ lh env a
 frame:env.frame=some env.locals
 new:s.heap.get? env.locals=none
noncomputable abbrev r7 (A:Around) (env:Env) (body:List Stmt) (RR:Result→Shared→Prop) (s':Shared):Prop:=
 wpAny (model C.prog C.w) (A.deeper env) (execs body env) (fun f s''=>RR (.ok (.ret (match f with | .ret v=>v | _=>.none))) s'') (fun e s''=>wpAny (model C.prog C.w) (A.deeper env) (leaving env e) (fun _ s₃=>RR (.error e) s₃) (fun e' s₃=>RR (.error e') s₃) s'') s'
theorem Ap {K:Kx} {ρ:Fm} {σ:ij} {Q:V→ij→Prop} {A:Around} {env:Env} {body:List Stmt} {s s':Shared} (x:y4 K ρ σ s env s') (ha:AOk K.d (A.deeper env)) (h:ExP K ρ σ body (oV Q)) {QM:Value→Shared→Prop}
  (hq:∀ v pv σ' s',Q pv σ'→Inv σ' s'→Ext σ s.heap σ' s'.heap→Rel σ' s'.heap v pv→QM v s'):r7 A env body (y6 QM Bot) s':=by
 refine wpAny_mono (h (A.deeper env) env s' ha x.rep x.inv (fun fl s'=>∃ pv σ',Q pv σ'∧Inv σ' s'∧Ext σ s.heap σ' s'.heap∧Rel σ' s'.heap (match fl with | .ret v=>v | _=>.none) pv)
  fun fl pfl ρ' σ' s₂ q rf _ i' e'=>?_) (fun fl s₂ x=>?_) fun _ _ x=>x.elim
 ·have E:=s7 (s₀:=s') x.keep x.foot e'
  cases pfl with
  | ret pv=>cases fl<;>first | exact rf.elim | exact ⟨pv,σ',q,i',E,rf⟩
  | next=>cases fl<;>first | exact rf.elim | exact ⟨.none,σ',q,i',E,.none⟩
  | brk=>cases fl<;>first | exact rf.elim | exact ⟨.none,σ',q,i',E,.none⟩
  | cont=>cases fl<;>first | exact rf.elim | exact ⟨.none,σ',q,i',E,.none⟩
 ·walk_at "u"; obtain ⟨pv,σ',q,i',E,rv⟩:=x;walk_at "v"
  exact hq _ pv σ' s₂ q i' E rv
theorem o6 (O:C.Ok2) {R:FnRec} {cap:List (Str×Addr)} {code:Value} {body:List Stmt} {names:List Str} {f:Addr} {d:Nat} {args:List V} {caps:Fm} 
  (hb:R.body=.stmts body) (hbind:iH R names) (hnd:names.Nodup) (hlen:args.length=names.length) (hloc:∀ x∈names,R.scope.names.lookup x=some .local) (hcell:∀ x∈R.scope.names,x.2≠.cell)
  (hcap:∀ x c,cap.lookup x=some c→∃ o,σ c=some (.cell o)) (hinj:∀ x y c,cap.lookup x=some c→cap.lookup y=some c→x=y)
  (hcaps:∀ p∈caps,∃ c,p.2=.sh c∧cap.lookup p.1=some c∧R.scope.names.lookup p.1=some .free)
  (hk:R.scope.kind=.function) (hco:R.scope.isCoroutine=false) (hgen:R.scope.isGenerator=false)
  {A:Around} {s:Shared} {vs:List Value} (ha:AOk (d + 1) A) (hi:Inv σ s) (hr:iF σ s.heap vs args) (hf:wZ s.heap f R cap code) {RR:Result→Shared→Prop}
  (k:∀ env s',y4 (kE R code d) (pslots names args++caps) σ s env s'→r7 A env body RR s'):codeAny (model C.prog C.w) A (.call (.ref f) ⟨vs,[]⟩) RR s:=by
 walk_at "u"; obtain ⟨o,fd,ho,hd,f1,f2,f3,f4,f5,f6,f7,f8,f9,f10⟩:=hf.get;walk_at "v"
 have hvs:vs.length=names.length:=hr.length.trans hlen
 have hdep:A.depth < recursionLimit:=by
  have:=ha.2.1
  show A.depth < 1000
  lia
 refine (codeAny_call_def (fd:=fd) (body:=body) (binds:=names.zip vs) hdep ho hd (hi.nolimit O) (by rw [f10,f9];exact hf.cr) (f2.trans hb) (.of_eq (hbind fd f1 f6 f7 vs hvs))
  (by rw [f3];exact hcell) (fun x hx=>by rw [f3];exact hloc _ (eg hx).1) (fun h₀ hns hk₀=>?_) (by rw [f3];exact hco) (by rw [f3];exact hgen) (by rw [f3];exact hk))
 have g₀:∀ b o,s.heap.get? b=some o→(({ s with heap:=h₀,toks:=s.toks + (names.zip vs).length }:Shared)).heap.get? b=some o:=hk₀
 have i₀:Inv σ { s with heap:=h₀,toks:=s.toks + (names.zip vs).length }:=hi.grow g₀ rfl rfl
 have LN:s.heap.get? s.heap.objs.size=none:=get?_ge (av _)
 have hl:¬ lh (callEnv fd s.heap.objs.size f) s.heap.objs.size→False:=fun x=>x (.inl rfl)
 have foot:∀ a o,s.heap.get? a=some o→¬ lh (callEnv fd s.heap.objs.size f) a:=fun a o g q=>by
  rcases q with q | ⟨x,q,_⟩
  ·rw [q] at g;rw [show (callEnv fd s.heap.objs.size f).locals=s.heap.objs.size from rfl,LN] at g;cases g
  ·rw [show (callEnv fd s.heap.objs.size f).scope=fd.scope from rfl,f3] at q
   exact hcell _ (mem_of_lookup q) rfl
 have rep:Rep (kE R code d) (callEnv fd s.heap.objs.size f) (pslots names args++caps) σ h₀:=by
  refine ⟨by show fd.scope.kind=_;rw [f3];exact hk,by show fd.scope.names=_;rw [f3];rfl,f4,f8,by show fd.qualname++_=_;rw [f9];rfl,f10,⟨_,hns⟩,⟨hi.off LN,hi.notTab hi.size,hi.size⟩,fun x c hc=>?_,fun x y c hx hy=>?_,fun p hp=>?_⟩
  ·rw [show (callEnv fd s.heap.objs.size f).cells=fd.closure from rfl,f5] at hc
   walk_at "u"; obtain ⟨oc,hoc⟩:=hcap x c hc;walk_at "v"
   have lo:=(hi.own c _ hoc).1
   refine ⟨fun q=>?_,lo,hi.notTab lo,fun q=>(by exact absurd (hoc.symm.trans q) (al _)),fun o' q=>(by obtain rfl:=aq (hoc.symm.trans q);exact ⟨oc,rfl⟩)⟩
   rw [show (callEnv fd s.heap.objs.size f).locals=s.heap.objs.size from rfl] at q
   rw [← q,hi.off LN] at hoc;cases hoc
  ·rw [show (callEnv fd s.heap.objs.size f).cells=fd.closure from rfl,f5] at hx hy
   exact hinj x y c hx hy
  ·rcases bb.mp hp with hp | hp
   ·walk_at "u"; obtain ⟨a,e,m⟩:=lu hp;walk_at "v"
    rw [e] at hp ⊢
    walk_at "u"; obtain ⟨v,hv,rv⟩:=kg hnd hr hp;walk_at "v"
    exact .inl ⟨hloc _ m,_,v,hns,hv,rv.mono (Ext.grow hk₀).seq⟩
   ·walk_at "u"; obtain ⟨c,e1,e2,e3⟩:=hcaps p hp;walk_at "v"
    rw [show p=(p.1,Slot.sh c) from by rw [← e1]]
    exact ⟨.inr e3,by show fd.closure.lookup _=_;rw [f5];exact e2,hcap _ _ e2⟩
 exact k (callEnv fd s.heap.objs.size f) _ ⟨rep,i₀,hk₀,foot,rfl,LN⟩
theorem m8 (O:C.Ok2) {R:FnRec} {cap:List (Str×Addr)} {code:Value} {body:List Stmt} {names:List Str} {f:Addr} {d:Nat} {args:List V} {caps:Fm} {Q:V→ij→Prop}
  (hb:R.body=.stmts body) (hbind:iH R names) (hnd:names.Nodup) (hlen:args.length=names.length) (hloc:∀ x∈names,R.scope.names.lookup x=some .local) (hcell:∀ x∈R.scope.names,x.2≠.cell)
  (hcap:∀ x c,cap.lookup x=some c→∃ o,σ c=some (.cell o)) (hinj:∀ x y c,cap.lookup x=some c→cap.lookup y=some c→x=y)
  (hcaps:∀ p∈caps,∃ c,p.2=.sh c∧cap.lookup p.1=some c∧R.scope.names.lookup p.1=some .free)
  (hk:R.scope.kind=.function) (hco:R.scope.isCoroutine=false) (hgen:R.scope.isGenerator=false)
  (h:ExP (kE R code d) (pslots names args++caps) σ body (oV Q))
  {A:Around} {s:Shared} {vs:List Value} (ha:AOk (d + 1) A) (hi:Inv σ s) (hr:iF σ s.heap vs args) (hf:wZ s.heap f R cap code) {QM:Value→Shared→Prop}
  (hq:∀ v pv σ' s',Q pv σ'→Inv σ' s'→Ext σ s.heap σ' s'.heap→Rel σ' s'.heap v pv→QM v s'):codeAny (model C.prog C.w) A (.call (.ref f) ⟨vs,[]⟩) (y6 QM Bot) s:=by
 exact o6 O hb hbind hnd hlen hloc hcell hcap hinj hcaps hk hco hgen ha hi hr hf fun env s' x=>Ap x ha.call h hq
theorem rV {kindOf:Str→Option NameKind} {x:Str}:∀ {names:List Str} {vs:List Value} {m:Str→Option Value},x∉names→bindL kindOf (names.zip vs) m x=m x
 | [],_,_,_=>by simp [bindL]
 | _ :: _,[],_,_=>by simp [bindL]
 | n :: ns,v :: vs,m,h=>by
  have h1:x≠n:=fun e=>h (e ▸ ao)
  have h2:x∉ns:=fun q=>h (ai _ q)
  rw [df,bindL,rV h2]
  split<;>simp [h1]
theorem m9 {kindOf:Str→Option NameKind} {x:Str}:∀ {names:List Str} {vs:List Value} {m:Str→Option Value},x∉names→bindC kindOf (names.zip vs) m x=m x
 | [],_,_,_=>by simp [bindC]
 | _ :: _,[],_,_=>by simp [bindC]
 | n :: ns,v :: vs,m,h=>by
  have h1:x≠n:=fun e=>h (e ▸ ao)
  have h2:x∉ns:=fun q=>h (ai _ q)
  rw [df,bindC,m9 h2]
  split<;>simp [h1]
theorem AZ {kindOf:Str→Option NameKind} {σ:ij} {h:Heap}:∀ {names:List Str} {vs:List Value} {args:List V} {x:Str} {a:V} {m m':Str→Option Value},names.Nodup→iF σ h vs args→(x,Slot.val a)∈pslots names args→
  ∃ v,(kindOf x=some .local→bindL kindOf (names.zip vs) m x=some v)∧(kindOf x≠some .local→bindC kindOf (names.zip vs) m' x=some v)∧Rel σ h v a:=by
 intro names
 induction names with
 | nil=>intro _ _ _ _ _ _ _ _ hm;cases hm
 | cons n ns ih=>
  intro vs args x a m m' hn hr hm
  cases args with
  | nil=>cases hm
  | cons p pl=>
   walk_at "u"; obtain ⟨w,l,eq0,hv,hl⟩:=hr.inv;walk_at "v"
   subst eq0
   rcases am.mp hm with e | hm
   ·injection e with e1 e2
    injection e2 with e2
    subst e1;subst e2
    have hx:=(cj.mp hn).1
    refine ⟨w,fun hk=>?_,fun hk=>?_,hv⟩
    ·rw [df,bindL,rV hx,if_pos hk];simp
    ·rw [df,bindC,m9 hx,if_neg hk];simp
   ·walk_at "u"; obtain ⟨v,h1,h2,h3⟩:=ih (m:=if kindOf n=some .local then fun y=>if y=n then some w else m y else m) (m':=if kindOf n=some .local then m' else fun y=>if y=n then some w else m' y) (cj.mp hn).2 hl hm;walk_at "v"
    exact ⟨v,h1,h2,h3⟩
theorem o7 (O:C.Ok2) {R:FnRec} {code:Value} {body:List Stmt} {names emps:List Str} {f:Addr} {d:Nat} {args:List V} 
  (hb:R.body=.stmts body) (hbind:iH R names) (hnd:names.Nodup) (hlen:args.length=names.length)
  (hloc:∀ x∈names,R.scope.names.lookup x=some .local∨(R.scope.names.lookup x=some .cell∧∀ n,((cellsFrom n R.scope.names []).lookup x).isSome=true))
  (hemp:∀ x∈emps,x∉names∧R.scope.names.lookup x=some .cell∧∀ n,((cellsFrom n R.scope.names []).lookup x).isSome=true)
  (hk:R.scope.kind=.function) (hco:R.scope.isCoroutine=false) (hgen:R.scope.isGenerator=false)
  {A:Around} {s:Shared} {vs:List Value} (ha:AOk (d + 1) A) (hi:Inv σ s) (hr:iF σ s.heap vs args) (hf:wZ s.heap f R [] code) {RR:Result→Shared→Prop}
  (k:∀ env s',y4 (kE R code d) (pslots names args++emps.map fun x=>(x,.emp)) σ s env s'→r7 A env body RR s'):codeAny (model C.prog C.w) A (.call (.ref f) ⟨vs,[]⟩) RR s:=by
 walk_at "u"; obtain ⟨o,fd,ho,hd,f1,f2,f3,f4,f5,f6,f7,f8,f9,f10⟩:=hf.get;walk_at "v"
 have hvs:vs.length=names.length:=hr.length.trans hlen
 have hdep:A.depth < recursionLimit:=by
  have:=ha.2.1
  show A.depth < 1000
  lia
 refine (codeAny_call_cells (fd:=fd) (body:=body) (binds:=names.zip vs) hdep ho hd (hi.nolimit O) (by rw [f10,f9];exact hf.cr) (f2.trans hb) (hbind fd f1 f6 f7 vs hvs) f5
  (fun x hx=>by
   rw [f3]
   rcases hloc _ (eg hx).1 with q | ⟨q,q'⟩
   ·exact .inl q
   ·exact .inr ⟨q,q' _⟩) (fun s₁ x=>?_) (by rw [f3];exact hco) (by rw [f3];exact hgen) (by rw [f3];exact hk))
 walk_at "u"; obtain ⟨h₁,tk,rfl,hk₁⟩:=x.done;walk_at "v"
 have g₀:∀ b o,s.heap.get? b=some o→(({ s with heap:=h₁,toks:=tk }:Shared)).heap.get? b=some o:=hk₁
 have i₀:Inv σ { s with heap:=h₁,toks:=tk }:=hi.grow g₀ rfl rfl
 have hge:∀ n c,(callEnvC fd s.heap.objs.size f).cells.lookup n=some c→s.heap.objs.size < c:=fun n c e=>x.above n c (mem_of_lookup e)
 have LN:s.heap.get? s.heap.objs.size=none:=get?_ge (av _)
 have cells_eq:(callEnvC fd s.heap.objs.size f).cells=cellsFrom (s.heap.objs.size + 1) R.scope.names []:=by show cellsFrom _ fd.scope.names []=_;rw [f3]
 have foot:∀ a o,s.heap.get? a=some o→¬ lh (callEnvC fd s.heap.objs.size f) a:=fun a o g q=>by
  rcases q with q | ⟨x,_,q⟩
  ·rw [q] at g;rw [show (callEnvC fd s.heap.objs.size f).locals=s.heap.objs.size from rfl,LN] at g;cases g
  ·exact absurd (Heap.lt_size g) (b7.mpr (aF (hge _ _ q)))
 have kind_eq:∀ x,(callEnvC fd s.heap.objs.size f).kindOf x=R.scope.names.lookup x:=fun x=>by show fd.scope.names.lookup x=_;rw [f3]
 have fresh:∀ n c,(callEnvC fd s.heap.objs.size f).cells.lookup n=some c→σ c=none∧C.h1.objs.size≤c∧c∉C.tabs:=fun n c e=>by
  have:=hge n c e
  have lo:C.h1.objs.size≤c:=aa hi.size (aF this)
  exact ⟨hi.off (get?_ge (aF this)),lo,hi.notTab lo⟩
 have rep:Rep (kE R code d) (callEnvC fd s.heap.objs.size f) (pslots names args++emps.map fun x=>(x,.emp)) σ h₁:=by
  refine ⟨by show fd.scope.kind=_;rw [f3];exact hk,by show fd.scope.names=_;rw [f3];rfl,f4,f8,by show fd.qualname++_=_;rw [f9];rfl,f10,⟨_,x.toInCall.ns⟩,⟨hi.off LN,hi.notTab hi.size,hi.size⟩,fun y c hc=>?_,fun y z c hy hz=>?_,fun p hp=>?_⟩
  ·walk_at "u"; obtain ⟨q1,q2,q3⟩:=fresh y c hc;walk_at "v"
   exact ⟨ce (hge y c hc),q2,q3,fun _=>⟨_,x.cell y c hc⟩,fun o q=>by exact absurd (q1.symm.trans q).symm (al _)⟩
  ·have ap:=x.apart
   have m1:=mem_of_lookup hy
   have m2:=mem_of_lookup hz
   have:∀ {l:List (Str×Addr)},l.Pairwise (fun x y=>x.2≠y.2)→(y,c)∈l→(z,c)∈l→y=z:=by
    intro l
    induction l with
    | nil=>intro _ h;cases h
    | cons p l ih=>
     intro hp h1 h2
     walk_at "u"; obtain ⟨hp1,hp2⟩:=gj.mp hp;walk_at "v"
     rcases am.mp h1 with e1 | h1<;>rcases am.mp h2 with e2 | h2
     ·have:=e1.trans e2.symm;injection this
     ·exact absurd rfl (by have:=hp1 _ h2;rw [← e1] at this;exact this)
     ·exact absurd rfl (by have:=hp1 _ h1;rw [← e2] at this;exact this)
     ·exact ih hp2 h1 h2
   exact this ap m1 m2
  ·rcases bb.mp hp with hp | hp
   ·walk_at "u"; obtain ⟨a,e,m⟩:=lu hp;walk_at "v"
    rw [e] at hp ⊢
    walk_at "u"; obtain ⟨v,hv1,hv2,rv⟩:=AZ (kindOf:=(callEnvC fd s.heap.objs.size f).kindOf) (m:=fun _=>none) (m':=fun _=>none) hnd hr hp;walk_at "v"
    rcases hloc _ m with q | ⟨q,q'⟩
    ·exact .inl ⟨q,_,v,x.toInCall.ns,hv1 ((kind_eq _).trans q),rv.mono (Ext.grow hk₁).seq⟩
    ·have hs:=q' (s.heap.objs.size + 1)
     rw [← cells_eq] at hs
     walk_at "u"; obtain ⟨c,hc⟩:=dQ.mp hs;walk_at "v"
     refine .inr ⟨.inl q,c,v,hc,?_,rv.mono (Ext.grow hk₁).seq,(fresh _ c hc).1,(fresh _ c hc).2.2⟩
     have:=x.cell _ c hc
     rw [hv2 (by rw [kind_eq,q];intro z;cases z)] at this
     exact this
   ·refine bc fun hbc=>?_
    obtain ⟨y,hy,rfl⟩:=aA.mp hp
    obtain ⟨hyn,q,q'⟩:=hemp y hy
    refine hbc ?_
    clear hbc
    have hs:=q' (s.heap.objs.size + 1)
    rw [← cells_eq] at hs
    walk_at "u"; obtain ⟨c,hc⟩:=dQ.mp hs;walk_at "v"
    have hce:=x.cell _ c hc
    rw [m9 hyn] at hce
    exact ⟨q,c,hc,⟨⟨none,rfl⟩,hce⟩,(fresh _ c hc).1,(fresh _ c hc).2.2⟩
 exact k (callEnvC fd s.heap.objs.size f) _ ⟨rep,i₀,hk₁,foot,rfl,LN⟩
theorem wR (O:C.Ok2) {R:FnRec} {code:Value} {body:List Stmt} {names emps:List Str} {f:Addr} {d:Nat} {args:List V} {Q:V→ij→Prop}
  (hb:R.body=.stmts body) (hbind:iH R names) (hnd:names.Nodup) (hlen:args.length=names.length)
  (hloc:∀ x∈names,R.scope.names.lookup x=some .local∨(R.scope.names.lookup x=some .cell∧∀ n,((cellsFrom n R.scope.names []).lookup x).isSome=true))
  (hemp:∀ x∈emps,x∉names∧R.scope.names.lookup x=some .cell∧∀ n,((cellsFrom n R.scope.names []).lookup x).isSome=true)
  (hk:R.scope.kind=.function) (hco:R.scope.isCoroutine=false) (hgen:R.scope.isGenerator=false)
  (h:ExP (kE R code d) (pslots names args++emps.map fun x=>(x,.emp)) σ body (oV Q))
  {A:Around} {s:Shared} {vs:List Value} (ha:AOk (d + 1) A) (hi:Inv σ s) (hr:iF σ s.heap vs args) (hf:wZ s.heap f R [] code) {QM:Value→Shared→Prop}
  (hq:∀ v pv σ' s',Q pv σ'→Inv σ' s'→Ext σ s.heap σ' s'.heap→Rel σ' s'.heap v pv→QM v s'):codeAny (model C.prog C.w) A (.call (.ref f) ⟨vs,[]⟩) (y6 QM Bot) s:=by
 exact o7 O hb hbind hnd hlen hloc hemp hk hco hgen ha hi hr hf fun env s' x=>Ap x ha.call h hq
end
end Internal
end
section
open PySem PySem.W PyProof.Rows PySem.Calls
namespace Internal
noncomputable def CallV (d:Nat) (fv:V) (args:List V) (σ:ij) (Q:V→ij→Prop):Prop:=
 ∀ (A:Around) (s:Shared) (f:Value) (vs:List Value),AOk d A→Inv σ s→Rel σ s.heap f fv→iF σ s.heap vs args→∀ QM:Value→Shared→Prop,
  (∀ v pv σ' s',Q pv σ'→Inv σ' s'→Ext σ s.heap σ' s'.heap→Rel σ' s'.heap v pv→QM v s')→wpAny (model C.prog C.w) A (PySem.call f vs) QM Bot s
noncomputable def KeepOk (σ:ij) (fv:V):Prop:=∀ (s:Shared) (f:Value),Inv σ s→Rel σ s.heap f fv→∀ (M:Model) (A:Around) (E:Value→Shared→Prop) (Q:Keeper→Shared→Prop),(∀ k,Q k s)→wpAny M A (keeperOf f) Q E s
section
variable {K:Kx} {ρ:Fm} {σ:ij}
theorem CallV.of {d:Nat} {f:V} {args:List V} {Q:V→ij→Prop} (h:CallV d f args σ Q):CallV d f args σ Q:=
 fun A s f vs ha hi hf hr QM hq=>wpAny_mono (h A s f vs ha hi hf hr QM hq) (fun _ _ x=>x) fun _ _ x=>x.elim
theorem CallV.le {d d':Nat} {f:V} {args:List V} {Q:V→ij→Prop} (h:CallV d f args σ Q) (hd:d≤d'):CallV d' f args σ Q:=
 fun A s f vs ha hi hf hr QM hq=>h A s f vs (ha.le hd) hi hf hr QM hq
theorem keep_builtin {id:String}:KeepOk σ (.raw (.builtin id)):=fun s f hi hr M A E Q h=>by obtain ⟨_,rfl⟩:=Rel.inv hr;exact wpAny_pure (h _)
theorem keep_type {id:String}:KeepOk σ (.raw (.type id)):=fun s f hi hr M A E Q h=>by obtain ⟨_,rfl⟩:=Rel.inv hr;exact wpAny_pure (h _)
theorem Ct {a:Addr} {o:Obj} {fd:FuncData} (ho:C.h1.get? a=some o) (ht:a∉C.tabs) (hd:o.data=.func fd):KeepOk σ (.raw (.ref a)):=fun s f hi hr M A E Q h=>by
 obtain ⟨_,rfl⟩:=Rel.inv hr
 unfold keeperOf
 refine wpAny_bind (wpAny_load (hi.base a o ho ht) ?_)
 rw [hd];exact wpAny_pure (h _)
theorem kp {a:Addr} {f:FnRec} {cap:List (Str×Addr)} {d:Option Addr} (hs:σ a=some (.func f cap d)):KeepOk σ (.loc a):=fun s v hi hr M A E Q h=>by
 obtain ⟨_,rfl⟩:=Rel.inv hr
 walk_at "u"; obtain ⟨o,fd,ho,_,_,hd,_⟩:=(hi.own a _ hs).2;walk_at "v"
 unfold keeperOf
 refine wpAny_bind (wpAny_load ho ?_)
 rw [hd];exact wpAny_pure (h _)
theorem jt {M:Model} {A:Around} {E:Value→Shared→Prop} {s:Shared} {pos:Pos} {f:Value} {first:List Value} {args:List (Bool×Sem Value)} {Q:Value→Shared→Prop}
  (h:wpAny M A (evalArgs f true args []) (fun a s₁=>(∀ (E:Value→Shared→Prop) (Q:Keeper→Shared→Prop),(∀ k,Q k s₁)→wpAny M A (keeperOf f) Q E s₁)∧wpAny M A (PySem.call f (first++a.pos) a.kw) Q E s₁) E s):
  wpAny M A (callWith pos f first args []) Q E s:=by
 unfold callWith
 refine wpAny_bind (wpAny_holding (wpAny_mono h (fun a s₁ h₁=>wpAny_bind (wpAny_standAt ?_)) fun _ _ x=>x))
 have tail:∀ {t:Sem Value},wpAny M A t Q E s₁→wpAny M A (t >>= fun r=>holding [r] point >>= fun _=>pure r) Q E s₁:=
  fun ht=>wpAny_bind (wpAny_mono ht (fun r s₂ hr=>wpAny_bind (wpAny_holding (wpAny_point (wpAny_pure hr)))) fun _ _ x=>x)
 dsimp only
 refine wpAny_bind (h₁.1 E _ fun k=>?_)
 have c:=h₁.2
 have ck:∀ l,wpAny M A ((PySem.call f (first++a.pos) a.kw).keep l) Q E s₁:=fun l=>Calls.wpAny_keep c
 have co:∀ l,wpAny M A (operate l (PySem.call f (first++a.pos) a.kw)) Q E s₁:=fun l=>wpAny_operating c
 cases k<;>cases (args.any (·.1) || ([]:List (Option Str×Sem Value)).any (·.1.isNone))<;>dsimp only<;>
  first
   | exact tail c
   | exact tail (ck _)
   | exact tail (co _)
   | (split<;>first | exact tail c | exact tail (ck _) | exact tail (co _))
theorem jP {A:Around} {env:Env} (ha:AOk K.d A):∀ {args:List Expr} {σ:ij} {s:Shared} {Q:List V→ij→Prop},EvsP K ρ args σ Q→Rep K env ρ σ s.heap→Inv σ s→
  ∀ {QM:List Value→Shared→Prop},(∀ vs pl σ' s',Q pl σ'→Inv σ' s'→Ext σ s.heap σ' s'.heap→iF σ' s'.heap vs pl→QM vs s')→wpAny (model C.prog C.w) A (spliced (args.map fun e=>(false,eval e env))) QM Bot s
 | [],σ,s,Q,h,hr,hi,QM,hq=>Calls.spliced_nil (hq [] [] σ s h hi .refl .nil)
 | e :: r,σ,s,Q,h,hr,hi,QM,hq=>Calls.spliced_cons (h A env s ha hr hi _ fun v pv σ₁ s₁ h₁ i₁ e₁ r₁=>jP ha h₁ (hr.mono e₁) i₁ fun vs pl σ₂ s₂ h₂ i₂ e₂ r₂=>
   hq (v :: vs) (pv :: pl) σ₂ s₂ h₂ i₂ (e₁.trans e₂) (.cons (r₁.mono e₂.seq) r₂))
theorem js {M:Model} {A:Around} {E:Value→Shared→Prop} {s:Shared} {f:Value} {Q:Args→Shared→Prop}:∀ {l:List (Bool×Sem Value)},l.any (·.1)=false→wpAny M A (spliced l) (fun vs s'=>Q ⟨vs,[]⟩ s') E s→wpAny M A (evalArgs f true l []) Q E s
 | [],_,h=>by
  unfold evalArgs
  show wpAny M A (spliced [] >>= _) Q E s
  refine wpAny_bind (wpAny_mono h (fun vs s' h'=>?_) fun _ _ x=>x)
  exact wpAny_bind (wpAny_pure (wpAny_holding (wpAny_bind (wpAny_pure (wpAny_bind (wpAny_pure (wpAny_pure (by simpa using h'))))))))
 | (false,x) :: r,_,h=>Calls.evalArgs_plain h
 | (true,x) :: r,e,_=>by simp at e
theorem lg {env:Env} {args:List Expr} {pos:Pos} {fv:V} {pre:List V} {Q:V→ij→Prop} {A:Around} {s:Shared} {f:Value} {first:List Value} (hse:backTo pos (starEach args env)=args.map fun e=>(false,eval e env))
  (h:EvsP K ρ args σ (fun pl σ₁=>KeepOk σ₁ fv∧CallV K.d fv (pre++pl) σ₁ Q)) (ha:AOk K.d A) (hr:Rep K env ρ σ s.heap) (hi:Inv σ s) (hf:Rel σ s.heap f fv) (hp:iF σ s.heap first pre) {QM:Value→Shared→Prop}
  (hq:∀ v pv σ' s',Q pv σ'→Inv σ' s'→Ext σ s.heap σ' s'.heap→Rel σ' s'.heap v pv→QM v s'):wpAny (model C.prog C.w) A (callWith pos f first (backTo pos (starEach args env)) []) QM Bot s:=by
 rw [hse]
 refine jt (js (by simp) (jP ha h hr hi fun vs pl σ₁ s₁ h₁ i₁ e₁ r₁=>⟨fun E Q hk=>h₁.1 s₁ f i₁ (hf.mono e₁.seq) _ A E Q hk,?_⟩))
 exact h₁.2 A s₁ f (first++vs) ha i₁ (hf.mono e₁.seq) ((hp.mono e₁.seq).append r₁) QM fun v pv σ₂ s₂ q i₂ e₂ r₂=>hq v pv σ₂ s₂ q i₂ (e₁.trans e₂) r₂
theorem CJ {x:Str} {np pos:Pos} {args:List Expr} {Q:V→ij→Prop} (h:EvP K ρ σ (.Name x np) (fun fv σ₁=>EvsP K ρ args σ₁ (fun pl σ₂=>KeepOk σ₂ fv∧CallV K.d fv pl σ₂ Q)))
  (hse:autoParam (∀ env,backTo pos (starEach args env)=args.map fun e=>(false,eval e env)) aI):EvP K ρ σ (.Call (.Name x np) args [] pos) Q:=fun A env s ha hr hi QM hq=>
 wpAny_Call_NameR (h A env s ha hr hi _ fun f fv σ₁ s₁ h₁ i₁ e₁ r₁=>lg (pre:=[]) (hse env) h₁ ha (hr.mono e₁) i₁ r₁ .nil fun v pv σ₂ s₂ q i₂ e₂ r₂=>hq v pv σ₂ s₂ q i₂ (e₁.trans e₂) r₂)
theorem EvsP.mono:∀ {args:List Expr} {σ:ij} {Q Q':List V→ij→Prop},(∀ pl σ',Q pl σ'→Q' pl σ')→EvsP K ρ args σ Q→EvsP K ρ args σ Q'
 | [],σ,Q,Q',k,h=>k _ _ h
 | e :: r,σ,Q,Q',k,h=>EvP.mono h fun v σ' q=>EvsP.mono (fun pl σ''=>k _ _) q
structure oW (T:String) (name:Str) (id:String):Prop where
 pa:PlainAttrs T
 slot:PySem.Slot T name id
 ty:typeOf (.builtin id)=pure (.type "method_descriptor")
inductive TyOf (σ:ij):V→String→Prop where
 | str (x:List Nat):TyOf σ (.str x) "str"
 | int (i:Int):TyOf σ (.int i) "int"
 | lstO {a:Addr} {vs:List V} (h:σ a=some (.list vs)):TyOf σ (.loc a) "list"
theorem TyOf.at {pv:V} {T:String} (h:TyOf σ pv T) {s:Shared} {v:Value} (hi:Inv σ s) (hr:Rel σ s.heap v pv):s.TypeIs v T∧∀ a,v=.ref a→∃ ob,s.heap.get? a=some ob∧ob.dict=none:=by
 revert hr
 cases h with
 | str x=>intro hr;obtain ⟨_,rfl⟩:=Rel.inv hr;exact ⟨typeIs_str _ _ _,fun a e=>by cases e⟩
 | int i=>intro hr;obtain ⟨_,rfl⟩:=Rel.inv hr;exact ⟨typeIs_int _ _ _,fun a e=>by cases e⟩
 | lstO h=>
  intro hr
  obtain rfl:=Rel.inv hr
  walk_at "u"; obtain ⟨items,n,ho,_⟩:=(hi.own _ _ h).2;walk_at "v"
  exact ⟨⟨_,ho,rfl⟩,fun a e=>by cases e;exact ⟨_,ho,rfl⟩⟩
theorem CI {T id:String} {o:Expr} {name:Str} {apos pos:Pos} {args:List Expr} {Q:V→ij→Prop} (m:oW T name id)
  (h:EvP K ρ σ o (fun ov σ₁=>TyOf σ₁ ov T∧EvsP K ρ args σ₁ (fun pl σ₂=>CallV K.d (.raw (.builtin id)) (ov :: pl) σ₂ Q)))
  (hbase:autoParam (∀ env,attributeBase o name env (eval o env)=eval o env) aI)
  (hfew:autoParam (∀ env,((backTo pos (starEach args env)).all (fun x=>!x.1) && (backToKw pos (keywordEach [] env)).all (fun x=>x.1.isSome)
   && decide (args.length + ([]:List Keyword).length + (if ([]:List Keyword).isEmpty then 0 else 1) < 30))=true) aI)
  (hline:autoParam ((apos.endLine == pos.line)=true) aR)
  (hse:autoParam (∀ env,backTo pos (starEach args env)=args.map fun e=>(false,eval e env)) aI):EvP K ρ σ (.Call (.Attribute o name apos) args [] pos) Q:=fun A env s ha hr hi QM hq=>
 wpAny_Call_method (hbase env) (hfew env) hline m.pa m.slot m.ty (h A env s ha hr hi _ fun v pv σ₁ s₁ h₁ i₁ e₁ r₁=>by
  refine bc fun hbc=>?_
  obtain ⟨t,h₁⟩:=h₁
  obtain ⟨t1,t2⟩:=t.at i₁ r₁
  refine hbc ?_
  clear hbc
  refine ⟨t1,t2,?_⟩
  refine lg (fv:=.raw (.builtin id)) (pre:=[pv]) (hse env) ?_ ha (hr.mono e₁) i₁ (.raw _) (.cons r₁ .nil) fun v pv σ₂ s₂ q i₂ e₂ r₂=>hq v pv σ₂ s₂ q i₂ (e₁.trans e₂) r₂
  exact EvsP.mono (fun pl σ' q=>⟨keep_builtin,q⟩) h₁)
end
end Internal
end
section
open PySem PySem.W PyProof.Rows PySem.Calls
namespace Internal
section
variable {K:Kx} {ρ:Fm} {σ:ij} {d:Nat} {Q:V→ij→Prop}
theorem Inv.new {s s':Shared} {a:Addr} {p:PObj} (i:Inv σ s) (hn:s.heap.get? a=none) (lo:C.h1.objs.size≤a) (hs:∀ b o,s.heap.get? b=some o→s'.heap.get? b=some o)
  (hp:jj (upd σ a (some p)) s'.heap a p) (hg:s'.gens=s.gens) (ho:s'.os=s.os):Inv (upd σ a (some p)) s'∧Ext σ s.heap (upd σ a (some p)) s'.heap:=by
 have ne:∀ b o,s.heap.get? b=some o→b≠a:=fun b o g q=>by rw [q,hn] at g;cases g
 have na:=i.off hn
 have E:Ext σ s.heap (upd σ a (some p)) s'.heap:=⟨fun b o g _ _=>hs b o g,fun b o g hb _=>by rw [ir σ _ (ne b o g)];exact hb,fun c v hc=>⟨v,by
  rw [ir σ _ (fun q=>by rw [q,na] at hc;cases hc)];exact hc⟩⟩
 refine ⟨i.step E (fun b q hb=>?_) (fun n hn o g=>hs _ o g) hg ho,E⟩
 by_cases hba:b=a
 ·subst hba
  (rw [ik] at hb;cases hb)
  exact .inr ⟨lo,hp⟩
 ·rw [ir σ _ hba] at hb
  exact .inl ⟨hb,fun o g=>hs b o g⟩
inductive LV (σ:ij):V→List V→Prop where
 | fr (vs:List V):LV σ (.lst vs) vs
 | ow {a:Addr} {vs:List V} (h:σ a=some (.list vs)):LV σ (.loc a) vs
theorem LV.at {pv:V} {vs:List V} (h:LV σ pv vs) {s:Shared} {v:Value} (hi:Inv σ s) (hr:Rel σ s.heap v pv):∃ a items n,v=.ref a∧s.heap.get? a=some (lstO items n)∧iF σ s.heap items.toList vs:=by
 revert hr
 cases h with
 | fr=>exact fun hr=>by obtain ⟨_,_,_,e,ho,_,_,hrs⟩:=hr.inv;exact ⟨_,_,_,e,ho,hrs⟩
 | ow h=>exact fun hr=>by obtain ⟨_,_,ho,hrs⟩:=(hi.own _ _ h).2;exact ⟨_,_,_,hr.inv,ho,hrs⟩
theorem pR {s:Shared} {items:List Value} {n:Nat} {vs:List V} (hi:Inv σ s) (hr:iF σ s.heap items vs) {a:Addr} {h':Heap} (hn:s.heap.get? a=none) (lo:C.h1.objs.size≤a) (hs:∀ b o,s.heap.get? b=some o→h'.get? b=some o)
  (ho:h'.get? a=some (lstO items.toArray n)):Rel σ h' (.ref a) (.lst vs):=.lst ho (hi.off hn) (hi.notTab lo) (hr.mono (Ext.grow hs).seq)
theorem xH {s:Shared} {items:List Value} {n:Nat} {vs:List V} (hi:Inv σ s) (hr:iF σ s.heap items vs) {a:Addr} {h':Heap} (hn:s.heap.get? a=none) (lo:C.h1.objs.size≤a) (hs:∀ b o,s.heap.get? b=some o→h'.get? b=some o)
  (ho:h'.get? a=some (ze items.toArray n)):Rel σ h' (.ref a) (.tup vs):=.tup ho (hi.off hn) (hi.notTab lo) (hr.mono (Ext.grow hs).seq)
theorem kH {h:Heap} {vs:List Value} {a:V} (hr:iF σ h vs [a]):∃ x,vs=[x]∧Rel σ h x a:=by
 walk_at "u"; obtain ⟨x,l,rfl,hv,hl⟩:=hr.inv;walk_at "v"
 exact ⟨x,congrArg _ hl.inv,hv⟩
theorem mH {h:Heap} {vs:List Value} {a b:V} (hr:iF σ h vs [a,b]):∃ x y,vs=[x,y]∧Rel σ h x a∧Rel σ h y b:=by
 refine bc fun hbc=>?_
 obtain ⟨x,l,rfl,hv,hl⟩:=hr.inv
 obtain ⟨y,e,hy⟩:=kH hl
 refine hbc ?_
 clear hbc
 exact ⟨x,y,congrArg _ e,hv,hy⟩
theorem bi_len_list {a:V} {vs:List V} (h:LV σ a vs) (hn:vs.length < 2 ^ 24) (q:Q (.int vs.length) σ):CallV d (.raw (.builtin "len")) [a] σ Q:=fun A s f l ha hi hf hr QM hq=>by
 refine bc fun hbc=>?_
 obtain ⟨x,rfl,hx⟩:=kH hr
 obtain ⟨_,rfl⟩:=Rel.inv hf
 obtain ⟨b,items,n,rfl,ho,hrs⟩:=h.at hi hx
 refine hbc ?_
 clear hbc
 have e:items.size=vs.length:=by rw [← hrs.length];simp
 exact call_len_list ⟨_,ho,rfl,_,rfl⟩ (by rw [e];lia) (hq _ _ _ _ q hi.toks .refl (by rw [e];exact .int _ _))
theorem bi_len_str {x:List Nat} (hn:x.length < 2 ^ 25) (q:Q (.int x.length) σ):CallV d (.raw (.builtin "len")) [.str x] σ Q:=fun A s f l ha hi hf hr QM hq=>by
 walk_at "u"; obtain ⟨y,eq0,hx⟩:=kH hr;walk_at "v"
 subst eq0
 obtain ⟨_,rfl⟩:=Rel.inv hf;obtain ⟨_,rfl⟩:=Rel.inv hx
 exact P.len_str (by show ¬ ((x.toArray.size:Int) ≥ 2 ^ 63);simp;lia) (hq _ _ _ _ q hi.toks .refl (by show Rel _ _ (.int (x.toArray.size:Nat) _) _;simpa using Rel.int _ _))
theorem bi_divmod {a b:Int} (hb:b≠0) (hp:Builtin.divisionGoesByPylong a b=false) (q:Q (.tup [.int (a.fdiv b),.int (a.fmod b)]) σ):CallV d (.raw (.builtin "divmod")) [.int a,.int b] σ Q:=fun A s f l ha hi hf hr QM hq=>by
 walk_at "u"; obtain ⟨x,y,rfl,hx,hy⟩:=mH hr;walk_at "v"
 obtain ⟨_,rfl⟩:=Rel.inv hf;obtain ⟨_,rfl⟩:=Rel.inv hx;obtain ⟨_,rfl⟩:=Rel.inv hy
 have g:∀ o b o',s.heap.get? b=some o'→(s.heap.push o).get? b=some o':=fun o b o' e=>Heap.get?_push_of_some _ e
 exact divmod_int hb (hq _ _ _ _ q (hi.grow (s':={ s with heap:=_,toks:=_ }) (g _) rfl rfl) (Ext.grow (g _))
  (xH hi (.cons (.int _ _) (.cons (.int _ _) .nil)) (get?_ge (av _)) hi.size (g _) (Heap.get?_push_size _ rfl))) (.inl hp)
theorem bi_ord {c:Nat} (q:Q (.int c) σ):CallV d (.raw (.builtin "ord")) [.str [c]] σ Q:=fun A s f l ha hi hf hr QM hq=>by
 walk_at "u"; obtain ⟨x,eq0,hx⟩:=kH hr;walk_at "v"
 subst eq0
 obtain ⟨_,rfl⟩:=Rel.inv hf;obtain ⟨_,rfl⟩:=Rel.inv hx
 exact P.ord_of_char (hq _ _ _ _ q hi.toks .refl (.int _ _))
theorem bi_chr {c:Nat} (hc:c≤1114111) (q:Q (.str [c]) σ):CallV d (.raw (.builtin "chr")) [.int c] σ Q:=fun A s f l ha hi hf hr QM hq=>by
 walk_at "u"; obtain ⟨x,eq0,hx⟩:=kH hr;walk_at "v"
 subst eq0
 obtain ⟨_,rfl⟩:=Rel.inv hf;obtain ⟨_,rfl⟩:=Rel.inv hx
 exact chr_of_range (by walk_at "l") (by lia) (hq _ _ _ _ q hi.toks .refl (.str [c] _))
theorem xU {h:Heap}:∀ {items:List Value} {xs:List Int},iF σ h items (xs.map V.int)→∃ ts:List (Int×Tok),items=ts.map (fun p=>.int p.1 p.2)∧ts.map (·.1)=xs:=by
 intro items xs
 induction xs generalizing items with
 | nil=>intro h;exact ⟨[],h.inv,rfl⟩
 | cons x xs ih=>
  intro h
  refine bc fun hbc=>?_
  obtain ⟨v,l,eq0,hv,hl⟩:=h.inv
  obtain ⟨ts,eq1,eq2⟩:=ih hl
  obtain ⟨t,eq3⟩:=hv.inv
  refine hbc ?_
  clear hbc
  subst eq0 eq1 eq2 eq3
  exact ⟨(x,t) :: ts,rfl,rfl⟩
end
end Internal
end
section
open PySem PySem.W PyProof.Rows PySem.Calls
namespace Internal
section
variable {K:Kx} {ρ:Fm} {σ:ij} {d:Nat} {Q:V→ij→Prop}
theorem bi_range1 {n:Int} (q:Q (.rng 0 n 1) σ):CallV d (.raw (.type "range")) [.int n] σ Q:=fun A s f l ha hi hf hr QM hq=>by
 walk_at "u"; obtain ⟨x,eq0,hx⟩:=kH hr;walk_at "v"
 subst eq0
 obtain ⟨_,rfl⟩:=Rel.inv hf;obtain ⟨_,rfl⟩:=Rel.inv hx
 have g:∀ o b o',s.heap.get? b=some o'→(s.heap.push o).get? b=some o':=fun o b o' e=>Heap.get?_push_of_some _ e
 exact call_range_1 (hq _ _ _ _ q (hi.grow (s':={ s with heap:=_,toks:=_ }) (g _) rfl rfl) (Ext.grow (g _)) (.rng (Heap.get?_push_size _ rfl) (hi.off (get?_ge (av _))) (hi.notTab hi.size)))
theorem bi_range2 {a b:Int} (q:Q (.rng a b 1) σ):CallV d (.raw (.type "range")) [.int a,.int b] σ Q:=fun A s f l ha hi hf hr QM hq=>by
 walk_at "u"; obtain ⟨x,y,eq0,hx,hy⟩:=mH hr;walk_at "v"
 subst eq0
 obtain ⟨_,rfl⟩:=Rel.inv hf;obtain ⟨_,rfl⟩:=Rel.inv hx;obtain ⟨_,rfl⟩:=Rel.inv hy
 have g:∀ o b o',s.heap.get? b=some o'→(s.heap.push o).get? b=some o':=fun o b o' e=>Heap.get?_push_of_some _ e
 exact call_range_2 (hq _ _ _ _ q (hi.grow (s':={ s with heap:=_,toks:=_ }) (g _) rfl rfl) (Ext.grow (g _)) (.rng (Heap.get?_push_size _ rfl) (hi.off (get?_ge (av _))) (hi.notTab hi.size)))
theorem bi_sum {a:V} {xs:List Int} (h:LV σ a (xs.map V.int)) (q:Q (.int xs.sum) σ):CallV d (.raw (.builtin "sum")) [a] σ Q:=fun A s f l ha hi hf hr QM hq=>by
 refine bc fun hbc=>?_
 obtain ⟨x,eq0,hx⟩:=kH hr
 obtain ⟨_,rfl⟩:=Rel.inv hf
 obtain ⟨b,items,n,eq1,ho,hrs⟩:=h.at hi hx
 obtain ⟨ts,he,eq2⟩:=xU hrs
 refine hbc ?_
 clear hbc
 subst eq0 eq1 eq2
 have hl:s.heap.IsList b (intItems ts.toArray):=⟨_,ho,rfl,n,by show Data.seq items n=_;rw [show items=intItems ts.toArray from by rw [← Array.toList_inj,he];simp [intItems]]⟩
 refine sum_intListG ha.1 hl fun h' tk t' g=>hq _ _ _ _ q (hi.grow (s':={ s with heap:=h',toks:=tk }) g rfl rfl) (Ext.grow g) ?_
 have e:preSum (numAt ts.toArray) ts.toArray.size=(ts.map (·.1)).sum:=by rw [preSum_eq,aG (by simp)]
 rw [e];exact .int _ _
theorem ED {a:V} {xs:List Int} {m:Int} (h:LV σ a (xs.map V.int)) (hm:m∈xs) (hle:∀ y∈xs,y≤m) (q:Q (.int m) σ):CallV d (.raw (.builtin "max")) [a] σ Q:=fun A s f l ha hi hf hr QM hq=>by
 refine bc fun hbc=>?_
 obtain ⟨x,eq0,hx⟩:=kH hr
 obtain ⟨_,rfl⟩:=Rel.inv hf
 obtain ⟨b,items,n,eq1,ho,hrs⟩:=h.at hi hx
 obtain ⟨ts,he,eq2⟩:=xU hrs
 refine hbc ?_
 clear hbc
 subst eq0 eq1 eq2
 have hl:s.heap.IsList b (intItems ts.toArray):=⟨_,ho,rfl,n,by show Data.seq items n=_;rw [show items=intItems ts.toArray from by rw [← Array.toList_inj,he];simp [intItems]]⟩
 have hpos:0 < ts.length:=by
  cases ts with
  | nil=>simp at hm
  | cons=>simp
 refine max_intList ha.1 hl (by simpa using hpos) fun v h' tk hv g=>?_
 refine bc fun hbc=>?_
 obtain ⟨t,eq0⟩:=intItems_at hv
 obtain ⟨b1,b2⟩:=argBest_gt (numAt ts.toArray) (ts.toArray.size - 1)
 refine hbc ?_
 clear hbc
 subst eq0
 have e:numAt ts.toArray (argBest (fun i j=>decide (numAt ts.toArray i > numAt ts.toArray j)) (ts.toArray.size - 1))=m:=by
  refine gR ?_ ?_
  ·generalize hk:argBest (fun i j=>decide (numAt ts.toArray i > numAt ts.toArray j)) (ts.toArray.size - 1)=k at b1 hv ⊢
   have hk':k < ts.length:=by simp at b1;lia
   refine hle _ (aA.mpr ⟨ts[k],bq hk',?_⟩)
   simp [numAt,hk']
  ·refine bc fun hbc=>?_
   obtain ⟨p,hp,eq0⟩:=aA.mp hm
   obtain ⟨k,hk,eq1⟩:=gb hp
   refine hbc ?_
   clear hbc
   subst eq0 eq1
   have:=b2 k (by simp;lia)
   have e2:numAt ts.toArray k=ts[k].1:=by simp [numAt,hk]
   rw [e2] at this
   exact this
 rw [e]
 exact hq _ _ _ _ q (hi.grow (s':={ s with heap:=h',toks:=tk }) g rfl rfl) (Ext.grow g) (.int _ _)
theorem mG {h:Heap} {items:List Value}:∀ {vs:List V},items.length=vs.length→(∀ (j:Nat) (v:Value) (pv:V),items[j]?=some v→vs[j]?=some pv→Rel σ h v pv)→iF σ h items vs:=by
 induction items with
 | nil=>intro vs hl _;cases vs<;>first | exact .nil | simp at hl
 | cons x xs ih=>
  intro vs hl h
  cases vs with
  | nil=>simp at hl
  | cons y ys=>exact .cons (h 0 x y rfl rfl) (ih (by simpa using hl) fun j v pv e1 e2=>h (j + 1) v pv (by simpa using e1) (by simpa using e2))
set_option tactic.hygienic true in
theorem uO {x:List Nat} (hx:x.length≤2 ^ 24) (q:∀ a,σ a=none→Q (.loc a) (upd σ a (some (.list (x.map fun c=>.str [c]))))):CallV d (.raw (.type "list")) [.str x] σ Q:=fun A s f l ha hi hf hr QM hq=>by
 walk_at "u"; obtain ⟨y,eq0,hy⟩:=kH hr;walk_at "v"
 subst eq0
 obtain ⟨_,rfl⟩:=Rel.inv hf;obtain ⟨_,rfl⟩:=Rel.inv hy
 rename_i t
 have hn:=get?_ge (av s.heap.objs.size)
 refine call_list_str ha.1 ⟨x.toArray⟩ t (fun h' tk acc c' g ho hit=>?_) (by show x.toArray.size≤2 ^ 24;simpa using hx)
 have hrs:iF σ s.heap acc.toList (x.map fun c=>V.str [c]):=by
  refine mG ?_ fun j v pv e1 e2=>?_
  ·have:=hit.1;simp at this;simp [this]
  ·obtain ⟨c,u,ec,rfl⟩:=hit.2 j v (by rw [← Array.getElem?_toList];exact e1)
   have:x[j]?=some c:=by simpa using ec
   rw [aN,this] at e2
   cases e2
   exact .str [c] u
 have:=hi.new (s':={ s with heap:=h',toks:=tk }) hn hi.size g (p:=.list (x.map fun c=>V.str [c])) ⟨acc,c',ho,hrs.mono ⟨fun b o e _ _ _=>g b o e,fun b o e _ hb _=>by
  rw [ir σ _ (fun z=>by rw [z,hn] at e;cases e)];exact hb⟩⟩ rfl rfl
 exact hq _ _ _ _ (q _ (hi.off hn)) this.1 this.2 (.loc _)
theorem vP {a b c:Int} {n:Nat} (hs:Builtin.Range.small a b c=true) (hn:Builtin.Range.rangeSize a b c=n) (hlen:n≤2 ^ 24) (q:Q (.lst ((aT n).map fun i:Nat=>V.int (a + i * c))) σ):CallV d (.raw (.type "list")) [.rng a b c] σ Q:=fun A s f l ha hi hf hr QM hq=>by
 walk_at "u"; obtain ⟨y,eq0,hy⟩:=kH hr;walk_at "v"
 subst eq0
 obtain rfl:=Rel.inv hf
 walk_at "u"; obtain ⟨ad,t,u,v,e₀,ho,hσ,ht⟩:=Rel.inv hy;walk_at "v"
 subst e₀
 have hnn:=get?_ge (av s.heap.objs.size)
 refine call_list_range ha.1 ho hs hn hlen fun h' tk acc c' g hS hit=>?_
 have hrs:iF σ s.heap acc.toList ((aT n).map fun i:Nat=>V.int (a + i * c)):=by
  refine mG ?_ fun j v pv e1 e2=>?_
  ·have:=hit.1;simp [this]
  ·obtain ⟨u,rfl⟩:=hit.2 j v (by rw [← Array.getElem?_toList];exact e1)
   have hj:j < n:=by
    rcases aZ j n with h | h
    ·exact h
    ·exact absurd ((bd (by simpa using h)).symm.trans e2).symm (al _)
   rw [aN,bO hj] at e2
   cases e2
   exact .int _ _
 exact hq _ _ _ _ q (hi.grow (s':={ s with heap:=h',toks:=tk }) g rfl rfl) (Ext.grow g) (pR hi hrs hnn hi.size g hS)
theorem meth_append:oW "list" "append" "list.append" := ⟨F.plainAttrs_list,F.slot_list_append,F.type_list_append⟩
theorem meth_pop:oW "list" "pop" "list.pop" := ⟨F.plainAttrs_list,F.slot_list_pop,F.type_list_pop⟩
theorem meth_reverse:oW "list" "reverse" "list.reverse" := ⟨F.plainAttrs_list,F.slot_list_reverse,F.type_list_reverse⟩
theorem meth_join:oW "str" "join" "str.join" := ⟨F.plainAttrs_str,F.slot_str_join,F.type_str_join⟩
theorem meth_find:oW "str" "find" "str.find" := ⟨F.plainAttrs_str,F.slot_str_find,F.type_str_find⟩
theorem meth_count:oW "str" "count" "str.count" := ⟨F.plainAttrs_str,F.slot_str_count,F.type_str_count⟩
theorem meth_lower:oW "str" "lower" "str.lower" := ⟨F.plainAttrs_str,F.slot_str_lower,F.type_str_lower⟩
theorem meth_lstrip:oW "str" "lstrip" "str.lstrip" := ⟨F.plainAttrs_str,F.slot_str_lstrip,F.type_str_lstrip⟩
theorem lU {s:Shared} {a:Addr} {vs vs':List V} {items':Array Value} {n' tk:Nat} {h':Heap} (hi:Inv σ s) (hs:σ a=some (.list vs)) (hsb:∀ b o,b≠a→s.heap.get? b=some o→h'.get? b=some o)
  (ho:h'.get? a=some (lstO items' n')) (hrs:iF σ s.heap items'.toList vs'):
  Inv (upd σ a (some (.list vs'))) { s with heap:=h',toks:=tk }∧Ext σ s.heap (upd σ a (some (.list vs'))) h':=
 hi.set (s':={ s with heap:=h',toks:=tk }) hs hsb (fun v e=>by cases e) ⟨items',n',ho,hrs.mono ⟨fun b o e _ hb _=>hsb b o (fun z=>by rw [z,hs] at hb;cases hb) e,fun b o e _ hb _=>by
  rw [ir σ _ (fun z=>by rw [z,hs] at hb;cases hb)];exact hb⟩⟩ rfl rfl
theorem bi_append {a:Addr} {vs:List V} {x:V} (hs:σ a=some (.list vs)) (hl:vs.length < 2 ^ 24) (q:Q .none (upd σ a (some (.list (vs++[x]))))):CallV d (.raw (.builtin "list.append")) [.loc a,x] σ Q:=fun A s f l ha hi hf hr QM hq=>by
 refine bc fun hbc=>?_
 obtain ⟨y,z,eq0,hy,hz⟩:=mH hr
 obtain ⟨_,rfl⟩:=Rel.inv hf;obtain ⟨_,rfl⟩:=Rel.inv hy
 obtain ⟨items,n,ho,hrs⟩:=(hi.own _ _ hs).2
 refine hbc ?_
 clear hbc
 subst eq0
 have hsz:items.size≤2 ^ 24:=by have:=hrs.length;simp at this;walk_at "l"
 refine append_at ho (fun h' sb ho'=>?_) hsz
 walk_at "u"; obtain ⟨i',e'⟩:=lU (tk:=s.toks) hi hs sb.extBut ho' (vs':=vs++[x]) (by simpa using hrs.append (.cons hz .nil));walk_at "v"
 exact hq _ _ _ _ q i' e' .none
theorem yg {a:Addr} {x:V} {vs:List V} (hs:σ a=some (.list (x :: vs))) (hl:vs.length < 2 ^ 24) (q:Q x (upd σ a (some (.list vs)))):CallV d (.raw (.builtin "list.pop")) [.loc a,.int 0] σ Q:=fun A s f l ha hi hf hr QM hq=>by
 walk_at "u"; obtain ⟨y,z,eq0,hy,hz⟩:=mH hr;walk_at "v"
 subst eq0
 obtain ⟨_,rfl⟩:=Rel.inv hf;obtain ⟨_,rfl⟩:=Rel.inv hy;obtain ⟨_,rfl⟩:=Rel.inv hz
 refine bc fun hbc=>?_
 obtain ⟨items,n,ho,hrs⟩:=(hi.own _ _ hs).2
 obtain ⟨items⟩:=items
 obtain ⟨v,l,e₀,hv,hr2⟩:=hrs.inv
 refine hbc ?_
 clear hbc
 clear hrs
 dsimp only at e₀
 subst e₀
 have hsz:l.length + 1≤2 ^ 24:=by have:=hr2.length;lia
 refine call_meets F.slot_list_pop ⟨_,ho,rfl⟩ F.entry_list_pop (F.args_list_pop_2 _ _) (MeetsSeq.list_pop_at a ⟨v :: l⟩ n 0 _ 0 v (by decide) (by simp [seqIndex?]) rfl (by show l.length + 1≤2 ^ 24;exact hsz)) ⟨ho,?_⟩
 have hu:IsL (s.heap.update a (Obj.mapSeq fun xs=>xs.eraseIdxIfInBounds 0)) a _ _:=IsL.update ho _
 have e0:((⟨v :: l⟩:Array Value).eraseIdxIfInBounds 0).toList=l:=by simp
 obtain ⟨i',e'⟩:=lU (tk:=s.toks) hi hs (Heap.SameBut.update s.heap a _).extBut hu (vs':=vs) (by rw [e0];exact hr2)
 exact hq v x _ { s with heap:=_ } q i' e' (hv.mono e'.seq)
theorem wU {a:Addr} {vs:List V} (hs:σ a=some (.list vs)) (hl:vs.length≤2 ^ 24) (q:Q .none (upd σ a (some (.list vs.reverse)))):CallV d (.raw (.builtin "list.reverse")) [.loc a] σ Q:=fun A s f l ha hi hf hr QM hq=>by
 refine bc fun hbc=>?_
 obtain ⟨y,eq0,hy⟩:=kH hr
 obtain ⟨_,rfl⟩:=Rel.inv hf;obtain ⟨_,rfl⟩:=Rel.inv hy
 obtain ⟨items,n,ho,hrs⟩:=(hi.own _ _ hs).2
 refine hbc ?_
 clear hbc
 subst eq0
 have hsz:items.size≤2 ^ 24:=by have:=hrs.length;simp at this;walk_at "l"
 refine call_meets F.slot_list_reverse ⟨_,ho,rfl⟩ F.entry_list_reverse (F.args_list_reverse_1 _) (AutoSeq1.list_reverse_list_0 a items n hsz) ⟨ho,?_⟩
 have hu:IsL (s.heap.update a (Obj.mapSeq fun x=>x.reverse)) a _ _:=IsL.update ho _
 have hrev:∀ {l:List Value} {pl:List V},iF σ s.heap l pl→iF σ s.heap l.reverse pl.reverse:=by
  intro l
  induction l with
  | nil=>intro pl h;cases h;exact .nil
  | cons v l ih=>intro pl h;cases h with | cons hv hl=>simpa using (ih hl).append (.cons hv .nil)
 walk_at "u"; obtain ⟨i',e'⟩:=lU (tk:=s.toks) hi hs (Heap.SameBut.update s.heap a _).extBut hu (vs':=vs.reverse) (by simpa using hrev hrs);walk_at "v"
 exact hq _ _ _ { s with heap:=_ } q i' e' .none
theorem Bo {h:Heap}:∀ {items:List Value} {xs:List (List Nat)},iF σ h items (xs.map V.str)→∃ ts:List (Str×Tok),items=strValues ts∧ts.map (fun p=>p.1.cps.toList)=xs:=by
 intro items xs
 induction xs generalizing items with
 | nil=>intro h;exact ⟨[],h.inv,rfl⟩
 | cons x xs ih=>
  intro h
  refine bc fun hbc=>?_
  obtain ⟨v,l,eq0,hv,hl⟩:=h.inv
  obtain ⟨ts,eq1,eq2⟩:=ih hl
  obtain ⟨t,eq3⟩:=hv.inv
  refine hbc ?_
  clear hbc
  subst eq0 eq1 eq2 eq3
  exact ⟨(⟨x.toArray⟩,t) :: ts,rfl,rfl⟩
theorem nT {a:V} {xs:List (List Nat)} (h:LV σ a (xs.map V.str)) (hl:xs.flatten.length≤2 ^ 24) (q:Q (.str xs.flatten) σ):CallV d (.raw (.builtin "str.join")) [.str [],a] σ Q:=fun A s f l ha hi hf hr QM hq=>by
 refine bc fun hbc=>?_
 obtain ⟨y,z,eq0,hy,hz⟩:=mH hr
 obtain ⟨_,rfl⟩:=Rel.inv hf;obtain ⟨_,rfl⟩:=Rel.inv hy
 obtain ⟨b,items,n,eq1,ho,hrs⟩:=h.at hi hz
 obtain ⟨ts,he,eq2⟩:=Bo hrs
 refine hbc ?_
 clear hbc
 subst eq0 eq1 eq2
 have hlist:s.heap.IsList b (strValues ts).toArray:=⟨_,ho,rfl,n,by rw [← he]⟩
 have hlen:∀ (l:List (Str×Tok)) (k:Nat),(l.map (·.1)).foldl (fun (a:Nat) (x:Str)=>a + x.length + (Str.mk #[]).length) k=k + (l.map (fun p=>p.1.cps.toList)).flatten.length:=by
  intro l
  induction l with
  | nil=>intro k;rfl
  | cons p l ih=>
   intro k
   rw [be,gH,ih]
   simp only [be,bT,af]
   have e0:(Str.mk #[]).length=0:=rfl
   have e1:p.1.length=p.1.cps.toList.length:=by simp [PySem.Str.length]
   rw [e0,e1,cJ,bN]
 have hg:∀ (l:List Str) (a:Array Nat),(l.foldl (fun acc p=>acc++p.cps) a).toList=a.toList++(l.map (fun p=>p.cps.toList)).flatten:=by
  intro l
  induction l with
  | nil=>intro a;simp
  | cons p l ih=>intro a;rw [gH,ih];simp
 have hglue:∀ l:List (Str×Tok),(Builtin.Str.glued ⟨#[]⟩ (l.map (·.1))).cps.toList=(l.map (fun p=>p.1.cps.toList)).flatten:=by
  intro l
  unfold Builtin.Str.glued
  cases l with
  | nil=>rfl
  | cons p l=>
   simp only [Array.append_empty,be,dJ,eA,List.headD_cons,hg,bT,b0,Function.comp_def]
 refine call_meets F.slot_str_join (typeIs_str _ _ _) F.entry_str_join (F.args_str_join_2 _ _) (meets_str_join_list ⟨#[]⟩ _ b ts ?_) ⟨hlist,?_⟩
 ·have:=hlen ts 0
  rw [← Array.foldl_toList,List.toList_toArray]
  unfold Builtin.Str.tooLong
  rw [this]
  simp only [dq,decide_eq_false_iff_not,b7,gt_iff_lt]
  exact hl
 ·have fin:∀ l:List (Str×Tok),(l.map (fun p=>p.1.cps.toList)).flatten=(ts.map (fun p=>p.1.cps.toList)).flatten→(∀ x t tk,x.cps.toList=(ts.map (fun p=>p.1.cps.toList)).flatten→QM (.str x t) { s with toks:=tk })→(joinMade ⟨#[]⟩ l).post (fun v s'=>wants QM Bot (.ok (.ret v)) s') s:=by
   intro l hf hq'
   have big:(Made.str (Builtin.Str.glued ⟨#[]⟩ (l.map (·.1)))).post (fun v s'=>wants QM Bot (.ok (.ret v)) s') s:=by
    refine ⟨?_,hq' _ _ _ ((hglue l).trans hf)⟩
    show (Builtin.Str.glued ⟨#[]⟩ (l.map (·.1))).cps.size≤2 ^ 24
    rw [← Array.length_toList,hglue l,hf];exact hl
   match l,hf,big with
   | [p],hf,_=>exact hq' p.1 p.2 s.toks (by simpa using hf)
   | [],_,big=>exact big
   | _ :: _ :: _,_,big=>exact big
  exact fin ts rfl fun x t tk e=>hq _ _ _ _ q hi.toks .refl (.strOf e)
theorem bi_find {x y:List Nat} (q:Q (.int (Txt.find ⟨x.toArray⟩ ⟨y.toArray⟩)) σ):CallV d (.raw (.builtin "str.find")) [.str x,.str y] σ Q:=fun A s f l ha hi hf hr QM hq=>by
 walk_at "u"; obtain ⟨y,z,eq0,hy,hz⟩:=mH hr;walk_at "v"
 subst eq0
 obtain ⟨_,rfl⟩:=Rel.inv hf;obtain ⟨_,rfl⟩:=Rel.inv hy;cases hz
 exact SC.find (hq _ _ _ _ q hi.toks .refl (.int _ _))
theorem bi_count {x y:List Nat} (q:Q (.int (Txt.count ⟨x.toArray⟩ ⟨y.toArray⟩)) σ):CallV d (.raw (.builtin "str.count")) [.str x,.str y] σ Q:=fun A s f l ha hi hf hr QM hq=>by
 walk_at "u"; obtain ⟨y,z,eq0,hy,hz⟩:=mH hr;walk_at "v"
 subst eq0
 obtain ⟨_,rfl⟩:=Rel.inv hf;obtain ⟨_,rfl⟩:=Rel.inv hy;cases hz
 exact SC.count (hq _ _ _ _ q hi.toks .refl (.int _ _))
theorem bi_lower {x:List Nat} (hl:x.length≤5592405) (q:Q (.str (Txt.lower ⟨x.toArray⟩).cps.toList) σ):CallV d (.raw (.builtin "str.lower")) [.str x] σ Q:=fun A s f l ha hi hf hr QM hq=>by
 walk_at "u"; obtain ⟨y,eq0,hy⟩:=kH hr;walk_at "v"
 subst eq0
 obtain ⟨_,rfl⟩:=Rel.inv hf;obtain ⟨_,rfl⟩:=Rel.inv hy
 exact PyProof.Rows.SCL.lower (by show x.toArray.size≤_;simpa using hl) fun _=>hq _ _ _ _ q hi.toks .refl (.strOf rfl)
theorem meth_bitlen:oW "int" "bit_length" "int.bit_length" := ⟨F.plainAttrs_int,slot_int_bit_length,type_int_bit_length⟩
theorem bi_bitlen {a:Int} (q:Q (.int (Builtin.Int.intBits a)) σ):CallV d (.raw (.builtin "int.bit_length")) [.int a] σ Q:=fun A s f l ha hi hf hr QM hq=>by
 walk_at "u"; obtain ⟨y,eq0,hy⟩:=kH hr;walk_at "v"
 subst eq0
 obtain ⟨_,rfl⟩:=Rel.inv hf;obtain ⟨_,rfl⟩:=Rel.inv hy
 exact call_int_bit_length (hq _ _ _ _ q hi.toks .refl (.int _ _))
end
end Internal
end
section
open PySem PySem.W PyProof.Rows PySem.Calls
namespace Internal
section
variable {K:Kx} {ρ:Fm} {σ:ij} {d:Nat} {Q:V→ij→Prop}
theorem tB {h:Heap} {items:List Value} {vs:List V} (r:iF σ h items vs) (hl:vs.length≤2 ^ 24):items.length≤sizeLine:=by rw [r.length];exact hl
theorem Az {elts:List Expr} {k:Nat} {pos:Pos} (h:EvsP K ρ elts σ (fun vs σ₁=>vs.length≤2 ^ 24∧Q (.tup vs) σ₁))
  (hse:autoParam (∀ env,backTo pos (starEach elts env)=elts.map fun e=>(false,eval e env)) aI):EvP K ρ σ (.Tuple elts k pos) Q:=fun A env s ha hr hi QM hq=>
 wpAny_Tuple (by
  rw [hse]
  refine jP ha h hr hi fun vs pl σ₁ s₁ h₁ i₁ e₁ r₁=>⟨tB r₁ h₁.1,?_⟩
  have g:∀ o b o',s₁.heap.get? b=some o'→(s₁.heap.push o).get? b=some o':=fun o b o' e=>Heap.get?_push_of_some _ e
  exact hq _ _ _ _ h₁.2 (i₁.grow (s':={ s₁ with heap:=_ }) (g _) rfl rfl) (e₁.trans (Ext.grow (g _))) (xH i₁ r₁ (get?_ge (av _)) i₁.size (g _) (Heap.get?_push_size _ rfl)))
theorem yc {elts:List Expr} {pos:Pos} (h:EvsP K ρ elts σ (fun vs σ₁=>vs.length≤2 ^ 24∧Q (.lst vs) σ₁))
  (hse:autoParam (∀ env,backTo pos (starEach elts env)=elts.map fun e=>(false,eval e env)) aI):EvP K ρ σ (.List elts pos) Q:=fun A env s ha hr hi QM hq=>
 wpAny_List (by
  rw [hse]
  refine jP ha h hr hi fun vs pl σ₁ s₁ h₁ i₁ e₁ r₁=>⟨tB r₁ h₁.1,?_⟩
  have g:∀ o b o',s₁.heap.get? b=some o'→(s₁.heap.push o).get? b=some o':=fun o b o' e=>Heap.get?_push_of_some _ e
  exact hq _ _ _ _ h₁.2 (i₁.grow (s':={ s₁ with heap:=_ }) (g _) rfl rfl) (e₁.trans (Ext.grow (g _))) (pR i₁ r₁ (get?_ge (av _)) i₁.size (g _) (Heap.get?_push_size _ rfl)))
theorem lc {elts:List Expr} {pos:Pos} (h:EvsP K ρ elts σ (fun vs σ₁=>vs.length≤2 ^ 24∧∀ a,σ₁ a=none→Q (.loc a) (upd σ₁ a (some (.list vs)))))
  (hse:autoParam (∀ env,backTo pos (starEach elts env)=elts.map fun e=>(false,eval e env)) aI):EvP K ρ σ (.List elts pos) Q:=fun A env s ha hr hi QM hq=>
 wpAny_List (by
  rw [hse]
  refine jP ha h hr hi fun vs pl σ₁ s₁ h₁ i₁ e₁ r₁=>⟨tB r₁ h₁.1,?_⟩
  have g:∀ o b o',s₁.heap.get? b=some o'→(s₁.heap.push o).get? b=some o':=fun o b o' e=>Heap.get?_push_of_some _ e
  have hn:=get?_ge (av s₁.heap.objs.size)
  have:=i₁.new (s':={ s₁ with heap:=s₁.heap.push (lstO vs.toArray 0) }) hn i₁.size (g _) (p:=.list pl) ⟨vs.toArray,0,Heap.get?_push_size _ rfl,by
   show iF _ _ vs pl
   exact r₁.mono ⟨fun b o e _ _ _=>g _ b o e,fun b o e _ hb _=>by rw [ir σ₁ _ (fun z=>by rw [z,hn] at e;cases e)];exact hb⟩⟩ rfl rfl
  exact hq _ _ _ _ (h₁.2 _ (i₁.off hn)) this.1 (e₁.trans this.2) (.loc _))
noncomputable def EvO (K:Kx) (ρ:Fm) (σ:ij):Option Expr→(V→ij→Prop)→Prop
 | none,Q=>Q .none σ
 | some e,Q=>EvP K ρ σ e Q
theorem Em {A:Around} {env:Env} {s:Shared} {e:Option Expr} (ha:AOk K.d A) (hr:Rep K env ρ σ s.heap) (hi:Inv σ s) (h:EvO K ρ σ e Q) {QM:Value→Shared→Prop}
  (hq:∀ v pv σ' s',Q pv σ'→Inv σ' s'→Ext σ s.heap σ' s'.heap→Rel σ' s'.heap v pv→QM v s'):wpAny (model C.prog C.w) A (evalPart e env) QM Bot s:=by
 cases e with
 | none=>exact wpAny_pure (hq _ _ _ _ h hi .refl .none)
 | some e=>exact h A env s ha hr hi QM hq
inductive mO:V→Option Int→Prop where
 | none:mO .none none
 | int (i:Int):mO (.int i) (some i)
theorem mO.at {pv:V} {p:Option Int} (x:mO pv p) {h:Heap} {v:Value} (r:Rel σ h v pv):∃ q:Option (Int×Tok),v=partValue q∧q.map (·.1)=p:=by
 revert r
 cases x with
 | none=>exact fun r=>⟨cT,r.inv,rfl⟩
 | int i=>exact fun r=>r.inv.elim fun t e=>⟨some (i,t),e,rfl⟩
theorem Eo {l u t:Option Expr} {p:Pos} (h:EvO K ρ σ l (fun a σ₁=>EvO K ρ σ₁ u (fun b σ₂=>EvO K ρ σ₂ t (fun c σ₃=>∃ lo hi st,mO a lo∧mO b hi∧mO c st∧Q (.slc lo hi st) σ₃)))):
  EvP K ρ σ (.Slice l u t p) Q:=fun A env s ha hr hi QM hq=>
 wpAny_Slice (Em ha hr hi h fun v₁ a σ₁ s₁ h₁ i₁ e₁ r₁=>Em ha (hr.mono e₁) i₁ h₁ fun v₂ b σ₂ s₂ h₂ i₂ e₂ r₂=>Em ha (hr.mono (e₁.trans e₂)) i₂ h₂ fun v₃ c σ₃ s₃ h₃ i₃ e₃ r₃=>by
  refine bc fun hbc=>?_
  obtain ⟨lo,hi',st,p1,p2,p3,q⟩:=h₃
  obtain ⟨q1,rfl,rfl⟩:=p1.at (r₁.mono (e₂.trans e₃).seq)
  obtain ⟨q2,rfl,rfl⟩:=p2.at (r₂.mono e₃.seq)
  obtain ⟨q3,rfl,rfl⟩:=p3.at r₃
  refine hbc ?_
  clear hbc
  have g:∀ o b o',s₃.heap.get? b=some o'→(s₃.heap.push o).get? b=some o':=fun o b o' e=>Heap.get?_push_of_some _ e
  exact hq _ _ _ _ q (i₃.grow (s':={ s₃ with heap:=_ }) (g _) rfl rfl) ((e₁.trans e₂).trans (e₃.trans (Ext.grow (g _)))) (.slc (Heap.get?_push_size _ rfl) (i₃.off (get?_ge (av _))) (i₃.notTab i₃.size)))
theorem DM {R:Sem Value→Prop} (slice:Expr) (o i:Value) (h:∀ l,R (operate l (getItem o i))):R (subscripted slice false o i):=by
 cases slice with
 | Slice l u s p=>
  cases s with
  | none=>exact h _
  | some _=>exact h _
 | _=>exact h _
noncomputable def SubTy (σ:ij) (pv:V):Prop:=∃ T id,typeLookup (.type T) "__getitem__" = pure (some (.builtin id))∧∀ (s:Shared) (v:Value),Inv σ s→Rel σ s.heap v pv→s.TypeIs v T
theorem sub_lst {pv:V} {vs:List V} (h:LV σ pv vs):SubTy σ pv:=⟨"list", _,F.slot_list_getitem.lookup,fun s v hi hr=>by
 obtain ⟨a,items,n,rfl,ho,_⟩:=h.at hi hr;exact ⟨_,ho,rfl⟩⟩
theorem sub_str {x:List Nat}:SubTy σ (.str x):=⟨"str", _,F.slot_str_getitem.lookup,fun s v hi hr=>by obtain ⟨_,rfl⟩:=Rel.inv hr;exact typeIs_str _ _ _⟩
theorem sub_tup {vs:List V}:SubTy σ (.tup vs):=⟨"tuple", _,F.slot_tuple_getitem.lookup,fun s v hi hr=>by cases hr with | tup ho=>exact ⟨_,ho,rfl⟩⟩
theorem En {value slice:Expr} {pos:Pos} (h:EvP K ρ σ value (fun o σ₁=>EvP K ρ σ₁ slice (fun i σ₂=>SubTy σ₂ o∧M2 K.d getItem o i σ₂ Q))):EvP K ρ σ (.Subscript value slice pos) Q:=fun A env s ha hr hi QM hq=>by
 rw [eval_Subscript]
 refine wpAny_bind (h A env s ha hr hi _ fun o po σ₁ s₁ h₁ i₁ e₁ r₁=>wpAny_bind (wpAny_holding (h₁ A env s₁ ha (hr.mono e₁) i₁ _ fun i pi σ₂ s₂ h₂ i₂ e₂ r₂=>wpAny_bind (wpAny_standAt ?_))))
 walk_at "u"; obtain ⟨⟨T,id,hl,hT⟩,g⟩:=h₂;walk_at "v"
 have hT':=hT s₂ o i₂ (r₁.mono e₂.seq)
 refine wpAny_bind ?_
 rw [getitemInPython_of_ne hT'.not_modules]
 refine wpAny_bind (wpAny_specialOf hT' hl ?_)
 refine wpAny_pure (wpAny_bind ?_)
 have fin:∀ l,wpAny (model C.prog C.w) A (operate l (getItem o i)) (fun r s₃=>wpAny (model C.prog C.w) A (letTemporaryGo value o r >>= fun _=>pure r) QM Bot s₃) Bot s₂:=fun l=>
  wpAny_operating (g A s₂ o i ha i₂ (r₁.mono e₂.seq) r₂ _ fun r pr σ₃ s₃ q i₃ e₃ r₃=>wpAny_bind (wpAny_letTemporaryGo (wpAny_pure (hq r pr σ₃ s₃ q i₃ ((e₁.trans e₂).trans e₃) r₃))))
 exact DM (R:=fun t=>wpAny (model C.prog C.w) A t _ _ _) slice o i fin
theorem Df {i:Int} {n:Nat} (h0:0≤i) (h:i.toNat < n):seqIndex? i n=some i.toNat:=by
 unfold seqIndex?
 have:¬ i < 0:=by lia
 simp [this];lia
theorem lx {pv:V} {vs:List V} {i:Int} {x:V} (h:LV σ pv vs) (h0:0≤i) (hx:vs[i.toNat]?=some x) (hl:vs.length < 2 ^ 25) (q:Q x σ):M2 d getItem pv (.int i) σ Q:=fun A s a b ha hi ra rb QM hq=>by
 refine bc fun hbc=>?_
 obtain ⟨l,items,n,rfl,ho,rs⟩:=h.at hi ra
 obtain ⟨_,rfl⟩:=Rel.inv rb
 obtain ⟨v,gv,rv⟩:=rs.get hx
 refine hbc ?_
 clear hbc
 have:i.toNat < vs.length:=by
  rcases aZ i.toNat vs.length with h | h
  ·exact h
  ·exact absurd ((bd h).symm.trans hx) (al _).symm
 exact wpAny_getItem_list ⟨_,ho,rfl,_,rfl⟩ h0 (by lia) (by rw [← Array.getElem?_toList];exact gv) (hq _ _ _ _ q hi .refl rv)
theorem jT {vs:List V} {i:Int} {x:V} (h0:0≤i) (hx:vs[i.toNat]?=some x) (hl:vs.length < 2 ^ 25) (q:Q x σ):M2 d getItem (.tup vs) (.int i) σ Q:=fun A s a b ha hi ra rb QM hq=>by
 obtain ⟨_,rfl⟩:=Rel.inv rb
 obtain ⟨items,n,ho,rs⟩:∃ (items:Array Value) (n:Nat),(∃ l,a=.ref l∧s.heap.get? l=some (ze items n))∧iF σ s.heap items.toList vs:=by
  obtain ⟨_,_,_,e,ho,_,_,hr⟩:=ra.inv;exact ⟨_,_,⟨_,e,ho⟩,hr⟩
 refine bc fun hbc=>?_
 obtain ⟨l,rfl,ho⟩:=ho
 obtain ⟨v,gv,rv⟩:=rs.get hx
 refine hbc ?_
 clear hbc
 have hlt:i.toNat < vs.length:=by
  rcases aZ i.toNat vs.length with h | h
  ·exact h
  ·exact absurd ((bd h).symm.trans hx) (al _).symm
 have hsz:items.size=vs.length:=by rw [← rs.length];simp
 refine PyProof.Rows.getItem_tuple (j:=i.toNat) ⟨_,ho,rfl,_,rfl⟩ (by lia) (by lia) (Df h0 (by rw [hsz];exact hlt)) (by rw [← Array.getElem?_toList];exact gv) (hq _ _ _ _ q hi .refl rv)
theorem wv {x:List Nat} {i:Int} {c:Nat} (h0:0≤i) (hx:x[i.toNat]?=some c) (hl:x.length < 2 ^ 25) (q:Q (.str [c]) σ):M2 d getItem (.str x) (.int i) σ Q:=fun A s a b ha hi ra rb QM hq=>by
 obtain ⟨_,rfl⟩:=Rel.inv ra;obtain ⟨_,rfl⟩:=Rel.inv rb
 have hlt:i.toNat < x.length:=by
  rcases aZ i.toNat x.length with h | h
  ·exact h
  ·exact absurd ((bd h).symm.trans hx) (al _).symm
 refine P.getItem_str (c:=c) (by simp;lia) ?_ (hq _ _ _ _ q hi.toks .refl (.str [c] _))
 have:seqIndex? i (Str.length ⟨x.toArray⟩)=some i.toNat:=Df h0 (by show _ < x.toArray.size;simpa using hlt)
 rw [this]
 simpa using hx
noncomputable def iX (lo hi st:Option Int) (n:Nat):List Nat:=sliceRange (sliceBounds lo hi st n).1 (sliceBounds lo hi st n).2.1 (sliceBounds lo hi st n).2.2
theorem ku {pv:V} {vs:List V} {lo hi' st:Option Int} (h:LV σ pv vs) (h0:st≠some 0) (hl:vs.length≤2 ^ 24) (q:Q (.lst ((iX lo hi' st vs.length).filterMap (vs[·]?))) σ):M2 d getItem pv (.slc lo hi' st) σ Q:=fun A s a b ha hi ra rb QM hq=>by
 walk_at "u"; obtain ⟨l,items,n,rfl,ho,rs⟩:=h.at hi ra;walk_at "v"
 have g:∀ o b o',s.heap.get? b=some o'→(s.heap.push o).get? b=some o':=fun o b o' e=>Heap.get?_push_of_some _ e
 have part:∀ p:Option (Int×Tok),IsPart (partValue p) (p.map (·.1)):=fun p=>by
  cases p with
  | none=>exact .none
  | some p=>exact .int _ _
 have hsz:items.size=vs.length:=by rw [← rs.length];simp
 cases rb with
 | slc hso hσ ht=>
  refine wpAny_getItem_list_slice ⟨_,ho,rfl,_,rfl⟩ ⟨_,hso,rfl,rfl⟩ (part _) (part _) (part _) h0 ?_ (by rw [hsz];exact hl)
  have key:∀ ix:List Nat,iF σ s.heap (ix.filterMap (items[·]?)) (ix.filterMap (vs[·]?)):=by
   intro ix
   induction ix with
   | nil=>exact .nil
   | cons j ix ih=>
    rw [dI,dI]
    cases hj:vs[j]? with
    | some x=>
     walk_at "u"; obtain ⟨v,gv,rv⟩:=rs.get hj;walk_at "v"
     rw [Array.getElem?_toList] at gv
     rw [gv];exact .cons rv ih
    | none=>
     have:items[j]?=none:=by
      rw [← Array.getElem?_toList]
      refine bd ?_
      rw [rs.length]
      rcases aZ j vs.length with h | h
      ·exact absurd ((ak h).symm.trans hj) (al _)
      ·exact h
     rw [this];exact ih
  exact hq _ _ _ _ q (hi.grow (s':={ s with heap:=_ }) (g _) rfl rfl) (Ext.grow (g _)) (pR hi (by unfold iX;rw [← hsz];exact key _) (get?_ge (av _)) hi.size (g _) (Heap.get?_push_size _ rfl))
end
end Internal
end
section
open PySem PySem.W PyProof.Rows PySem.Calls PySem.Spec PySem.SeqAt
namespace Internal
mutual
inductive Dat (σ:ij):V→PyData→Prop
 | none:Dat σ .none .none
 | bool (b:Bool):Dat σ (.bool b) (.bool b)
 | int (i:Int):Dat σ (.int i) (.int i)
 | str (x:List Nat):Dat σ (.str x) (.str ⟨x.toArray⟩)
 | tup {vs:List V} {ds:List PyData} (h:sQ σ vs ds):Dat σ (.tup vs) (.tuple ds)
 | lst {vs:List V} {ds:List PyData} (h:sQ σ vs ds):Dat σ (.lst vs) (.list ds)
 | own {a:Addr} {vs:List V} {ds:List PyData} (hs:σ a=some (.list vs)) (h:sQ σ vs ds):Dat σ (.loc a) (.list ds)
inductive sQ (σ:ij):List V→List PyData→Prop
 | nil:sQ σ [] []
 | cons {v:V} {p:PyData} {vs:List V} {ds:List PyData} (h:Dat σ v p) (hs:sQ σ vs ds):sQ σ (v :: vs) (p :: ds)
end
section
variable {K:Kx} {ρ:Fm} {σ:ij} {d:Nat} {Q:V→ij→Prop}
theorem Dat.reads {s:Shared} (hi:Inv σ s) {pv:V} {p:PyData} {v:Value} (d:Dat σ pv p) (r:Rel σ s.heap v pv):∃ as,Reads s.heap v p as:=
 Dat.rec (motive_1:=fun pv p _=>∀ v,Rel σ s.heap v pv→∃ as,Reads s.heap v p as) (motive_2:=fun pl ds _=>∀ vs,iF σ s.heap vs pl→∃ as,ReadsAll s.heap vs ds as)
  (fun v r=>by have e:=r.inv;subst e;exact ⟨_,.none⟩) (fun b v r=>by have e:=r.inv;subst e;exact ⟨_,.bool b⟩)
  (fun i v r=>by obtain ⟨_,e⟩:=r.inv;subst e;exact ⟨_,.int i _⟩) (fun x v r=>by obtain ⟨_,e⟩:=r.inv;subst e;exact ⟨_,.str _ _⟩)
  (fun _ ih v r=>by obtain ⟨a,items,n,e,ho,_,_,hr⟩:=r.inv;subst e;obtain ⟨as,q⟩:=ih _ hr;exact ⟨_,.tuple ho rfl rfl q⟩)
  (fun _ ih v r=>by obtain ⟨a,items,n,e,ho,_,_,hr⟩:=r.inv;subst e;obtain ⟨as,q⟩:=ih _ hr;exact ⟨_,.list ho rfl rfl q⟩)
  (fun hs _ ih v r=>by have e:=r.inv;subst e;obtain ⟨items,n,ho,hr⟩:=(hi.own _ _ hs).2;obtain ⟨as,q⟩:=ih _ hr;exact ⟨_,.list ho rfl rfl q⟩)
  (fun vs r=>by have e:=r.inv;subst e;exact ⟨_,.nil⟩)
  (fun _ _ i1 i2 vs r=>by obtain ⟨v,l,e,hv,hl⟩:=r.inv;subst e;obtain ⟨a,q⟩:=i1 _ hv;obtain ⟨b,q'⟩:=i2 _ hl;exact ⟨_,.cons q q'⟩) d v r
theorem AOk.units {A:Around} (h:AOk d A):A.units + 65 < cLine:=by have:=h.2.2;show A.units + 65 < 9900;lia
theorem EA {a b:V} {da db:PyData} (ha:Dat σ a da) (hb:Dat σ b db) (sa:shaped da=true) (sb:shaped db=true) (hm:noMix da db=true) (q:Q (.bool (same da db)) σ):M2 d (compareOp .Eq) a b σ Q:=fun A s x y hA hi hx hy QM hq=>by
 refine bc fun hbc=>?_
 obtain ⟨as,ra⟩:=ha.reads hi hx
 obtain ⟨bs,rb⟩:=hb.reads hi hy
 refine hbc ?_
 clear hbc
 exact eq_dataH_same ra rb sa sb (by have:=hA.units;lia) hm (hq _ _ _ _ q hi .refl (.bool _))
theorem wO {a b:V} {da db:PyData} (ha:Dat σ a da) (hb:Dat σ b db) (sa:shaped da=true) (sb:shaped db=true) (hm:noMix da db=true) (q:Q (.bool (!same da db)) σ):M2 d (compareOp .NotEq) a b σ Q:=fun A s x y hA hi hx hy QM hq=>by
 refine bc fun hbc=>?_
 obtain ⟨as,ra⟩:=ha.reads hi hx
 obtain ⟨bs,rb⟩:=hb.reads hi hy
 refine hbc ?_
 clear hbc
 exact ne_dataH_same ra rb sa sb (by have:=hA.units;lia) hm (hq _ _ _ _ q hi .refl (.bool _))
end
end Internal
end
section
open PySem PySem.W PyProof.Rows PySem.Calls
namespace Internal
structure oX (L:Addr) (σ:ij) (h h':Heap):Prop where
 keep:∀ a o,a≠L→h.get? a=some o→h'.get? a=some o
section
variable {K:Kx} {ρ:Fm} {σ:ij} {d:Nat}
theorem oX.refl {L:Addr} {h:Heap}:oX L σ h h:=⟨fun _ _ _ e=>e⟩
theorem oX.trans {L:Addr} {h h₁ h₂:Heap} (x:oX L σ h h₁) (y:oX L σ h₁ h₂):oX L σ h h₂:=⟨fun a o n e=>y.keep a o n (x.keep a o n e)⟩
theorem j5 {x:Str} {ρ':Fm} {v:Value} {pv:V} {A:Around} {env:Env} {s:Shared} (hk:K.names.lookup x=some .local)
  (hr:Rep K env ρ σ s.heap) (hi:Inv σ s) (hv:Rel σ s.heap v pv) (hu:Upd ρ x (.val pv) ρ') {QM:Unit→Shared→Prop}
  (hq:∀ s',Rep K env ρ' σ s'.heap→Inv σ s'→oX env.locals σ s.heap s'.heap→QM () s'):wpAny (model C.prog C.w) A (storeName env x v) QM Bot s:=by
 obtain ⟨m,hm⟩:=hr.loc
 refine wpAny_storeName_local ((congrArg (·.lookup x) hr.names).trans hk) hm (fun h' hn hs=>?_) (by rw [hr.kind];rfl)
 have k:ji σ env.locals s.heap h':=⟨fun b o hb e=>(hs.2 b hb).trans e,fun o e=>⟨hr.locF.1,hr.locF.2.2,by
  walk_at "u"; obtain ⟨o',es,ep,e',d,_⟩:=hm;walk_at "v"
  obtain rfl:=aq (e.symm.trans e')
  exact ⟨fun q=>(by rcases q with ⟨_,_,q⟩ | ⟨_,_,q⟩<;>rw [d] at q<;>cases q),fun vs q=>(by exact (jW (d.symm.trans q) rfl).elim)⟩⟩⟩
 have hce:∀ c v,env.locals≠c→s.heap.IsCell c v→h'.IsCell c v:=fun c v hne y=>oS y fun _ e=>(hs.2 c (fun q=>hne q.symm)).trans e
 refine hq _ ⟨hr.kind,hr.names,hr.glob,hr.blt,hr.qual,hr.code,⟨_,hn⟩,hr.locF,fun y c hc=>?_,hr.cinj,fun p hp=>?_⟩ (hi.poke k rfl rfl) ⟨fun a o n e=>(hs.2 a n).trans e⟩
 ·walk_at "u"; obtain ⟨h1,h2,h3,h4,h5⟩:=hr.cells y c hc;walk_at "v"
  exact ⟨h1,h2,h3,fun e=>(h4 e).elim fun v q=>⟨v,hce _ _ h1 q⟩,h5⟩
 ·rcases hu p hp with rfl | ⟨hp,hne⟩
  ·exact .inl ⟨hk,_,v,hn,if_pos rfl,hv.mono k.seq⟩
  ·have hv':=hr.vars p hp
   obtain ⟨y,sl⟩:=p
   cases sl with
   | val pv'=>
    rcases hv' with ⟨h1,m₀,v',h2,h3,h4⟩ | ⟨h1,c,v',h2,h3,h4,h5,h6⟩
    ·refine .inl ⟨h1,_,v',hn,?_,h4.mono k.seq⟩
     show (if y=x then some v else m y)=_
     rw [if_neg hne,← h3]
     refine bc fun hbc=>?_
     obtain ⟨o,es,ep,e,d,_,f⟩:=hm
     obtain ⟨o',es',ep',e',d',_,f'⟩:=h2
     refine hbc ?_
     clear hbc
     obtain rfl:=aq (e.symm.trans e')
     (rw [d] at d';cases d')
     rw [← f y,← f' y]
    ·exact .inr ⟨h1,c,v',h2,hce c _ (hr.cells y c h2).ne h3,h4.mono k.seq,h5,h6⟩
   | sh c=>exact hv'
   | emp=>obtain ⟨h1,c,h2,⟨v',h3⟩,h5,h6⟩:=hv';exact ⟨h1,c,h2,⟨v',hce c _ (hr.cells y c h2).ne h3⟩,h5,h6⟩
theorem oX.seq {env:Env} {h h':Heap} (hr:Rep K env ρ σ h) (x:oX env.locals σ h h'):iW σ h σ h':=
 ⟨fun a o e f hs _=>x.keep a o (fun q=>lh.notFixed hr hs e f (.inl q)) e,fun a o e f hs _=>hs⟩
inductive kN (K:Kx):Expr→V→Fm→Prop where
 | name (x:Str) (pos:Pos) (v:V) (h:K.names.lookup x=some .local):kN K (.Name x pos) v [(x,.val v)]
 | tup (xs:List (Str×Pos)) (k:Nat) (pos:Pos) (vs:List V) (hl:vs.length=xs.length) (h:∀ x∈xs,K.names.lookup x.1=some .local) (hn:(xs.map (·.1)).Nodup):
   kN K (.Tuple (xs.map fun p=>.Name p.1 p.2) k pos) (.tup vs) (pslots (xs.map (·.1)) vs)
theorem vg {A:Around} {env:Env}:∀ {xs:List (Str×Pos)} {vs:List V} {vals:List Value} {ρ:Fm} {s:Shared},vs.length=xs.length→(∀ x∈xs,K.names.lookup x.1=some .local)→(xs.map (·.1)).Nodup→(∀ p∈ρ,p.1∉xs.map (·.1))→
  Rep K env ρ σ s.heap→Inv σ s→iF σ s.heap vals vs→
  ∀ {QM:Unit→Shared→Prop},(∀ s',Rep K env (pslots (xs.map (·.1)) vs++ρ) σ s'.heap→Inv σ s'→oX env.locals σ s.heap s'.heap→QM () s')→wpAny (model C.prog C.w) A (assignInOrder (xs.map fun p=>assign (.Name p.1 p.2) env) vals) QM Bot s:=by
 intro xs
 induction xs with
 | nil=>
  intro vs vals ρ s hl _ _ _ hr hi hrs QM hq
  obtain rfl:=fx.mp hl
  obtain rfl:=hrs.inv
  exact wpAny_assignInOrder_none (hq s (by simpa [pslots] using hr) hi .refl)
 | cons x xs ih=>
  intro vs vals ρ s hl hk hn hd hr hi hrs QM hq
  obtain ⟨v,vs,rfl⟩:=au hl
  obtain ⟨w,vals,rfl,hv,hrs⟩:=hrs.inv
  refine wpAny_assignInOrder_more (wpAny_assign_Name (j5 (ρ':=(x.1,.val v) :: ρ) (hk x ao) hr hi hv ?_ fun s' hr' hi' e'=>?_))
  ·intro p hp
   rcases am.mp hp with rfl | hp
   ·exact .inl rfl
   ·exact .inr ⟨hp,fun q=>hd p hp (by rw [q];exact ao)⟩
  ·have hn':=cj.mp hn
   refine ih (by simpa using hl) (fun y hy=>hk y (ai _ hy)) hn'.2 ?_ hr' hi' (hrs.mono (e'.seq hr)) fun s'' hr'' hi'' e''=>hq s'' ?_ hi'' (e'.trans e'')
   ·intro p hp
    rcases am.mp hp with rfl | hp
    ·exact hn'.1
    ·exact fun q=>hd p hp (ai _ q)
   ·refine hr''.sub fun p hp=>?_
    rcases bb.mp hp with hp | hp
    ·rcases am.mp hp with rfl | hp
     ·exact bz _ ao
     ·exact fQ _ hp
    ·exact bz _ (ai _ hp)
theorem oL {env:Env}:∀ xs:List (Str×Pos),assignEach (xs.map fun p=>Expr.Name p.1 p.2) env=xs.map fun p=>(false,assign (.Name p.1 p.2) env):=by
 intro lr
 induction lr with
 | nil=>
  exact rfl
 | cons x xs ihr=>
  show (false,assign (.Name x.1 x.2) env) :: assignEach _ env=_
  rw [ihr];rfl
theorem nU {A:Around} {env:Env} {s:Shared} {t:Expr} {v:Value} {pv:V} {fr:Fm} (ht:kN K t pv fr) (ha:AOk d A) (hd:∀ p∈ρ,∀ q∈fr,p.1≠q.1) (hr:Rep K env ρ σ s.heap) (hi:Inv σ s) (hv:Rel σ s.heap v pv) {QM:Unit→Shared→Prop}
  (hq:∀ s',Rep K env (fr++ρ) σ s'.heap→Inv σ s'→oX env.locals σ s.heap s'.heap→QM () s'):wpAny (model C.prog C.w) A (assign t env v) QM Bot s:=by
 revert hd hv hq
 cases ht with
 | name x pos v hk=>
  intro hd hv hq
  refine wpAny_assign_Name (j5 hk hr hi hv ?_ hq)
  intro p hp
  rcases am.mp hp with rfl | hp
  ·exact .inl rfl
  ·exact .inr ⟨hp,hd p hp _ ao⟩
 | tup xs k pos vs hl hk hn=>
  intro hd hv hq
  obtain ⟨a,items,n,e₀,ho,_,_,hrs⟩:=hv.inv
  subst e₀
  refine wpAny_assign_Tuple ha.1 ⟨_,ho,rfl,_,rfl⟩ ?_ ?_ fun h' e=>?_
  ·rw [oL];simpa [hl] using hrs.length.symm
  ·rw [oL];simp
  ·have g:∀ b o',s.heap.get? b=some o'→h'.get? b=some o':=fun b o' q=>e b o' (fun q'=>by subst q';(rw [Heap.get?_size] at q;cases q)) q
   have E:Ext σ s.heap σ h':=Ext.grow g
   rw [oL]
   have:((xs.map fun p=>(false,assign (.Name p.1 p.2) env)).map (·.2))=xs.map fun p=>assign (.Name p.1 p.2) env:=by simp
   rw [this]
   have hdis:∀ p∈ρ,p.1∉xs.map (·.1):=fun p hp q=>by
    obtain ⟨j,hj,ej⟩:=gb q
    have hps:∀ {l:List Str} {vs:List V},vs.length=l.length→∀ x∈l,∃ q∈pslots l vs,q.1=x:=by
     intro l
     induction l with
     | nil=>intro vs _ x hx;cases hx
     | cons y l ih=>
      intro vs hl x hx
      cases vs with
      | nil=>simp at hl
      | cons w vs=>
       rcases am.mp hx with rfl | hx
       ·exact ⟨_,ao,rfl⟩
       ·obtain ⟨q,hq,e⟩:=ih (by simpa using hl) x hx
        exact ⟨q,ai _ hq,e⟩
    obtain ⟨r,hr,er⟩:=hps (vs:=vs) (by simpa using hl) p.1 q
    exact hd p hp r hr er.symm
   exact vg (s:={ s with heap:=h' }) hl hk hn hdis (hr.mono E) (hi.grow (s':={ s with heap:=h' }) g rfl rfl) (hrs.mono E.seq) fun s' hr' hi' e'=>hq s' hr' hi' ⟨fun a o n q=>e'.keep a o n (g a o q)⟩
end
end Internal
end
section
open PySem PySem.W PyProof.Rows PySem.Calls
namespace Internal
noncomputable def closL (cells:List (Str×Addr)):List (Str×NameKind)→List (Str×Addr)→List (Str×Addr)
 | [],cs=>cs
 | (n,k) :: r,cs=>if k == .free then closL cells r ((n,(cells.lookup n).getD 0) :: cs) else closL cells r cs
set_option tactic.hygienic true in
theorem mx {cells:List (Str×Addr)} {n:Str} {c:Addr}:∀ {names:List (Str×NameKind)} {cs:List (Str×Addr)},(n,c)∈closL cells names cs→(n,c)∈cs∨((n,NameKind.free)∈names∧c=(cells.lookup n).getD 0)
 | [],cs,h=>.inl h
 | (m,k) :: r,cs,h=>by
  unfold closL at h
  split at h
  ·rename_i hk
   have hk':k=.free:=by simpa using hk
   rcases mx h with h | ⟨h,e⟩
   ·rcases am.mp h with e | h
    ·injection e with e1 e2
     subst e1;subst hk'
     exact .inr ⟨ao,e2⟩
    ·exact .inl h
   ·exact .inr ⟨ai _ h,e⟩
  ·rcases mx h with h | ⟨h,e⟩
   ·exact .inl h
   ·exact .inr ⟨ai _ h,e⟩
set_option tactic.hygienic true in
theorem oR {cells:List (Str×Addr)} {n:Str}:∀ {names:List (Str×NameKind)} {cs:List (Str×Addr)},((n,NameKind.free)∈names∨∃ c,(n,c)∈cs)→∃ c,(n,c)∈closL cells names cs
 | [],cs,h=>by
  rcases h with h | h
  ·cases h
  ·exact h
 | (m,k) :: r,cs,h=>by
  unfold closL
  split
  ·refine oR ?_
   rcases h with h | ⟨c,h⟩
   ·rcases am.mp h with e | h
    ·injection e with e1 e2
     subst e1
     exact .inr ⟨_,ao⟩
    ·exact .inl h
   ·exact .inr ⟨c,ai _ h⟩
  ·rename_i hk
   refine oR ?_
   rcases h with h | h
   ·rcases am.mp h with e | h
    ·injection e with e1 e2
     subst e2;simp at hk
    ·exact .inl h
   ·exact .inr h
theorem jZ {env:Env}:∀ (scope:Scope),(∀ x∈scope.names,x.2=.free→∃ c,env.cells.lookup x.1=some c)→closureFor scope env=pure (closL env.cells scope.names []):=by
 intro scope h
 have key:∀ (names:List (Str×NameKind)) (cs:List (Str×Addr)),(∀ x∈names,x.2=.free→∃ c,env.cells.lookup x.1=some c)→
   (forIn names cs fun (x:Str×NameKind) (r:List (Str×Addr))=>(if (x.2 == .free)=true then do let c ← cellOf env x.1;pure (ForInStep.yield ((x.1,c) :: r)) else pure (ForInStep.yield r):Sem (ForInStep (List (Str×Addr)))))=pure (closL env.cells names cs):=by
  intro names
  induction names with
  | nil=>intro cs _;rfl
  | cons p r ih=>
   intro cs hh
   walk_at "u"; obtain ⟨n,k⟩:=p;walk_at "v"
   have hr:=fun x hx=>hh x (ai _ hx)
   rw [c8]
   unfold closL
   by_cases hk:(k == NameKind.free)=true
   ·walk_at "u"; obtain ⟨c,hc⟩:=hh (n,k) ao (by simpa using hk);walk_at "v"
    simp only [hk,if_true,cellOf,hc,pure_bind,dS]
    exact ih _ hr
   ·simp only [hk,if_false,pure_bind,bJ]
    exact ih _ hr
 have:=key scope.names [] h
 unfold closureFor
 simp only [bind_pure]
 exact this
section
variable {K:Kx} {ρ:Fm} {σ:ij} {d:Nat} {Q:V→ij→Prop}
noncomputable def tC (K:Kx) (names:List (Str×NameKind)):List (Str×NameKind):=names.map fun p=>if (p.2 == .free && K.names.lookup p.1 == some .cell) then (p.1,.cell) else p
noncomputable def KxC (K:Kx) (scope:Scope):Kx:=⟨tC K scope.names,K.qual,K.code,K.d⟩
theorem se {env:Env} {h:Heap} (hr:Rep K env ρ σ h) (scope:Scope):(relabel scope env).names=tC K scope.names:=by
 unfold relabel tC
 refine b8 fun p _=>?_
 walk_at "u"; obtain ⟨n,k⟩:=p;walk_at "v"
 have e:env.kindOf n=K.names.lookup n:=congrArg (·.lookup n) hr.names
 simp only [hr.kind,e,beq_self_eq_true,eH]
theorem km {K:Kx} {x:Str}:∀ {names:List (Str×NameKind)},(tC K names).lookup x=(names.lookup x).map fun k=>if (k == .free && K.names.lookup x == some .cell) then .cell else k
 | []=>rfl
 | (n,k) :: r=>by
  have ih:=@km K x r
  have e:tC K ((n,k) :: r)=(n,if (k == .free && K.names.lookup n == some .cell) then NameKind.cell else k) :: tC K r:=by
   show (if (k == NameKind.free && K.names.lookup n == some NameKind.cell)=true then (n,NameKind.cell) else (n,k)) :: _=_
   split<;>rfl
  rw [e,aS,aS,ih]
  by_cases hx:x=n
  ·subst hx
   simp only [beq_self_eq_true,eY]
  ·have h1:(x == n)=false:=by simpa using hx
   simp only [h1]
noncomputable def lF (K:Kx) (ρ:Fm):List Expr→ij→(Bool→ij→Prop)→Prop
 | [],σ,Q=>Q true σ
 | c :: r,σ,Q=>TsP K ρ σ c (fun b σ₁=>if b then lF K ρ r σ₁ Q else Q false σ₁)
theorem Ah {A:Around} {env:Env} (ha:AOk K.d A):∀ {ifs:List Expr} {σ:ij} {s:Shared} {Q:Bool→ij→Prop},lF K ρ ifs σ Q→Rep K env ρ σ s.heap→Inv σ s→∀ {QM:Bool→Shared→Prop},
  (∀ b σ' s',Q b σ'→Inv σ' s'→Ext σ s.heap σ' s'.heap→QM b s')→
  wpAny (model C.prog C.w) A (forIn ifs true fun c r=>if r=true then do let ok ← isTrue c env (eval c env);pure (ForInStep.yield ok) else pure (ForInStep.yield r)) QM Bot s
 | [],σ,s,Q,h,hr,hi,QM,hq=>wpAny_pure (hq true σ s h hi .refl)
 | c :: r,σ,s,Q,h,hr,hi,QM,hq=>by
  rw [c8]
  simp only [if_true]
  refine wpAny_bind (wpAny_bind (h A env s ha hr hi _ fun b σ₁ s₁ h₁ i₁ e₁=>wpAny_pure ?_))
  cases b with
  | true=>exact Ah ha h₁ (hr.mono e₁) i₁ fun b σ₂ s₂ q i₂ e₂=>hq b σ₂ s₂ q i₂ (e₁.trans e₂)
  | false=>
   have:∀ l:List Expr,(forIn l false fun c r=>if r=true then do let ok ← isTrue c env (eval c env);pure (ForInStep.yield ok) else pure (ForInStep.yield r):Sem Bool)=pure false:=by
    intro l
    induction l with
    | nil=>rfl
    | cons c l ih=>rw [c8];simp only [bJ,if_false,pure_bind];exact ih
   show wpAny _ _ (forIn r false _) _ _ _
   rw [this];exact wpAny_pure (hq false σ₁ s₁ h₁ i₁ e₁)
theorem lC {R:Result→Shared→Prop} {A:Around} {s:Shared} {elt target iter:Expr} {ifs:List Expr} {scope:Scope} {pos:Pos} {it acc:Value} {env:Env} {prog:Program} {w:World} (I:Nat→Shared→Prop)
  (turn:∀ n s,I n s→wpAny (model prog w) A (pyNext it) (fun r s₁=>match r with
   | none=>R (.ok .next) s₁
   | some v=>wpAny (model prog w) A (letOwnedTupleGo target it v) (fun _ s₁'=>wpAny (model prog w) A (assign target env v) (fun _ s₂=>
     wpAny (model prog w) A (forIn ifs true fun c r=>if r=true then do let ok ← isTrue c env (eval c env);pure (ForInStep.yield ok) else pure (ForInStep.yield r)) (fun ok s₃=>
      if ok=true then wpAny (model prog w) A (eval elt env) (fun x s₄=>
       wpAny (model prog w) A (PySem.call (.builtin "list.append") [acc,x]) (fun _ s₅=>∃ m,m < n∧I m s₅) Bot s₄) Bot s₃
      else ∃ m,m < n∧I m s₃) Bot s₂) Bot s₁') Bot s₁) Bot s)
  (n:Nat) (h:I n s):codeAny (model prog w) A (.compLoop (.ListComp elt [⟨target,iter,ifs,0⟩] scope pos) 0 it acc env) R s:=by
 have bot:∀ {α:Type} {t:Sem α} {Q:α→Shared→Prop} {E:Value→Shared→Prop} {s:Shared},wpAny (model prog w) A t Q Bot s→wpAny (model prog w) A t Q E s:=fun h=>wpAny_mono h (fun _ _ x=>x) fun _ _ x=>x.elim
 refine codeAny_loop rfl I (fun n s hI=>?_) n h
 show wpAny _ A ((compTurn (.ListComp elt [⟨target,iter,ifs,0⟩] scope pos) 0 it acc env).onRaise (fun x=>do noteFrame x env;theTreesLotGoes x)) _ _ s
 refine wpAny_noted ?_
 rw [compTurn_list]
 refine wpAny_bind (wpAny_standAt (wpAny_bind (wpAny_mono (turn n s hI) (fun r s₁ h₁=>?_) fun _ _ x=>x.elim)))
 cases r with
 | none=>exact wpAny_pure h₁
 | some v=>
  refine wpAny_bind (wpAny_mono h₁ (fun _ s₁' h₁'=>?_) fun _ _ x=>x.elim)
  refine wpAny_bind (wpAny_mono h₁' (fun _ s₂ h₂=>wpAny_bind (wpAny_mono h₂ (fun ok s₃ h₃=>?_) fun _ _ x=>x.elim)) fun _ _ x=>x.elim)
  cases ok with
  | false=>exact wpAny_pure ⟨rfl,h₃⟩
  | true=>
   exact wpAny_bind (wpAny_bind (wpAny_mono h₃ (fun x s₄ h₄=>wpAny_bind (wpAny_mono h₄ (fun _ s₅ h₅=>wpAny_pure (wpAny_pure ⟨rfl,h₅⟩)) fun _ _ x=>x.elim)) fun _ _ x=>x.elim))
theorem rk {it:Addr} {r:List V} {A:Around} {s:Shared} (x:nV σ s.heap it r) {QM E:Value→Shared→Prop} (hq:QM (.ref it) s):wpAny (model C.prog C.w) A (pyIter (.ref it)) QM E s:=by
 cases x with
 | lst l vs i hi hr=>exact wpAny_pyIter_listiter hi hq
 | tup l vs i hi hr=>exact wpAny_pyIter_tupleiter hi hq
 | str ty hty x t i hi=>
  rcases hty with rfl | rfl
  ·exact wpAny_pyIter_striter_ascii hi hq
  ·exact wpAny_pyIter_striter_wide hi hq
 | rng x n st hi=>exact wpAny_pyIter_rangeiter hi hq
theorem Inv.drop {s:Shared} {a:Addr} {p:PObj} (i:Inv (upd σ a (some p)) s) (hn:σ a=none) (hc:∀ v,p≠.cell v):Inv σ s∧Ext (upd σ a (some p)) s.heap σ s.heap:=by
 have E:Ext (upd σ a (some p)) s.heap σ s.heap:=⟨fun _ _ e _ _=>e,fun b o e hb _=>by
  by_cases h:b=a
  ·subst h;exact hn
  ·rw [ir σ _ h] at hb;exact hb,fun c v e=>by
  by_cases h:c=a
  ·subst h;(rw [ik] at e;cases e);exact absurd rfl (hc v)
  ·rw [ir σ _ h] at e;exact ⟨v,e⟩⟩
 exact ⟨i.step E (fun b q e=>.inl ⟨by
  by_cases h:b=a
  ·subst h;exact absurd (hn.symm.trans e).symm (al _)
  ·rw [ir σ _ h];exact e,fun o g=>g⟩) (fun _ _ _ g=>g) rfl rfl,E⟩
end
end Internal
end
section
open PySem PySem.W PyProof.Rows PySem.Calls
namespace Internal
section
variable {K:Kx} {ρ:Fm} {σ:ij} {d:Nat} {Q:V→ij→Prop}
noncomputable abbrev io (σ:ij) (D:Addr) (acc:List V):ij:=upd σ D (some (.list acc))
theorem Rep.cellEx {env:Env} {s:Shared} (hr:Rep K env ρ σ s.heap) (i:Inv σ s) {x:Str} {c:Addr} (h:env.cells.lookup x=some c):s.heap.get? c≠none:=fun e=>by
 refine bc fun hbc=>?_
 obtain ⟨_,_,_,h4,_⟩:=hr.cells x c h
 obtain ⟨v,o,g,_⟩:=h4 (i.off e)
 refine hbc ?_
 clear hbc
 exact absurd (e.symm.trans g).symm (al _)
noncomputable def o8 (K:Kx) (ρ:Fm) (x:Str):Prop:=∃ sl,(x,sl)∈ρ∧K.names.lookup x≠some .local
theorem o8.cell {env:Env} {h:Heap} (hr:Rep K env ρ σ h) {x:Str} (f:o8 K ρ x):∃ c,env.cells.lookup x=some c:=by
 walk_at "u"; obtain ⟨sl,hm,hl⟩:=f;walk_at "v"
 have:=hr.vars _ hm
 cases sl with
 | val v=>
  rcases this with ⟨h1,_⟩ | ⟨_,c,_,h2,_⟩
  ·exact absurd h1 hl
  ·exact ⟨c,h2⟩
 | sh c=>exact ⟨c,this.2.1⟩
 | emp=>obtain ⟨_,c,h2,_⟩:=this;exact ⟨c,h2⟩
noncomputable abbrev jw (env:Env) (scope:Scope) (L:Addr):Env:={ scope:=relabel scope env,locals:=L,globals:=env.globals,cells:=closL env.cells scope.names [],qual:=env.qual,func:=none,code:=env.code,frame:=env.frame,builtins:=env.builtins }
theorem vB {env:Env} {scope:Scope} {caps:Fm} {h:Heap} {L:Addr} (hr:Rep K env ρ σ h)
  (hk:scope.kind=.function) (hfree:∀ x∈scope.names,x.2=.free→o8 K ρ x.1)
  (hcaps:∀ p∈caps,p∈ρ∧scope.names.lookup p.1=some .free∧p.2≠.emp)
  (hns:h.Ns L fun _=>none) (hσ:σ L=none) (lo:C.h1.objs.size≤L) (nt:L∉C.tabs) (hLc:∀ x c,env.cells.lookup x=some c→L≠c):
  Rep (KxC K scope) (jw env scope L) caps σ h:=by
 have look:∀ x c,(closL env.cells scope.names []).lookup x=some c→env.cells.lookup x=some c:=fun x c hc=>by
  rcases mx (mem_of_lookup hc) with q | ⟨m,q⟩
  ·cases q
  ·walk_at "u"; obtain ⟨c',hc'⟩:=(hfree _ m rfl).cell hr;walk_at "v"
   rw [hc'] at q ⊢;exact congrArg some q.symm
 have look':∀ x c,scope.names.lookup x=some .free→env.cells.lookup x=some c→(closL env.cells scope.names []).lookup x=some c:=fun x c hx hc=>by
  walk_at "u"; obtain ⟨c',hm⟩:=oR (cells:=env.cells) (n:=x) (names:=scope.names) (cs:=[]) (.inl (mem_of_lookup hx));walk_at "v"
  cases q:(closL env.cells scope.names []).lookup x with
  | none=>
   exfalso
   have:∀ {l:List (Str×Addr)},(x,c')∈l→l.lookup x≠none:=by
    intro l
    induction l with
    | nil=>intro h;cases h
    | cons p l ih=>
     intro h
     rw [aS]
     rcases am.mp h with e | h
     ·rw [← e];simp
     ·cases (x == p.1)<;>first | exact ih h | simp
   exact this hm q
  | some c''=>
   have:=look x c'' q
   rw [hc] at this;exact this.symm
 refine ⟨hk,se hr scope,hr.glob,hr.blt,hr.qual,hr.code,⟨_,hns⟩,⟨hσ,nt,lo⟩,fun x c hc=>?_,fun x y c hx hy=>hr.cinj x y c (look x c hx) (look y c hy),fun p hp=>?_⟩
 ·walk_at "u"; obtain ⟨h1,h2,h3,h4,h5⟩:=hr.cells x c (look x c hc);walk_at "v"
  exact ⟨hLc x c (look x c hc),h2,h3,h4,h5⟩
 ·refine bc fun hbc=>?_
  obtain ⟨hm,hl,hne⟩:=hcaps p hp
  have hv:=hr.vars p hm
  obtain ⟨x,sl⟩:=p
  refine hbc ?_
  clear hbc
  have kind:(KxC K scope).names.lookup x=some .cell∨(KxC K scope).names.lookup x=some .free:=by
   show (tC K scope.names).lookup x=_∨(tC K scope.names).lookup x=_
   rw [km,show scope.names.lookup x=some .free from hl]
   simp only [eY]
   split<;>first | exact .inl rfl | exact .inr rfl
  have fr:o8 K ρ x:=hfree _ (mem_of_lookup hl) rfl
  cases sl with
  | val v=>
   rcases hv with ⟨h1,m,mv,h2,h3,h4⟩ | ⟨h1,c,mv,h2,h3,h4,h5,h6⟩
   ·walk_at "u"; obtain ⟨sl',hm',hl'⟩:=fr;walk_at "v"
    exact absurd h1 hl'
   ·exact .inr ⟨kind,c,mv,look' x c hl h2,h3,h4,h5,h6⟩
  | sh c=>obtain ⟨h1,h2,h3⟩:=hv;exact ⟨kind,look' x c hl h2,h3⟩
  | emp=>exact absurd rfl hne
theorem iO {D b:Addr} {acc:List V} (h:b≠D):io σ D acc b=σ b:=ir σ _ h
theorem i8 {D:Addr} {acc:List V}:io σ D acc D=some (.list acc):=ik ..
theorem kf {D:Addr} {acc acc':List V}:upd (io σ D acc) D (some (.list acc'))=io σ D acc':=by
 funext b
 by_cases h:b=D
 ·subst h;rw [ik,i8]
 ·rw [ir _ _ h,iO h,iO h]
theorem uR {σ₁ σ₂ σ₅:ij} {h₁ h' h'':Heap} {D:Addr} {acc acc':List V} (E:Ext σ₁ h₁ σ₂ h') (F:Ext (io σ₂ D acc) h' (io σ₅ D acc') h'') (hD:h₁.get? D=none) (h2:σ₂ D=none) (h5:σ₅ D=none):Ext σ₁ h₁ σ₅ h'':=by
 have ne:∀ a o,h₁.get? a=some o→a≠D:=fun a o e q=>by rw [q,hD] at e;cases e
 refine ⟨fun a o e hs ht=>F.keep a o (E.keep a o e hs ht) ((iO (ne a o e)).trans (E.free a o e hs ht)) ht,fun a o e hs ht=>?_,fun c v e=>?_⟩
 ·have:=F.free a o (E.keep a o e hs ht) ((iO (ne a o e)).trans (E.free a o e hs ht)) ht
  rwa [iO (ne a o e)] at this
 ·refine bc fun hbc=>?_
  obtain ⟨v',e'⟩:=E.cell c v e
  have hc:c≠D:=fun q=>by rw [q,h2] at e';cases e'
  obtain ⟨v'',e''⟩:=F.cell c v' ((iO hc).trans e')
  refine hbc ?_
  clear hbc
  exact ⟨v'',by rwa [iO hc] at e''⟩
theorem Ext.but {σ':ij} {h h₁ h₂:Heap} {a:Addr} (e:Ext σ h σ' h₁) (k:∀ b o,b≠a→h₁.get? b=some o→h₂.get? b=some o) (hn:h.get? a=none):Ext σ h σ' h₂:=
 ⟨fun b o g hs ht=>k b o (fun q=>by rw [q,hn] at g;cases g) (e.keep b o g hs ht),e.free,e.cell⟩
noncomputable def lk (K:Kx) (scope:Scope) (caps:Fm) (target elt:Expr) (ifs:List Expr) (J:List V→List V→ij→Prop):Prop:=
 ∀ x r acc σ₂ D,J (x :: r) acc σ₂→σ₂ D=none→∃ fr,kN (KxC K scope) target x fr∧(∀ p∈caps,∀ q∈fr,p.1≠q.1)∧
    lF (KxC K scope) (fr++caps) ifs (io σ₂ D acc) (fun ok σ₃=>if ok=true then EvP (KxC K scope) (fr++caps) σ₃ elt (fun v σ₄=>acc.length < 2 ^ 24∧∃ σ₅,σ₄=io σ₅ D acc∧σ₅ D=none∧J r (acc++[v]) σ₅)
     else ∃ σ₅,σ₃=io σ₅ D acc∧σ₅ D=none∧J r acc σ₅)
structure jp (K:Kx) (ρ:Fm) (scope:Scope) (caps:Fm):Prop where
 kind:scope.kind=.function
 cell:∀ x∈scope.names,x.2≠.cell
 names:∀ x∈scope.names,x.2=.local→scope.names.lookup x.1=some .local
 free:∀ x∈scope.names,x.2=.free→o8 K ρ x.1
 caps:∀ p∈caps,p∈ρ∧scope.names.lookup p.1=some .free∧p.2≠.emp
structure EK (K:Kx) (env:Env) (scope:Scope) (caps:Fm) (σ:ij) (h₁:Heap) (items:List V) (D L it:Addr) (s':Shared):Prop where
 nDL:D≠L
 nIL:it≠L
 nID:it≠D
 inv:Inv (io σ D []) s'
 rep:Rep (KxC K scope) (jw env scope L) caps (io σ D []) s'.heap
 itr:Itr (io σ D []) s'.heap it items
 gI:h₁.get? it=none
 gD:h₁.get? D=none
 gL:h₁.get? L=none
 sD:σ D=none
 lo:C.h1.objs.size≤D
 ext:Ext σ h₁ σ s'.heap
inductive DD (K:Kx) (env:Env) (caps:Fm) (J:List V→List V→ij→Prop) (D it:Addr) (σ:ij) (h₁:Heap) (n:Nat) (s':Shared):Prop
 | mk (r acc:List V) (σ₂:ij) (e:n=r.length) (hJ:J r acc σ₂) (hd:σ₂ D=none) (hI:Itr (io σ₂ D acc) s'.heap it r) (hr:Rep K env caps (io σ₂ D acc) s'.heap) (hi:Inv (io σ₂ D acc) s') (E:Ext σ h₁ σ₂ s'.heap)
theorem rG {elt target iter:Expr} {ifs:List Expr} {gs:List Comprehension} {scope:Scope} {pos:Pos} (caps:Fm) (ok:jp K ρ scope caps) {A:Around} {env:Env} {s₁:Shared} (ha:AOk K.d A) (hr₁:Rep K env ρ σ s₁.heap) (i₁:Inv σ s₁)
  {items:List V} {pv:V} {v:Value} (hit:iM pv items) (r₁:Rel σ s₁.heap v pv) {RR:Value→Addr→Result→Shared→Prop}
  (loop:∀ D L it s',EK K env scope caps σ s₁.heap items D L it s'→codeAny (model C.prog C.w) A (.compLoop (.ListComp elt (⟨target,iter,ifs,0⟩ :: gs) scope pos) 0 (.ref it) (.ref D) (jw env scope L)) (RR (.ref D) L) s'):
  wpAny (model C.prog C.w) A (pyIter v) (fun it s₂=>wpAny (model C.prog C.w) A (newList []) (fun acc s₃=>wpAny (model C.prog C.w) A (newFunctionEnv scope env.globals (closL env.cells scope.names []) [] env.qual none .none (some env)) (fun cenv s₄=>
   codeAny (model C.prog C.w) A (.compStart (.ListComp elt (⟨target,iter,ifs,0⟩ :: gs) scope pos) 0 it acc { cenv with scope:=relabel scope env }) (RR acc cenv.locals) s₄) Bot s₃) Bot s₂) Bot s₁:=by
 walk_at "u"; obtain ⟨hk,hcell,hnames,hfree,hcaps⟩:=ok;walk_at "v"
 refine nH hit r₁ i₁ ha fun it h₂ fr₂ g₂ hI=>?_
 have i₂:Inv σ { s₁ with heap:=h₂ }:=i₁.grow (s':={ s₁ with heap:=h₂ }) g₂ rfl rfl
 have hr₂:Rep K env ρ σ h₂:=hr₁.mono (Ext.grow g₂)
 refine wpAny_newObj_type (wpAny_newFunctionEnv hcell (by intro y hy;simp at hy) (fun h₄ hns hsb=>?_) hk)
 dsimp only at hns hsb ⊢
 generalize hH3:h₂.push { cls:=.type "list", dict:=none,data:=.seq ([]:List Value).toArray }=H3 at hns hsb ⊢
 have hD:h₂.get? h₂.objs.size=none:=get?_ge (av _)
 have hC:H3.objs.size=h₂.objs.size + 1:=by rw [← hH3,Heap.size_push]
 have hDC:h₂.objs.size≠H3.objs.size:=by rw [hC];exact ce (bv _)
 have hCn:h₂.get? H3.objs.size=none:=get?_ge (by rw [hC];exact cG _)
 have g₄:∀ b o,h₂.get? b=some o→h₄.get? b=some o:=fun b o e=>hsb.extBut b o (fun q=>by rw [q,hCn] at e;cases e) (Heap.get?_push_of_some _ (hH3 ▸ Heap.get?_push_of_some _ e))
 have hDo:h₄.get? h₂.objs.size=some (lstO #[] 0):=hsb.extBut _ _ hDC (Heap.get?_push_of_some _ (hH3 ▸ Heap.get?_push_size _ rfl))
 walk_at "u"; obtain ⟨i₄,E₄⟩:=i₂.new (s':={ s₁ with heap:=h₄ }) (p:=.list []) hD i₂.size g₄ ⟨#[],0,hDo,.nil⟩ rfl rfl;walk_at "v"
 have i₄':Inv (io σ h₂.objs.size []) { s₁ with heap:=h₄,toks:=s₁.toks + ([]:List (Str×Value)).length }:=i₄.toks
 have hr₄:Rep K env ρ (io σ h₂.objs.size []) h₄:=hr₂.mono E₄
 have hLs:σ H3.objs.size=none:=i₂.off hCn
 have hL:(io σ h₂.objs.size []) H3.objs.size=none:=(ir σ _ (Ne.symm hDC)).trans hLs
 have hlo:C.h1.objs.size≤H3.objs.size:=by rw [hC];exact aa i₂.size (cG _)
 have rc:Rep (KxC K scope) (jw env scope H3.objs.size) caps (io σ h₂.objs.size []) h₄:=
  vB hr₄ hk hfree hcaps (by simpa using hns) hL hlo (i₂.notTab hlo) fun x c hc q=>hr₂.cellEx i₂ hc (q ▸ hCn)
 have hitD:it≠h₂.objs.size:=fun q=>by obtain ⟨o,_,e,_⟩:=hI.st.obj;rw [q,hD] at e;cases e
 have hitC:it≠H3.objs.size:=fun q=>by obtain ⟨o,_,e,_⟩:=hI.st.obj;rw [q,hCn] at e;cases e
 have hI₄:Itr (io σ h₂.objs.size []) h₄ it items:=⟨hI.st.mono (fun o e=>g₄ it o e) E₄.seq,(ir σ _ hitD).trans hI.un,hI.lo,hI.nt⟩
 have hfresh:∀ a o,s₁.heap.get? a=some o→a≠it∧a≠h₂.objs.size∧a≠H3.objs.size:=fun a o e=>
  ⟨fun q=>(by rw [q,fr₂] at e;cases e),fun q=>(by have:=g₂ a o e;rw [q,hD] at this;cases this),fun q=>(by have:=g₂ a o e;rw [q,hCn] at this;cases this)⟩
 have n1:s₁.heap.get? h₂.objs.size=none:=by
  cases q:s₁.heap.get? h₂.objs.size with
  | none=>rfl
  | some o=>exact absurd rfl (hfresh _ o q).2.1
 have n2:s₁.heap.get? H3.objs.size=none:=by
  cases q:s₁.heap.get? H3.objs.size with
  | none=>rfl
  | some o=>exact absurd rfl (hfresh _ o q).2.2
 have lp:=loop h₂.objs.size H3.objs.size it { s₁ with heap:=h₄,toks:=s₁.toks + ([]:List (Str×Value)).length } ⟨hDC,hitC,hitD,i₄',rc,hI₄,fr₂,n1,n2,i₂.off hD,i₂.size,Ext.grow fun b o e=>g₄ b o (g₂ b o e)⟩
 exact codeAny_compStart_list lp (rk (s:={ s₁ with heap:=h₄,toks:=s₁.toks + ([]:List (Str×Value)).length }) hI₄.st lp)
theorem yX {elt target iter:Expr} {ifs:List Expr} {scope:Scope} {pos:Pos} (caps:Fm) (ok:jp K ρ scope caps) {A:Around} {env:Env} {s₁:Shared} (ha:AOk K.d A) (hr₁:Rep K env ρ σ s₁.heap) (i₁:Inv σ s₁)
  {items:List V} {pv:V} {v:Value} (hit:iM pv items) (r₁:Rel σ s₁.heap v pv) (J:List V→List V→ij→Prop) (hJ:J items [] σ) (turn:lk K scope caps target elt ifs J) {RR:Value→Addr→Result→Shared→Prop}
  (fin:∀ D L acc σ₂ s',J [] acc σ₂→σ₂ D=none→Inv (io σ₂ D acc) s'→Rep (KxC K scope) (jw env scope L) caps (io σ₂ D acc) s'.heap→Ext σ s₁.heap σ₂ s'.heap→s₁.heap.get? L=none→D≠L→C.h1.objs.size≤D→RR (.ref D) L (.ok .next) s'):
  wpAny (model C.prog C.w) A (pyIter v) (fun it s₂=>wpAny (model C.prog C.w) A (newList []) (fun acc s₃=>wpAny (model C.prog C.w) A (newFunctionEnv scope env.globals (closL env.cells scope.names []) [] env.qual none .none (some env)) (fun cenv s₄=>
   codeAny (model C.prog C.w) A (.compStart (.ListComp elt [⟨target,iter,ifs,0⟩] scope pos) 0 it acc { cenv with scope:=relabel scope env }) (RR acc cenv.locals) s₄) Bot s₃) Bot s₂) Bot s₁:=by
 refine rG caps ok ha hr₁ i₁ hit r₁ fun D L it s₄ S=>?_
 refine lC (DD (KxC K scope) (jw env scope L) caps J D it σ s₁.heap) ?_ items.length ⟨items,[],σ,rfl,hJ,S.sD,S.itr,S.rep,S.inv,S.ext⟩
 have n1:=S.gD
 have n2:=S.gL
 have fr₂:=S.gI
 have hitC:=S.nIL
 have hDC:=S.nDL
 have hDlo:=S.lo
 clear S
 intro n s' hJ2
 walk_at "u"; obtain ⟨r,acc,σ₂,eq0,hJ,hd,hI,hrc,hi',hE⟩:=hJ2;walk_at "v"
 subst eq0
 refine k8 hI ha (fun e h'' k=>?_) (fun x r' e v h'' tk k rv hI'=>?_)
 ·subst e
  have nd:=hI.nd
  exact fin D L acc σ₂ { s' with heap:=h'' } hJ hd (hi'.poke (s':={ s' with heap:=h'' }) k rfl rfl) (hrc.poke k nd) (hE.but k.keep fr₂) n2 hDC hDlo
 ·subst e
  have nd:=hI.nd
  have hrc':=hrc.poke k nd
  have hi'':=hi'.poke (s':={ s' with heap:=h'',toks:=tk }) k rfl rfl
  have hE':=hE.but k.keep fr₂
  walk_at "u"; obtain ⟨fr,ht,hdis,body⟩:=turn x r' acc σ₂ D hJ hd;walk_at "v"
  refine oi (s:={ s' with heap:=h'',toks:=tk }) hI'.st ?_
  refine nU (s:={ s' with heap:=h'',toks:=tk }) (d:=K.d) ht ha hdis hrc' hi'' rv fun s₂ hrc₂ hi₂ eL=>?_
  have hE₂:Ext σ s₁.heap σ₂ s₂.heap:=hE'.but eL.keep n2
  have hI₂:Itr (io σ₂ D acc) s₂.heap it r':=⟨hI'.st.mono (fun o e=>eL.keep it o hitC e) (eL.seq hrc'),hI'.un,hI'.lo,hI'.nt⟩
  refine Ah (K:=KxC K scope) ha body hrc₂ hi₂ fun ok σ₃ s₃ q₃ i₃ e₃=>?_
  cases ok with
  | false=>
   walk_at "u"; obtain ⟨σ₅,rfl,h5,hJ'⟩:=q₃;walk_at "v"
   exact ⟨r'.length,by simp,r',acc,σ₅,rfl,hJ',h5,hI₂.keep hrc₂ e₃.toF,(hrc₂.mono e₃).sub (fun p hp=>bz _ hp),i₃,uR hE₂ e₃ n1 hd h5⟩
  | true=>
   refine q₃ A (jw env scope L) s₃ ha (hrc₂.mono e₃) i₃ _ fun v pv σ₄ s₄ q₄ i₄ e₄ r₄=>?_
   walk_at "u"; obtain ⟨hlen,σ₅,rfl,h5,hJ'⟩:=q₄;walk_at "v"
   refine bi_append (d:=K.d) (Q:=fun v σ'=>σ'=io σ₅ D (acc++[pv])) i8 hlen kf A s₄ _ _ ha i₄ (.raw _) (.cons (.loc D) (.cons r₄ .nil)) _ fun v' pv' σ₆ s₆ q₆ i₆ e₆ r₆=>?_
   subst q₆
   have EE:=(e₃.trans e₄).trans e₆
   exact ⟨r'.length,by simp,r',acc++[pv],σ₅,rfl,hJ',h5,hI₂.keep hrc₂ EE.toF,(hrc₂.mono EE).sub (fun p hp=>bz _ hp),i₆,uR hE₂ EE n1 hd h5⟩
theorem Rep.pokeNs {K:Kx} {env:Env} {ρ:Fm} {σ:ij} {h h':Heap} {a:Addr} (r:Rep K env ρ σ h) (k:ji σ a h h') (hns:∀ m,h.Ns env.locals m→∃ m',h'.Ns env.locals m'∧∀ p∈ρ,m' p.1=m p.1) (hc:∀ x c,env.cells.lookup x=some c→c≠a):Rep K env ρ σ h':=by
 have hce:∀ b v,b≠a→h.IsCell b v→h'.IsCell b v:=fun b v n y=>oS y fun o e=>k.keep b o n e
 walk_at "u"; obtain ⟨m,hm⟩:=r.loc;walk_at "v"
 refine ⟨r.kind,r.names,r.glob,r.blt,r.qual,r.code,(hns m hm).elim fun m' x=>⟨m',x.1⟩,r.locF,fun y c hc'=>?_,r.cinj,fun p hp=>?_⟩
 ·walk_at "u"; obtain ⟨h1,h2,h3,h4,h5⟩:=r.cells y c hc';walk_at "v"
  exact ⟨h1,h2,h3,fun e=>(h4 e).elim fun v q=>⟨v,hce _ _ (hc y c hc') q⟩,h5⟩
 ·have hv:=r.vars p hp
  walk_at "u"; obtain ⟨y,sl⟩:=p;walk_at "v"
  cases sl with
  | val pv=>
   rcases hv with ⟨h1,m,v,h2,h3,h4⟩ | ⟨h1,c,v,h2,h3,h4,h5,h6⟩
   ·exact (hns m h2).elim fun m' x=>.inl ⟨h1,m',v,x.1,(x.2 _ hp).trans h3,h4.mono k.seq⟩
   ·exact .inr ⟨h1,c,v,h2,hce c _ (hc y c h2) h3,h4.mono k.seq,h5,h6⟩
  | sh c=>exact hv
  | emp=>obtain ⟨h1,c,h2,⟨v,h3⟩,h5,h6⟩:=hv;exact ⟨h1,c,h2,⟨v,hce c _ (hc y c h2) h3⟩,h5,h6⟩
theorem Rep.pokeNe {K:Kx} {env:Env} {ρ:Fm} {σ:ij} {h h':Heap} {a:Addr} (r:Rep K env ρ σ h) (k:ji σ a h h') (hL:env.locals≠a) (hc:∀ x c,env.cells.lookup x=some c→c≠a):Rep K env ρ σ h':=
 r.pokeNs k (fun m y=>⟨m,nC y fun o e=>k.keep _ o hL e,fun _ _=>rfl⟩) hc
theorem ji.ofNs {env:Env} {h h':Heap} {m:Str→Option Value} (hm:h.Ns env.locals m) (hf:σ env.locals=none) (lo:C.h1.objs.size≤env.locals) (sb:∀ b o,b≠env.locals→h.get? b=some o→h'.get? b=some o):ji σ env.locals h h':=
 ⟨sb,fun o e=>⟨hf,lo,by
  walk_at "u"; obtain ⟨o',es,ep,e',d,_⟩:=hm;walk_at "v"
  obtain rfl:=aq (e.symm.trans e')
  exact ⟨fun q=>(by rcases q with ⟨_,_,q⟩ | ⟨_,_,q⟩<;>rw [d] at q<;>cases q),fun vs q=>(by exact (jW (d.symm.trans q) rfl).elim)⟩⟩⟩
structure FH (σ:ij) (s₁:Shared) (D L:Addr) (acc:List V) (σ₂:ij) (s':Shared):Prop where
 d:σ₂ D=none
 inv:Inv (io σ₂ D acc) s'
 rep:∃ Kc cenv caps,Env.locals cenv=L∧Rep Kc cenv caps (io σ₂ D acc) s'.heap
 ext:Ext σ s₁.heap σ₂ s'.heap
 new:s₁.heap.get? L=none
 ne:D≠L
 lo:C.h1.objs.size≤D
noncomputable def A9 (K:Kx) (ρ:Fm) (e:Expr) (scope:Scope) (σ:ij) (pv:V) (P:List V→ij→Prop):Prop:=
 ∀ (A:Around) (env:Env) (s₁:Shared) (v:Value),AOk K.d A→Rep K env ρ σ s₁.heap→Inv σ s₁→Rel σ s₁.heap v pv→∀ RR:Value→Addr→Result→Shared→Prop,(∀ D L acc σ₂ s',P acc σ₂→FH σ s₁ D L acc σ₂ s'→RR (.ref D) L (.ok .next) s')→
  wpAny (model C.prog C.w) A (pyIter v) (fun it s₂=>wpAny (model C.prog C.w) A (newList []) (fun acc s₃=>wpAny (model C.prog C.w) A (newFunctionEnv scope env.globals (closL env.cells scope.names []) [] env.qual none .none (some env)) (fun cenv s₄=>
   codeAny (model C.prog C.w) A (.compStart e 0 it acc { cenv with scope:=relabel scope env }) (RR acc cenv.locals) s₄) Bot s₃) Bot s₂) Bot s₁
theorem wD {elt target iter:Expr} {ifs:List Expr} {gs:List Comprehension} {scope:Scope} {pos:Pos} (hk:scope.kind=.function) (hn:∀ x∈scope.names,x.2=.local→scope.names.lookup x.1=some .local) (hf:∀ x∈scope.names,x.2=.free→o8 K ρ x.1)
  (h:EvP K ρ σ iter (fun v σ₁=>A9 K ρ (.ListComp elt (⟨target,iter,ifs,0⟩ :: gs) scope pos) scope σ₁ v (fun acc σ₂=>Q (.lst acc) σ₂))) (hs:∀ env x,foldedSetIterable iter env x=pure x):EvP K ρ σ (.ListComp elt (⟨target,iter,ifs,0⟩ :: gs) scope pos) Q:=fun A env s ha hr hi QM hq=>by
 rw [eval_ListComp]
 refine wpAny_comprehension_free (use:=none) (g:=⟨target,iter,ifs,0⟩) (gs:=gs) rfl (hs env) (jZ scope fun x hx hfx=>(hf x hx hfx).cell hr) hk hn ?_
 refine h A env s ha hr hi _ fun v pv σ₁ s₁ h₁ i₁ e₁ r₁=>h₁ A env s₁ v ha (hr.mono e₁) i₁ r₁ _ fun D L acc σ₂ s' hP S=>?_
 refine bc fun hbc=>?_
 obtain ⟨Kc,cenv,caps,eL,hrc⟩:=S.rep
 obtain ⟨m,hm⟩:=hrc.loc
 refine hbc ?_
 clear hbc
 have k0:=fun h3 sb=>ji.ofNs (h':=h3) (env:=cenv) hm hrc.locF.1 hrc.locF.2.2 sb
 subst eL
 refine ⟨m,hm,fun h3 sb=>?_⟩
 have k2:=k0 h3 sb.extBut
 have hi3:=S.inv.poke (s':={ s' with heap:=h3 }) k2 rfl rfl
 refine bc fun hbc=>?_
 obtain ⟨hi4,E4⟩:=hi3.drop S.d (fun v e=>by cases e)
 obtain ⟨its,n,ho,hrs⟩:=(hi3.own D _ i8).2
 obtain ⟨its⟩:=its
 refine hbc ?_
 clear hbc
 exact hq _ _ σ₂ _ hP hi4 (e₁.trans (S.ext.but k2.keep S.new)) (.lst ho S.d (hi4.notTab S.lo) (hrs.mono E4.seq))
theorem vZ {y:Str} {elt target iter:Expr} {ifs:List Expr} {gs:List Comprehension} {scope:Scope} {pos py spos:Pos} {Q:Fl→Fm→ij→Prop} (hk:scope.kind=.function) (hn:∀ x∈scope.names,x.2=.local→scope.names.lookup x.1=some .local) (hf:∀ x∈scope.names,x.2=.free→o8 K ρ x.1) (hy:K.names.lookup y=some .local)
  (h:EvP K ρ σ iter (fun v σ₁=>A9 K ρ (.ListComp elt (⟨target,iter,ifs,0⟩ :: gs) scope pos) scope σ₁ v (fun acc σ₂=>∃ ρ',Upd ρ y (.val (.lst acc)) ρ'∧Q .next ρ' σ₂)))
  (hline:(py.line == pos.line)=true) (hnot:(scope.names.any fun (n,k)=>n == y && (k == .local || k == .cell))=false) (hs:∀ env x,foldedSetIterable iter env x=pure x):StP K ρ σ (.Assign [.Name y py] (.ListComp elt (⟨target,iter,ifs,0⟩ :: gs) scope pos) spos) Q:=fun A env s ha hr hi QM hq=>by
 have hsw:swapsWith (.ListComp elt (⟨target,iter,ifs,0⟩ :: gs) scope pos) (some (.Name y py)) spos.line env=pure true:=by
  have hky:env.kindOf y=some .local:=(congrArg (·.lookup y) hr.names).trans hy
  have hb:env.blockKind=.function:=by unfold Env.blockKind;rw [hr.kind];rfl
  have hl:(py.line == (Expr.ListComp elt (⟨target,iter,ifs,0⟩ :: gs) scope pos).pos.line)=true:=hline
  show (pure (env.blockKind == .function && env.kindOf y == some .local && py.line == (Expr.ListComp elt (⟨target,iter,ifs,0⟩ :: gs) scope pos).pos.line && !(scope.names.any fun (n,k)=>n == y && (k == .local || k == .cell))):Sem Bool)=_
  rw [hky,hb,hl,hnot];rfl
 rw [exec_Assign_Name_used _ _ _ _ hsw]
 refine wpAny_bind (wpAny_standAt (wpAny_bind ?_))
 show wpAny _ A (do let _ ← comprehension (.ListComp elt (⟨target,iter,ifs,0⟩ :: gs) scope pos) scope env _ (newList []) false (eval iter env) (some (assign (.Name y py) env))) _ _ s
 refine wpAny_bind (wpAny_mono (wpAny_comprehension_free (g:=⟨target,iter,ifs,0⟩) (gs:=gs) (use:=some (assign (.Name y py) env)) (Q:=fun _ s'=>QM .next s') rfl (hs env) (jZ scope fun x hx hfx=>(hf x hx hfx).cell hr) hk hn ?_) (fun _ s' hq=>wpAny_pure (wpAny_pure hq)) fun _ _ e=>e)
 refine h A env s ha hr hi _ fun v pv σ₁ s₁ h₁ i₁ e₁ r₁=>?_
 have hr₁:=hr.mono e₁
 refine h₁ A env s₁ v ha hr₁ i₁ r₁ _ fun D L acc σ₂ s' hP S=>?_
 refine bc fun hbc=>?_
 obtain ⟨hi4,E4⟩:=S.inv.drop S.d (fun v e=>by cases e)
 obtain ⟨its,n,ho,hrs⟩:=(S.inv.own D _ i8).2
 obtain ⟨its⟩:=its
 obtain ⟨ρ',hu,hQ⟩:=hP
 obtain ⟨Kc,cenv,caps,eL,hrc⟩:=S.rep
 obtain ⟨m,hm⟩:=hrc.loc
 refine hbc ?_
 clear hbc
 subst eL
 have hLs:σ₂ cenv.locals=none:=by have:=hrc.locF.1;rwa [iO (Ne.symm S.ne)] at this
 have nL:env.locals≠cenv.locals:=fun q=>by
  obtain ⟨m,o,_,_,e,_⟩:=hr₁.loc
  have:=S.new
  rw [← q,e] at this;cases this
 have nc:∀ x c,env.cells.lookup x=some c→c≠cenv.locals:=fun x c hc q=>hr₁.cellEx i₁ hc (q ▸ S.new)
 show wpAny _ A (assign (.Name y py) env (.ref D)) _ _ _
 refine wpAny_assign_Name (j5 hy (hr₁.mono S.ext) hi4 (.lst ho S.d (hi4.notTab S.lo) (hrs.mono E4.seq)) hu fun s₂ hr₂ hi₂ eL=>?_)
 have hm2:s₂.heap.Ns cenv.locals m:=nC hm fun o e=>eL.keep _ o (Ne.symm nL) e
 refine ⟨m,hm2,fun h3 sb=>?_⟩
 have k2:=ji.ofNs (σ:=σ₂) (env:=cenv) hm2 hLs hrc.locF.2.2 sb.extBut
 have E1:jz env σ₁ s₁.heap σ₂ s₂.heap:=⟨fun a o e hs ht hf=>eL.keep a o (fun q=>hf (.inl q)) (S.ext.keep a o e hs ht),fun a o e hs ht _=>S.ext.free a o e hs ht,S.ext.cell⟩
 exact hq .next .next ρ' σ₂ { s₂ with heap:=h3 } hQ trivial (hr₂.pokeNe k2 nL nc) (hi₂.poke (s':={ s₂ with heap:=h3 }) k2 rfl rfl) (e₁.toF.trans (E1.poke k2 S.new))
theorem Dk {elt target iter:Expr} {ifs:List Expr} {scope:Scope} {pos:Pos} (caps:Fm) (ok:jp K ρ scope caps) {pv:V} {P:List V→ij→Prop}
  (h:∃ items,iM pv items∧∃ J:List V→List V→ij→Prop,J items [] σ∧lk K scope caps target elt ifs J∧∀ acc σ₂,J [] acc σ₂→P acc σ₂):A9 K ρ (.ListComp elt [⟨target,iter,ifs,0⟩] scope pos) scope σ pv P:=
 h.elim fun _ h=>h.2.elim fun J h2 _ _ _ _ ha hr hi r _ fin=>yX caps ok ha hr hi h.1 r J h2.1 h2.2.1 fun D L acc σ₂ s' hJ hd hi' hrc hE n2 hDC hDlo=>fin D L acc σ₂ s' (h2.2.2 acc σ₂ hJ) ⟨hd,hi',⟨_,_,_,rfl,hrc⟩,hE,n2,hDC,hDlo⟩
theorem pX {elt target iter:Expr} {ifs:List Expr} {scope:Scope} {pos:Pos} (caps:Fm) (ok:jp K ρ scope caps)
  (h:EvP K ρ σ iter (fun v σ₁=>∃ items,iM v items∧∃ J:List V→List V→ij→Prop,J items [] σ₁∧lk K scope caps target elt ifs J∧(∀ acc σ₂,J [] acc σ₂→Q (.lst acc) σ₂)))
  (hs:autoParam (∀ env x,foldedSetIterable iter env x=pure x) aI):EvP K ρ σ (.ListComp elt [⟨target,iter,ifs,0⟩] scope pos) Q:=wD ok.kind ok.names ok.free (h.mono fun _ _=>Dk caps ok) hs
theorem p7 {y:Str} {elt target iter:Expr} {ifs:List Expr} {scope:Scope} {pos py spos:Pos} {Q:Fl→Fm→ij→Prop} (caps:Fm) (ok:jp K ρ scope caps) (hy:K.names.lookup y=some .local)
  (h:EvP K ρ σ iter (fun v σ₁=>∃ items,iM v items∧∃ J:List V→List V→ij→Prop,J items [] σ₁∧lk K scope caps target elt ifs J∧(∀ acc σ₂,J [] acc σ₂→∃ ρ',Upd ρ y (.val (.lst acc)) ρ'∧Q .next ρ' σ₂)))
  (hline:autoParam ((py.line == pos.line)=true) aR) (hnot:autoParam ((scope.names.any fun (n,k)=>n == y && (k == .local || k == .cell))=false) aK)
  (hs:autoParam (∀ env x,foldedSetIterable iter env x=pure x) aI):StP K ρ σ (.Assign [.Name y py] (.ListComp elt [⟨target,iter,ifs,0⟩] scope pos) spos) Q:=vZ ok.kind ok.names ok.free hy (h.mono fun _ _=>Dk caps ok) hline hnot hs
end
end Internal
end
section
open PySem PySem.W PyProof.Rows PySem.Calls
namespace Internal
noncomputable abbrev Fa (name qual:Str) (params:Arguments) (body:FuncBody) (scope:Scope) (cl:List (Str×Addr)) (pm cdv ct:Value):FuncData:=
 { name,qualname:=qual,params,body,scope,globals:=mainGlobals,closure:=cl,defaults:=.none,kwdefaults:=.none,doc:=.none,pyModule:=pm,annotations:=none,code:=cdv,closureTuple:=ct,builtins:=builtinsNs }
section
variable {M:Model} {A:Around} {E:Value→Shared→Prop} {s:Shared} {name qual:Str} {params:Arguments} {body:FuncBody} {scope:Scope} {env:Env} {c P:Addr} {ps:Array Value} {pos:Pos} {firstLine:Nat} {mg:Str→Option Value}
 {clos:List (Str×Addr)} {Q:Value→Shared→Prop}
noncomputable def DA (body:FuncBody):Prop:=∀ b,body=.stmts b→docOf b=none
theorem Cl (hd:DA body) (hcl:closureFor scope env=pure clos) (hge0:env.globals=mainGlobals) (hg:s.heap.Ns mainGlobals mg) (hcode:env.code=.ref c) (CH:CodeHd s.heap c P) (hP:s.heap.get? P=some (tabObj ps)) (ht:TriplesOk ps.toList)
  (hgP:mainGlobals≠P) (hb:s.heap.BuiltinsAt mg P)
  (h:∀ cv ctv h' tk ps',Heap.ExtBut P s.heap h'→s.heap.objs.size≤h'.objs.size→h'.get? P=some (tabObj ps')→
   ((ps'=ps∧codeAmong pos ps.toList=some cv)∨(codeAmong pos ps.toList=none∧∃ c',cv=.ref c'∧s.heap.objs.size≤c'∧ps'=ps++#[rawInt pos.line,rawInt pos.col,.ref c']∧h'.CodeRec (.ref c') qual))→
   Q (.ref h'.objs.size) { s with heap:=h'.push { cls:=.type "function", data:=.func (Fa name qual params body scope clos ((mg "__name__").getD .none) cv ctv) },toks:=tk }):
  wpAny M A (makeTail name qual params body scope env .none .none none pos firstLine) Q E s:=by
 walk_at "u"; obtain ⟨bm,ob,hbm,hne0,_,hneP,hbo,hcls,hdict,hdata⟩:=hb;walk_at "v"
 unfold makeTail
 rw [hcl,hge0]
 refine wpAny_bind (wpAny_pure ?_)
 cases clos with
 | nil=>
  simp only [e7,if_true]
  refine wpAny_bind (wpAny_pure ?_)
  have k₀:∀ b o,s.heap.get? b=some o→s.heap.get? b=some o:=fun _ _ e=>e
  have hP₀:=k₀ _ _ hP
  have sz:s.heap.objs.size≤s.heap.objs.size:=av _
  cases hf:codeAmong pos ps.toList with
  | some cv=>
   refine wpAny_bind (wpAny_functionCode_hit hcode ((CH.keeps k₀).code hP₀ ht) hf ?_)
   refine wpAny_bind (wpAny_builtinsFor (hg.keeps k₀) hbm hne0 (k₀ _ _ hbo) hcls hdict hdata ?_)
   cases body with
   | stmts b=>
    have hd':docOf b=none:=hd b rfl
    refine wpAny_bind (wpAny_nsGet (hg.keeps k₀) ?_)
    simp only [hd']
    exact wpAny_bind (wpAny_pure (wpAny_newObj_type (h cv .none _ s.toks ps (fun b o _ e=>k₀ b o e) sz hP₀ (.inl ⟨rfl,hf⟩)) (by size_fits)))
   | expr e=>
    refine wpAny_bind (wpAny_nsGet (hg.keeps k₀) ?_)
    exact wpAny_bind (wpAny_pure (wpAny_newObj_type (h cv .none _ s.toks ps (fun b o _ e=>k₀ b o e) sz hP₀ (.inl ⟨rfl,hf⟩)) (by size_fits)))
  | none=>
   refine wpAny_bind (wpAny_functionCodeX hcode ((CH.keeps k₀).code hP₀ ht) ((CH.keeps k₀).tab hP₀) hf fun c' h' tk hx hge hlt _ hrec htb _=>?_)
   have hg':=(hg.keeps k₀).extBut hx hgP
   refine wpAny_bind (wpAny_builtinsFor hg' hbm hne0 (hx _ _ hneP (k₀ _ _ hbo)) hcls hdict hdata ?_)
   cases body with
   | stmts b=>
    have hd':docOf b=none:=hd b rfl
    refine wpAny_bind (wpAny_nsGet hg' ?_)
    simp only [hd']
    exact wpAny_bind (wpAny_pure (wpAny_newObj_type (h (.ref c') .none h' tk _ (fun b o hb e=>hx b o hb (k₀ b o e)) (aa sz (aa hge (aF hlt))) htb.2 (.inr ⟨hf,c',rfl,aa sz hge,rfl,hrec⟩)) (by size_fits)))
   | expr e=>
    refine wpAny_bind (wpAny_nsGet hg' ?_)
    exact wpAny_bind (wpAny_pure (wpAny_newObj_type (h (.ref c') .none h' tk _ (fun b o hb e=>hx b o hb (k₀ b o e)) (aa sz (aa hge (aF hlt))) htb.2 (.inr ⟨hf,c',rfl,aa sz hge,rfl,hrec⟩)) (by size_fits)))
 | cons q r=>
  simp only [List.isEmpty_cons,bJ,if_false]
  refine wpAny_bind (wpAny_newTextTuple ?_)
  generalize hO:({ cls:=Value.type "tuple", data:=Data.seq _ }:Obj)=oT
  have k₀:∀ b o,s.heap.get? b=some o→(s.heap.push oT).get? b=some o:=fun _ _ e=>Heap.get?_push_of_some _ e
  have hP₀:=k₀ _ _ hP
  have sz:s.heap.objs.size≤(s.heap.push oT).objs.size:=by rw [Heap.size_push];walk_at "l"
  cases hf:codeAmong pos ps.toList with
  | some cv=>
   refine wpAny_bind (wpAny_functionCode_hit hcode ((CH.keeps k₀).code hP₀ ht) hf ?_)
   refine wpAny_bind (wpAny_builtinsFor (hg.keeps k₀) hbm hne0 (k₀ _ _ hbo) hcls hdict hdata ?_)
   cases body with
   | stmts b=>
    have hd':docOf b=none:=hd b rfl
    refine wpAny_bind (wpAny_nsGet (hg.keeps k₀) ?_)
    simp only [hd']
    exact wpAny_bind (wpAny_pure (wpAny_newObj_type (h cv _ _ s.toks ps (fun b o _ e=>k₀ b o e) sz hP₀ (.inl ⟨rfl,hf⟩)) (by size_fits)))
   | expr e=>
    refine wpAny_bind (wpAny_nsGet (hg.keeps k₀) ?_)
    exact wpAny_bind (wpAny_pure (wpAny_newObj_type (h cv _ _ s.toks ps (fun b o _ e=>k₀ b o e) sz hP₀ (.inl ⟨rfl,hf⟩)) (by size_fits)))
  | none=>
   refine wpAny_bind (wpAny_functionCodeX hcode ((CH.keeps k₀).code hP₀ ht) ((CH.keeps k₀).tab hP₀) hf fun c' h' tk hx hge hlt _ hrec htb _=>?_)
   have hg':=(hg.keeps k₀).extBut hx hgP
   refine wpAny_bind (wpAny_builtinsFor hg' hbm hne0 (hx _ _ hneP (k₀ _ _ hbo)) hcls hdict hdata ?_)
   cases body with
   | stmts b=>
    have hd':docOf b=none:=hd b rfl
    refine wpAny_bind (wpAny_nsGet hg' ?_)
    simp only [hd']
    exact wpAny_bind (wpAny_pure (wpAny_newObj_type (h (.ref c') _ h' tk _ (fun b o hb e=>hx b o hb (k₀ b o e)) (aa sz (aa hge (aF hlt))) htb.2 (.inr ⟨hf,c',rfl,aa sz hge,rfl,hrec⟩)) (by size_fits)))
   | expr e=>
    refine wpAny_bind (wpAny_nsGet hg' ?_)
    exact wpAny_bind (wpAny_pure (wpAny_newObj_type (h (.ref c') _ h' tk _ (fun b o hb e=>hx b o hb (k₀ b o e)) (aa sz (aa hge (aF hlt))) htb.2 (.inr ⟨hf,c',rfl,aa sz hge,rfl,hrec⟩)) (by size_fits)))
end
end Internal
end
section
open PySem PySem.W PyProof.Rows PySem.Calls
namespace Internal
section
variable {K:Kx} {ρ:Fm} {σ:ij} {d:Nat}
theorem jj.swap {σ':ij} {h:Heap} {b:Addr} {p:PObj} (hs:iW σ h σ' h) (hc:∀ cd q,j7 σ h cd q→j7 σ' h cd q) (x:jj σ h b p):jj σ' h b p:=by
 cases p with
 | list vs=>obtain ⟨items,n,e,r⟩:=x;exact ⟨items,n,e,r.mono hs⟩
 | ns at_=>obtain ⟨es,n,e,r⟩:=x;exact ⟨es,n,e,r.mono hs⟩
 | inst c d=>exact x
 | cell v=>cases v with
  | none=>exact x
  | some v=>obtain ⟨v,n,q⟩:=x;exact ⟨v,n,q.mono hs⟩
 | func f cap d=>obtain ⟨o,fd,e,c,d,f1,f2,f3,f4,f5,f6,f7,f8,f9,f10,f11,f12⟩:=x;exact ⟨o,fd,e,c,d,f1,f2,f3,f4,f5,f6,f7,f8,f9,f10,f11,hc _ _ f12⟩
 | bound f self=>obtain ⟨v,e,q⟩:=x;exact ⟨v,e,q.mono hs⟩
 | citer f sent=>obtain ⟨v,u,e,q,q'⟩:=x;exact ⟨v,u,e,q.mono hs,q'.mono hs⟩
 | cend=>exact x
 | riter vs i=>obtain ⟨l,e,q⟩:=x;exact ⟨l,e,q.mono hs⟩
theorem p9 {s:Shared} {env:Env} {x:Str} {c:Addr} {ov:Option V} {r':Fm} (hi:Inv σ s) (hr:Rep K env ρ σ s.heap) (hl:env.cells.lookup x=some c) (hk:K.names.lookup x=some .cell) (hσ:σ c=none)
  (ho:jj (upd σ c (some (.cell ov))) s.heap c (.cell ov)) (hrest:Rest ρ x r'):
  Inv (upd σ c (some (.cell ov))) s∧Rep K env ((x,.sh c) :: r') (upd σ c (some (.cell ov))) s.heap∧∀ σ' h',jz env (upd σ c (some (.cell ov))) s.heap σ' h'→jz env σ s.heap σ' h':=by
 refine bc fun hbc=>?_
 obtain ⟨h1,h2,h3,h4,h5⟩:=hr.cells x c hl
 obtain ⟨v0,oc,hoc,hod⟩:=h4 hσ
 refine hbc ?_
 clear hbc
 have nf:∀ o,s.heap.get? c=some o→o.data=.cell v0:=fun o e=>by obtain rfl:=aq (hoc.symm.trans e);exact hod
 have hs:iW σ s.heap (upd σ c (some (.cell ov))) s.heap:=⟨fun _ _ e _ _ _=>e,fun b o e f hb _=>by
  rw [ir σ _ (fun q=>by
   subst q
   have:=nf o e
   rcases f with ⟨_,_,f⟩ | ⟨_,_,f⟩<;>rw [this] at f<;>cases f)]
  exact hb⟩
 have hcode:∀ cd q,j7 σ s.heap cd q→j7 (upd σ c (some (.cell ov))) s.heap cd q:=fun cd q ⟨⟨c',o,vs,t,e,g,dd,r⟩,z⟩=>⟨⟨c',o,vs,t,e,g,dd,r⟩,fun c'' e'=>⟨by
  rw [ir σ _ (fun q=>by
   subst q
   (rw [e] at e';cases e')
   have:=nf o g
   exact (jW (dd.symm.trans this) rfl).elim)]
  exact (z c'' e').1,(z c'' e').2⟩⟩
 refine ⟨⟨hi.base,hi.top,fun a p e=>?_,hi.tabLt,fun n hn=>?_,hi.gens,hi.os⟩,⟨hr.kind,hr.names,hr.glob,hr.blt,hr.qual,hr.code,hr.loc,⟨?_,hr.locF.2⟩,fun y c' hc'=>?_,hr.cinj,fun p hp=>?_⟩,fun σ' h' e=>?_⟩
 ·by_cases ha:a=c
  ·subst ha
   (rw [ik] at e;cases e)
   exact ⟨h2,ho⟩
  ·rw [ir σ _ ha] at e
   exact ⟨(hi.own a p e).1,(hi.own a p e).2.swap hs hcode⟩
 ·walk_at "u"; obtain ⟨ps,g,t,f⟩:=hi.tabs n hn;walk_at "v"
  exact ⟨ps,g,t,fun dd hd cv hc=>hcode _ _ (f dd hd cv hc)⟩
 ·rw [ir σ _ h1];exact hr.locF.1
 ·walk_at "u"; obtain ⟨g1,g2,g3,g4,g5⟩:=hr.cells y c' hc';walk_at "v"
  refine ⟨g1,g2,g3,fun e=>?_,fun o e=>?_⟩
  ·by_cases hcc:c'=c
   ·subst hcc;(rw [ik] at e;cases e)
   ·rw [ir σ _ hcc] at e;exact g4 e
  ·by_cases hcc:c'=c
   ·subst hcc;(rw [ik] at e;cases e);exact ⟨_,rfl⟩
   ·rw [ir σ _ hcc] at e;exact g5 o e
 ·rcases am.mp hp with rfl | hp
  ·exact ⟨.inl hk,hl,_,ik ..⟩
  ·refine bc fun hbc=>?_
   obtain ⟨hp,hne⟩:=hrest p hp
   have hv:=hr.vars p hp
   obtain ⟨y,sl⟩:=p
   refine hbc ?_
   clear hbc
   have nec:∀ c',env.cells.lookup y=some c'→c'≠c:=fun c' e q=>hne (hr.cinj y x c' e (q ▸ hl))
   cases sl with
   | val pv=>
    rcases hv with ⟨g1,m,v,g2,g3,g4⟩ | ⟨g1,c',v,g2,g3,g4,g5,g6⟩
    ·exact .inl ⟨g1,m,v,g2,g3,g4.mono hs⟩
    ·exact .inr ⟨g1,c',v,g2,g3,g4.mono hs,(ir σ _ (nec c' g2)).trans g5,g6⟩
   | sh c'=>
    walk_at "u"; obtain ⟨g1,g2,o,g3⟩:=hv;walk_at "v"
    exact ⟨g1,g2,o,(ir σ _ (nec c' g2)).trans g3⟩
   | emp=>
    walk_at "u"; obtain ⟨g1,c',g2,g3,g5,g6⟩:=hv;walk_at "v"
    exact ⟨g1,c',g2,g3,(ir σ _ (nec c' g2)).trans g5,g6⟩
 ·have foot:lh env c:=.inr ⟨x,(congrArg (·.lookup x) hr.names).trans hk,hl⟩
  have ne:∀ a,¬ lh env a→a≠c:=fun a ha q=>ha (q ▸ foot)
  exact ⟨fun a o g hs' ht hf=>e.keep a o g ((ir σ _ (ne a hf)).trans hs') ht hf,fun a o g hs' ht hf=>e.free a o g ((ir σ _ (ne a hf)).trans hs') ht hf,fun c' v hc'=>e.cell c' v (by
   rw [ir σ _ (fun q=>by rw [q,hσ] at hc';cases hc')];exact hc')⟩
theorem l6 {x:Str} {v:V} {r':Fm} {ss:List Stmt} {Q:Fl→Fm→ij→Prop} (hx:(x,Slot.val v)∈ρ) (hk:K.names.lookup x=some .cell) (hrest:Rest ρ x r')
  (h:∀ c,σ c=none→ExP K ((x,.sh c) :: r') (upd σ c (some (.cell (some v)))) ss Q):ExP K ρ σ ss Q:=fun A env s ha hr hi QM hq=>by
 rcases hr.vars _ hx with ⟨h1,_⟩ | ⟨_,c,mv,h2,h3,h4,h5,h6⟩
 ·(rw [hk] at h1;cases h1)
 ·have nf:∀ o,s.heap.get? c=some o→o.data=.cell (some mv):=fun o e=>by obtain ⟨o',e',d'⟩:=h3;obtain rfl:=aq (e'.symm.trans e);exact d'
  obtain ⟨i',r'',e'⟩:=p9 (ov:=some v) hi hr h2 hk h5 ⟨mv,h3,h4.mono ⟨fun _ _ e _ _ _=>e,fun b o e f hb _=>by
   rw [ir σ _ (fun q=>by
    subst q
    have:=nf o e
    rcases f with ⟨_,_,f⟩ | ⟨_,_,f⟩<;>rw [this] at f<;>cases f)]
   exact hb⟩⟩ hrest
  exact h c h5 A env s ha r'' i' QM fun f fl ρ' σ' s' q a b cc e=>hq f fl ρ' σ' s' q a b cc (e' _ _ e)
theorem s8 {x:Str} {r':Fm} {ss:List Stmt} {Q:Fl→Fm→ij→Prop} (hx:(x,Slot.emp)∈ρ) (hrest:Rest ρ x r')
  (h:∀ c,σ c=none→ExP K ((x,.sh c) :: r') (upd σ c (some (.cell none))) ss Q):ExP K ρ σ ss Q:=fun A env s ha hr hi QM hq=>by
 refine bc fun hbc=>?_
 obtain ⟨hk,c,h2,⟨⟨_,rfl⟩,h3⟩,h5,h6⟩:=hr.vars _ hx
 obtain ⟨i',r'',e'⟩:=p9 (ov:=none) hi hr h2 hk h5 h3 hrest
 refine hbc ?_
 clear hbc
 exact h c h5 A env s ha r'' i' QM fun f fl ρ' σ' s' q a b cc e=>hq f fl ρ' σ' s' q a b cc (e' _ _ e)
theorem Inv.letgo {s:Shared} {a:Addr} {p:PObj} (i:Inv σ s) (ha:σ a=some p) (hc:∀ v,p≠.cell v):Inv (upd σ a none) s∧Ext σ s.heap (upd σ a none) s.heap:=by
 have E:Ext σ s.heap (upd σ a none) s.heap:=⟨fun _ _ e _ _=>e,fun b o e hb _=>by
  by_cases h:b=a
  ·subst h;exact ik ..
  ·rw [ir σ _ h];exact hb,fun c v e=>by
  by_cases h:c=a
  ·subst h;obtain rfl:=aq (ha.symm.trans e);exact absurd rfl (hc v)
  ·exact ⟨v,by rw [ir σ _ h];exact e⟩⟩
 exact ⟨i.step E (fun b q e=>.inl ⟨by
  by_cases h:b=a
  ·subst h;(rw [ik] at e;cases e)
  ·rw [ir σ _ h] at e;exact e,fun o g=>g⟩) (fun _ _ _ g=>g) rfl rfl,E⟩
theorem Ao {s:Shared} {a:Addr} {vs:List V} {v:Value} (i:Inv σ s) (ha:σ a=some (.list vs)) (r:Rel σ s.heap v (.loc a)):Rel (upd σ a none) s.heap v (.lst vs):=by
 cases r
 walk_at "u"; obtain ⟨⟨items⟩,n,ho,hr⟩:=(i.own a _ ha).2;walk_at "v"
 exact .lst ho (ik ..) (i.notTab (i.own a _ ha).1) (hr.mono (i.letgo ha (fun v e=>by cases e)).2.seq)
theorem jO {x:Str} {a:Addr} {vs:List V} {r':Fm} {ss:List Stmt} {Q:Fl→Fm→ij→Prop} (ha:σ a=some (.list vs)) (hx:(x,Slot.val (.loc a))∈ρ) (hrest:Rest ρ x r')
  (h:ExP K ((x,.val (.lst vs)) :: r') (upd σ a none) ss Q):ExP K ρ σ ss Q:=fun A env s hA hr hi QM hq=>by
 walk_at "u"; obtain ⟨i',E⟩:=hi.letgo ha (fun v e=>by cases e);walk_at "v"
 have hr':=hr.mono E
 refine h A env s hA ⟨hr'.kind,hr'.names,hr'.glob,hr'.blt,hr'.qual,hr'.code,hr'.loc,hr'.locF,hr'.cells,hr'.cinj,fun p hp=>?_⟩ i' QM fun f fl ρ' σ' s' q a b cc e=>hq f fl ρ' σ' s' q a b cc (E.toF.trans e)
 rcases am.mp hp with rfl | hp
 ·rcases hr.vars _ hx with ⟨h1,m,v,h2,h3,h4⟩ | ⟨h1,c,v,h2,h3,h4,h5,h6⟩
  ·exact .inl ⟨h1,m,v,h2,h3,Ao hi ha h4⟩
  ·refine .inr ⟨h1,c,v,h2,h3,Ao hi ha h4,?_,h6⟩
   rw [ir σ _ (fun q=>by rw [q,ha] at h5;cases h5)];exact h5
 ·exact hr'.vars p (hrest p hp).1
theorem tv {x:Str} {c:Addr} {ov:Option V} {v:Value} {pv:V} {A:Around} {env:Env} {s:Shared} (hx:(x,Slot.sh c)∈ρ) (hk:K.names.lookup x=some .cell) (hc:σ c=some (.cell ov))
  (hr:Rep K env ρ σ s.heap) (hi:Inv σ s) (hv:Rel σ s.heap v pv) {QM:Unit→Shared→Prop}
  (hq:∀ s',Inv (upd σ c (some (.cell (some pv)))) s'→Ext σ s.heap (upd σ c (some (.cell (some pv)))) s'.heap→QM () s'):wpAny (model C.prog C.w) A (storeName env x v) QM Bot s:=by
 walk_at "u"; obtain ⟨_,hl,_⟩:=hr.vars _ hx;walk_at "v"
 obtain ⟨v₀,hcell⟩:∃ v₀,s.heap.IsCell c v₀:=by
  have:=(hi.own c _ hc).2
  cases ov with
  | none=>exact ⟨_,this⟩
  | some w=>obtain ⟨mv,q,_⟩:=this;exact ⟨_,q⟩
 refine wpAny_storeName_cell hr.kind ((congrArg (·.lookup x) hr.names).trans hk) hl hcell fun h' hn hs=>?_
 have hsq:iW σ s.heap (upd σ c (some (.cell (some pv)))) h':=⟨fun b o e _ hb _=>(hs.2 b (fun q=>by rw [q,hc] at hb;cases hb)).trans e,fun b o e _ hb _=>by
  rw [ir σ _ (fun q=>by rw [q,hc] at hb;cases hb)];exact hb⟩
 walk_at "u"; obtain ⟨i',E⟩:=hi.set (s':={ s with heap:=h' }) (p':=.cell (some pv)) hc hs.extBut (fun v e=>⟨_,rfl⟩) ⟨v,hn,hv.mono hsq⟩ rfl rfl;walk_at "v"
 exact hq _ i' E
end
end Internal
end
section
open PySem PySem.W PyProof.Rows PySem.Calls
namespace Internal
structure Ctx.Ok3 (C:Ctx):Prop extends C.Ok2 where
 heads:∀ n∈C.nest,CodeHd C.h1 n.code n.table∧n.code∉C.tabs
 inj:∀ n∈C.nest,∀ n'∈C.nest,n.table=n'.table→n=n'
 bi:∃ bm o,C.mg "__builtins__" = some (.ref bm)∧bm≠builtinsNs∧bm≠mainGlobals∧bm∉C.tabs∧C.h1.get? bm=some o∧o.cls=.type "module" ∧ o.dict=some builtinsNs∧o.data=.plain
 apart:∀ n∈C.nest,∀ d∈n.defs,∀ d'∈n.defs,d.1.line=d'.1.line→d.1.col=d'.1.col→d=d'
section
variable {K:Kx} {ρ:Fm} {σ:ij} {d:Nat}
theorem sy {p:Pos} {a b:Int} {t u:Tok} {cv:Value}:∀ (l:List Value),TriplesOk l→codeAmong p (l++[.int a t,.int b u,cv])=(codeAmong p l).or (if a == p.line && b == p.col then some cv else none):=by
 intro l h
 fun_induction TriplesOk l with
 | case1=>simp [codeAmong]
 | case2 a' t' b' u' x rest ih=>
  simp only [ar,codeAmong]
  split
  ·rfl
  ·exact ih h
 | case3 l h1 h2=>exact h.elim
inductive CapL (ρ:Fm):List (Str×NameKind)→List (Str×Addr)→List (Str×Addr)→Prop where
 | nil (cs:List (Str×Addr)):CapL ρ [] cs cs
 | free {n:Str} {c:Addr} {r:List (Str×NameKind)} {cs out:List (Str×Addr)} (h:(n,Slot.sh c)∈ρ) (t:CapL ρ r ((n,c) :: cs) out):CapL ρ ((n,.free) :: r) cs out
 | other {n:Str} {k:NameKind} {r:List (Str×NameKind)} {cs out:List (Str×Addr)} (h:k≠.free) (t:CapL ρ r cs out):CapL ρ ((n,k) :: r) cs out
theorem CapL.closL {env:Env} {h:Heap} (hr:Rep K env ρ σ h) {names:List (Str×NameKind)} {cs out:List (Str×Addr)} (x:CapL ρ names cs out):closL env.cells names cs=out:=by
 induction x with
 | nil cs=>rfl
 | free hm t ih=>
  walk_at "u"; obtain ⟨_,hl,_⟩:=hr.vars _ hm;walk_at "v"
  unfold Internal.closL
  simp only [beq_self_eq_true,if_true,hl,dS]
  exact ih
 | other hk t ih=>
  unfold Internal.closL
  rw [if_neg (by simpa using hk)]
  exact ih
theorem CapL.tot {env:Env} {h:Heap} (hr:Rep K env ρ σ h) {names:List (Str×NameKind)} {cs out:List (Str×Addr)} (x:CapL ρ names cs out):∀ y∈names,y.2=.free→∃ c,env.cells.lookup y.1=some c:=by
 induction x with
 | nil cs=>intro y hy;cases hy
 | free hm t ih=>
  intro y hy hf
  rcases am.mp hy with rfl | hy
  ·obtain ⟨_,hl,_⟩:=hr.vars _ hm;exact ⟨_,hl⟩
  ·exact ih y hy hf
 | other hk t ih=>
  intro y hy hf
  rcases am.mp hy with rfl | hy
  ·exact absurd hf hk
  ·exact ih y hy hf
set_option tactic.hygienic true in
theorem Dq (O:C.Ok3) {n:Nest} (hn:n∈C.nest) {name qual:Str} {params:Arguments} {body:FuncBody} {scope:Scope} {cap:List (Str×Addr)} {pos:Pos} {firstLine:Nat} (hd:DA body) (hdef:(pos,qual)∈n.defs) (hcode:K.code=.ref n.code)
  (hcap:CapL ρ scope.names [] cap) {A:Around} {env:Env} {s:Shared} (hr:Rep K env ρ σ s.heap) (hi:Inv σ s) {QM:Value→Shared→Prop}
  (hq:∀ a s',σ a=none→Inv (upd σ a (some (.func ⟨name,qual,params,body,scope⟩ cap none))) s'→Ext σ s.heap (upd σ a (some (.func ⟨name,qual,params,body,scope⟩ cap none))) s'.heap→QM (.ref a) s'):
  wpAny (model C.prog C.w) A (makeTail name qual params body scope env .none .none none pos firstLine) QM Bot s:=by
 refine bc fun hbc=>?_
 obtain ⟨ps,hP,ht,hdefs⟩:=hi.tabs n hn
 have tm:n.table∈C.tabs:=aA.mpr ⟨n,hn,rfl⟩
 obtain ⟨CH,hct⟩:=O.heads n hn
 refine hbc ?_
 clear hbc
 have CHs:CodeHd s.heap n.code n.table:=by
  walk_at "u"; obtain ⟨o,vs,file,tf,flags,tg,inF,text,tt,e,r⟩:=CH;walk_at "v"
  exact ⟨o,vs,file,tf,flags,tg,inF,text,tt,hi.base _ o e hct,r⟩
 have hb:s.heap.BuiltinsAt C.mg n.table:=by
  walk_at "u"; obtain ⟨bm,o,b1,b2,b3,b4,b5,b6⟩:=O.bi;walk_at "v"
  exact ⟨bm,o,b1,b2,b3,fun q=>b4 (q ▸ tm),hi.base _ o b5 b4,b6⟩
 have hclos:closureFor scope env=pure cap:=by rw [jZ scope (hcap.tot hr),hcap.closL hr]
 refine Cl hd hclos hr.glob (hi.ns O.g O.gt) (hr.code.trans hcode) CHs hP ht (fun q=>O.gt (q ▸ tm)) hb fun cv ctv h' tk ps' hx hsz hP' hcv=>?_
 have low:n.table < C.h1.objs.size:=hi.tabLt n hn
 generalize hF:({ cls:=.type "function", data:=.func (Fa name qual params body scope cap ((C.mg "__name__").getD .none) cv ctv) }:Obj)=fo
 have hsn:s.heap.get? h'.objs.size=none:=get?_ge hsz
 have lo:C.h1.objs.size≤h'.objs.size:=aa hi.size hsz
 have ne:∀ b o,s.heap.get? b=some o→b≠h'.objs.size:=fun b o e q=>by rw [q,hsn] at e;cases e
 have kk:∀ b o,b≠n.table→s.heap.get? b=some o→(h'.push fo).get? b=some o:=fun b o hb e=>Heap.get?_push_of_some _ (hx b o hb e)
 let p:PObj:=.func ⟨name,qual,params,body,scope⟩ cap none
 have E:Ext σ s.heap (upd σ h'.objs.size (some p)) (h'.push fo):=⟨fun b o e _ hb=>kk b o (fun q=>hb (q ▸ tm)) e,fun b o e hb _=>by rw [ir σ _ (ne b o e)];exact hb,fun c v e=>⟨v,by
  rw [ir σ _ (fun q=>by rw [q,hi.off hsn] at e;cases e)];exact e⟩⟩
 have codeOk:j7 (upd σ h'.objs.size (some p)) (h'.push fo) cv qual:=by
  rcases hcv with ⟨_,hf⟩ | ⟨_,c',rfl,hge,_,hrec⟩
  ·exact (hdefs _ hdef cv hf).mono E
  ·refine ⟨hrec.push _,fun c e=>?_⟩
   cases e
   walk_at "u"; obtain ⟨c,o,vs,t,e,g,_⟩:=hrec;walk_at "v"
   cases e
   have nc:c'≠h'.objs.size:=fun q=>by have:=Heap.lt_size g;rw [q] at this;exact cB _ this
   exact ⟨by rw [ir σ _ nc];exact hi.off (get?_ge hge),hi.notTab (aa hi.size hge)⟩
 refine hq h'.objs.size { s with heap:=h'.push fo,toks:=tk } (hi.off hsn) ⟨fun a o e hta=>kk a o (fun q=>hta (q ▸ tm)) (hi.base a o e hta),hi.top,fun a q e=>?_,hi.tabLt,fun m hm=>?_,hi.gens,hi.os⟩ E
 ·by_cases ha:a=h'.objs.size
  ·subst ha
   (rw [ik] at e;cases e)
   exact ⟨lo,fo,_,Heap.get?_push_size _ (by rw [← hF];rfl),by rw [← hF],by rw [← hF],by rw [← hF],rfl,rfl,rfl,rfl,rfl,rfl,rfl,rfl,rfl,rfl,codeOk⟩
  ·rw [ir σ _ ha] at e
   exact ⟨(hi.own a q e).1,(hi.own a q e).2.mono E (fun o g=>kk a o (fun z=>absurd low (b7.mpr (z ▸ (hi.own a q e).1))) g)⟩
 ·by_cases hmn:m.table=n.table
  ·have:=O.inj m hm n hn hmn
   subst this
   refine ⟨ps',Heap.get?_push_of_some _ hP',?_,fun dd hdd cv' hc'=>?_⟩
   ·rcases hcv with ⟨rfl,_⟩ | ⟨_,c',_,_,rfl,_⟩
    ·exact ht
    ·simpa using TriplesOk_snoc pos.line pos.col (.ref c') ps.toList ht
   ·rcases hcv with ⟨rfl,_⟩ | ⟨hnone,c',rfl,_,rfl,_⟩
    ·exact (hdefs dd hdd cv' hc').mono E
    ·have e0:(ps++#[rawInt (pos.line:Int),rawInt (pos.col:Int),Value.ref c']).toList=ps.toList++[.int pos.line 0,.int pos.col 0,.ref c']:=by simp [rawInt]
     rw [e0,sy ps.toList ht] at hc'
     cases hq':codeAmong dd.1 ps.toList with
     | some w=>
      rw [hq'] at hc'
      have:w=cv':=by simpa using hc'
      subst this
      exact (hdefs dd hdd w hq').mono E
     | none=>
      rw [hq'] at hc'
      simp only [Option.none_or] at hc'
      split at hc'
      ·rename_i hcc
       cases hc'
       simp only [aV,beq_iff_eq] at hcc
       have:=O.apart m hm (pos,qual) hdef dd hdd (by have:=hcc.1;exact_mod_cast this) (by have:=hcc.2;exact_mod_cast this)
       rw [← this];exact codeOk
      ·cases hc'
  ·walk_at "u"; obtain ⟨qs,g,t,f⟩:=hi.tabs m hm;walk_at "v"
   exact ⟨qs,kk _ _ hmn g,t,fun dd hdd cv' hc'=>(f dd hdd cv' hc').mono E⟩
theorem s9 (O:C.Ok3) {n:Nest} (hn:n∈C.nest) {params:Arguments} {body:Expr} {scope:Scope} {cap:List (Str×Addr)} {pos:Pos} {Q:V→ij→Prop} (hdef:(pos,K.qual ++ "<lambda>")∈n.defs) (hcode:K.code=.ref n.code)
  (hcap:CapL ρ scope.names [] cap) (h0:params.defaults=[]) (h1:params.kw_defaults=[])
  (h:∀ a,σ a=none→Q (.loc a) (upd σ a (some (.func ⟨"<lambda>", K.qual ++ "<lambda>", params,.expr body,scope⟩ cap none)))):EvP K ρ σ (.Lambda params body scope pos) Q:=fun A env s ha hr hi QM hq=>by
 rw [arm_eval_Lambda,defaultsOf_eq,h0,h1]
 show wpAny _ _ (do let dv ← evalAll [];let kdv ← holding dv (evalAllOpt []);makeFunction "<lambda>" (env.qual ++ "<lambda>") params (.expr body) scope env dv kdv [] pos pos.line) _ _ _
 refine wpAny_bind (wpAny_evalAll_nil (wpAny_bind (wpAny_holding (wpAny_pure ?_))))
 rw [makeFunction_eq]
 simp only [gi,dO,e7,if_true,pure_bind]
 rw [hr.qual]
 exact Dq O hn (fun b e=>by cases e) hdef hcode hcap hr hi fun a s' hs i' e'=>hq _ _ _ s' (h a hs) i' e' (.loc a)
theorem zl (O:C.Ok3) {n:Nest} (hn:n∈C.nest) {name:Str} {params:Arguments} {body:List Stmt} {scope:Scope} {cap:List (Str×Addr)} {pos:Pos} {c:Addr} {Q:Fl→Fm→ij→Prop} (hdef:(pos,K.qual++name)∈n.defs) (hcode:K.code=.ref n.code)
  (hcap:CapL ρ scope.names [] cap) (hdoc:docOf body=none) (h0:params.defaults=[]) (h1:params.kw_defaults=[]) (h2:params.kwonlyargs=[]) (hann:∀ env,annTrees params none env=[])
  (hx:(name,Slot.sh c)∈ρ) (hk:K.names.lookup name=some .cell) {ov:Option V} (hc:σ c=some (.cell ov))
  (h:∀ a,σ a=none→Q .next ρ (upd (upd σ a (some (.func ⟨name,K.qual++name,params,.stmts body,scope⟩ cap none))) c (some (.cell (some (.loc a)))))):StP K ρ σ (.FunctionDef name params body [] none [] scope none name pos) Q:=fun A env s ha hr hi QM hq=>by
 have hqn:qualnameIn env name name=K.qual++name:=by
  unfold qualnameIn
  have:env.kindOf name=some .cell:=(congrArg (·.lookup name) hr.names).trans hk
  rw [this,hr.qual];rfl
 rw [exec_def,defaultsOf_eq,h0,h1,hann env,hqn]
 refine wpAny_bind (wpAny_standAt (wpAny_bind (wpAny_holding ?_)))
 refine wpAny_bind (wpAny_evalAll_nil (wpAny_bind (wpAny_holding (wpAny_pure ?_))))
 refine wpAny_holding ?_
 show wpAny _ _ (do let ann ← evalNamed [];makeFunction name (K.qual++name) params (.stmts body) scope env [] [] ann pos pos.line) _ _ _
 refine wpAny_bind (wpAny_pure ?_)
 rw [makeFunction_eq,h2]
 simp only [gi,dO,e7,if_true,pure_bind]
 refine Dq O hn (fun b e=>by cases e;exact hdoc) hdef hcode hcap hr hi fun a s' hs i' e'=>?_
 have nca:c≠a:=fun q=>by rw [q,hs] at hc;cases hc
 refine wpAny_bind (wpAny_standAt (wpAny_bind (wpAny_bindName (tv hx hk ((ir σ _ nca).trans hc) (hr.mono e') i' (.loc a) fun s'' i'' e''=>wpAny_pure ?_))))
 exact hq .next .next ρ _ s'' (h a hs) trivial (hr.mono (e'.trans e'')) i'' (e'.trans e'').toF
end
end Internal
end
section
open PySem PySem.W PyProof.Rows PySem.Calls
namespace Internal
structure FnB (f:Addr) (R:FnRec) (code:Value):Prop where
 nt:f∉C.tabs
 is:wZ C.h1 f R [] code
 ct:∀ c,code=.ref c→c∉C.tabs
section
variable {K:Kx} {ρ:Fm} {σ:ij} {d:Nat} {Q:V→ij→Prop}
theorem FnB.at {f:Addr} {R:FnRec} {code:Value} (x:FnB f R code) {s:Shared} (i:Inv σ s):wZ s.heap f R [] code:=by
 walk_at "u"; obtain ⟨nt,⟨⟨o,fd,e,r⟩,c,oc,vs,t,ec,g,q⟩,ct⟩:=x;walk_at "v"
 exact ⟨⟨o,fd,i.base _ _ e nt,r⟩,c,oc,vs,t,ec,i.base _ _ g (ct c ec),q⟩
theorem FnB.keep {f:Addr} {R:FnRec} {code:Value} (x:FnB f R code):KeepOk σ (.raw (.ref f)):=by
 walk_at "u"; obtain ⟨nt,⟨⟨o,fd,e,hd,_⟩,_⟩,_⟩:=x;walk_at "v"
 exact Ct e nt hd
theorem Fw (O:C.Ok2) {f:Addr} {R:FnRec} {code:Value} {body:List Stmt} {names:List Str} {args:List V} (hf:FnB f R code) (hb:R.body=.stmts body) (hbind:iH R names) (hnd:names.Nodup) (hlen:args.length=names.length)
  (hloc:∀ x∈names,R.scope.names.lookup x=some .local) (hcell:∀ x∈R.scope.names,x.2≠.cell) (hk:R.scope.kind=.function) (hco:R.scope.isCoroutine=false) (hgen:R.scope.isGenerator=false)
  (h:ExP (kE R code d) (pslots names args) σ body (oV Q)):CallV (d + 1) (.raw (.ref f)) args σ Q:=fun A s v vs ha hi hv hr QM hq=>by
 obtain ⟨_,rfl⟩:=Rel.inv hv
 exact wpAny_call (m8 O (caps:=[]) (cap:=[]) hb hbind hnd hlen hloc hcell (fun x c e=>by simp at e) (fun x y c e=>by simp at e) (fun p hp=>by cases hp) hk hco hgen (by simpa using h) ha hi hr (hf.at hi) hq)
theorem Ey (O:C.Ok2) {f:Addr} {R:FnRec} {code:Value} {body:List Stmt} {names emps:List Str} {args:List V} (hf:FnB f R code) (hb:R.body=.stmts body) (hbind:iH R names) (hnd:names.Nodup) (hlen:args.length=names.length)
  (hloc:∀ x∈names,R.scope.names.lookup x=some .local∨(R.scope.names.lookup x=some .cell∧∀ n,((cellsFrom n R.scope.names []).lookup x).isSome=true))
  (hemp:∀ x∈emps,x∉names∧R.scope.names.lookup x=some .cell∧∀ n,((cellsFrom n R.scope.names []).lookup x).isSome=true)
  (hk:R.scope.kind=.function) (hco:R.scope.isCoroutine=false) (hgen:R.scope.isGenerator=false)
  (h:ExP (kE R code d) (pslots names args++emps.map fun x=>(x,.emp)) σ body (oV Q)):CallV (d + 1) (.raw (.ref f)) args σ Q:=fun A s v vs ha hi hv hr QM hq=>by
 obtain ⟨_,rfl⟩:=Rel.inv hv
 exact wpAny_call (wR O hb hbind hnd hlen hloc hemp hk hco hgen h ha hi hr (hf.at hi) hq)
theorem x8 {s:Shared} (i:Inv σ s) {a:Addr} {R:FnRec} {cap:List (Str×Addr)} {dd:Option Addr} (h:σ a=some (.func R cap dd)):∃ code,wZ s.heap a R cap code:=by
 walk_at "u"; obtain ⟨o,fd,e,c,dct,hd,f1,f2,f3,f4,f5,f6,f7,f8,f9,f10,f11,f12⟩:=(i.own a _ h).2;walk_at "v"
 exact ⟨fd.code,⟨o,fd,e,hd,f3,f4,f5,f6,f7,f8,f9,f10,f2,rfl⟩,f11⟩
theorem Ew (O:C.Ok2) {a:Addr} {R:FnRec} {cap:List (Str×Addr)} {dd:Option Addr} {body:List Stmt} {names:List Str} {args:List V} {caps:Fm} (hf:σ a=some (.func R cap dd)) (hb:R.body=.stmts body) (hbind:iH R names) (hnd:names.Nodup)
  (hlen:args.length=names.length) (hloc:∀ x∈names,R.scope.names.lookup x=some .local) (hcell:∀ x∈R.scope.names,x.2≠.cell) (hcap:∀ x c,cap.lookup x=some c→∃ o,σ c=some (.cell o))
  (hinj:∀ x y c,cap.lookup x=some c→cap.lookup y=some c→x=y) (hcaps:∀ p∈caps,∃ c,p.2=.sh c∧cap.lookup p.1=some c∧R.scope.names.lookup p.1=some .free)
  (hk:R.scope.kind=.function) (hco:R.scope.isCoroutine=false) (hgen:R.scope.isGenerator=false)
  (h:∀ code,ExP (kE R code d) (pslots names args++caps) σ body (oV Q)):CallV (d + 1) (.loc a) args σ Q:=fun A s v vs ha hi hv hr QM hq=>by
 obtain ⟨_,rfl⟩:=Rel.inv hv
 walk_at "u"; obtain ⟨code,hfi⟩:=x8 hi hf;walk_at "v"
 exact wpAny_call (m8 O hb hbind hnd hlen hloc hcell hcap hinj hcaps hk hco hgen (h code) ha hi hr hfi hq)
theorem Ex (O:C.Ok2) {a:Addr} {R:FnRec} {cap:List (Str×Addr)} {dd:Option Addr} {body:Expr} {names:List Str} {args:List V} {caps:Fm} (hfn:σ a=some (.func R cap dd)) (hb:R.body=.expr body) (hbind:iH R names) (hnd:names.Nodup)
  (hlen:args.length=names.length) (hloc:∀ x∈names,R.scope.names.lookup x=some .local) (hcell:∀ x∈R.scope.names,x.2≠.cell) (hcap:∀ x c,cap.lookup x=some c→∃ o,σ c=some (.cell o))
  (hinj:∀ x y c,cap.lookup x=some c→cap.lookup y=some c→x=y) (hcaps:∀ p∈caps,∃ c,p.2=.sh c∧cap.lookup p.1=some c∧R.scope.names.lookup p.1=some .free)
  (hk:R.scope.kind=.function) (hco:R.scope.isCoroutine=false) (hgen:R.scope.isGenerator=false)
  (h:∀ code,EvP (kE R code d) (pslots names args++caps) σ body Q):CallV (d + 1) (.loc a) args σ Q:=fun A s v vs ha hi hv hr QM hq=>by
 obtain ⟨_,rfl⟩:=Rel.inv hv
 refine bc fun hbc=>?_
 obtain ⟨code,hf⟩:=x8 hi hfn
 obtain ⟨o,fd,ho,hd,f1,f2,f3,f4,f5,f6,f7,f8,f9,f10⟩:=hf.get
 refine hbc ?_
 clear hbc
 have hvs:vs.length=names.length:=hr.length.trans hlen
 have hdep:A.depth < recursionLimit:=by
  have:=ha.2.1
  show A.depth < 1000
  lia
 refine wpAny_call (kla_callFunE (fd:=fd) (body:=body) hdep ho hd (by rw [f3];exact hco) (by rw [f3];exact hgen) (f2.trans hb) (by rw [f10,f9];exact hf.cr) ?_)
 rw [hbind fd f1 f6 f7 vs hvs]
 refine wpAny_pure (wpAny_newFunctionEnv (by rw [f3];exact hcell) (fun x hx=>by rw [f3];exact hloc _ (eg hx).1) (fun h₀ hns hsb=>⟨(hi.nolimit O).fresh _ hsb,kla_codeExpr ?_⟩) (by rw [f3];exact hk))
 have LN:s.heap.get? s.heap.objs.size=none:=get?_ge (av _)
 have hk₀:∀ b o,s.heap.get? b=some o→h₀.get? b=some o:=fun b o e=>hsb.extBut b o (fun q=>by rw [q,LN] at e;cases e) (Heap.get?_push_of_some _ e)
 have g₀:∀ b o,s.heap.get? b=some o→(({ s with heap:=h₀,toks:=s.toks + (names.zip vs).length }:Shared)).heap.get? b=some o:=hk₀
 have i₀:Inv σ { s with heap:=h₀,toks:=s.toks + (names.zip vs).length }:=hi.grow g₀ rfl rfl
 have rep:Rep (kE R code d) (callEnv fd s.heap.objs.size a) (pslots names args++caps) σ h₀:=by
  refine ⟨by show fd.scope.kind=_;rw [f3];exact hk,by show fd.scope.names=_;rw [f3];rfl,f4,f8,by show fd.qualname++_=_;rw [f9];rfl,f10,⟨_,hns⟩,⟨hi.off LN,hi.notTab hi.size,hi.size⟩,fun x c hc=>?_,fun x y c hx hy=>?_,fun p hp=>?_⟩
  ·rw [show (callEnv fd s.heap.objs.size a).cells=fd.closure from rfl,f5] at hc
   walk_at "u"; obtain ⟨oc,hoc⟩:=hcap x c hc;walk_at "v"
   have lo:=(hi.own c _ hoc).1
   refine ⟨fun q=>?_,lo,hi.notTab lo,fun q=>(by exact absurd (hoc.symm.trans q) (al _)),fun o' q=>(by obtain rfl:=aq (hoc.symm.trans q);exact ⟨oc,rfl⟩)⟩
   rw [show (callEnv fd s.heap.objs.size a).locals=s.heap.objs.size from rfl] at q
   rw [← q,hi.off LN] at hoc;cases hoc
  ·rw [show (callEnv fd s.heap.objs.size a).cells=fd.closure from rfl,f5] at hx hy
   exact hinj x y c hx hy
  ·rcases bb.mp hp with hp | hp
   ·walk_at "u"; obtain ⟨b,e,m⟩:=lu hp;walk_at "v"
    rw [e] at hp ⊢
    walk_at "u"; obtain ⟨v,hv,rv⟩:=kg hnd hr hp;walk_at "v"
    exact .inl ⟨hloc _ m,_,v,hns,hv,rv.mono (Ext.grow hk₀).seq⟩
   ·walk_at "u"; obtain ⟨c,e1,e2,e3⟩:=hcaps p hp;walk_at "v"
    rw [show p=(p.1,Slot.sh c) from by rw [← e1]]
    exact ⟨.inr e3,by show fd.closure.lookup _=_;rw [f5];exact e2,hcap _ _ e2⟩
 exact wpAny_mono (h code (A.deeper (callEnv fd s.heap.objs.size a)) (callEnv fd s.heap.objs.size a) _ ha.call rep i₀ (fun v s'=>∃ pv σ',Q pv σ'∧Inv σ' s'∧Ext σ s.heap σ' s'.heap∧Rel σ' s'.heap v pv)
  fun v pv σ' s' q i' e' r'=>⟨pv,σ',q,i',(Ext.grow hk₀).trans e',r'⟩) (fun v s' x=>by obtain ⟨pv,σ',q,i',E,rv⟩:=x;exact hq _ pv σ' s' q i' E rv) fun _ _ x=>x.elim
end
end Internal
end
section
open PySem PySem.W PyProof.Rows PySem.Calls PySem.Spec PySem.SeqAt
namespace Internal
open Ia Ib
section
variable {K:Kx} {ρ:Fm} {σ:ij} {d:Nat} {Q:V→ij→Prop}
theorem oQ {a b:V} {da:PyData} {ds:List PyData} (ha:Dat σ a da) (hb:Dat σ b (.list ds)) (sa:shaped da=true) (sb:shaped (.list ds)=true) (hm:∀ y∈ds,noMix y da=true) (q:Q (.bool (!decide (countIn da ds≠0))) σ):M2 d (compareOp .NotIn) a b σ Q:=fun A s x y hA hi hx hy QM hq=>by
 refine bc fun hbc=>?_
 obtain ⟨as,ra⟩:=ha.reads hi hx
 obtain ⟨bs,rb⟩:=hb.reads hi hy
 refine hbc ?_
 clear hbc
 exact notIn_list_dataH rb ra sb sa hA.units hm (hq _ _ _ _ q hi .refl (.bool _))
theorem pZ {x y:List Nat} (q:Q (.bool (Txt.contains ⟨y.toArray⟩ ⟨x.toArray⟩)) σ):M2 d (compareOp .In) (.str x) (.str y) σ Q:=fun A s a b hA hi hx hy QM hq=>by
 obtain ⟨_,rfl⟩:=Rel.inv hx;obtain ⟨_,rfl⟩:=Rel.inv hy
 exact P.in_str (hq _ _ _ _ q hi .refl (.bool _))
theorem C3 {a b:V} {xs ys:List V} (ha:LV σ a xs) (hb:LV σ b ys) (hl:xs.length + ys.length≤2 ^ 24) (q:Q (.lst (xs++ys)) σ):M2 d (binaryOp .Add) a b σ Q:=fun A s x y hA hi hx hy QM hq=>by
 refine bc fun hbc=>?_
 obtain ⟨p,i1,n1,rfl,h1,r1⟩:=ha.at hi hx
 obtain ⟨p',i2,n2,rfl,h2,r2⟩:=hb.at hi hy
 refine hbc ?_
 clear hbc
 have g:∀ o b o',s.heap.get? b=some o'→(s.heap.push o).get? b=some o':=fun o b o' e=>Heap.get?_push_of_some _ e
 have e1:i1.size=xs.length:=by rw [← r1.length];simp
 have e2:i2.size=ys.length:=by rw [← r2.length];simp
 refine P.add_list h1 h2 (hq _ _ _ _ q (hi.grow (s':={ s with heap:=_ }) (g _) rfl rfl) (Ext.grow (g _)) (pR (items:=i1.toList++i2.toList) (n:=0) hi (r1.append r2) (get?_ge (av _)) hi.size (g _) ?_)) (by rw [e1,e2];exact hl)
 have:(i1.toList++i2.toList).toArray=i1++i2:=by simp
 rw [this];exact Heap.get?_push_size _ rfl
theorem zz {h:Heap} {items:List Value} {vs:List V} (r:iF σ h items vs):∀ n:Nat,iF σ h (aC n items).flatten (aC n vs).flatten:=by
 intro lr
 induction lr with
 | zero=>
  exact .nil
 | succ n ihr=>
  rw [dG,dG,bT,bT];exact r.append (ihr)
theorem wA (l:List (Array Value)):∀ a:Array Value,(l.foldl (fun x1 x2=>x1++x2) a).toList=a.toList++(l.map Array.toList).flatten:=by
 induction l with
 | nil=>intro a;simp
 | cons x l ih=>intro a;simp [ih]
set_option tactic.hygienic true in
theorem Ck {a:V} {xs:List V} {n:Nat} (ha:LV σ a xs) (hl:n * xs.length≤2 ^ 24) (hn:n≤2 ^ 24) {A:Around} {s:Shared} {x y:Value} (hi:Inv σ s) (hx:Rel σ s.heap x a) (hy:Rel σ s.heap y (.int n)) {QM:Value→Shared→Prop}
  (hq:∀ items:Array Value,iF σ s.heap items.toList (aC n xs).flatten→QM (.ref s.heap.objs.size) { s with heap:=s.heap.push { cls:=.type "list", data:=.seq items } }):wpAny (model C.prog C.w) A (binaryOp .Mult x y) QM Bot s:=by
 walk_at "u"; obtain ⟨p,it,k,rfl,h1,r1⟩:=ha.at hi hx;walk_at "v"
 obtain ⟨_,rfl⟩:=Rel.inv hy
 rename_i u
 have e1:it.size=xs.length:=by rw [← r1.length];simp
 have hsz:it.size * (n:Int).toNat≤2 ^ 24:=by rw [e1,bo];simpa using hl
 have q1:(n:Int).toNat=n:=by simp
 have q2:it.size * (n:Int).toNat≤16777216:=hsz
 generalize hz:(n:Int)=z at *
 have b1:-(9223372036854775808:Int)≤z:=by lia
 have b2:z < 9223372036854775808:=by lia
 have key:=AutoListH.list___mul___list_int_3 p it k z u (by simp [Builtin.List.listFitsIndex];lia) (by lia) (by simp [Builtin.List.listTooLong,sizeLine];walk_at "l")
 refine wpAny_binaryOp_repeat_ref (T := "list") (U := "int") (by decide) ⟨_,h1,rfl⟩ (fun s'=>typeIs_int s' z u) noFill_list_mul F.fills_int_mul F.slot_int_rmul repeat_list F.slot_int_index.lookup
  (call_meets F.slot_int_rmul (typeIs_int s z u) F.entry_int_rmul (F.args_int_rmul_2 _ _) (int___rmul___int_list z u p it k)
   ⟨h1,rfl,⟨_,h1,rfl⟩,call_meets F.slot_list_mul ⟨_,h1,rfl⟩ F.entry_list_mul (F.args_list_mul_2 _ _)
    key ⟨h1,?_⟩⟩)
 refine hq _ ?_
 rw [wA]
 have:((aC (if it.isEmpty=true then 0 else z.toNat) it).map Array.toList).flatten=(aC n it.toList).flatten:=by
  by_cases he:it.isEmpty=true
  ·have h0:it=#[]:=by simpa using he
   subst h0
   simp
  ·rw [if_neg he,q1];simp
 rw [this]
 simpa using zz r1 n
theorem A0 {a:V} {xs:List V} {n:Nat} (ha:LV σ a xs) (hl:n * xs.length≤2 ^ 24) (hn:n≤2 ^ 24) (q:∀ p,σ p=none→Q (.loc p) (upd σ p (some (.list (aC n xs).flatten)))):M2 d (binaryOp .Mult) a (.int n) σ Q:=fun A s x y hA hi hx hy QM hq=>by
 have g:∀ o b o',s.heap.get? b=some o'→(s.heap.push o).get? b=some o':=fun o b o' e=>Heap.get?_push_of_some _ e
 refine Ck ha hl hn hi hx hy fun items r=>?_
 have hne:=get?_ge (av s.heap.objs.size)
 have:=hi.new (s':={ s with heap:=s.heap.push (lstO items 0) }) (p:=.list (aC n xs).flatten) hne hi.size (g _) ⟨items,0,Heap.get?_push_size _ rfl,r.mono ⟨fun b o e _ _ _=>g _ b o e,fun b o e _ hb _=>by
  rw [ir σ _ (fun z=>by rw [z,hne] at e;cases e)];exact hb⟩⟩ rfl rfl
 exact hq _ _ _ _ (q _ (hi.off hne)) this.1 this.2 (.loc _)
open Builtin in
inductive Ibin:Operator→V→V→V→Prop where
 | add (a b:Int):Ibin .Add (.int a) (.int b) (.int (a + b))
 | sub (a b:Int):Ibin .Sub (.int a) (.int b) (.int (a - b))
 | shl (a n:Int) (hn:0≤n) (h:(Builtin.Int.intBits a:Int) + n≤2 ^ 27):Ibin .LShift (.int a) (.int n) (.int (a * 2 ^ n.toNat))
 | shr (a n:Int) (hn:0≤n):Ibin .RShift (.int a) (.int n) (.int (a.fdiv (2 ^ n.toNat)))
 | cat (x y:List Nat) (h:x.length + y.length≤2 ^ 24):Ibin .Add (.str x) (.str y) (.str (x++y))
theorem ibin_ {op:Operator} {a b v:V} (h:Ibin op a b v) (q:Q v σ):M2 d (inplaceOp op) a b σ Q:=
 (Ibin.casesOn (motive:=fun op a b v _=>Q v σ→M2 d (inplaceOp op) a b σ Q) h
  (fun a b q=>ko q fun h=>P.iadd_int (h _ _))
  (fun a b q=>ko q fun h=>P.isub_int (h _ _))
  (fun a n hn h' q=>ko q fun h=>ilshift_int hn h' (h _ _))
  (fun a n hn q=>ko q fun h=>irshift_int hn (h _ _))
  (fun x y h' q=>Dr q fun h=>iadd_str h (by show x.toArray.size + y.toArray.size≤2 ^ 24;simpa using h'))) q
theorem o0 {s:Shared} {A:Around} {a:Addr} {vs:List V} {k:Int} {t:Tok} {v:Value} {pv:V} (hi:Inv σ s) (hs:σ a=some (.list vs)) (h0:0≤k) (hk:k.toNat < vs.length) (hl:vs.length < 2 ^ 25) (hv:Rel σ s.heap v pv) {QM:Unit→Shared→Prop}
  (hq:∀ s',Inv (upd σ a (some (.list (vs.set k.toNat pv)))) s'→Ext σ s.heap (upd σ a (some (.list (vs.set k.toNat pv)))) s'.heap→QM () s'):wpAny (model C.prog C.w) A (setItem (.ref a) (.int k t) v) QM Bot s:=by
 walk_at "u"; obtain ⟨items,n,ho,hrs⟩:=(hi.own _ _ hs).2;walk_at "v"
 have hl':s.heap.IsList a items:=⟨_,ho,rfl,n,rfl⟩
 have hsz:items.size=vs.length:=by rw [← hrs.length];simp
 unfold setItem
 try with_reducible refine wpAny_holding ?_
 first | refine wpAny_bind (wpAny_pure ?_) | skip
 refine wpAny_bind (wpAny_sequenceKey hl'.typeIs (by decide) ?_)
 refine wpAny_bind (wpAny_callSpecial?_slot (name:=Str.ofString "__setitem__") hl'.typeIs slot_list_setitem
  (wpAny_call_entry slot_list_setitem hl'.typeIs entry_list_setitem ?_ (args_list_setitem _ _ _)))
 show wpAny _ _ (Builtin.List.listSubscript? (.int k t) >>= _) _ _ s
 refine wpAny_bind (wpAny_listSubscript_int (fitsIndex_of h0 (by lia)) ?_)
 walk_at "u"; obtain ⟨j,eq0⟩:=cN h0;walk_at "v"
 subst eq0
 have hj:j < items.size:=by rw [hsz];simpa using hk
 have hx':items[j]?=some items[j]:=Array.getElem?_eq_getElem hj
 show wpAny _ _ ((seqItemAt a j >>= fun r=>pure (r.map (j,·))) >>= _) _ _ s
 refine wpAny_bind (wpAny_bind (wpAny_seqItemAt ho rfl (wpAny_pure ?_)))
 rw [hx']
 show wpAny _ _ (setSeqItemAt a j v >>= _) _ _ s
 have hu:IsL (s.heap.update a (Obj.mapSeq (·.setIfInBounds j v))) a _ _:=IsL.update ho _
 have hset:∀ {l:List Value} {pl:List V} (j:Nat),iF σ s.heap l pl→iF σ s.heap (l.set j v) (pl.set j pv):=fun j r=>
  r.ind (P:=fun l pl=>∀ j,iF σ s.heap (l.set j v) (pl.set j pv)) (fun _=>.nil) (fun _ _ _ _ h1 h2 ih j=>j.casesOn (.cons hv h2) fun j=>.cons h1 (ih j)) j
 obtain ⟨i',e'⟩:=lU (tk:=s.toks) hi hs (Heap.SameBut.update s.heap a _).extBut hu (vs':=vs.set (j:Int).toNat pv) (by
  have:(items.setIfInBounds j v).toList=items.toList.set j v:=by simp
  rw [this];exact hset j hrs)
 refine wpAny_bind (wpAny_setSeqItemAt ho rfl ?_)
 first
  | exact wpAny_bind (wpAny_pure (wpAny_pure ⟨.none,rfl,wpAny_pure (hq { s with heap:=_ } i' e')⟩))
  | exact wpAny_pure ⟨.none,rfl,wpAny_pure (hq { s with heap:=_ } i' e')⟩
theorem as_item {o i:Expr} {pos:Pos} {pv:V} {Q:Fm→ij→Prop}
  (h:EvP K ρ σ o (fun ov σ₁=>EvP K ρ σ₁ i (fun iv σ₂=>∃ a vs k,ov=.loc a∧iv=.int k∧σ₂ a=some (.list vs)∧0≤k∧k.toNat < vs.length∧vs.length < 2 ^ 25∧Q ρ (upd σ₂ a (some (.list (vs.set k.toNat pv))))))):
  AsP K ρ σ (.Subscript o i pos) pv Q:=fun A env s v ha hr hi hv QM hq=>by
 rw [arm_assign_Subscript]
 refine wpAny_bind (wpAny_holding (h A env s ha hr hi _ fun x ox σ₁ s₁ h₁ i₁ e₁ r₁=>wpAny_bind (wpAny_holding (h₁ A env s₁ ha (hr.mono e₁) i₁ _ fun y oy σ₂ s₂ h₂ i₂ e₂ r₂=>wpAny_bind (wpAny_standAt ?_)))))
 walk_at "u"; obtain ⟨a,vs,k,rfl,rfl,hs,h0,hk,hl,q⟩:=h₂;walk_at "v"
 obtain ⟨_,rfl⟩:=Rel.inv r₁;cases r₂
 refine wpAny_bind (wpAny_holding (o0 i₂ hs h0 hk hl (hv.mono (e₁.trans e₂).seq) fun s₃ i₃ e₃=>?_))
 have E:=(e₁.trans e₂).trans e₃
 exact wpAny_release' (hq ρ _ s₃ q (hr.mono E) i₃ E.toF)
theorem lm {t e:Expr} {pos:Pos} {Q:Fl→Fm→ij→Prop} (h:EvP K ρ σ e (fun v σ₁=>AsP K ρ σ₁ t v (fun ρ' σ'=>Q .next ρ' σ')))
  (he:autoParam (∀ env,(assignEach [t] env).map (·.2)=[assign t env]) aI)
  (hs:autoParam (∀ env,swapsWithSole [t] e pos.line env=pure false) aI) (hw:autoParam (∀ env:Env,env.scope.kind=.function→env.scope.names=K.names→swappedStores [t] e env=pure none) aI):StP K ρ σ (.Assign [t] e pos) Q:=fun A env s ha hr hi QM hq=>
 wpAny_Assign_stores (h A env s ha hr hi _ fun v pv σ₁ s₁ h₁ i₁ e₁ r₁=>by
  rw [he env]
  show wpAny _ A (assign t env v) _ _ s₁
  exact h₁ A env s₁ v ha (hr.mono e₁) i₁ r₁ _ fun ρ' σ' s' q hr' i' e'=>hq .next .next ρ' σ' s' q trivial hr' i' (e₁.toF.trans e')) (hs env) (hw env hr.kind hr.names)
noncomputable def lS (K:Kx) (Q:Fm→Prop):Fm→List Str→List V→Prop
 | ρ,[],[]=>Q ρ
 | ρ,x :: xs,v :: vs=>kO K ρ x∧∃ ρ',Upd ρ x (.val v) ρ'∧lS K Q ρ' xs vs
 | _,_,_=>False
theorem vY {A:Around} {env:Env} {Q:Fm→Prop}:∀ {xs:List Str} {pl:List V} {vs:List Value} {ρ:Fm} {s:Shared},lS K Q ρ xs pl→Rep K env ρ σ s.heap→Inv σ s→iF σ s.heap vs pl→
  ∀ {QM:Unit→Shared→Prop},(∀ ρ' s',Q ρ'→Rep K env ρ' σ s'.heap→Inv σ s'→jz env σ s.heap σ s'.heap→QM () s')→wpAny (model C.prog C.w) A (assignInOrder (xs.map fun n=>bindName env n) vs) QM Bot s:=by
 intro xs
 induction xs with
 | nil=>
  intro pl vs ρ s h hr hi hrs QM hq
  cases pl with
  | nil=>
   obtain rfl:=hrs.inv
   exact wpAny_assignInOrder_none (hq ρ s h hr hi .refl)
  | cons=>exact h.elim
 | cons x xs ih=>
  intro pl vs ρ s h hr hi hrs QM hq
  cases pl with
  | nil=>exact h.elim
  | cons p pl=>
   refine bc fun hbc=>?_
   obtain ⟨v,vs,eq0,hv,hl⟩:=hrs.inv
   obtain ⟨hk,ρ',hu,h'⟩:=h
   refine hbc ?_
   clear hbc
   subst eq0
   exact wpAny_assignInOrder_more (wpAny_bindName (kl hk hr hi hv hu fun s' hr' hi' e'=>ih h' hr' hi' (hl.mono (e'.seq hr)) fun ρ'' s'' q hr'' hi'' e''=>hq ρ'' s'' q hr'' hi'' (e'.trans e'')))
theorem iF.rev {h:Heap} {l:List Value} {pl:List V} (r:iF σ h l pl):iF σ h l.reverse pl.reverse:=
 r.ind (P:=fun l pl=>iF σ h l.reverse pl.reverse) .nil fun v p l pl hv _ ih=>by rw [dR,dR];exact ih.append (.cons hv .nil)
set_option tactic.hygienic true in
theorem st_assign_swap {t e:Expr} {names:List Str} {pos:Pos} {Q:Fl→Fm→ij→Prop} (h:EvP K ρ σ e (fun v σ₁=>∃ vs,v=.tup vs∧vs.length=names.length∧lS K (fun ρ'=>Q .next ρ' σ₁) ρ names.reverse vs.reverse))
  (hw:∀ env:Env,env.scope.kind=.function→env.scope.names=K.names→swappedStores [t] e env=pure (some names))
  (hs:autoParam (∀ env,swapsWithSole [t] e pos.line env=pure false) aI):StP K ρ σ (.Assign [t] e pos) Q:=fun A env s ha hr hi QM hq=>by
 rw [exec_Assign_arm]
 refine wpAny_bind (wpAny_standAt ?_)
 rw [hs env]
 refine wpAny_bind (wpAny_pure ?_)
 refine ifn (by decide) ?_
 refine wpAny_bind (h A env s ha hr hi _ fun v pv σ₁ s₁ h₁ i₁ e₁ r₁=>?_)
 walk_at "u"; obtain ⟨vs,rfl,hlen,sw⟩:=h₁;walk_at "v"
 rw [hw env hr.kind hr.names]
 refine wpAny_bind (wpAny_pure ?_)
 cases r₁ with
 | tup ho hσ ht hrs=>
  rename_i a items n
  have hl:names.length=items.toArray.size:=by rw [eT,hrs.length,hlen]
  show wpAny (model C.prog C.w) A (do
    rule "assign.swapped-stores"
    let items ← unpackItems (.ref a) names.length none
    assignInOrder (names.reverse.map fun n=>bindName env n) items.reverse
    (pure Flow.next:Sem Flow)) QM Bot s₁
  refine wpAny_bind (wpAny_rule (wpAny_bind ?_))
  rw [hl]
  refine wpAny_unpackItems_tuple ha.1 ⟨_,ho,rfl,n,rfl⟩ fun h' e=>?_
  have g:∀ b o',s₁.heap.get? b=some o'→h'.get? b=some o':=fun b o' q=>e b o' (fun q'=>by subst q';(rw [Heap.get?_size] at q;cases q)) q
  have E:Ext σ₁ s₁.heap σ₁ h':=Ext.grow g
  refine wpAny_bind (vY (s:={ s₁ with heap:=h' }) sw ((hr.mono e₁).mono E) (i₁.grow (s':={ s₁ with heap:=h' }) g rfl rfl) (by simpa using (hrs.mono E.seq).rev) fun ρ' s' q hr' hi' e'=>wpAny_pure ?_)
  exact hq .next .next ρ' σ₁ s' q trivial hr' hi' ((e₁.trans E).toF.trans e')
end
end Internal
end
section
open PySem PySem.W PyProof.Rows PySem.Calls
namespace Internal
structure kz (F:Frag):Prop where
 inn:F.In C.h1
 nt:∀ a o,F.lookup a=some o→a∉C.tabs
section
variable {K:Kx} {ρ:Fm} {σ:ij} {d:Nat} {Q:V→ij→Prop} {F:Frag}
theorem kz.at (x:kz F) {s:Shared} (i:Inv σ s):F.In s.heap:=fun a o e=>i.base a o (x.inn a o e) (x.nt a o e)
theorem mD.find {h:Heap} {es:List DictEntry} {at_:List (Str×V)} (x:mD σ h es at_) (name:Str):match at_.lookup name with
  | some pv=>∃ v,getL name es=some (some v)∧Rel σ h v pv
  | none=>getL name es=some none:=by
 induction x with
 | nil=>rfl
 | @cons y t hs v pv es at_ hv hl ih=>
  rw [aS]
  have key:(DictEntry.mk hs (.str y t) v).key.isStr name=(name == y):=by
   show (y == name)=(name == y)
   exact BEq.comm
  cases hy:name == y with
  | true=>
   simp only
   refine ⟨v,?_,hv⟩
   unfold getL
   rw [c9,key,hy]
  | false=>
   simp only
   have:getL name (⟨hs,.str y t,v⟩ :: es)=getL name es:=by
    unfold getL
    rw [c9,key,hy]
    simp only [List.any_cons]
    rfl
   rw [this];exact ih
theorem pW {s:Shared} {x dx c:Addr} {at_:List (Str×V)} (i:Inv σ s) (hx:σ x=some (.inst c dx)) (hd:σ dx=some (.ns at_)):∃ es n,InstAt s.heap x (instObj c dx) c (some (dictOf es n))∧mD σ s.heap es at_:=by
 walk_at "u"; obtain ⟨es,n,e,r⟩:=(i.own dx _ hd).2;walk_at "v"
 exact ⟨es,n,⟨(i.own x _ hx).2,rfl,rfl,e⟩,r⟩
theorem Am (O:kz F) {x dx c:Addr} {at_:List (Str×V)} {name:Str} {pv:V} {expr:Bool} (hx:σ x=some (.inst c dx)) (hd:σ dx=some (.ns at_)) (hl:at_.lookup name=some pv) (hg:plainGet F c name=true) (hh:hasDictIn F c=true)
  (ha:findIn F (.ref c) name=some none) (hv:∀ v h,Rel σ h v pv→handedIn v=true) (q:Q pv σ):M1 d (fun o=>getAttr o name expr) (.loc x) σ Q:=fun A s o hA hi hr QM hq=>by
 obtain ⟨_,rfl⟩:=Rel.inv hr
 walk_at "u"; obtain ⟨es,n,I,r⟩:=pW hi hx hd;walk_at "v"
 have fd:=r.find name
 rw [hl] at fd
 walk_at "u"; obtain ⟨v,e,rv⟩:=fd;walk_at "v"
 exact get_value (O.at hi) I (plainGet_of hg).1 (findObj_own (attr:=none) hh ha rfl e) (hv v _ rv) (hq v pv σ { s with toks:=s.toks + 1 } q hi.toks .refl rv)
theorem CK {value:Expr} {attr:Str} {pos:Pos} (h:EvP K ρ σ value (fun o σ₁=>M1 K.d (fun o=>getAttr o attr true) o σ₁ Q)) (hbase:autoParam (∀ env,attributeBase value attr env (eval value env)=eval value env) aI):
  EvP K ρ σ (.Attribute value attr pos) Q:=fun A env s ha hr hi QM hq=>by
 show wpAny _ _ (do
  let o ← attributeBase value attr env (eval value env)
  standAt pos.atName
  let r ← holding [o] (getAttr o attr true)
  letTemporaryGo value o r
  pure r) _ _ _
 rw [hbase]
 exact wpAny_bind (h A env s ha hr hi _ fun o po σ₁ s₁ h₁ i₁ e₁ r₁=>wpAny_bind (wpAny_standAt (wpAny_bind (wpAny_holding (h₁ A s₁ o ha i₁ r₁ _ fun v pv σ₂ s₂ q i₂ e₂ r₂=>
  wpAny_bind (wpAny_letTemporaryGo (wpAny_pure (hq v pv σ₂ s₂ q i₂ (e₁.trans e₂) r₂))))))))
theorem ww (O:kz F) {x dx c f:Addr} {at_:List (Str×V)} {name:Str} {expr:Bool} (hx:σ x=some (.inst c dx)) (hd:σ dx=some (.ns at_)) (hl:at_.lookup name=none) (hg:plainGet F c name=true) (hh:hasDictIn F c=true)
  (ha:findIn F (.ref c) name=some (some (.ref f))) (hf:typeIn F (.ref f)=some (.type "function")) (hfo:findObj F c none name=some (.bind (.builtin "function.__get__") (.ref f)))
  (q:∀ a,σ a=none→Q (.loc a) (upd σ a (some (.bound (.ref f) (.loc x))))):M1 d (fun o=>getAttr o name expr) (.loc x) σ Q:=fun A s o hA hi hr QM hq=>by
 obtain ⟨_,rfl⟩:=Rel.inv hr
 walk_at "u"; obtain ⟨es,n,I,r⟩:=pW hi hx hd;walk_at "v"
 have fd:=r.find name
 rw [hl] at fd
 have hfo':findObj F c (some (dictOf es n)) name=some (.bind (.builtin "function.__get__") (.ref f)):=by
  walk_at "u"; obtain ⟨cd,hc,hd'⟩:=any_some hh;walk_at "v"
  have o1:W.ownOf cd (some (dictOf es n)) name=some none:=by unfold W.ownOf;rw [if_pos hd'];exact fd
  have o2:W.ownOf cd none name=some none:=by unfold W.ownOf;rw [if_pos hd']
  unfold findObj at hfo ⊢
  rw [hc] at hfo ⊢
  simp only [Option.bind_some] at hfo ⊢
  rw [o1];rw [o2] at hfo;exact hfo
 have hne:=get?_ge (av s.heap.objs.size)
 have g:∀ b o',s.heap.get? b=some o'→(s.heap.push (methodObj (.ref f) (.ref x))).get? b=some o':=fun b o' e=>Heap.get?_push_of_some _ e
 walk_at "u"; obtain ⟨i',e'⟩:=hi.new (s':={ s with heap:=s.heap.push (methodObj (.ref f) (.ref x)),toks:=s.toks + 1 }) (p:=.bound (.ref f) (.loc x)) hne hi.size g ⟨.ref x,Heap.get?_push_size _ rfl,.loc x⟩ rfl rfl;walk_at "v"
 refine get_bind (O.at hi) I (plainGet_of hg).1 hfo' (plainGet_of hg).2 (wpAny_call (fn_get (s:={ s with toks:=s.toks + 1 }) (O.at (s:={ s with toks:=s.toks + 1 }) hi.toks) hf ?_))
 exact wpAny_pure (hq (.ref s.heap.objs.size) _ _ { s with heap:=s.heap.push (methodObj (.ref f) (.ref x)),toks:=s.toks + 1 } (q _ (hi.off hne)) i' e' (.loc _))
noncomputable def pe (d:Nat) (f:Value) (args:List V) (σ:ij) (Q:V→ij→Prop):Prop:=
 ∀ (A:Around) (s:Shared) (vs:List Value),AOk d A→Inv σ s→iF σ s.heap vs args→∀ QM:Value→Shared→Prop,
  (∀ v pv σ' s',Q pv σ'→Inv σ' s'→Ext σ s.heap σ' s'.heap→Rel σ' s'.heap v pv→QM v s')→codeAny (model C.prog C.w) A (.call f ⟨vs,[]⟩) (y6 QM Bot) s
theorem pe.call {f:Value} {args:List V} (h:pe d f args σ Q):CallV d (.raw f) args σ Q:=fun A s fv vs ha hi hf hr QM hq=>by
 obtain ⟨_,rfl⟩:=Rel.inv hf;exact wpAny_call (h A s vs ha hi hr QM hq)
theorem CW (O:C.Ok2) {f:Addr} {R:FnRec} {code:Value} {body:List Stmt} {names:List Str} {args:List V} (hf:FnB f R code) (hb:R.body=.stmts body) (hbind:iH R names) (hnd:names.Nodup) (hlen:args.length=names.length)
  (hloc:∀ x∈names,R.scope.names.lookup x=some .local) (hcell:∀ x∈R.scope.names,x.2≠.cell) (hk:R.scope.kind=.function) (hco:R.scope.isCoroutine=false) (hgen:R.scope.isGenerator=false)
  (h:ExP (kE R code d) (pslots names args) σ body (oV Q)):pe (d + 1) (.ref f) args σ Q:=fun A s vs ha hi hr QM hq=>
 m8 O (caps:=[]) (cap:=[]) hb hbind hnd hlen hloc hcell (fun x c e=>by simp at e) (fun x y c e=>by simp at e) (fun p hp=>by cases hp) hk hco hgen (by simpa using h) ha hi hr (hf.at hi) hq
theorem AO {a:Addr} {f:Value} {self:V} {args:List V} (hb:σ a=some (.bound f self)) (h:pe d f (self :: args) σ Q):CallV d (.loc a) args σ Q:=fun A s fv vs ha hi hf hr QM hq=>by
 obtain ⟨_,rfl⟩:=Rel.inv hf
 walk_at "u"; obtain ⟨v,e,rv⟩:=(hi.own a _ hb).2;walk_at "v"
 exact wpAny_call (method_call e (h A s (v :: vs) ha hi (.cons rv hr) QM hq))
theorem Ae (O:kz F) {c:Addr} (hk:keepIn F (.ref c)=true):KeepOk σ (.raw (.ref c)):=fun s f hi hr M A E Q h=>by
 obtain ⟨_,rfl⟩:=Rel.inv hr
 walk_at "u"; obtain ⟨k,_,L⟩:=looks_keep (M:=M) hk (O.at hi);walk_at "v"
 exact L.here (h k)
theorem AOk.under {A:Around} {c:Addr} {vs:List Value} (h:AOk (d + 1) A):AOk d (A.under (.builtin "type.__call__" ⟨.ref c :: vs,[]⟩)):=by
 walk_at "u"; obtain ⟨h1,h2,h3⟩:=h;walk_at "v"
 refine ⟨h1,?_,?_⟩
 ·rw [depth_under_kw];lia
 ·have:(A.under (.builtin "type.__call__" ⟨.ref c :: vs,[]⟩)).units≤A.units + 9:=by
   show A.units + (Code.builtin "type.__call__" ⟨.ref c :: vs,[]⟩).cUnits≤_
   have:(Code.builtin "type.__call__" ⟨.ref c :: vs,[]⟩).cUnits≤9:=by
    simp only [Code.cUnits]
    have:(Code.builtin "type.__call__" ⟨.ref c :: vs,[]⟩).frames≤2:=by first | exact fM rfl | (show (0:Nat)≤2;lia) | (show (1:Nat)≤2;lia)
    lia
   lia
  lia
theorem CU (O:kz F) {c fI:Addr} {args:List V} (hm:makesIn F c=true) (hi0:findIn F (.ref c) "__init__" = some (some (.ref fI))) (hf:typeIn F (.ref fI)=some (.type "function"))
  (h:∀ x dx,σ x=none→σ dx=none→x≠dx→pe d (.ref fI) (.loc x :: args) (upd (upd σ dx (some (.ns []))) x (some (.inst c dx))) (fun v σ'=>v=.none∧Q (.loc x) σ')):CallV (d + 1) (.raw (.ref c)) args σ Q:=fun A s fv vs ha hi hfv hr QM hq=>by
 cases hfv
 walk_at "u"; obtain ⟨hh,g,dr,t,os⟩:=s;walk_at "v"
 refine wpAny_call (make_core (makes_of (O.at hi) hm) (looks_findIn (O.at hi) hi0) (fun self=>bind_fn (O.at hi) self hf) (.inl rfl) ?_)
 have n1:hh.get? hh.objs.size=none:=get?_ge (av _)
 have n2:hh.get? (hh.objs.size + 1)=none:=get?_ge (cG _)
 walk_at "u"; obtain ⟨i1,e1⟩:=hi.new (s':=⟨hh.push emptyDict,g,dr,t,os⟩) (p:=.ns []) n1 hi.size (fun b o e=>Heap.get?_push_of_some _ e) ⟨[],0,Heap.get?_push_size _ rfl,.nil⟩ rfl rfl;walk_at "v"
 have hx:((hh.push emptyDict).push (instObj c hh.objs.size)).get? (hh.objs.size + 1)=some (instObj c hh.objs.size):=by
  have:((hh.push emptyDict).push (instObj c hh.objs.size)).get? (hh.push emptyDict).objs.size=some (instObj c hh.objs.size):=Heap.get?_push_size _ rfl
  rwa [Heap.size_push] at this
 have n3:(hh.push emptyDict).get? (hh.objs.size + 1)=none:=get?_ge (by rw [Heap.size_push];exact av _)
 walk_at "u"; obtain ⟨i2,e2⟩:=i1.new (s':=⟨(hh.push emptyDict).push (instObj c hh.objs.size),g,dr,t,os⟩) (a:=hh.objs.size + 1) (p:=.inst c hh.objs.size) n3 (aa hi.size (cG _)) (fun b o e=>Heap.get?_push_of_some _ e) hx rfl rfl;walk_at "v"
 refine codeAny_mono (h (hh.objs.size + 1) hh.objs.size (hi.off n2) (hi.off n1) (Nat.succ_ne_self _) _ _ _ ha.under i2 (.cons (.loc _) (hr.mono (e1.trans e2).seq)) (fun v s'=>v=.none∧QM (.ref (hh.objs.size + 1)) s') fun v pv σ' s' q i' e' r'=>?_) fun r s' z=>?_
 ·walk_at "u"; obtain ⟨eq0,q⟩:=q;walk_at "v"
  subst eq0
  cases r'
  exact ⟨rfl,hq _ _ σ' s' q i' ((e1.trans e2).trans e') (.loc _)⟩
 ·rcases r with e | (v | _ | _ | _)<;>exact z
end
end Internal
end
section
open PySem PySem.W PyProof.Rows PySem.Calls
namespace Internal
section
variable {K:Kx} {ρ:Fm} {σ:ij} {d:Nat} {Q:V→ij→Prop} {F:Frag}
noncomputable def nw (name:Str) (pv:V):List (Str×V)→List (Str×V)
 | []=>[(name,pv)]
 | (m,w) :: r=>if m == name then (m,pv) :: r else (m,w) :: nw name pv r
theorem mD.put {h:Heap} {es:List DictEntry} {at_:List (Str×V)} {name:Str} {t:Tok} {hs:Int} {v:Value} {pv:V} (x:mD σ h es at_) (hv:Rel σ h v pv):mD σ h (putL name hs (.str name t) v es) (nw name pv at_):=by
 induction x with
 | nil=>exact .cons hv .nil
 | @cons y u hs' w pw es at_ hw hl ih=>
  unfold putL nw
  show mD σ h (if (y == name)=true then _ else _) _
  cases hy:y == name with
  | true=>exact .cons hv hl
  | false=>exact .cons hw ih
theorem mD.len {h:Heap} {es:List DictEntry} {at_:List (Str×V)} (x:mD σ h es at_):es.length=at_.length:=by
 induction x with
 | nil=>rfl
 | cons _ _ ih=>simp [ih]
theorem zD (name:Str) (hs:Int) (k v:Value):∀ es:List DictEntry,(putL name hs k v es).length≤es.length + 1:=by
 intro lr
 induction lr with
 | nil=>
  simp [putL]
 | cons e r ihr=>
  unfold putL
  split
  ·simp
  ·simpa using ihr
set_option tactic.hygienic true in
theorem u7 (O:kz F) {x dx c:Addr} {at_:List (Str×V)} {name:Str} {pv:V} {A:Around} {s:Shared} {v:Value} (hx:σ x=some (.inst c dx)) (hd:σ dx=some (.ns at_)) (hi:Inv σ s) (hv:Rel σ s.heap v pv)
  (hs:findIn F (.ref c) "__setattr__" = some (some (.builtin "object.__setattr__"))) (hp:plainOver F c=true) (ht:takerIn F c name=some none) (hh:hasDictIn F c=true) (hl:at_.length < 900) {QM:Unit→Shared→Prop}
  (hq:∀ s',Inv (upd σ dx (some (.ns (nw name pv at_)))) s'→Ext σ s.heap (upd σ dx (some (.ns (nw name pv at_)))) s'.heap→QM () s'):wpAny (model C.prog C.w) A (setAttr (.ref x) name v) QM Bot s:=by
 walk_at "u"; obtain ⟨es,n,I,r⟩:=pW hi hx hd;walk_at "v"
 have len:=r.len
 have fd:=r.find name
 have gl:(getL name es).isSome=true:=by
  cases hq':at_.lookup name with
  | none=>rw [hq'] at fd;rw [fd];rfl
  | some w=>rw [hq'] at fd;obtain ⟨v',e,_⟩:=fd;rw [e];rfl
 refine set_plain (O.at hi) I hs (osa_open (s:={ s with toks:=s.toks + 1 }) (O.at (s:={ s with toks:=s.toks + 1 }) hi.toks) I hp ht fun b=>?_)
 walk_at "u"; obtain ⟨cd,hc,hd'⟩:=any_some hh;walk_at "v"
 have D:s.heap.get? dx=some (dictOf es n):=by
  walk_at "u"; obtain ⟨es',n',e,r'⟩:=(hi.own dx _ hd).2;walk_at "v"
  have:=I.dict
  exact this
 have hxx:=(hi.own x _ hx).2
 let f:=Obj.putName name (PyData.keyHash C.w.params name) (.str name (s.toks + 1)) v
 have D':(s.heap.update dx f).get? dx=some (dictOf (putL name (PyData.keyHash C.w.params name) (.str name (s.toks + 1)) v es) (putN name es n)):=by
  rw [Heap.get?_update_self f D (by show (Obj.putName _ _ _ _ _).isFreed=false;rw [putName_dict];rfl)]
  show some (Obj.putName _ _ _ _ _)=_
  rw [putName_dict]
 have hz:(putL name (PyData.keyHash C.w.params name) (.str name (s.toks + 1)) v es).length≤1000:=by
  have:=zD name (PyData.keyHash C.w.params name) (.str name (s.toks + 1)) v es
  rw [len] at this;lia
 have hsq:iW σ s.heap (upd σ dx (some (.ns (nw name pv at_)))) (s.heap.update dx f):=⟨fun b o e _ hb _=>((Heap.SameBut.update s.heap dx f).2 b (fun q=>by rw [q,hd] at hb;cases hb)).trans e,fun b o e _ hb _=>by
  rw [ir σ _ (fun q=>by rw [q,hd] at hb;cases hb)];exact hb⟩
 refine wpAny_bind (wpAny_pure (wpAny_bind (wpAny_bind (wpAny_loadPart hxx (wpAny_bind ((looks_clsIn (O.at (s:={ s with toks:=s.toks + 1 }) hi.toks) hc).here ?_))))))
 rw [hd']
 refine wpAny_pure (a:=some dx) (wpAny_bind (wpAny_pure (wpAny_bind ?_)))
 unfold nsSet
 refine wpAny_bind (wpAny_bind (wpAny_askSetting (wpAny_pure (wpAny_bind (wpAny_mkText (wpAny_bind (wpAny_loadPart D ?_)))))))
 dsimp only
 have c:(!es.toArray.any (·.key.isStr name) && es.toArray.any (·.refKey))=false:=by
  rw [← Array.any_toList,← Array.any_toList]
  unfold getL at gl
  split at gl
  ·rename_i en he
   rw [List.any_eq_true.mpr ⟨en,List.mem_of_find?_eq_some he,List.find?_some he⟩];rfl
  ·split at gl
   ·cases gl
   ·rename_i z;rw [gF] at z;rw [z,eB]
 rw [aRefKeyMayBeTheName_at,c]
 refine wpAny_updatePart D ?_
 refine wpAny_bind (wpAny_lookBehind D' (pastItsLine_dict (by rw [eT,sizeLine_eq];walk_at "l")) ?_)
 walk_at "u"; obtain ⟨i',e'⟩:=hi.set (s':={ s with heap:=s.heap.update dx f,toks:=s.toks + 1 + 1 }) (p':=.ns (nw name pv at_)) hd (Heap.SameBut.update s.heap dx f).extBut (fun v e=>by cases e) ⟨_,_,D',(r.put hv).mono hsq⟩ rfl rfl
 walk_at "v"
 exact wpAny_pure (hq _ i' e')
structure Db (F:Frag) (c:Addr) (name:Str):Prop where
 set:findIn F (.ref c) "__setattr__" = some (some (.builtin "object.__setattr__"))
 over:plainOver F c=true
 taker:takerIn F c name=some none
 dict:hasDictIn F c=true
theorem p0 (O:kz F) {o:Expr} {attr:Str} {pos:Pos} {pv:V} {Q:Fm→ij→Prop}
  (h:EvP K ρ σ o (fun ov σ₁=>∃ x dx c at_,ov=.loc x∧σ₁ x=some (.inst c dx)∧σ₁ dx=some (.ns at_)∧Db F c attr∧at_.length < 900∧Q ρ (upd σ₁ dx (some (.ns (nw attr pv at_)))))):
  AsP K ρ σ (.Attribute o attr pos) pv Q:=fun A env s v ha hr hi hv QM hq=>by
 rw [arm_assign_Attribute]
 refine wpAny_bind (wpAny_holding (h A env s ha hr hi _ fun ov po σ₁ s₁ h₁ i₁ e₁ r₁=>wpAny_bind (wpAny_standAt ?_)))
 walk_at "u"; obtain ⟨x,dx,c,at_,rfl,hx,hd,S,hl,q⟩:=h₁;walk_at "v"
 obtain ⟨_,rfl⟩:=Rel.inv r₁
 refine wpAny_bind (wpAny_holding (u7 O hx hd i₁ (hv.mono e₁.seq) S.set S.over S.taker S.dict hl fun s₂ i₂ e₂=>?_))
 exact wpAny_release' (hq ρ _ s₂ q (hr.mono (e₁.trans e₂)) i₂ (e₁.trans e₂).toF)
theorem v9 (O:kz F) {o value:Expr} {attr:Str} {tpos pos:Pos} {op:Operator} {Q:Fl→Fm→ij→Prop}
  (h:EvP K ρ σ o (fun ov σ₁=>M1 K.d (fun o=>getAttr o attr true) ov σ₁ (fun a σ₂=>EvP K ρ σ₂ value (fun b σ₃=>M2 K.d (inplaceOp op) a b σ₃ (fun r σ₄=>∃ x dx c at_,ov=.loc x∧σ₄ x=some (.inst c dx)∧σ₄ dx=some (.ns at_)∧Db F c attr∧at_.length < 900∧
   Q .next ρ (upd σ₄ dx (some (.ns (nw attr r at_))))))))):StP K ρ σ (.AugAssign (.Attribute o attr tpos) op value pos) Q:=fun A env s ha hr hi QM hq=>by
 rw [arm_exec_AugAssign_2]
 refine wpAny_bind (wpAny_standAt (wpAny_bind (h A env s ha hr hi _ fun ov po σ₁ s₁ h₁ i₁ e₁ r₁=>wpAny_bind (wpAny_holding (wpAny_bind (wpAny_standAt (wpAny_bind (h₁ A s₁ ov ha i₁ r₁ _ fun old po' σ₂ s₂ h₂ i₂ e₂ r₂=>
  wpAny_bind (wpAny_holding (h₂ A env s₂ ha (hr.mono (e₁.trans e₂)) i₂ _ fun v pv σ₃ s₃ h₃ i₃ e₃ r₃=>wpAny_bind (wpAny_standAt (wpAny_operating (h₃ A s₃ old v ha i₃ (r₂.mono e₃.seq) r₃ _ fun r pr σ₄ s₄ q i₄ e₄ r₄=>?_)))))))))))))
 walk_at "u"; obtain ⟨x,dx,c,at_,rfl,hx,hd,S,hl,q⟩:=q;walk_at "v"
 obtain ⟨_,rfl⟩:=Rel.inv r₁
 have E:=((e₁.trans e₂).trans e₃).trans e₄
 refine wpAny_bind (wpAny_standAt (wpAny_bind (wpAny_holding (u7 O hx hd i₄ r₄ S.set S.over S.taker S.dict hl fun s₅ i₅ e₅=>wpAny_bind (wpAny_release' (wpAny_pure ?_))))))
 exact hq .next .next ρ _ s₅ q trivial (hr.mono (E.trans e₅)) i₅ (E.trans e₅).toF
end
end Internal
end
section
open PySem PySem.W PyProof.Rows PySem.Calls
namespace Internal
open Ia Ib
section
variable {K:Kx} {ρ:Fm} {σ:ij} {d:Nat} {Q:V→ij→Prop}
theorem cont_next {rest:List Stmt} {Q:Fl→Fm→ij→Prop} (h:ExP K ρ σ rest Q):Cont K rest Q .next ρ σ:=h
theorem cont_ret {rest:List Stmt} {Q:Fl→Fm→ij→Prop} {v:V} (h:Q (.ret v) ρ σ):Cont K rest Q (.ret v) ρ σ:=h
theorem cont_brk {rest:List Stmt} {Q:Fl→Fm→ij→Prop} (h:Q .brk ρ σ):Cont K rest Q .brk ρ σ:=h
theorem cont_cont {rest:List Stmt} {Q:Fl→Fm→ij→Prop} (h:Q .cont ρ σ):Cont K rest Q .cont ρ σ:=h
theorem retq_ret {v:V} (h:Q v σ):oV Q (.ret v) ρ σ:=h
theorem retq_next (h:Q .none σ):oV Q .next ρ σ:=h
theorem evs_nil {Q:List V→ij→Prop} (h:Q [] σ):EvsP K ρ [] σ Q:=h
theorem Ay {e:Expr} {r:List Expr} {Q:List V→ij→Prop} (h:EvP K ρ σ e (fun pv σ₁=>EvsP K ρ r σ₁ (fun pl σ₂=>Q (pv :: pl) σ₂))):EvsP K ρ (e :: r) σ Q:=h
theorem evo_none (h:Q .none σ):EvO K ρ σ none Q:=h
theorem evo_some {e:Expr} (h:EvP K ρ σ e Q):EvO K ρ σ (some e) Q:=h
theorem ass_nil {Q:Fm→ij→Prop} (h:Q ρ σ):vV K Q ρ σ [] []:=h
theorem ifs_nil' {Q:Bool→ij→Prop} (h:Q true σ):lF K ρ [] σ Q:=h
theorem ifs_cons' {c:Expr} {r:List Expr} {Q:Bool→ij→Prop} (h:TsP K ρ σ c (fun b σ₁=>if b then lF K ρ r σ₁ Q else Q false σ₁)):lF K ρ (c :: r) σ Q:=h
theorem swap_nil {Q:Fm→Prop} (h:Q ρ):lS K Q ρ [] []:=h
theorem swap_cons {Q:Fm→Prop} {x:Str} {xs:List Str} {v:V} {vs:List V} {ρ':Fm} (hk:kO K ρ x) (hu:Upd ρ x (.val v) ρ') (h:lS K Q ρ' xs vs):lS K Q ρ (x :: xs) (v :: vs):=⟨hk,ρ',hu,h⟩
theorem ite_true' {A B:Prop} (h:A):if true=true then A else B:=by simpa using h
theorem ite_false' {A B:Prop} (h:B):if false=true then A else B:=by simpa using h
theorem jQ {p:Prop} [Decidable p] {A B:Prop} (h1:p→A) (h2:¬ p→B):if decide p=true then A else B:=by
 by_cases h:p
 ·simpa [h] using h1 h
 ·simpa [h] using h2 h
theorem jb {α:Type} [BEq α] [LawfulBEq α] {a b:α} {A B:Prop} (h1:a=b→A) (h2:a≠b→B):if (a == b)=true then A else B:=by
 by_cases h:a=b
 ·simpa [h] using h1 h
 ·simpa [h] using h2 h
theorem jA {b:Bool} {A B:Prop} (h1:b=true→A) (h2:b=false→B):if b=true then A else B:=by
 cases b
 ·simpa using h2 rfl
 ·simpa using h1 rfl
theorem stores_local {x:Str} (h:K.names.lookup x=some .local):kO K ρ x:=.inl h
theorem kF {x:Str} {sl:Slot} (h:K.names.lookup x=some .cell) (hm:(x,sl)∈ρ) (hs:∀ c,sl≠.sh c):kO K ρ x:=.inr ⟨h,sl,hm,hs⟩
theorem p8 {x:Str} {e:Expr} {pos' pos:Pos} {Q:Fl→Fm→ij→Prop} (hk:kO K ρ x) (h:EvP K ρ σ e (fun v σ₁=>∃ ρ',Upd ρ x (.val v) ρ'∧Q .next ρ' σ₁))
  (hs:autoParam (∀ env,swapsWith e (some (.Name x pos')) pos.line env=pure false) aI):StP K ρ σ (.Assign [.Name x pos'] e pos) Q:=yA hk h hs
theorem tsb {P:Bool→Prop} {b:Bool} (h:P b):∃ b',V.bool b=.bool b'∧P b':=⟨b,rfl,h⟩
theorem tb_lst {a:V} {vs:List V} {Q:Bool→ij→Prop} (h:LV σ a vs) (hl:vs.length < 2 ^ 25) (q:Q (!vs.isEmpty) σ):M1B d a σ Q:=fun A s x ha hi hx QM hq=>by
 walk_at "u"; obtain ⟨b,items,n,rfl,ho,hrs⟩:=h.at hi hx;walk_at "v"
 have hlen:=hrs.length
 simp only [Array.length_toList] at hlen
 refine wpAny_truthy_list ⟨_,ho,rfl,_,rfl⟩ (by lia) ?_
 have e:(!items.isEmpty)=!vs.isEmpty:=by
  unfold Array.isEmpty
  cases vs with
  | nil=>simp at hlen;simp [hlen]
  | cons=>simp at hlen;simp [hlen]
 rw [e];exact hq _ _ _ q hi.toks .refl
noncomputable def AR (kn:List (Str×NameKind)) (rn:List Str) (scope:Scope) (cn:List Str):Bool:=
 (scope.kind == .function) && scope.names.all (fun x=>x.2 != .cell) && scope.names.all (fun x=>x.2 != .local || scope.names.lookup x.1 == some .local) &&
 scope.names.all (fun x=>x.2 != .free || (rn.contains x.1 && kn.lookup x.1 != some .local)) && cn.all (fun x=>scope.names.lookup x == some .free)
theorem jp.mk' {scope:Scope} {caps:Fm} (h:AR K.names (ρ.map (·.1)) scope (caps.map (·.1))=true) (hc:∀ p∈caps,p∈ρ∧p.2≠.emp):jp K ρ scope caps:=by
 unfold AR at h
 simp only [aV,a9,de,bne_iff_ne,beq_iff_eq,a8] at h
 walk_at "u"; obtain ⟨⟨⟨⟨h1,h2⟩,h3⟩,h4⟩,h5⟩:=h;walk_at "v"
 refine ⟨h1,h2,fun x hx e=>?_,fun x hx e=>?_,fun p hp=>⟨(hc p hp).1,h5 _ (c5 hp),(hc p hp).2⟩⟩
 ·rcases h3 x hx with h | h
  ·exact absurd e h
  ·exact h
 ·rcases h4 x hx with h | ⟨h,h'⟩
  ·exact absurd e h
  ·walk_at "u"; obtain ⟨⟨y,sl⟩,hp,rfl⟩:=aA.mp h;walk_at "v"
   exact ⟨sl,hp,h'⟩
end
end Internal
end
section
open PySem PySem.W PyProof.Rows PySem.Calls
namespace Internal
open Ia Ib
theorem jx:PySem.Slot "list_reverseiterator" "__next__" "list_reverseiterator.__next__" :=
 .of (owner := "list_reverseiterator") (n := "__next__") (by rw [typeLookup_type,builtinLookup_eq_fast];kernel_rfl) (by decide +kernel) (by decide +kernel) (by decide +kernel)
  (by first | exact .inl (by decide +kernel) | exact .inr (by decide +kernel)) (by rw [isSubtype_type];kernel_rfl)
theorem l7:entryFor table "list_reverseiterator.__next__" = some Builtin.«list_reverseiterator.__next__»:=entryFor_of_tree (by kernel_rfl)
theorem mM (a:Value):argsOk "list_reverseiterator.__next__" ⟨[a],[]⟩:=by unfold argsOk;kernel_rfl
theorem mE:PySem.Slot "list_reverseiterator" "__iter__" "list_reverseiterator.__iter__" :=
 .of (owner := "list_reverseiterator") (n := "__iter__") (by rw [typeLookup_type,builtinLookup_eq_fast];kernel_rfl) (by decide +kernel) (by decide +kernel) (by decide +kernel)
  (by first | exact .inl (by decide +kernel) | exact .inr (by decide +kernel)) (by rw [isSubtype_type];kernel_rfl)
theorem rz:entryFor table "list_reverseiterator.__iter__" = some Builtin.«dict_keyiterator.__iter__»:=
 entryFor_alias (id' := "dict_keyiterator.__iter__") (by kernel_rfl) (by first | rfl | decide +kernel | (unfold String.splitOn;simp +decide [String.splitOnAux])) (by decide +kernel) (by kernel_rfl)
theorem sO (a:Value):argsOk "list_reverseiterator.__iter__" ⟨[a],[]⟩:=by unfold argsOk;kernel_rfl
theorem jy:PySem.Slot "callable_iterator" "__next__" "callable_iterator.__next__" :=
 .of (owner := "callable_iterator") (n := "__next__") (by rw [typeLookup_type,builtinLookup_eq_fast];kernel_rfl) (by decide +kernel) (by decide +kernel) (by decide +kernel)
  (by first | exact .inl (by decide +kernel) | exact .inr (by decide +kernel)) (by rw [isSubtype_type];kernel_rfl)
theorem l8:entryFor table "callable_iterator.__next__" = some Builtin.«callable_iterator.__next__»:=entryFor_of_tree (by kernel_rfl)
theorem mN (a:Value):argsOk "callable_iterator.__next__" ⟨[a],[]⟩:=by unfold argsOk;kernel_rfl
theorem mF:PySem.Slot "callable_iterator" "__iter__" "callable_iterator.__iter__" :=
 .of (owner := "callable_iterator") (n := "__iter__") (by rw [typeLookup_type,builtinLookup_eq_fast];kernel_rfl) (by decide +kernel) (by decide +kernel) (by decide +kernel)
  (by first | exact .inl (by decide +kernel) | exact .inr (by decide +kernel)) (by rw [isSubtype_type];kernel_rfl)
theorem rA:entryFor table "callable_iterator.__iter__" = some Builtin.«dict_keyiterator.__iter__»:=
 entryFor_alias (id' := "dict_keyiterator.__iter__") (by kernel_rfl) (by first | rfl | decide +kernel | (unfold String.splitOn;simp +decide [String.splitOnAux])) (by decide +kernel) (by kernel_rfl)
theorem sP (a:Value):argsOk "callable_iterator.__iter__" ⟨[a],[]⟩:=by unfold argsOk;kernel_rfl
section
variable {prog:Program} {w:World} {A:Around} {E:Value→Shared→Prop} {s:Shared}
theorem we {it:Addr} {o:Obj} {Q:Value→Shared→Prop} (ho:s.heap.get? it=some o) (hc:o.cls=.type "list_reverseiterator") (h:Q (.ref it) s):wpAny (model prog w) A (pyIter (.ref it)) Q E s:=by
 have hT:s.TypeIs (.ref it) "list_reverseiterator" := ⟨o,ho,hc⟩
 refine wpAny_pyIter_slot hT mE (wpAny_call_entry mE hT rz ?_ (sO _))
 show wpAny _ _ (do ret (.ref it)) _ _ s
 exact wpAny_pure ⟨_,rfl, "list_reverseiterator", _,hT,jx.lookup,h⟩
theorem wf {it:Addr} {o:Obj} {Q:Value→Shared→Prop} (ho:s.heap.get? it=some o) (hc:o.cls=.type "callable_iterator") (h:Q (.ref it) s):wpAny (model prog w) A (pyIter (.ref it)) Q E s:=by
 have hT:s.TypeIs (.ref it) "callable_iterator" := ⟨o,ho,hc⟩
 refine wpAny_pyIter_slot hT mF (wpAny_call_entry mF hT rA ?_ (sP _))
 show wpAny _ _ (do ret (.ref it)) _ _ s
 exact wpAny_pure ⟨_,rfl, "callable_iterator", _,hT,jy.lookup,h⟩
theorem oa {α:Type} {P:α→Shared→Prop} {h₁:Heap} {Q:Option Value→Shared→Prop} (hh:A.handled=none) (hQ:∀ h',(∀ b o,h₁.get? b=some o→h'.get? b=some o)→Q none { s with heap:=h' }):
  wpAny (model prog w) A.in1 (Builtin.SmallTypes.stopIteration:Sem α) P (fun e s'=>wpAny (model prog w) A (do if ← isInstance e (.type "StopIteration") then pure none else throw e) Q E s') { s with heap:=h₁ }:=by
 show wpAny _ _ (newExc (.type "StopIteration") [] >>= _) _ _ _
 refine wpAny_bind ?_
 simp only [newExc,newTuple]
 refine wpAny_bind (wpAny_newObj_type ?_ (by size_fits))
 refine wpAny_bind (m:=firstArgMember _ _) (wpAny_of_eq (a:=Value.none) (by first | rfl | (simp only [firstArgMember];rfl)) ?_)
 refine wpAny_newObj_type ?_ (by size_fits)
 simp only [raiseNew]
 refine wpAny_bind (wpAny_handled ?_)
 rw [show A.in1.handled=none from hh]
 refine wpAny_bind (wpAny_pure (wpAny_throw ?_))
 refine wpAny_bind (wpAny_isInstance (T := "StopIteration") (b:=true) ⟨_,Heap.get?_push_size _ rfl,rfl⟩ isSubtype_stop ?_)
 exact wpAny_pure (hQ _ fun b o e=>Heap.get?_push_of_some _ (Heap.get?_push_of_some _ e))
theorem zx {it l:Addr} {i:Nat} {items:Array Value} {n:Nat} {x:Value} {Q:Option Value→Shared→Prop} (ho:s.heap.get? it=some (vb (.ref l) i)) (hl:s.heap.get? l=some (lstO items n)) (hx:items[i]?=some x)
  (hQ:∀ h',h'.get? it=some (vb (.ref l) (i - 1))→Heap.SameBut it s.heap h'→Q (some x) { s with heap:=h' }):wpAny (model prog w) A (pyNext (.ref it)) Q E s:=by
 have hT:s.TypeIs (.ref it) "list_reverseiterator" := ⟨_,ho,rfl⟩
 unfold pyNext
 refine wpAny_bind (wpAny_attempt (wpAny_callSpecial?_slot (name:=Str.ofString "__next__") hT jx (wpAny_call_entry jx hT l7 ?_ (mM _))))
 show wpAny _ _ (field (.ref it) 1 >>= _) _ _ s
 refine wpAny_bind (wpAny_field ho rfl (x:=.int i 0) rfl ?_)
 show wpAny _ _ (if (i:Int) < 0 then _ else _) _ _ s
 refine ifn (by walk_at "l") ?_
 show wpAny _ _ (field (.ref it) 0 >>= _) _ _ s
 refine wpAny_bind (wpAny_field ho rfl (x:=.ref l) rfl ?_)
 show wpAny _ _ (seqItems? (.ref l) >>= _) _ _ s
 refine wpAny_bind (wpAny_seqItems hl rfl ?_)
 simp only [bw,hx]
 refine wpAny_bind (wpAny_setField ho rfl (by simp) (wpAny_pure ⟨x,rfl,wpAny_pure (hQ _ ?_ (Heap.SameBut.update ..))⟩))
 exact Heap.get?_update_self _ ho (Obj.isFreed_of_fields (Obj.data_mapFields rfl _))
theorem Bx {it:Addr} {v:Value} {Q:Option Value→Shared→Prop} (hh:A.handled=none) (ho:s.heap.get? it=some (vb v (-1)))
  (hQ:∀ h',(∀ b o,s.heap.get? b=some o→h'.get? b=some o)→Q none { s with heap:=h' }):wpAny (model prog w) A (pyNext (.ref it)) Q E s:=by
 have hT:s.TypeIs (.ref it) "list_reverseiterator" := ⟨_,ho,rfl⟩
 unfold pyNext
 refine wpAny_bind (wpAny_attempt (wpAny_callSpecial?_slot (name:=Str.ofString "__next__") hT jx (wpAny_call_entry jx hT l7 ?_ (mM _))))
 show wpAny _ _ (field (.ref it) 1 >>= _) _ _ s
 refine wpAny_bind (wpAny_field ho rfl (x:=.int (-1) 0) rfl ?_)
 show wpAny _ _ (if (-1:Int) < 0 then _ else _) _ _ s
 refine ifp (by walk_at "l") ?_
 refine wpAny_bind (wpAny_rule ?_)
 exact wpAny_bind (oa (s:=s) (h₁:=s.heap) (Q:=Q) (E:=E) hh hQ)
end
end Internal
namespace Internal
section
variable {prog:Program} {w:World} {A:Around} {E:Value→Shared→Prop} {s:Shared}
theorem vM (f:Value) (pos:List Value):callBorrowed f pos=(call f pos).keep [borrowed]:=by
 unfold callBorrowed call runValue run
 simp only [bind,Sem.bind,Sem.keep]
 congr 1
 funext r
 cases r with
 | error e=>rfl
 | ok f=>cases f<;>rfl
theorem vN {b fn:Addr} {fo:Obj} {fd:FuncData} {v:Value} {Q:Bool→Shared→Prop} (hb:s.heap.get? b=some (methodObj (.ref fn) v)) (hf:s.heap.get? fn=some fo) (hfd:fo.data=.func fd) (h:Q true s):
  wpAny (model prog w) A (borrowsExactly (.ref b)) Q E s:=by
 unfold borrowsExactly
 refine wpAny_bind (wpAny_load hb ?_)
 show wpAny _ _ (if (Value.type "method" == Value.type "method")=true then _ else _) _ _ s
 rw [if_pos (by decide)]
 show wpAny _ _ (do match (← load fn).data with | .func _=>pure true | _=>pure false) _ _ s
 refine wpAny_bind (wpAny_load hf ?_)
 rw [hfd];exact wpAny_pure h
theorem AV {it b fn:Addr} {fo:Obj} {fd:FuncData} {v:Value} {u:Str} {tu:Tok} {Q:Option Value→Shared→Prop} (hh:A.handled=none) (ho:s.heap.get? it=some (wP (.ref b) (.str u tu) (.bool false)))
  (hb:s.heap.get? b=some (methodObj (.ref fn) v)) (hf:s.heap.get? fn=some fo) (hfd:fo.data=.func fd)
  (hc:wpAny (model prog w) A.in1 (call (.ref b) []) (fun r s₁=>∃ tu' v',s₁.heap.get? it=some (wP (.ref b) (.str u tu') (.bool false))∧s₁.heap.get? b=some (methodObj (.ref fn) v')∧s₁.heap.get? fn=some fo∧∃ x t,r=.str x t∧
   (if u=x then ∀ h',h'.get? it=some (wP .none .none (.bool true))→(∀ b o,b≠it→s₁.heap.get? b=some o→h'.get? b=some o)→Q none { s₁ with heap:=h' } else Q (some r) s₁)) (fun _ _=>False) s):
  wpAny (model prog w) A (pyNext (.ref it)) Q E s:=by
 have hT:s.TypeIs (.ref it) "callable_iterator" := ⟨_,ho,rfl⟩
 unfold pyNext
 refine wpAny_bind (wpAny_attempt (wpAny_callSpecial?_slot (name:=Str.ofString "__next__") hT jy (wpAny_call_entry jy hT l8 ?_ (mN _))))
 show wpAny _ _ (field (.ref it) 2 >>= _) _ _ s
 refine wpAny_bind (wpAny_field ho rfl (x:=.bool false) rfl ?_)
 rw [if_neg (by decide)]
 show wpAny _ _ (field (.ref it) 0 >>= _) _ _ s
 refine wpAny_bind (wpAny_field ho rfl (x:=.ref b) rfl ?_)
 refine wpAny_bind (wpAny_attempt ?_)
 unfold callOutOfASlot
 refine wpAny_bind (vN hb hf hfd ?_)
 rw [if_pos rfl,vM]
 refine wpAny_keep (wpAny_mono hc (fun r s₁ h=>?_) fun _ _ x=>x.elim)
 walk_at "u"; obtain ⟨tu',v',h1,h2,h3,x,t,eq0,hr⟩:=h;walk_at "v"
 subst eq0
 refine wpAny_bind (wpAny_field h1 rfl (x:=.bool false) rfl ?_)
 rw [if_neg (by decide)]
 refine wpAny_bind (wpAny_field h1 rfl (x:=.str u tu') rfl (wpAny_bind (wpAny_holding (eqBool_str ?_))))
 by_cases hux:u=x
 ·rw [if_pos hux] at hr
  rw [if_neg (by simp [hux])]
  refine wpAny_bind (wpAny_rule (wpAny_bind ?_))
  show wpAny _ _ (field (.ref it) 0 >>= fun f=>slotLetsGo "callable_iterator.__next__" f _ >>= fun _=>(do setField (.ref it) 0 .none;setField (.ref it) 1 .none;setField (.ref it) 2 (.bool true))) _ _ _
  refine wpAny_bind (wpAny_field h1 rfl (x:=.ref b) rfl (wpAny_bind ?_))
  unfold slotLetsGo
  refine wpAny_bind (vN h2 h3 hfd ?_)
  rw [if_pos rfl]
  refine wpAny_pure ?_
  refine wpAny_bind (wpAny_setField_rec h1 (by simp) fun h₁ g1 b1=>wpAny_bind (wpAny_setField_rec (s:={ s₁ with heap:=h₁ }) g1 (by simp) fun h₂ g2 b2=>wpAny_setField_rec (s:={ s₁ with heap:=h₂ }) g2 (by simp) fun h₃ g3 b3=>?_))
  exact oa (s:=s₁) (h₁:=h₃) hh fun h' k=>hr h' (k _ _ g3) fun b o hne e=>k _ _ (b3.extBut b o hne (b2.extBut b o hne (b1.extBut b o hne e)))
 ·rw [if_neg hux] at hr
  rw [if_pos (by simp [hux])]
  exact wpAny_pure ⟨_,rfl,wpAny_pure hr⟩
end
end Internal
namespace Internal
theorem nE:mroOf (.type "reversed")=pure [.type "reversed", .type "object"]:=by rw [mroOf_type];kernel_rfl
theorem mC:typeLookup (.type "reversed") "__new__" = pure (some (.builtin "reversed.__new__")):=by rw [typeLookup_type,builtinLookup_eq_fast];kernel_rfl
theorem sj:Bind.madeBy (.type "reversed")=pure (some "reversed.__new__"):=madeBy_type nE mC (by decide +kernel)
theorem nj (a:Value):checkTypeCall "reversed" ⟨[a],[]⟩=pure ():=by kernel_rfl
theorem oF (a:Value):checkBuiltinCall "reversed.__new__" ⟨[.type "reversed", a],[]⟩=pure ():=by kernel_rfl
theorem m7:entryFor table "reversed.__new__" = some Builtin.«reversed.__new__»:=entryFor_of_tree (by kernel_rfl)
theorem oY:isSubtype (.type "reversed") (.type "reversed")=pure true:=by rw [isSubtype_type];kernel_rfl
theorem uZ:isSubtype (.type "list_reverseiterator") (.type "reversed")=pure false:=by rw [isSubtype_type];kernel_rfl
section
variable {prog:Program} {w:World} {A:Around} {E:Value→Shared→Prop} {s:Shared}
theorem tA {l:Addr} {items:Array Value} {n:Nat} {Q:Value→Shared→Prop} (hl:s.heap.get? l=some (lstO items n))
  (h:∀ h',h'.get? s.heap.objs.size=some (vb (.ref l) ((items.size:Int) - 1))→(∀ b o,s.heap.get? b=some o→h'.get? b=some o)→Q (.ref s.heap.objs.size) { s with heap:=h' }):
  wpAny (model prog w) A (Builtin.«reversed.__new__» ⟨[.type "reversed", .ref l],[]⟩) (fun fin s'=>∃ v,fin=.done (.ret v)∧Q v s') E s:=by
 have hT:s.TypeIs (.ref l) "list" := ⟨_,hl,rfl⟩
 have hsub:=oY
 have hlook:=F.slot_list_reversed.lookup
 have hbind:=F.slot_list_reversed.bind (.ref l)
 unfold Builtin.«reversed.__new__»
 repeat (any_goals (first | assumption | wp_step))
 refine codeAny_call_builtin F.slot_list_reversed.plain F.entry_list_reversed (F.slot_list_reversed.check _ _ _ _ _ _ _ _ hT (F.args_list_reversed_1 _) ?_)
 unfold Builtin.«list.__reversed__»
 repeat (any_goals (first | assumption | wp_step))
 exact ⟨_,rfl,h _ (Heap.get?_push_size _ rfl) fun b o e=>Heap.get?_push_of_some _ e⟩
theorem sJ {l:Addr} {items:Array Value} {n:Nat} {Q:Value→Shared→Prop} (hl:s.heap.get? l=some (lstO items n))
  (h:∀ h',h'.get? s.heap.objs.size=some (vb (.ref l) ((items.size:Int) - 1))→(∀ b o,s.heap.get? b=some o→h'.get? b=some o)→Q (.ref s.heap.objs.size) { s with heap:=h' }):
  wpAny (model prog w) A (call (.type "reversed") [.ref l]) Q E s:=by
 have hmro:=nE
 have hmade:=sj
 have hsub:=oY
 have hct:=nj (.ref l)
 refine wpAny_call (codeAny_of_tree ?_)
 show wpAny _ _ (callAny (.type "reversed") _) _ _ _
 refine wpAny_pure ⟨Code.quiet_builtin _ (by decide +kernel),codeAny_builtin F.entry_type_call ?_⟩
 rw [Around.under_plain (weight_type_call_type "reversed" [.ref l] []) (units_type_call_type "reversed" [.ref l] [])]
 have h1:(Value.type "reversed" == Value.type "type")=false:=by decide +kernel
 have h2:((Manifest.find? "reversed").bind (·.mro.findSome? fun t=>(Manifest.find? t).bind fun b=>if b.noNew then some true else if b.attrs.any (·.1 == "__new__") then some false else none)).getD false=false:=by decide +kernel
 repeat (any_goals (first | assumption | wp_step))
 refine codeAny_call_builtin (by decide +kernel) m7 (wpAny_of_eq (oF _) (wpAny_mono (tA (Q:=fun v s'=>∃ h',v=.ref s.heap.objs.size∧s'={ s with heap:=h' }∧h'.get? s.heap.objs.size=some (vb (.ref l) ((items.size:Int) - 1))∧∀ b o,s.heap.get? b=some o→h'.get? b=some o) hl
  fun h' g k=>⟨h',rfl,rfl,g,k⟩) (fun fin s' hx=>?_) fun _ _ x=>x))
 walk_at "u"; obtain ⟨v,eq0,h',eq1,eq2,g,k⟩:=hx;walk_at "v"
 subst eq0 eq1 eq2
 refine wpAny_bind (wpAny_isInstance (T := "list_reverseiterator") (b:=false) ⟨_,g,rfl⟩ uZ ?_)
 rw [if_pos (by decide)]
 exact wpAny_bind (wpAny_rule (wpAny_pure (h h' g k)))
theorem wX (a b:Value):argsOk "iter" ⟨[a,b],[]⟩:=by unfold argsOk;kernel_rfl
theorem wQ {f u:Value} {Q:Value→Shared→Prop} (hs:∀ (A:Around) (E:Value→Shared→Prop) (Q:Option Value→Shared→Prop),(∀ x,Q (some x) s)→wpAny (model prog w) A (specialOf f "__call__") Q E s)
  (h:∀ h',h'.get? s.heap.objs.size=some (wP f u (.bool false))→(∀ b o,s.heap.get? b=some o→h'.get? b=some o)→Q (.ref s.heap.objs.size) { s with heap:=h' }):
  wpAny (model prog w) A (call (.builtin "iter") [f,u]) Q E s:=by
 refine call_function_entry (by decide +kernel) (by decide +kernel) kdk_entry_iter (wX _ _) ?_
 unfold Builtin.«iter»
 refine wpAny_bind (m:=someArgs "iter" 1 2 _) (wpAny_of_eq (a:=[f,u]) (by first | rfl | kernel_rfl!) ?_)
 refine wpAny_bind (hs _ _ _ fun x=>?_)
 rw [if_neg (by simp)]
 refine wpAny_bind (wpAny_rule (wpAny_bind ?_))
 show wpAny _ _ (newObj (.type "callable_iterator") (.fields #[f,u,.bool false]) none) _ _ _
 refine wpAny_newObj_type ?_
 exact wpAny_pure ⟨_,rfl,h _ (Heap.get?_push_size _ rfl) fun b o e=>Heap.get?_push_of_some _ e⟩
end
end Internal
end
section
open PySem PySem.W PyProof.Rows PySem.Calls
namespace Internal
open Ia Ib
theorem lK:PySem.Slot "function" "__setattr__" "object.__setattr__" :=
 .of (owner := "object") (n := "__setattr__") (by rw [typeLookup_type,builtinLookup_eq_fast];kernel_rfl) (by decide +kernel) (by decide +kernel) (by decide +kernel)
  (by first | exact .inl (by decide +kernel) | exact .inr (by decide +kernel)) (by rw [isSubtype_type];kernel_rfl)
theorem ur:mroOf (.type "function")=pure [.type "function", .type "object"]:=by rw [mroOf_type];kernel_rfl
theorem m5:typeLookup (.type "function") "read" = pure none:=by rw [typeLookup_type,builtinLookup_eq_fast];kernel_rfl
theorem lO:typeLookup (.type "function") "__getattribute__" = pure (some (.builtin "object.__getattribute__")):=by rw [typeLookup_type,builtinLookup_eq_fast];kernel_rfl
theorem sm:typeLookup (.type "function") "__getattr__" = pure none:=by rw [typeLookup_type,builtinLookup_eq_fast];kernel_rfl
theorem yF (a:Addr):refuseLoop (.ref a) "__setattr__" [.type "function", .type "object"]=pure ():=by kernel_rfl
section
variable {prog:Program} {w:World} {A:Around} {E:Value→Shared→Prop} {s:Shared}
theorem wd {a:Addr} {fd:FuncData} {sl:Array (Option Value)} {v:Value} {Q:Unit→Shared→Prop} (ho:s.heap.get? a=some ⟨.type "function", none,.func fd,sl⟩)
  (h:∀ h' tk hs tk' n,h'.get? a=some ⟨.type "function", some s.heap.objs.size,.func fd,sl⟩→h'.get? s.heap.objs.size=some (dictOf [⟨hs,.str "read" tk',v⟩] n)→
   (∀ b o,b≠a→s.heap.get? b=some o→h'.get? b=some o)→Q () { s with heap:=h',toks:=tk }):wpAny (model prog w) A (setAttr (.ref a) "read" v) Q E s:=by
 have hT:s.TypeIs (.ref a) "function" := ⟨_,ho,rfl⟩
 unfold setAttr
 refine wpAny_bind (wpAny_mkText (wpAny_bind (wpAny_callSpecial?_slot (name:=Str.ofString "__setattr__") (s:={ s with toks:=s.toks + 1 }) hT lK (wpAny_call_entry lK (s:={ s with toks:=s.toks + 1 }) hT PySem.F.store_object.entry ?_ (PySem.F.store_object.args _ _ _)))))
 rw [osa_eq,refuse_eq]
 refine wpAny_bind (wpAny_bind (wpAny_typeOf (s:={ s with toks:=s.toks + 1 }) hT (wpAny_bind (wpAny_of_eq ur ?_))))
 rw [yF]
 refine wpAny_pure (wpAny_bind (wpAny_typeOf (s:={ s with toks:=s.toks + 1 }) hT (wpAny_bind (wpAny_of_eq m5 (wpAny_bind (wpAny_pure ?_))))))
 dsimp only
 refine wpAny_bind (m:=ownStreamTells _ _) (wpAny_of_eq (a:=()) (by kernel_rfl) ?_)
 refine ifn (by decide) ?_
 refine wpAny_bind ?_
 show wpAny _ _ (instanceDict a true) _ _ _
 unfold instanceDict
 refine wpAny_bind (wpAny_loadPart (s:={ s with toks:=s.toks + 1 }) ho ?_)
 dsimp only
 have hD:typeHasDict (.type "function")=true:=by kernel_rfl
 have hF:finalisedInACycleAlone "function" = false:=by kernel_rfl
 refine ifn (by rw [hD];decide) ?_
 refine wpAny_bind (wpAny_alloc (wpAny_bind (wpAny_update (o:=⟨.type "function", none,.func fd,sl⟩) (Heap.get?_push_of_some _ ho) ?_)))
 have g1:=Heap.get?_update_self (f:=fun o:Obj=>{ o with dict:=some s.heap.objs.size }) (h:=s.heap.push { cls:=.type "dict", data:=.dict #[] }) (Heap.get?_push_of_some _ ho) rfl
 have gd:((s.heap.push { cls:=.type "dict", data:=.dict #[] }).update a fun o:Obj=>{ o with dict:=some s.heap.objs.size }).get? s.heap.objs.size=some (dictOf [] 0):=
  ((Heap.SameBut.update _ a _).2 _ (fun q=>by rw [← q] at ho;exact absurd (Heap.lt_size ho) (cB _))).trans (Heap.get?_push_size _ rfl)
 have gk:∀ b o,b≠a→s.heap.get? b=some o→((s.heap.push { cls:=.type "dict", data:=.dict #[] }).update a fun o:Obj=>{ o with dict:=some s.heap.objs.size }).get? b=some o:=fun b o hne e=>
  ((Heap.SameBut.update _ a _).2 b hne).trans (Heap.get?_push_of_some _ e)
 have hne:s.heap.objs.size≠a:=fun q=>by rw [← q] at ho;exact absurd (Heap.lt_size ho) (cB _)
 revert g1 gd gk
 show _→_→_→wpAny _ _ _ _ _ { s with heap:=(s.heap.push { cls:=.type "dict", data:=.dict #[] }).update a fun o:Obj=>{ o with dict:=some s.heap.objs.size },toks:=s.toks + 1 }
 generalize (s.heap.push { cls:=.type "dict", data:=.dict #[] }).update a (fun o:Obj=>{ o with dict:=some s.heap.objs.size })=H1
 intro g1 gd gk
 show wpAny _ _ (dictMade (.type "function") a s.heap.objs.size) _ _ _
 generalize hdd:s.heap.objs.size=dd at *
 unfold dictMade
 dsimp only
 rw [hF]
 refine ifn (by decide) ?_
 refine wpAny_pure (wpAny_bind (m:=Builtin.ObjectAttr.newKeyGuard _ _ _) (wpAny_pure (wpAny_bind ?_)))
 unfold nsSet
 refine wpAny_bind (wpAny_bind (wpAny_askSetting (wpAny_pure (wpAny_bind (wpAny_mkText (wpAny_bind (wpAny_loadPart (s:={ s with heap:=H1,toks:=s.toks + 1 + 1 }) gd ?_)))))))
 dsimp only
 have c:aRefKeyMayBeTheName (Str.ofString "read") ([]:List DictEntry).toArray=false:=by rw [aRefKeyMayBeTheName_at];simp
 rw [c,if_neg (by decide)]
 let f:=Obj.putName "read" (PyData.keyHash w.params "read") (.str "read" (s.toks + 1)) v
 have D':(H1.update dd f).get? dd=some (dictOf (putL "read" (PyData.keyHash w.params "read") (.str "read" (s.toks + 1)) v []) (putN "read" [] 0)):=by
  rw [Heap.get?_update_self f gd (by show (Obj.putName _ _ _ _ _).isFreed=false;rw [putName_dict];rfl)]
  show some (Obj.putName _ _ _ _ _)=_
  rw [putName_dict]
 refine wpAny_updatePart gd ?_
 refine wpAny_bind (wpAny_lookBehind D' (pastItsLine_dict (by show (putL _ _ _ _ []).toArray.size≤_;simp [putL])) ?_)
 refine wpAny_pure ⟨_,rfl,wpAny_pure (h _ _ _ _ _ (((Heap.SameBut.update _ dd _).2 a (Ne.symm hne)).trans g1) D' fun b o hb e=>?_)⟩
 refine ((Heap.SameBut.update _ dd _).2 b (fun q=>?_)).trans (gk b o hb e)
 rw [q,← hdd] at e
 exact absurd (Heap.lt_size e) (cB _)
theorem A7 (a b:Value):argsOk "object.__getattribute__" ⟨[a,b],[]⟩:=by unfold argsOk;kernel_rfl
theorem lL:PySem.Slot "function" "__getattribute__" "object.__getattribute__" :=
 .of (owner := "object") (n := "__getattribute__") (by rw [typeLookup_type,builtinLookup_eq_fast];kernel_rfl) (by decide +kernel) (by decide +kernel) (by decide +kernel)
  (by first | exact .inl (by decide +kernel) | exact .inr (by decide +kernel)) (by rw [isSubtype_type];kernel_rfl)
theorem wx {a d:Addr} {fd:FuncData} {sl:Array (Option Value)} {v:Value} {es:List DictEntry} {n:Nat} {expr:Bool} {Q:Value→Shared→Prop} (ho:s.heap.get? a=some ⟨.type "function", some d,.func fd,sl⟩)
  (hd:s.heap.get? d=some (dictOf es n)) (hl:getL "read" es=some (some v)) (hv:handedIn v=true) (h:Q v { s with toks:=s.toks + 1 }):wpAny (model prog w) A (getAttr (.ref a) "read" expr) Q E s:=by
 have hT:({ s with toks:=s.toks + 1 }:Shared).TypeIs (.ref a) "function" := ⟨_,ho,rfl⟩
 unfold getAttr
 refine wpAny_bind (wpAny_mkText ?_)
 unfold getAttrBy
 refine wpAny_holding (wpAny_bind (wpAny_typeOf hT (wpAny_bind (wpAny_of_eq lO ?_))))
 dsimp only
 refine ifn (by decide) ?_
 unfold getAttrByItsOwn
 refine wpAny_bind (m:=hookBefore _) (wpAny_of_eq (a:=none) (by kernel_rfl) (wpAny_bind (wpAny_attempt (wpAny_holding ?_))))
 unfold callGetattribute
 refine ifn (by simp [onTheHeap]) ?_
 unfold boundAndCalled
 refine wpAny_bind (wpAny_of_eq (lL.bind _) (wpAny_call_entry lL hT F.entry_object_getattribute ?_ (A7 _ _)))
 refine wpAny_bind (m:=slotArgs _ _ _) (wpAny_of_eq (a:=(.ref a,[.str "read" s.toks])) (by rfl) ?_)
 refine wpAny_bind (m:=Builtin.ObjectAttr.attrName _) (wpAny_pure (wpAny_bind (wpAny_typeOf hT (wpAny_bind ?_))))
 unfold Builtin.ObjectAttr.find
 refine wpAny_bind (wpAny_of_eq m5 (wpAny_bind (m:=Builtin.ObjectAttr.getOf _) (wpAny_pure (wpAny_bind (m:=Builtin.ObjectAttr.dataDescriptor? _ _) (wpAny_pure ?_)))))
 dsimp only
 unfold Builtin.ObjectAttr.ownThenClass
 refine wpAny_bind ?_
 show wpAny _ _ (do Builtin.ObjectAttr.inDict "read" (← Builtin.ObjectAttr.ownDict a)) _ _ _
 refine wpAny_bind ?_
 unfold Builtin.ObjectAttr.ownDict
 refine wpAny_bind (wpAny_loadPart (s:={ s with toks:=s.toks + 1 }) ho ?_)
 dsimp only
 unfold instanceDict
 refine wpAny_bind (wpAny_loadPart (s:={ s with toks:=s.toks + 1 }) ho ?_)
 dsimp only
 refine wpAny_pure ?_
 have hX:Frag.In [(d,dictOf es n)] s.heap:=fun b o e=>by
  by_cases h:b=d
  ·subst h;simp at e;rw [← e];exact hd
  ·rw [aS,beq_false_of_ne h] at e;cases e
 show wpAny _ _ (nsGet d "read") _ _ _
 refine Looks.here (s:={ s with toks:=s.toks + 1 }) (looks_nsIn (K:=[(d,dictOf es n)]) hX (ns:=d) (name := "read") (r:=some v) (by unfold nsIn;rw [aS,beq_self_eq_true];exact hl)) ?_
 refine wpAny_bind (wpAny_rule (wpAny_pure ?_))
 refine wpAny_pure ⟨v,rfl,?_⟩
 rw [handedOut_of hv]
 exact wpAny_pure h
theorem uz {a d:Addr} {fd:FuncData} {sl:Array (Option Value)} {v:Value} {es:List DictEntry} {n:Nat} {pl:Sem Bool} {Q:Value×List Value→Shared→Prop} (ho:s.heap.get? a=some ⟨.type "function", some d,.func fd,sl⟩)
  (hd:s.heap.get? d=some (dictOf es n)) (hl:getL "read" es=some (some v)) (hv:handedIn v=true) (h:Q (v,[]) { s with toks:=s.toks + 1 }):wpAny (model prog w) A (getMethod (.ref a) "read" pl) Q E s:=by
 have hT:s.TypeIs (.ref a) "function" := ⟨_,ho,rfl⟩
 unfold getMethod
 refine wpAny_bind (wpAny_specialOf hT lO ?_)
 dsimp only
 refine ifn (by decide +kernel) ?_
 refine wpAny_bind (wpAny_specialOf hT sm ?_)
 refine ifn (by simp) ?_
 refine wpAny_bind (wpAny_specialOf hT m5 ?_)
 dsimp only
 refine wpAny_bind (wx ho hd hl hv ?_)
 exact wpAny_pure h
end
section
variable {K:Kx} {ρ:Fm} {σ:ij} {d:Nat} {Q:V→ij→Prop}
theorem u3 {o:Obj} {fd:FuncData} {d:Option Addr} (hc:o.cls=.type "function") (hd:o.dict=d) (hf:o.data=.func fd):o=⟨.type "function", d,.func fd,o.slots⟩:=by
 obtain ⟨c,d',dt,sl⟩:=o;cases hc;cases hd;cases hf;rfl
theorem A6 {o:Expr} {pos:Pos} {pv:V} {Q:Fm→ij→Prop}
  (h:EvP K ρ σ o (fun ov σ₁=>∃ x f cap,ov=.loc x∧σ₁ x=some (.func f cap none)∧∀ dx,σ₁ dx=none→dx≠x→Q ρ (upd (upd σ₁ dx (some (.ns [("read", pv)]))) x (some (.func f cap (some dx)))))):
  AsP K ρ σ (.Attribute o "read" pos) pv Q:=fun A env s v ha hr hi hv QM hq=>by
 rw [arm_assign_Attribute]
 refine wpAny_bind (wpAny_holding (h A env s ha hr hi _ fun ov po σ₁ s₁ h₁ i₁ e₁ r₁=>wpAny_bind (wpAny_standAt ?_)))
 refine bc fun hbc=>?_
 obtain ⟨x,f,cap,rfl,hx,q⟩:=h₁
 obtain ⟨_,rfl⟩:=Rel.inv r₁
 obtain ⟨ob,fd,ho,hc,hd,hdat,f1,f2,f3,f4,f5,f6,f7,f8,f9,f10,f11⟩:=(i₁.own x _ hx).2
 refine hbc ?_
 clear hbc
 rw [u3 hc hd hdat] at ho
 have hn:s₁.heap.get? s₁.heap.objs.size=none:=get?_ge (av _)
 have hne:s₁.heap.objs.size≠x:=fun z=>by rw [z,ho] at hn;cases hn
 refine wpAny_bind (wpAny_holding (wd ho fun h' tk hs tk' n g1 g2 gk=>?_))
 have hv₁:=hv.mono e₁.seq
 have no:σ₁ s₁.heap.objs.size=none:=i₁.off hn
 have E:Ext σ₁ s₁.heap (upd (upd σ₁ s₁.heap.objs.size (some (.ns [("read", pv)]))) x (some (.func f cap (some s₁.heap.objs.size)))) h':=
  ⟨fun b o e hb _=>gk b o (fun z=>by rw [z,hx] at hb;cases hb) e,fun b o e hb _=>by
   rw [ir _ _ (fun z=>by rw [z,hx] at hb;cases hb),ir _ _ (fun z=>by rw [z,hn] at e;cases e)];exact hb,fun c v hc=>⟨v,by
   rw [ir _ _ (fun z=>by rw [z,hx] at hc;cases hc),ir _ _ (fun z=>by rw [z,no] at hc;cases hc)];exact hc⟩⟩
 refine wpAny_release' (hq ρ _ { s₁ with heap:=h',toks:=tk } (q _ no hne) (hr.mono (e₁.trans E)) (i₁.step (s':={ s₁ with heap:=h',toks:=tk }) E (fun b p hb=>?_) (fun nn hnn o e=>gk _ o (fun z=>?_) e) rfl rfl) (e₁.trans E).toF)
 ·by_cases h1:b=x
  ·subst h1
   (rw [ik] at hb;cases hb)
   refine .inr ⟨(i₁.own _ _ hx).1,?_⟩
   exact ⟨_,fd,g1,rfl,rfl,rfl,f1,f2,f3,f4,f5,f6,f7,f8,f9,f10,f11.mono E⟩
  ·rw [ir _ _ h1] at hb
   by_cases h2:b=s₁.heap.objs.size
   ·subst h2
    (rw [ik] at hb;cases hb)
    exact .inr ⟨i₁.size,_,_,g2,.cons (hv₁.mono E.seq) .nil⟩
   ·rw [ir _ _ h2] at hb
    exact .inl ⟨hb,fun o e=>gk b o h1 e⟩
 ·exact absurd (i₁.tabLt nn hnn) (b7.mpr (z ▸ (i₁.own x _ hx).1))
theorem ev_methF {o:Expr} {apos pos:Pos} {args:List Expr}
  (h:EvP K ρ σ o (fun ov σ₁=>∃ x f cap dx at_ g,ov=.loc x∧σ₁ x=some (.func f cap (some dx))∧σ₁ dx=some (.ns at_)∧at_.lookup ("read" : Str)=some (V.loc g)∧
   EvsP K ρ args σ₁ (fun pl σ₂=>KeepOk σ₂ (.loc g)∧CallV K.d (.loc g) pl σ₂ Q))) {pl:Sem Bool}
  (he:autoParam (∀ env,eval (.Call (.Attribute o "read" apos) args [] pos) env=(do
   let ov ← eval o env
   standAt apos.atName
   let (f,first) ← holding [ov] (getMethod ov "read" pl)
   callWith pos f first (backTo pos (starEach args env)) (backToKw pos (keywordEach [] env)))) aI)
  (hse:autoParam (∀ env,backTo pos (starEach args env)=args.map fun e=>(false,eval e env)) aI):EvP K ρ σ (.Call (.Attribute o "read" apos) args [] pos) Q:=fun A env s ha hr hi QM hq=>by
 refine methodCall_KW (pl:=pl) (h A env s ha hr hi _ fun ov po σ₁ s₁ h₁ i₁ e₁ r₁=>?_) (he env)
 refine bc fun hbc=>?_
 obtain ⟨x,f,cap,dx,at_,g,rfl,hx,hd,hl,hE⟩:=h₁
 obtain ⟨_,rfl⟩:=Rel.inv r₁
 obtain ⟨ob,fd,ho,hc,hdi,hdat,_⟩:=(i₁.own x _ hx).2
 refine hbc ?_
 clear hbc
 rw [u3 hc hdi hdat] at ho
 walk_at "u"; obtain ⟨es,n,hdo,hes⟩:=(i₁.own dx _ hd).2;walk_at "v"
 have fd:=hes.find "read"
 rw [hl] at fd
 walk_at "u"; obtain ⟨v,hg,rv⟩:=fd;walk_at "v"
 obtain ⟨_,rfl⟩:=Rel.inv rv
 refine uz ho hdo hg rfl ?_
 exact lg (s:={ s₁ with toks:=s₁.toks + 1 }) (fv:=.loc g) (pre:=[]) (hse env) hE ha (hr.mono e₁) i₁.toks (.loc g) .nil fun v pv σ₂ s₂ q i₂ e₂ r₂=>hq v pv σ₂ s₂ q i₂ (e₁.trans e₂) r₂
end
end Internal
end
section
open PySem PySem.W PyProof.Rows PySem.Calls
namespace Internal
open Ia Ib
section
variable {prog:Program} {w:World} {A:Around} {E:Value→Shared→Prop} {s:Shared}
theorem CY {it:Addr} {v u:Value} {Q:Option Value→Shared→Prop} (hh:A.handled=none) (ho:s.heap.get? it=some (wP v u (.bool true)))
  (hQ:∀ h',(∀ b o,s.heap.get? b=some o→h'.get? b=some o)→Q none { s with heap:=h' }):wpAny (model prog w) A (pyNext (.ref it)) Q E s:=by
 have hT:s.TypeIs (.ref it) "callable_iterator" := ⟨_,ho,rfl⟩
 unfold pyNext
 refine wpAny_bind (wpAny_attempt (wpAny_callSpecial?_slot (name:=Str.ofString "__next__") hT jy (wpAny_call_entry jy hT l8 ?_ (mN _))))
 show wpAny _ _ (field (.ref it) 2 >>= _) _ _ s
 refine wpAny_bind (wpAny_field ho rfl (x:=.bool true) rfl ?_)
 refine ifp (by decide) ?_
 exact wpAny_bind (wpAny_rule (wpAny_bind (oa (s:=s) (h₁:=s.heap) (Q:=Q) (E:=E) hh hQ)))
theorem si:∃ x,typeLookup (.type "method") "__call__" = pure (some x):=⟨.builtin "method.__call__", by rw [typeLookup_type,builtinLookup_eq_fast];kernel_rfl⟩
end
noncomputable def vT:PObj→Prop
 | .riter _ _=>True
 | .citer _ _=>True
 | .cend=>True
 | _=>False
noncomputable def Gi (σ:ij) (h:Heap):Option Value→Option V→Prop
 | none,none=>True
 | some v,some pv=>Rel σ h v pv
 | _,_=>False
noncomputable def NxP (d:Nat) (a:Addr) (σ:ij) (Qn:Option V→ij→Prop):Prop:=
 ∀ (A:Around) (s:Shared),AOk d A→Inv σ s→∀ QM:Option Value→Shared→Prop,(∀ ov pov σ' s',Qn pov σ'→Inv σ' s'→Ext σ s.heap σ' s'.heap→Gi σ' s'.heap ov pov→QM ov s')→wpAny (model C.prog C.w) A (pyNext (.ref a)) QM Bot s
section
variable {K:Kx} {ρ:Fm} {σ:ij} {d:Nat} {Q:V→ij→Prop} {Qn:Option V→ij→Prop}
theorem vT.obj {s:Shared} (i:Inv σ s) {a:Addr} {p:PObj} (h:σ a=some p) (hp:vT p):∃ o vs,s.heap.get? a=some o∧(o.cls=.type "list_reverseiterator" ∨ o.cls=.type "callable_iterator")∧o.data=.fields vs:=by
 have:=(i.own a p h).2
 cases p<;>try exact hp.elim
 ·obtain ⟨v,u,e,_⟩:=this;exact ⟨_,_,e,.inr rfl,rfl⟩
 ·exact ⟨_,_,this,.inr rfl,rfl⟩
 ·obtain ⟨l,e,_⟩:=this;exact ⟨_,_,e,.inl rfl,rfl⟩
theorem BB {M:Model} {target:Expr} {it:Addr} {v:Value} {A:Around} {E:Value→Shared→Prop} {s:Shared} {Q:Unit→Shared→Prop} (i:Inv σ s) {p:PObj} (hp:σ it=some p) (hI:vT p) (h:Q () s):wpAny M A (letOwnedTupleGo target (.ref it) v) Q E s:=by
 walk_at "u"; obtain ⟨o,vs,e,c,d⟩:=vT.obj i hp hI;walk_at "v"
 have main:wpAny M A (do
  let (.ref r,.ref a):=((Value.ref it,v):Value×Value) | return
  let o ← load r
  match o.cls,o.data with
  | .type n,.fields vs=>
   if ["enumerate", "zip", "dict_itemiterator", "dict_reverseitemiterator", "odict_iterator", "itertools.zip_longest", "itertools.pairwise"].contains n && vs[0]? == some (rawInt a) then
    rule "for.unpacks-the-owned-tuple"
    updateField r 0 .none
  | _,_=>pure ()) Q E s:=by
  cases v<;>first | exact wpAny_pure h | skip
  refine wpAny_bind (wpAny_load e ?_)
  have n1:["enumerate", "zip", "dict_itemiterator", "dict_reverseitemiterator", "odict_iterator", "itertools.zip_longest", "itertools.pairwise"].contains "list_reverseiterator" = false:=by decide +kernel
  have n2:["enumerate", "zip", "dict_itemiterator", "dict_reverseitemiterator", "odict_iterator", "itertools.zip_longest", "itertools.pairwise"].contains "callable_iterator" = false:=by decide +kernel
  rcases c with c | c<;>rw [c,d]<;>(simp only [n1,n2,dm,bJ,if_false];exact wpAny_pure h)
 unfold letOwnedTupleGo
 cases target<;>first | exact wpAny_pure h | exact main
theorem Af {s:Shared} {A:Around} {a:Addr} {p:PObj} (i:Inv σ s) (h:σ a=some p) (hp:vT p) {QM:Value→Shared→Prop} (hq:QM (.ref a) s):wpAny (model C.prog C.w) A (pyIter (.ref a)) QM Bot s:=by
 walk_at "u"; obtain ⟨o,vs,e,c,d⟩:=vT.obj i h hp;walk_at "v"
 rcases c with c | c
 ·exact we e c hq
 ·exact wf e c hq
theorem D1 {a:Addr} {vs:List V} {i:Nat} (hs:σ a=some (.riter vs i)) (hi:i≤vs.length) (h0:i=0→Qn none σ) (h1:∀ j x,i=j + 1→vs[j]?=some x→Qn (some x) (upd σ a (some (.riter vs j)))):NxP d a σ Qn:=fun A s ha i₀ QM hq=>by
 walk_at "u"; obtain ⟨l,ho,hr⟩:=(i₀.own a _ hs).2;walk_at "v"
 cases i with
 | zero=>exact Bx ha.1 ho fun h' k=>hq none none σ _ (h0 rfl) (i₀.grow (s':={ s with heap:=h' }) k rfl rfl) (Ext.grow k) trivial
 | succ j=>
  refine bc fun hbc=>?_
  obtain ⟨items,n,hl,hrs⟩:=hr.lst_inv
  have hj:j < vs.length:=hi
  obtain ⟨v,hv,rv⟩:=hrs.get (ak hj)
  refine hbc ?_
  clear hbc
  have ho':s.heap.get? a=some (vb (.ref l) (j:Int)):=by rw [ho];congr 3;lia
  refine zx ho' hl (by rw [← Array.getElem?_toList];exact hv) fun h' g sb=>?_
  have hsq:iW σ s.heap (upd σ a (some (.riter vs j))) h':=⟨fun b o e _ hb _=>(sb.2 b (fun q=>by rw [q,hs] at hb;cases hb)).trans e,fun b o e _ hb _=>by
   rw [ir σ _ (fun q=>by rw [q,hs] at hb;cases hb)];exact hb⟩
  walk_at "u"; obtain ⟨i',e'⟩:=i₀.set (s':={ s with heap:=h' }) (p':=.riter vs j) hs sb.extBut (fun v e=>by cases e) ⟨l,g,hr.mono hsq⟩ rfl rfl
  walk_at "v"
  exact hq (some v) (some vs[j]) _ _ (h1 j _ rfl (ak hj)) i' e' (rv.mono e'.seq)
theorem Cg {a:Addr} (hs:σ a=some .cend) (h:Qn none σ):NxP d a σ Qn:=fun A s ha i₀ QM hq=>
 CY ha.1 (i₀.own a _ hs).2 fun h' k=>hq none none σ _ h (i₀.grow (s':={ s with heap:=h' }) k rfl rfl) (Ext.grow k) trivial
theorem AOk.in1 {A:Around} (h:AOk (d + 1) A):AOk d A.in1:=by
 walk_at "u"; obtain ⟨h1,h2,h3⟩:=h;walk_at "v"
 refine ⟨h1,?_,?_⟩
 ·show A.depth + d≤990;lia
 ·show A.units + 1 + 10 * d≤9800;lia
set_option tactic.hygienic true in
theorem D2 {a b fn:Addr} {u:List Nat} {self:V} {fo:Obj} {fd:FuncData} (hs:σ a=some (.citer (.loc b) (.str u))) (hb:σ b=some (.bound (.ref fn) self)) (hf:C.h1.get? fn=some fo) (ht:fn∉C.tabs) (hfd:fo.data=.func fd)
  (h:CallV d (.loc b) [] σ (fun v σ₁=>σ₁ a=some (.citer (.loc b) (.str u))∧σ₁ b=some (.bound (.ref fn) self)∧∃ x,v=.str x∧(u=x→Qn none (upd σ₁ a (some .cend)))∧(u≠x→Qn (some (.str x)) σ₁))):NxP (d + 1) a σ Qn:=fun A s ha i₀ QM hq=>by
 walk_at "u"; obtain ⟨v,uu,ho,rv,ru⟩:=(i₀.own a _ hs).2;walk_at "v"
 obtain rfl:=Rel.inv rv
 refine bc fun hbc=>?_
 obtain ⟨_,eq0⟩:=Rel.inv ru
 obtain ⟨v,hbo,rself⟩:=(i₀.own b _ hb).2
 refine hbc ?_
 clear hbc
 subst eq0
 refine AV ha.1 ho hbo (i₀.base fn fo hf ht) hfd ?_
 refine h A.in1 s (.ref b) [] ha.in1 i₀ (.loc b) .nil _ fun r pr σ₁ s₁ q i₁ e₁ r₁=>?_
 walk_at "u"; obtain ⟨hs₁,hb₁,x,rfl,q1,q2⟩:=q;walk_at "v"
 obtain ⟨_,rfl⟩:=Rel.inv r₁
 rename_i t
 walk_at "u"; obtain ⟨v1,uu1,ho1,rv1,ru1⟩:=(i₁.own a _ hs₁).2;walk_at "v"
 obtain rfl:=Rel.inv rv1
 refine bc fun hbc=>?_
 obtain ⟨_,eq0⟩:=Rel.inv ru1
 obtain ⟨v2,hbo2,rself2⟩:=(i₁.own b _ hb₁).2
 refine hbc ?_
 clear hbc
 subst eq0
 refine ⟨_,_,ho1,hbo2,i₁.base fn fo hf ht,⟨x.toArray⟩,t,rfl,?_⟩
 by_cases hux:u=x
 ·subst hux
  refine ifp rfl ?_
  intro h' g k
  walk_at "u"; obtain ⟨i',e'⟩:=i₁.set (s':={ s₁ with heap:=h' }) (p':=.cend) hs₁ k (fun v e=>by cases e) g rfl rfl
  walk_at "v"
  exact hq none none _ _ (q1 rfl) i' (e₁.trans e') trivial
 ·refine ifn (by intro z;apply hux;injection z with z;exact Array.toList_inj.mpr z) ?_
  exact hq (some _) (some _) _ _ (q2 hux) i₁ e₁ (.str x t)
set_option tactic.hygienic true in
theorem vO {vs:List V} (q:∀ a,σ a=none→Q (.loc a) (upd σ a (some (.riter vs vs.length)))):CallV d (.raw (.type "reversed")) [.lst vs] σ Q:=fun A s f l ha hi hf hr QM hq=>by
 walk_at "u"; obtain ⟨x,eq0,hx⟩:=kH hr;walk_at "v"
 subst eq0
 obtain ⟨_,rfl⟩:=Rel.inv hf
 cases hx with
 | lst ho hσ ht hrs=>
  rename_i b items n
  have hn:=get?_ge (av s.heap.objs.size)
  refine sJ ho fun h' g k=>?_
  have e:(items.toArray.size:Int)=vs.length:=by rw [← hrs.length];simp
  obtain ⟨i',e'⟩:=hi.new (s':={ s with heap:=h' }) (p:=.riter vs vs.length) hn hi.size k ⟨b,by rw [← e];exact g,(Rel.lst ho hσ ht hrs).mono ⟨fun b o e _ _ _=>k b o e,fun b o e _ hb _=>by
   rw [ir σ _ (fun z=>by rw [z,hn] at e;cases e)];exact hb⟩⟩ rfl rfl
  exact hq _ _ _ _ (q _ (hi.off hn)) i' e' (.loc _)
theorem A1 {b:Addr} {f:Value} {self:V} {u:List Nat} (hb:σ b=some (.bound f self)) (q:∀ a,σ a=none→Q (.loc a) (upd σ a (some (.citer (.loc b) (.str u))))):CallV d (.raw (.builtin "iter")) [.loc b,.str u] σ Q:=fun A s fv l ha hi hf hr QM hq=>by
 refine bc fun hbc=>?_
 obtain ⟨x,y,rfl,hx,hy⟩:=mH hr
 obtain ⟨_,rfl⟩:=Rel.inv hf;obtain ⟨_,rfl⟩:=Rel.inv hx;obtain ⟨_,rfl⟩:=Rel.inv hy
 obtain ⟨v,ho,_⟩:=(hi.own b _ hb).2
 refine hbc ?_
 clear hbc
 have hn:=get?_ge (av s.heap.objs.size)
 refine wQ (fun A E Q h=>?_) fun h' g k=>?_
 ·walk_at "u"; obtain ⟨m,hm⟩:=si;walk_at "v"
  exact wpAny_specialOf ⟨_,ho,rfl⟩ hm (h m)
 ·walk_at "u"; obtain ⟨i',e'⟩:=hi.new (s':={ s with heap:=h' }) (p:=.citer (.loc b) (.str u)) hn hi.size k ⟨_,_,g,.loc b,.str u _⟩ rfl rfl;walk_at "v"
  exact hq _ _ _ _ (q _ (hi.off hn)) i' e' (.loc _)
inductive Gk (K:Kx) (env:Env) (J:Nat→Fm→ij→Prop) (σ₁:ij) (h₁:Heap) (n:Nat) (s':Shared):Prop
 | mk (ρ₁:Fm) (σ₂:ij) (hJ:J n ρ₁ σ₂) (hr:Rep K env ρ₁ σ₂ s'.heap) (hi:Inv σ₂ s') (E:jz env σ₁ h₁ σ₂ s'.heap)
theorem nq {target iter:Expr} {b:List Stmt} {pos:Pos} {Q:Fl→Fm→ij→Prop}
  (h:EvP K ρ σ iter (fun v σ₁=>∃ a p,v=.loc a∧σ₁ a=some p∧vT p∧∃ (J:Nat→Fm→ij→Prop) (n:Nat),J n ρ σ₁∧∀ n ρ₁ σ₂,J n ρ₁ σ₂→
   NxP K.d a σ₂ (fun ox σ₃=>match ox with | none=>Q .next ρ₁ σ₃ | some x=>(∃ p,σ₃ a=some p∧vT p)∧AsP K ρ₁ σ₃ target x (fun ρ₂ σ₄=>ExP K ρ₂ σ₄ b (Da J n Q)))))
  (hs:autoParam (∀ env x,foldedSetIterable iter env x=pure x) aI):StP K ρ σ (.For target iter b [] pos) Q:=fun A env s ha hr hi QM hq=>by
 refine wpAny_For (h A env s ha hr hi _ fun v pv σ₁ s₁ h₁ i₁ e₁ r₁=>?_) (hs env)
 walk_at "u"; obtain ⟨a,p,rfl,hp,hI,J,n,hJ,turn⟩:=h₁;walk_at "v"
 obtain ⟨_,rfl⟩:=Rel.inv r₁
 refine Af i₁ hp hI ?_
 refine codeAny_forLoop_any (Gk K env J σ₁ s₁.heap) ?_ n ⟨ρ,σ₁,hJ,hr.mono e₁,i₁,.refl⟩
 intro n s' hJ2
 walk_at "u"; obtain ⟨ρ₁,σ₂,hJ,hr',hi',E'⟩:=hJ2;walk_at "v"
 refine wpAny_mono (turn n ρ₁ σ₂ hJ A s' ha hi' _ fun ov pov σ₃ s₂ q i₂ e₂ r₂=>?_) (fun _ _ h=>h) fun _ _ x=>x.elim
 cases pov with
 | none=>
  cases ov with
  | some v=>exact r₂.elim
  | none=>exact wpAny_execs_nil (hq .next .next ρ₁ σ₃ s₂ q trivial (hr'.mono e₂) i₂ (e₁.toF.trans (E'.trans e₂.toF)))
 | some x=>
  cases ov with
  | none=>exact r₂.elim
  | some v=>
   walk_at "u"; obtain ⟨⟨p',hp',hI'⟩,q⟩:=q;walk_at "v"
   refine BB i₂ hp' hI' ?_
   refine wpAny_mono (q A env s₂ v ha (hr'.mono e₂) i₂ r₂ _ fun ρ₂ σ₄ s₃ q hr₃ i₃ E₃=>?_) (fun _ _ h=>h) fun _ _ x=>x.elim
   refine wpAny_mono (q A env s₃ ha hr₃ i₃ _ fun f fl ρ₃ σ₅ s₄ q rf hr₄ i₄ E₄=>?_) (fun _ _ h=>h) fun _ _ x=>x.elim
   have EE:=(((E'.trans e₂.toF).trans E₃).trans E₄)
   cases fl with
   | next=>cases f<;>first | exact rf.elim | (obtain ⟨m,hm,hJ⟩:=q;exact ⟨m,hm,ρ₃,σ₅,hJ,hr₄,i₄,EE⟩)
   | cont=>cases f<;>first | exact rf.elim | (obtain ⟨m,hm,hJ⟩:=q;exact ⟨m,hm,ρ₃,σ₅,hJ,hr₄,i₄,EE⟩)
   | brk=>cases f<;>first | exact rf.elim | exact hq .next .next ρ₃ σ₅ s₄ q trivial hr₄ i₄ (e₁.toF.trans EE)
   | ret v=>cases f<;>first | exact rf.elim | exact hq _ (.ret v) ρ₃ σ₅ s₄ q rf hr₄ i₄ (e₁.toF.trans EE)
end
end Internal
end
section
open PySem PySem.W PyProof.Rows PySem.Calls
namespace Internal
section
variable {K:Kx} {ρ:Fm} {σ:ij} {d:Nat} {Q:V→ij→Prop}
theorem ev_globalI (O:C.Ok) {x:Str} {pos:Pos} {i:Int} {t:Tok} (hk:K.names.lookup x=some .globalImplicit) (hv:C.mg x=some (.int i t)) (h:Q (.int i) σ) (hd:autoParam ((x == ("__debug__" : Str))=false) aD):
  EvP K ρ σ (.Name x pos) Q:=fun A env s ha hr hi QM hq=>
 Name_function_global hr.kind ((congrArg (·.lookup x) hr.names).trans hk) (loadGlobal_global (hr.glob ▸ hi.ns O.g O.gt) hv (hq _ _ _ _ h hi .refl (.int i t))) hd
noncomputable def fnB (R:FnRec) (names:List Str):Bool:=
 (R.scope.kind == .function) && !R.scope.isCoroutine && !R.scope.isGenerator && decide names.Nodup && names.all (fun x=>R.scope.names.lookup x == some .local) && R.scope.names.all (fun x=>x.2 != .cell)
theorem fnB.use {R:FnRec} {names:List Str} (h:fnB R names=true):R.scope.kind=.function∧R.scope.isCoroutine=false∧R.scope.isGenerator=false∧names.Nodup∧(∀ x∈names,R.scope.names.lookup x=some .local)∧∀ x∈R.scope.names,x.2≠.cell:=by
 unfold fnB at h
 simp only [aV,beq_iff_eq,cR,decide_eq_true_eq,a9,bne_iff_ne] at h
 walk_at "u"; obtain ⟨⟨⟨⟨⟨h1,h2⟩,h3⟩,h4⟩,h5⟩,h6⟩:=h;walk_at "v"
 exact ⟨h1,h2,h3,h4,h5,h6⟩
theorem jX (O:C.Ok2) {f:Addr} {R:FnRec} {code:Value} {body:List Stmt} {names:List Str} {args:List V} {ρ:Fm} (hf:FnB f R code) (hbind:iH R names) (hck:fnB R names=true) (hb:R.body=.stmts body) (hρ:pslots names args=ρ) (hlen:args.length=names.length)
  (h:ExP (kE R code d) ρ σ body (oV Q)):CallV (d + 1) (.raw (.ref f)) args σ Q:=by
 walk_at "u"; obtain ⟨h1,h2,h3,h4,h5,h6⟩:=fnB.use hck;walk_at "v"
 subst hρ
 exact Fw O hf hb hbind h4 hlen h5 h6 h1 h2 h3 h
theorem vE (O:C.Ok2) {f:Addr} {R:FnRec} {code:Value} {body:List Stmt} {names:List Str} {args:List V} {ρ:Fm} (hf:FnB f R code) (hbind:iH R names) (hck:fnB R names=true) (hb:R.body=.stmts body) (hρ:pslots names args=ρ) (hlen:args.length=names.length)
  (h:ExP (kE R code d) ρ σ body (oV Q)):pe (d + 1) (.ref f) args σ Q:=by
 walk_at "u"; obtain ⟨h1,h2,h3,h4,h5,h6⟩:=fnB.use hck;walk_at "v"
 subst hρ
 exact CW O hf hb hbind h4 hlen h5 h6 h1 h2 h3 h
noncomputable def fnC (R:FnRec) (names emps:List Str):Bool:=
 (R.scope.kind == .function) && !R.scope.isCoroutine && !R.scope.isGenerator && decide names.Nodup && names.all (fun x=>R.scope.names.lookup x == some .local || R.scope.names.lookup x == some .cell) && emps.all (fun x=>!names.contains x && R.scope.names.lookup x == some .cell)
set_option tactic.hygienic true in
theorem j1:∀ {names:List (Str×NameKind)} {n:Nat} {acc:List (Str×Addr)} {x:Str},(names.lookup x=some .cell∨(acc.lookup x).isSome=true)→((cellsFrom n names acc).lookup x).isSome=true:=by
 intro names
 induction names with
 | nil=>intro n acc x h;exact h.elim (fun h=>nomatch h) id
 | cons p r ih=>
  intro n acc x h
  walk_at "u"; obtain ⟨y,k⟩:=p;walk_at "v"
  unfold cellsFrom
  by_cases hxy:x=y
  ·subst hxy
   split
   ·exact ih (.inr (by simp))
   ·rename_i hk
    rcases h with h | h
    ·rw [aS,beq_self_eq_true] at h;cases h;simp at hk
    ·exact ih (.inr h)
  ·have e:(x == y)=false:=by simpa using hxy
   have h':r.lookup x=some .cell∨(acc.lookup x).isSome=true:=by
    rcases h with h | h
    ·rw [aS,e] at h;exact .inl h
    ·exact .inr h
   split
   ·refine ih ?_
    rcases h' with h | h
    ·exact .inl h
    ·exact .inr (by rw [aS,e];exact h)
   ·exact ih h'
theorem kJ (O:C.Ok2) {f:Addr} {R:FnRec} {code:Value} {body:List Stmt} {names emps:List Str} {args:List V} {ρ:Fm} (hf:FnB f R code) (hbind:iH R names) (hck:fnC R names emps=true) (hb:R.body=.stmts body) (hρ:(pslots names args++emps.map fun x=>(x,.emp))=ρ) (hlen:args.length=names.length)
  (h:ExP (kE R code d) ρ σ body (oV Q)):CallV (d + 1) (.raw (.ref f)) args σ Q:=by
 unfold fnC at hck
 simp only [aV,beq_iff_eq,cR,decide_eq_true_eq,a9,de] at hck
 walk_at "u"; obtain ⟨⟨⟨⟨⟨h1,h2⟩,h3⟩,h4⟩,h5⟩,h6⟩:=hck;walk_at "v"
 subst hρ
 refine Ey O hf hb hbind h4 hlen (fun x hx=>?_) (fun x hx=>⟨?_,(h6 x hx).2,fun n=>j1 (.inl (h6 x hx).2)⟩) h1 h2 h3 h
 ·rcases h5 x hx with q | q
  ·exact .inl q
  ·exact .inr ⟨q,fun n=>j1 (.inl q)⟩
 ·have:=(h6 x hx).1
  intro q
  (rw [a8.mpr q] at this;cases this)
inductive Frz (σ σ':ij):V→V→Prop where
 | same (v:V) (h:∀ a,v≠.loc a):Frz σ σ' v v
 | lst {a:Addr} {vs:List V} (h:σ' a=some (.list vs)) (hn:σ a=none):Frz σ σ' (.loc a) (.lst vs)
theorem CallV.pure {fv:V} {args:List V} (h:CallV d fv args σ (fun v σ'=>(∀ a o,σ a=some o→σ' a=some o)∧∃ v',Frz σ σ' v v'∧Q v' σ)):CallV d fv args σ Q:=fun A s f vs ha hi hf hr QM hq=>
 h A s f vs ha hi hf hr QM fun v pv σ' s' q i' e' r'=>by
  walk_at "u"; obtain ⟨sub,v',fz,q⟩:=q;walk_at "v"
  have E2:Ext σ' s'.heap σ s'.heap→True:=fun _=>trivial
  have free:∀ a,σ' a=none→σ a=none:=fun a hn=>by
   cases hs:σ a with
   | none=>rfl
   | some o=>exact absurd ((sub a o hs).symm.trans hn) (al _)
  have sq:iW σ' s'.heap σ s'.heap:=⟨fun _ _ e _ _ _=>e,fun a o e _ hn _=>free a hn⟩
  have i'':Inv σ s':=by
   refine ⟨i'.base,i'.top,fun a o ho=>⟨(i'.own a o (sub a o ho)).1,jj.swap sq (fun cd q y=>?_) (i'.own a o (sub a o ho)).2⟩,i'.tabLt,fun n hn=>?_,i'.gens,i'.os⟩
   ·exact ⟨y.1,fun c e=>⟨free c (y.2 c e).1,(y.2 c e).2⟩⟩
   ·walk_at "u"; obtain ⟨ps,g,t,f⟩:=i'.tabs n hn;walk_at "v"
    exact ⟨ps,g,t,fun d hd cv hc=>have y:=f d hd cv hc;⟨y.1,fun c e=>⟨free c (y.2 c e).1,(y.2 c e).2⟩⟩⟩
  have E:Ext σ s.heap σ s'.heap:=⟨fun a o g hs ht=>e'.keep a o g hs ht,fun a o g hs ht=>hs,fun c v hc=>⟨v,hc⟩⟩
  refine hq v v' σ s' q i'' E ?_
  revert r'
  clear q
  cases fz with
  | same _ hne=>exact fun r'=>r'.mono sq
  | lst hl hn=>
   intro r'
   obtain rfl:=r'.inv
   refine bc fun hbc=>?_
   obtain ⟨items,n,ho,hrs⟩:=(i'.own _ _ hl).2
   obtain ⟨items⟩:=items
   refine hbc ?_
   clear hbc
   exact .lst ho hn (i'.notTab (i'.own _ _ hl).1) (hrs.mono sq)
theorem i3 {β:Type} {x:Str} {v:β}:∀ {l:List (Str×β)},l.lookup x=some v→(x,v)∈l
 | (y,w) :: r,h=>by
  rw [aS] at h
  by_cases hxy:x=y
  ·subst hxy;(rw [beq_self_eq_true] at h;cases h);exact ao
  ·rw [show (x == y)=false by simpa using hxy] at h;exact ai _ (i3 h)
theorem kL {β:Type} {x:Str} {v:β}:∀ {l:List (Str×β)},(l.map (·.1)).Nodup→(x,v)∈l→l.lookup x=some v
 | (y,w) :: r,hn,h=>by
  rw [aS]
  have hn':=cj.mp hn
  rcases am.mp h with e | hm
  ·cases e;rw [beq_self_eq_true]
  ·have:x≠y:=fun q=>by
    rw [q] at hm
    exact hn'.1 (aA.mpr ⟨(y,v),hm,rfl⟩)
   rw [show (x == y)=false by simpa using this];exact kL hn'.2 hm
theorem oE {β:Type} {x y:Str} {c:β}:∀ {l:List (Str×β)},(l.map (·.2)).Nodup→(x,c)∈l→(y,c)∈l→x=y
 | (z,w) :: r,hn,h1,h2=>by
  have hn':=cj.mp hn
  rcases am.mp h1 with e1 | m1<;>rcases am.mp h2 with e2 | m2
  ·cases e1;cases e2;rfl
  ·cases e1;exact absurd (aA.mpr ⟨(y,c),m2,rfl⟩) hn'.1
  ·cases e2;exact absurd (aA.mpr ⟨(x,c),m1,rfl⟩) hn'.1
  ·exact oE hn'.2 m1 m2
noncomputable def fnL (R:FnRec) (names caps:List Str):Bool:=
 fnB R names && decide caps.Nodup && caps.all (fun x=>R.scope.names.lookup x == some .free)
theorem pY (O:C.Ok2) {a:Addr} {R:FnRec} {cap:List (Str×Addr)} {dd:Option Addr} {body:List Stmt} {names:List Str} {args:List V} {ρ:Fm} (hf:σ a=some (.func R cap dd)) (hbind:iH R names) (hck:fnL R names (cap.map (·.1))=true) (hb:R.body=.stmts body)
  (hlen:args.length=names.length) (hcell:∀ p∈cap,∃ o,σ p.2=some (.cell o)) (hnd:(cap.map (·.2)).Nodup) (hρ:(pslots names args++cap.map fun p=>(p.1,.sh p.2))=ρ)
  (h:∀ code,ExP (kE R code d) ρ σ body (oV Q)):CallV (d + 1) (.loc a) args σ Q:=by
 unfold fnL at hck
 simp only [aV,decide_eq_true_eq,a9,beq_iff_eq] at hck
 refine bc fun hbc=>?_
 obtain ⟨⟨h0,h7⟩,h8⟩:=hck
 obtain ⟨h1,h2,h3,h4,h5,h6⟩:=fnB.use h0
 refine hbc ?_
 clear hbc
 subst hρ
 refine Ew O hf hb hbind h4 hlen h5 h6 (fun x c e=>hcell _ (i3 e)) (fun x y c e1 e2=>oE hnd (i3 e1) (i3 e2)) (fun p hp=>?_) h1 h2 h3 h
 walk_at "u"; obtain ⟨q,hq,eq0⟩:=aA.mp hp;walk_at "v"
 subst eq0
 exact ⟨q.2,rfl,kL h7 hq,h8 _ (c5 hq)⟩
theorem CV (O:C.Ok2) {a:Addr} {R:FnRec} {cap:List (Str×Addr)} {dd:Option Addr} {body:Expr} {names:List Str} {args:List V} {ρ:Fm} (hf:σ a=some (.func R cap dd)) (hbind:iH R names) (hck:fnL R names (cap.map (·.1))=true) (hb:R.body=.expr body)
  (hlen:args.length=names.length) (hcell:∀ p∈cap,∃ o,σ p.2=some (.cell o)) (hnd:(cap.map (·.2)).Nodup) (hρ:(pslots names args++cap.map fun p=>(p.1,.sh p.2))=ρ)
  (h:∀ code,EvP (kE R code d) ρ σ body Q):CallV (d + 1) (.loc a) args σ Q:=by
 unfold fnL at hck
 simp only [aV,decide_eq_true_eq,a9,beq_iff_eq] at hck
 refine bc fun hbc=>?_
 obtain ⟨⟨h0,h7⟩,h8⟩:=hck
 obtain ⟨h1,h2,h3,h4,h5,h6⟩:=fnB.use h0
 refine hbc ?_
 clear hbc
 subst hρ
 refine Ex O hf hb hbind h4 hlen h5 h6 (fun x c e=>hcell _ (i3 e)) (fun x y c e1 e2=>oE hnd (i3 e1) (i3 e2)) (fun p hp=>?_) h1 h2 h3 h
 walk_at "u"; obtain ⟨q,hq,eq0⟩:=aA.mp hp;walk_at "v"
 subst eq0
 exact ⟨q.2,rfl,kL h7 hq,h8 _ (c5 hq)⟩
theorem iC {o:PObj} {a b:Addr} (h:upd σ a (some o) b=none):b≠a∧σ b=none:=by
 by_cases e:b=a
 ·subst e;(rw [ik] at h;cases h)
 ·exact ⟨e,by rwa [ir σ _ e] at h⟩
noncomputable def Sub (σ σ':ij):Prop:=∀ a o,σ a=some o→σ' a=some o
theorem Sub.refl:Sub σ σ:=fun _ _ h=>h
theorem Sub.upd {σ':ij} {a:Addr} {o:Option PObj} (h:Sub σ σ') (hn:σ a=none):Sub σ (upd σ' a o):=fun b p hb=>by
 rw [ir _ _ (fun q=>by rw [q,hn] at hb;cases hb)];exact h b p hb
theorem il {o:Option PObj} {a b:Addr} {p:Option PObj} (h:b≠a) (e:σ b=p):upd σ a o b=p:=by rw [ir _ _ h];exact e
end
end Internal
end
section
open PySem PySem.W PyProof.Rows PySem.Calls
namespace Internal
theorem rU (a b:Nat):Builtin.bitAnd a b=((a &&& b:Nat):Int):=by
 unfold Builtin.bitAnd
 rw [decide_eq_true (aB a),decide_eq_true (aB b)]
 simp only [bw]
theorem tc (a b:Nat):Builtin.bitOr a b=((a ||| b:Nat):Int):=by
 unfold Builtin.bitOr Builtin.bitAnd
 have h (x:Nat):decide (0≤Builtin.bitNot x)=false:=by unfold Builtin.bitNot;simp;lia
 have h2 (x:Nat):Builtin.bitNot (Builtin.bitNot x)=x:=by unfold Builtin.bitNot;walk_at "l"
 rw [h,h]
 simp only [h2,bw]
theorem sg:∀ (a b:Nat),a &&& b=0→a ||| b=a + b:=by
 intro a
 induction a using fj with
 | _ a ih=>
  intro b h
  by_cases ha:a=0
  ·subst ha;simp
  ·have h2:(a / 2) &&& (b / 2)=0:=by rw [← Nat.and_div_two,h]
   have i:=ih (a / 2) (by lia) (b / 2) h2
   have d:(a ||| b) / 2=a / 2 + b / 2:=by rw [Nat.or_div_two,i]
   have q0:¬ (a % 2=1∧b % 2=1):=fun hh=>by
    have:=Nat.and_mod_two_eq_one.2 hh
    rw [h] at this;cases this
   have q1:(a ||| b) % 2=1↔a % 2=1∨b % 2=1:=Nat.or_mod_two_eq_one
   have m:(a ||| b) % 2=a % 2 + b % 2:=by
    rcases cW a with b1 | b1<;>rcases cW b with b2 | b2
    ·rw [b1,b2]
     rcases cW (a ||| b) with b3 | b3
     ·exact b3
     ·rcases q1.1 b3 with e | e
      ·exact absurd (b1.symm.trans e) (by decide)
      ·exact absurd (b2.symm.trans e) (by decide)
    ·rw [q1.2 (.inr b2),b1,b2]
    ·rw [q1.2 (.inl b1),b1,b2]
    ·exact absurd ⟨b1,b2⟩ q0
   rw [← cD (a ||| b) 2,d,m,bV,Nat.add_add_add_comm,cD,cD]
theorem nz (a b:Nat):a ||| b=(a ^^^ b) + (a &&& b):=by
 have h1:(a ^^^ b) &&& (a &&& b)=0:=by
  apply eC;intro i
  simp only [gM,fi,Nat.zero_testBit]
  cases a.testBit i<;>cases b.testBit i<;>rfl
 have h2:a ||| b=(a ^^^ b) ||| (a &&& b):=by
  apply eC;intro i
  simp only [gM,fi,Nat.testBit_or]
  cases a.testBit i<;>cases b.testBit i<;>rfl
 rw [h2];exact sg _ _ h1
theorem wT (a b:Nat):Builtin.bitXor a b=((a ^^^ b:Nat):Int):=by
 unfold Builtin.bitXor
 rw [tc,rU,nz];simp
theorem w8 (a n:Nat):(a:Int).fdiv (2 ^ ((n:Int).toNat))=((a / 2 ^ n:Nat):Int):=by
 rw [bw,cX _ (by exact_mod_cast ba (2^n))]
 simp
theorem w9 (a n:Nat):(a:Int) * (2 ^ ((n:Int).toNat))=((a * 2 ^ n:Nat):Int):=by
 rw [bw];simp
noncomputable def iD (a:Nat):Nat:=if a=0 then 0 else a.log2 + 1
theorem jo (a:Nat):Builtin.Int.intBits a=iD a:=by
 unfold Builtin.Int.intBits iD;simp
set_option tactic.hygienic true in
theorem iP {a k:Nat} (h:a < 2 ^ k):iD a≤k:=by
 unfold iD
 split
 ·exact ba _
 ·rename_i h0
  exact (fX h0).mpr h
set_option tactic.hygienic true in
theorem nF (a:Nat):a < 2 ^ iD a:=by
 unfold iD
 split
 ·rename_i h;subst h;decide
 ·exact Nat.lt_log2_self
theorem Bd (x s:Nat):x ^^^ (x / 2 ^ s * 2 ^ s)=x % 2 ^ s:=by
 apply eC;intro i
 rw [fi,Nat.testBit_mod_two_pow,← Nat.shiftLeft_eq,Nat.testBit_shiftLeft,← Nat.shiftRight_eq_div_pow,Nat.testBit_shiftRight]
 by_cases h:i < s
 ·simp [h,eO.mpr h]
 ·have e:s + (i - s)=i:=by lia
  have g:s≤i:=by lia
  simp [h,g,e]
noncomputable def d2i (n:Nat):List Nat→Nat
 | []=>0
 | d :: r=>d + 2 ^ n * d2i n r
noncomputable def i2d (n:Nat):Nat→Nat→List Nat
 | 0,_=>[]
 | k + 1,x=>x % 2 ^ n :: i2d n k (x / 2 ^ n)
theorem jG (n:Nat):∀ k x,(i2d n k x).length=k:=by
 intro lr
 induction lr with
 | zero=>
  intro _
  exact rfl
 | succ k ihr=>
  intro x
  simp [i2d,ihr]
theorem rD (n:Nat):∀ xs ys,d2i n (xs++ys)=d2i n xs + 2 ^ (n * xs.length) * d2i n ys:=by
 intro lr
 induction lr with
 | nil=>
  intro ys
  simp [d2i]
 | cons x xs ihr=>
  intro ys
  simp only [ar,d2i,ihr ys,ax]
  rw [bV,← eI,← bC,bN,bV n,bU,aQ n]
theorem Cy (n:Nat):∀ a b x,i2d n (a + b) x=i2d n a x++i2d n b (x / 2 ^ (n * a)):=by
 intro lr
 induction lr with
 | zero=>
  intro b x
  simp [i2d]
 | succ a ihr=>
  intro b x
  rw [bS]
  simp only [i2d,ar]
  rw [ihr b,du,← bC,bV,bU,aQ n]
theorem Cw (n:Nat):∀ a x,i2d n a (x % 2 ^ (n * a))=i2d n a x:=by
 intro lr
 induction lr with
 | zero=>
  intro x
  exact rfl
 | succ a ihr=>
  intro x
  simp only [i2d]
  have e:2 ^ (n * (a + 1))=2 ^ n * 2 ^ (n * a):=by rw [bV,bU,aQ,bC]
  rw [e,Nat.mod_mul_right_mod,← ihr (x / 2 ^ n),Nat.mod_mul_right_div_self]
theorem CS (n:Nat):∀ k x,d2i n (i2d n k x)=x % 2 ^ (n * k):=by
 intro lr
 induction lr with
 | zero=>
  intro x
  simp [d2i,i2d,Nat.mod_one]
 | succ k ihr=>
  intro x
  simp only [i2d,d2i,ihr]
  have e:2 ^ (n * (k + 1))=2 ^ n * 2 ^ (n * k):=by rw [bV,bU,aQ,bC]
  rw [e,Nat.mod_mul]
theorem Eh (n:Nat):∀ k x,∀ d∈i2d n k x,d < 2 ^ n:=by
 intro lr
 induction lr with
 | zero=>
  intro _ _ h
  cases h
 | succ k ihr=>
  intro x d h
  rcases am.mp h with rfl | h
  ·exact bg _ (aJ n)
  ·exact ihr _ d h
theorem rC (n:Nat):∀ xs:List Nat,(∀ x∈xs,x < 2 ^ n)→d2i n xs < 2 ^ (n * xs.length):=by
 intro lr
 induction lr with
 | nil=>
  intro _
  simp [d2i]
 | cons x xs ihr=>
  intro h
  have h1:=h x ao
  have h2:=ihr fun y hy=>h y (ai _ hy)
  simp only [d2i,ax]
  have e:2 ^ (n * (xs.length + 1))=2 ^ n * 2 ^ (n * xs.length):=by rw [bV,bU,aQ,bC]
  rw [e]
  calc x + 2 ^ n * d2i n xs < 2 ^ n + 2 ^ n * d2i n xs:=by lia
   _=2 ^ n * (d2i n xs + 1):=by rw [bV,bU,aQ]
   _≤2 ^ n * 2 ^ (n * xs.length):=aO _ h2
end Internal
end
section
open PySem PySem.W PyProof.Rows PySem.Calls
namespace Internal
section
variable {K:Kx} {ρ:Fm} {σ:ij} {d:Nat} {Q:V→ij→Prop}
theorem bn_add (a b:Nat) (q:Q (.int ((a + b:Nat):Int)) σ):M2 d (binaryOp .Add) (.int (a:Int)) (.int (b:Int)) σ Q:=bin_ (.add _ _) (by simpa using q)
theorem bn_addL (a k:Nat) (q:Q (.int ((a + (OfNat.ofNat k):Nat):Int)) σ):M2 d (binaryOp .Add) (.int (a:Int)) (.int (OfNat.ofNat k)) σ Q:=bn_add a k q
theorem bn_addR (k b:Nat) (q:Q (.int (((OfNat.ofNat k) + b:Nat):Int)) σ):M2 d (binaryOp .Add) (.int (OfNat.ofNat k)) (.int (b:Int)) σ Q:=bn_add k b q
theorem bn_sub (a b:Nat) (h:b≤a) (q:Q (.int ((a - b:Nat):Int)) σ):M2 d (binaryOp .Sub) (.int (a:Int)) (.int (b:Int)) σ Q:=bin_ (.sub _ _) (by rw [← eK h];exact q)
theorem bn_subL (a k:Nat) (h:(OfNat.ofNat k)≤a) (q:Q (.int ((a - (OfNat.ofNat k):Nat):Int)) σ):M2 d (binaryOp .Sub) (.int (a:Int)) (.int (OfNat.ofNat k)) σ Q:=bn_sub a k h q
theorem bn_mul (a b:Nat) (h:IntMulOk a b) (q:Q (.int ((a * b:Nat):Int)) σ):M2 d (binaryOp .Mult) (.int (a:Int)) (.int (b:Int)) σ Q:=bin_ (.mul _ _ h) (by simpa using q)
theorem Av (a b:Nat):(a:Int).fdiv b=((a / b:Nat):Int):=by rw [cX _ (aB b)];rfl
theorem Aq (a b:Nat):(a:Int).fmod b=((a % b:Nat):Int):=by rw [dP _ (aB b)];rfl
theorem bn_fdiv (a b:Nat) (h:b≠0) (hp:b.log2 < 9000) (q:Q (.int ((a / b:Nat):Int)) σ):M2 d (binaryOp .FloorDiv) (.int (a:Int)) (.int (b:Int)) σ Q:=bin_ (.fdiv _ _ (by lia) (by simpa using hp)) (by rw [Av];exact q)
theorem bn_fdivL (a k:Nat) (h:(OfNat.ofNat k)≠0) (hp:(OfNat.ofNat k).log2 < 9000) (q:Q (.int ((a / (OfNat.ofNat k):Nat):Int)) σ):M2 d (binaryOp .FloorDiv) (.int (a:Int)) (.int (OfNat.ofNat k)) σ Q:=bn_fdiv a k h hp q
theorem bn_mod (a b:Nat) (h:b≠0) (hp:b.log2 < 9000) (q:Q (.int ((a % b:Nat):Int)) σ):M2 d (binaryOp .Mod) (.int (a:Int)) (.int (b:Int)) σ Q:=bin_ (.mod _ _ (by lia) (by simpa using hp)) (by rw [Aq];exact q)
theorem bn_modL (a k:Nat) (h:(OfNat.ofNat k)≠0) (hp:(OfNat.ofNat k).log2 < 9000) (q:Q (.int ((a % (OfNat.ofNat k):Nat):Int)) σ):M2 d (binaryOp .Mod) (.int (a:Int)) (.int (OfNat.ofNat k)) σ Q:=bn_mod a k h hp q
theorem bn_and (a b:Nat) (q:Q (.int ((a &&& b:Nat):Int)) σ):M2 d (binaryOp .BitAnd) (.int (a:Int)) (.int (b:Int)) σ Q:=bin_ (.and _ _) (by rw [rU];exact q)
theorem bn_and1 (a:Nat) (q:Q (.int ((a % 2:Nat):Int)) σ):M2 d (binaryOp .BitAnd) (.int (a:Int)) (.int 1) σ Q:=bn_and a 1 (by rw [Nat.and_one_is_mod];exact q)
theorem bn_xor (a b:Nat) (q:Q (.int ((a ^^^ b:Nat):Int)) σ):M2 d (binaryOp .BitXor) (.int (a:Int)) (.int (b:Int)) σ Q:=bin_ (.xor _ _) (by rw [wT];exact q)
theorem bn_xorL (a k:Nat) (q:Q (.int ((a ^^^ (OfNat.ofNat k):Nat):Int)) σ):M2 d (binaryOp .BitXor) (.int (a:Int)) (.int (OfNat.ofNat k)) σ Q:=bn_xor a k q
theorem bn_or (a b:Nat) (q:Q (.int ((a ||| b:Nat):Int)) σ):M2 d (binaryOp .BitOr) (.int (a:Int)) (.int (b:Int)) σ Q:=bin_ (.or _ _) (by rw [tc];exact q)
theorem bn_shl (a n:Nat) (h:iD a + n≤2 ^ 27) (q:Q (.int ((a * 2 ^ n:Nat):Int)) σ):M2 d (binaryOp .LShift) (.int (a:Int)) (.int (n:Int)) σ Q:=
 bin_ (.shl _ _ (aB n) (by rw [jo];lia)) (by rw [w9];exact q)
theorem bn_shlR (k n:Nat) (h:iD (OfNat.ofNat k) + n≤2 ^ 27) (q:Q (.int (((OfNat.ofNat k) * 2 ^ n:Nat):Int)) σ):M2 d (binaryOp .LShift) (.int (OfNat.ofNat k)) (.int (n:Int)) σ Q:=bn_shl k n h q
theorem bn_shr (a n:Nat) (q:Q (.int ((a / 2 ^ n:Nat):Int)) σ):M2 d (binaryOp .RShift) (.int (a:Int)) (.int (n:Int)) σ Q:=bin_ (.shr _ _ (aB n)) (by rw [w8];exact q)
theorem bn_shr1 (a:Nat) (q:Q (.int ((a / 2:Nat):Int)) σ):M2 d (binaryOp .RShift) (.int (a:Int)) (.int 1) σ Q:=bn_shr a 1 (by simpa using q)
theorem bn_pow (a n:Nat) (h:iD a * n≤2 ^ 27) (q:Q (.int ((a ^ n:Nat):Int)) σ):M2 d (binaryOp .Pow) (.int (a:Int)) (.int (n:Int)) σ Q:=
 bin_ (.pow _ _ (aB n) (by rw [jo];exact_mod_cast h)) (by rw [bw];simpa using q)
theorem bn_powR (k n:Nat) (h:iD (OfNat.ofNat k) * n≤2 ^ 27) (q:Q (.int (((OfNat.ofNat k) ^ n:Nat):Int)) σ):M2 d (binaryOp .Pow) (.int (OfNat.ofNat k)) (.int (n:Int)) σ Q:=bn_pow k n h q
theorem in_add (a b:Nat) (q:Q (.int ((a + b:Nat):Int)) σ):M2 d (inplaceOp .Add) (.int (a:Int)) (.int (b:Int)) σ Q:=ibin_ (.add _ _) (by simpa using q)
theorem in_addL (a k:Nat) (q:Q (.int ((a + (OfNat.ofNat k):Nat):Int)) σ):M2 d (inplaceOp .Add) (.int (a:Int)) (.int (OfNat.ofNat k)) σ Q:=in_add a k q
theorem Ee (a n:Nat) (h:iD a + n≤2 ^ 27) (q:Q (.int ((a * 2 ^ n:Nat):Int)) σ):M2 d (inplaceOp .LShift) (.int (a:Int)) (.int (n:Int)) σ Q:=
 ibin_ (.shl _ _ (aB n) (by rw [jo];lia)) (by rw [w9];exact q)
theorem Ed (a n:Nat) (q:Q (.int ((a / 2 ^ n:Nat):Int)) σ):M2 d (inplaceOp .RShift) (.int (a:Int)) (.int (n:Int)) σ Q:=ibin_ (.shr _ _ (aB n)) (by rw [w8];exact q)
theorem in_shr1 (a:Nat) (q:Q (.int ((a / 2:Nat):Int)) σ):M2 d (inplaceOp .RShift) (.int (a:Int)) (.int 1) σ Q:=Ed a 1 (by simpa using q)
theorem in_shl1 (a:Nat) (h:iD a + 1≤2 ^ 27) (q:Q (.int ((a * 2:Nat):Int)) σ):M2 d (inplaceOp .LShift) (.int (a:Int)) (.int 1) σ Q:=Ee a 1 h (by simpa using q)
theorem Dp (a b:Nat):(((a:Int) == (b:Int)):Bool)=(a == b):=by
 by_cases h:a=b
 ·subst h;simp
 ·rw [beq_false_of_ne h,beq_false_of_ne (by lia)]
theorem E9 (a b:Nat):(((a:Int) != (b:Int)):Bool)=(a != b):=by unfold bne;rw [Dp]
theorem cn_eq (a b:Nat) (q:Q (.bool (a == b)) σ):M2 d (compareOp .Eq) (.int (a:Int)) (.int (b:Int)) σ Q:=cmp_ (.eq _ _) (by rw [Dp];exact q)
theorem cn_eqL (a k:Nat) (q:Q (.bool (a == (OfNat.ofNat k))) σ):M2 d (compareOp .Eq) (.int (a:Int)) (.int (OfNat.ofNat k)) σ Q:=cn_eq a k q
theorem cn_lt (a b:Nat) (q:Q (.bool (decide (a < b))) σ):M2 d (compareOp .Lt) (.int (a:Int)) (.int (b:Int)) σ Q:=cmp_ (.lt _ _) (by simpa using q)
theorem cn_ltL (a k:Nat) (q:Q (.bool (decide (a < (OfNat.ofNat k)))) σ):M2 d (compareOp .Lt) (.int (a:Int)) (.int (OfNat.ofNat k)) σ Q:=cn_lt a k q
theorem cn_le (a b:Nat) (q:Q (.bool (decide (a≤b))) σ):M2 d (compareOp .LtE) (.int (a:Int)) (.int (b:Int)) σ Q:=cmp_ (.le _ _) (by simpa using q)
theorem cn_leL (a k:Nat) (q:Q (.bool (decide (a≤(OfNat.ofNat k)))) σ):M2 d (compareOp .LtE) (.int (a:Int)) (.int (OfNat.ofNat k)) σ Q:=cn_le a k q
theorem cn_gt (a b:Nat) (q:Q (.bool (decide (b < a))) σ):M2 d (compareOp .Gt) (.int (a:Int)) (.int (b:Int)) σ Q:=cmp_ (.gt _ _) (by simpa using q)
theorem cn_gtL (a k:Nat) (q:Q (.bool (decide ((OfNat.ofNat k) < a))) σ):M2 d (compareOp .Gt) (.int (a:Int)) (.int (OfNat.ofNat k)) σ Q:=cn_gt a k q
theorem jn {a b:Nat} (h:a < 2 ^ 64∨b < 2 ^ 64):IntMulOk (a:Int) (b:Int):=by
 rcases h with h | h
 ·exact .of_left (intBits_le_64 (by have:(0:Int)≤a:=aB a;have:(0:Int) < 2 ^ 64:=(by decide);lia) (by exact_mod_cast h))
 ·exact .of_right (intBits_le_64 (by have:(0:Int)≤b:=aB b;have:(0:Int) < 2 ^ 64:=(by decide);lia) (by exact_mod_cast h))
theorem bn_divmod {a b:Nat} (hb:b≠0) (hp:Builtin.divisionGoesByPylong (a:Int) (b:Int)=false) (q:Q (.tup [.int ((a / b:Nat):Int),.int ((a % b:Nat):Int)]) σ):CallV d (.raw (.builtin "divmod")) [.int (a:Int),.int (b:Int)] σ Q:=
 bi_divmod (by lia) hp (by rw [Av,Aq];exact q)
theorem bn_bitlen {a:Nat} (q:Q (.int (iD a:Nat)) σ):CallV d (.raw (.builtin "int.bit_length")) [.int (a:Int)] σ Q:=bi_bitlen (by rw [jo];exact q)
theorem iV {pv:V} {vs:List V} {i:Nat} {x:V} (h:LV σ pv vs) (hx:vs[i]?=some x) (hl:vs.length < 2 ^ 25) (q:Q x σ):M2 d getItem pv (.int (i:Int)) σ Q:=lx h (aB i) (by rw [bw];exact hx) hl q
theorem Ej {vs:List V} {i:Nat} {x:V} (hx:vs[i]?=some x) (hl:vs.length < 2 ^ 25) (q:Q x σ):M2 d getItem (.tup vs) (.int (i:Int)) σ Q:=jT (aB i) (by rw [bw];exact hx) hl q
theorem m0 {x:List Nat} {i c:Nat} (hx:x[i]?=some c) (hl:x.length < 2 ^ 25) (q:Q (.str [c]) σ):M2 d getItem (.str x) (.int (i:Int)) σ Q:=wv (aB i) (by rw [bw];exact hx) hl q
theorem tn_int {a:Nat} {Q:Bool→ij→Prop} (q:Q (a != 0) σ):M1B d (.int (a:Int)) σ Q:=tb_int (by
 have:=E9 a 0
 rw [show ((0:Nat):Int)=0 from rfl] at this
 rw [this];exact q)
theorem len_1 {v0:V} {B:Prop} (h:B):([v0]:List V).length≤2 ^ 24∧B:=⟨by simp,h⟩
theorem len_2 {v0 v1:V} {B:Prop} (h:B):([v0,v1]:List V).length≤2 ^ 24∧B:=⟨by simp,h⟩
theorem len_3 {v0 v1 v2:V} {B:Prop} (h:B):([v0,v1,v2]:List V).length≤2 ^ 24∧B:=⟨by simp,h⟩
theorem len_4 {v0 v1 v2 v3:V} {B:Prop} (h:B):([v0,v1,v2,v3]:List V).length≤2 ^ 24∧B:=⟨by simp,h⟩
theorem len_5 {v0 v1 v2 v3 v4:V} {B:Prop} (h:B):([v0,v1,v2,v3,v4]:List V).length≤2 ^ 24∧B:=⟨by simp,h⟩
theorem len_8 {v0 v1 v2 v3 v4 v5 v6 v7:V} {B:Prop} (h:B):([v0,v1,v2,v3,v4,v5,v6,v7]:List V).length≤2 ^ 24∧B:=⟨by simp,h⟩
noncomputable def Has (ρ l:Fm):Prop:=∀ p∈l,p∈ρ
theorem Has.nil:Has ρ []:=fun p h=>by cases h
theorem Has.cons {p:Str×Slot} {l:Fm} (h:p∈ρ) (t:Has ρ l):Has ρ (p :: l):=fun q hq=>by
 rcases am.mp hq with rfl | hq
 ·exact h
 ·exact t q hq
theorem AsP.sub {ρ':Fm} {t:Expr} {v:V} {Q:Fm→ij→Prop} (h:AsP K ρ' σ t v Q) (hs:Has ρ ρ'):AsP K ρ σ t v Q:=fun A env s x ha hr hi hv QM hq=>h A env s x ha (hr.sub hs) hi hv QM hq
theorem TsP.sub {ρ':Fm} {e:Expr} {Q:Bool→ij→Prop} (h:TsP K ρ' σ e Q) (hs:Has ρ ρ'):TsP K ρ σ e Q:=fun A env s ha hr hi QM hq=>h A env s ha (hr.sub hs) hi QM hq
theorem ExP.has {ρ':Fm} {ss:List Stmt} {Q:Fl→Fm→ij→Prop} (h:ExP K ρ' σ ss Q) (hs:Has ρ ρ'):ExP K ρ σ ss Q:=h.sub hs
theorem iY {J:Nat→Fm→ij→Prop} {n m:Nat} {Q:Fl→Fm→ij→Prop} (hm:m < n) (h:J m ρ σ):Da J n Q .next ρ σ:=⟨m,hm,h⟩
theorem yx {J:Nat→Fm→ij→Prop} {n m:Nat} {Q:Fl→Fm→ij→Prop} (hm:m < n) (h:J m ρ σ):Da J n Q .cont ρ σ:=⟨m,hm,h⟩
theorem wo {b k:Nat} (h0:b≠0) (h:b < 2 ^ k):b.log2 < k:=(fX h0).mpr h
theorem ev_lit_e {k:Nat} {pos:Pos} (h:Q (.str []) σ):EvP K ρ σ (.Constant (.str "") k pos) Q:=by
 refine ev_str ?_
 rw [show (Str.ofString "").cps.toList=[] by decide +kernel];exact h
theorem ev_lit_bs {k:Nat} {pos:Pos} (h:Q (.str [92]) σ):EvP K ρ σ (.Constant (.str "\\") k pos) Q:=by
 refine ev_str ?_
 rw [show (Str.ofString "\\").cps.toList=[92] by decide +kernel];exact h
theorem ev_lit_dq {k:Nat} {pos:Pos} (h:Q (.str [34]) σ):EvP K ρ σ (.Constant (.str "\"") k pos) Q:=by
 refine ev_str ?_
 rw [show (Str.ofString "\"").cps.toList=[34] by decide +kernel];exact h
theorem ev_lit_nl {k:Nat} {pos:Pos} (h:Q (.str [10]) σ):EvP K ρ σ (.Constant (.str "\n") k pos) Q:=by
 refine ev_str ?_
 rw [show (Str.ofString "\n").cps.toList=[10] by decide +kernel];exact h
theorem ev_lit_sp {k:Nat} {pos:Pos} (h:Q (.str [32]) σ):EvP K ρ σ (.Constant (.str " ") k pos) Q:=by
 refine ev_str ?_
 rw [show (Str.ofString " ").cps.toList=[32] by decide +kernel];exact h
theorem ev_lit_h {k:Nat} {pos:Pos} (h:Q (.str [104]) σ):EvP K ρ σ (.Constant (.str "h") k pos) Q:=by
 refine ev_str ?_
 rw [show (Str.ofString "h").cps.toList=[104] by decide +kernel];exact h
theorem ev_lit_p {k:Nat} {pos:Pos} (h:Q (.str [112]) σ):EvP K ρ σ (.Constant (.str "p") k pos) Q:=by
 refine ev_str ?_
 rw [show (Str.ofString "p").cps.toList=[112] by decide +kernel];exact h
end
end Internal
end
section
open PySem PySem.W PyProof.Rows PySem.Calls
namespace Internal
section
variable {K:Kx} {ρ:Fm} {σ:ij} {d:Nat} {Q:V→ij→Prop}
noncomputable def A8 (J:Nat→Fm→ij→Prop) (k:Nat) (Q:Fl→Fm→ij→Prop):Fl→Fm→ij→Prop
 | .next,ρ₃,σ₃=>J (k + 1) ρ₃ σ₃
 | .cont,ρ₃,σ₃=>J (k + 1) ρ₃ σ₃
 | .brk,ρ₃,σ₃=>Q .next ρ₃ σ₃
 | .ret v,ρ₃,σ₃=>Q (.ret v) ρ₃ σ₃
theorem turnk_next {J:Nat→Fm→ij→Prop} {k:Nat} {Q:Fl→Fm→ij→Prop} (h:J (k + 1) ρ σ):A8 J k Q .next ρ σ:=h
theorem turnk_brk {J:Nat→Fm→ij→Prop} {k:Nat} {Q:Fl→Fm→ij→Prop} (h:Q .next ρ σ):A8 J k Q .brk ρ σ:=h
theorem kG {target iter:Expr} {b:List Stmt} {pos:Pos} {Q:Fl→Fm→ij→Prop}
  (h:EvP K ρ σ iter (fun v σ₁=>∃ items,iM v items∧∃ J:Nat→Fm→ij→Prop,J 0 ρ σ₁∧
   (∀ k x ρ₁ σ₂,items[k]?=some x→J k ρ₁ σ₂→AsP K ρ₁ σ₂ target x (fun ρ₂ σ₃=>ExP K ρ₂ σ₃ b (A8 J k Q)))∧
   (∀ ρ₁ σ₂,J items.length ρ₁ σ₂→Q .next ρ₁ σ₂)))
  (hs:autoParam (∀ env x,foldedSetIterable iter env x=pure x) aI):StP K ρ σ (.For target iter b [] pos) Q:=by
 refine DR (h.mono fun v σ₁ hh=>?_) hs
 walk_at "u"; obtain ⟨items,hit,J,h0,turn,done⟩:=hh;walk_at "v"
 refine ⟨items,hit,fun r ρ₁ σ₂=>∃ k,r=items.drop k∧k≤items.length∧J k ρ₁ σ₂,⟨0,rfl,ba _,h0⟩,?_,?_⟩
 ·intro x r ρ₁ σ₂ hJ4
  walk_at "u"; obtain ⟨k,hr,hk,hJ⟩:=hJ4;walk_at "v"
  have hx:items[k]?=some x:=by rw [← eh,← hr];rfl
  have hr':r=items.drop (k + 1):=by rw [← dk,← hr];rfl
  have hlt:k < items.length:=by
   rcases aZ k items.length with h | h
   ·exact h
   ·exact absurd ((bd h).symm.trans hx) (al _).symm
  intro A env s v ha hr hi hv QM hq
  refine turn k x ρ₁ σ₂ hx hJ A env s v ha hr hi hv QM fun ρ' σ' s' q=>hq ρ' σ' s' (q.mono fun f ρ₂ σ₃ hf=>?_)
  cases f with
  | next=>exact ⟨k + 1,hr',hlt,hf⟩
  | cont=>exact ⟨k + 1,hr',hlt,hf⟩
  | brk=>exact hf
  | ret v=>exact hf
 ·intro ρ₁ σ₂ hJ2
  walk_at "u"; obtain ⟨k,hr,hk,hJ⟩:=hJ2;walk_at "v"
  have:k=items.length:=by
   have:=dB.mp hr.symm;lia
  subst this
  exact done ρ₁ σ₂ hJ
theorem zv (n:Nat):∀ a:Nat,zw (a:Int) n 1=(aT n).map fun i=>V.int ((a + i:Nat):Int):=by
 induction n with
 | zero=>intro a;rfl
 | succ n ih=>
  intro a
  rw [d6,be,b0]
  unfold zw
  rw [show (a:Int) + 1=((a + 1:Nat):Int) by lia,ih (a + 1)]
  congr 1
  exact b8 fun i _=>by simp;walk_at "l"
theorem s5 (a b:Nat) (hb:b < 2 ^ 60) (hab:a < 2 ^ 60):iM (.rng (a:Int) (b:Int) 1) ((aT (b - a)).map fun i=>V.int ((a + i:Nat):Int)):=by
 have h:=iM.rng (a:Int) (b:Int) 1 (small_one (by lia) (by lia) (by lia) (by lia))
 have e:(Builtin.Range.rangeSize (a:Int) (b:Int) 1).toNat=b - a:=by
  unfold Builtin.Range.rangeSize
  split<;>split<;>lia
 rw [e,zv] at h;exact h
theorem ja (b:Nat) (hb:b < 2 ^ 60):iM (.rng 0 (b:Int) 1) ((aT b).map fun i=>V.int ((i:Nat):Int)):=by
 have h:=s5 0 b hb (by walk_at "l")
 simpa using h
noncomputable def Slot.full:Slot→Bool
 | .emp=>false
 | _=>true
theorem iQ {scope:Scope} {caps:Fm} (h:AR K.names (ρ.map (·.1)) scope (caps.map (·.1))=true) (hc:Has ρ caps) (he:caps.all (fun p=>p.2.full)=true):jp K ρ scope caps:=
 .mk' h fun p hp=>⟨hc p hp,fun e=>by have:=a9.mp he p hp;(rw [e] at this;cases this)⟩
theorem vq {ρ:Fm}:∀ {ifs:List Expr} {σ:ij} {Q Q':Bool→ij→Prop},(∀ b σ',Q b σ'→Q' b σ')→lF K ρ ifs σ Q→lF K ρ ifs σ Q'
 | [],σ,Q,Q',k,h=>k _ _ h
 | c :: r,σ,Q,Q',k,h=>TsP.mono h fun b σ' hb=>by
  cases b
  ·simp only [bJ,if_false] at hb ⊢;exact k _ _ hb
  ·simp only [if_true] at hb ⊢;exact vq k hb
noncomputable def JX {α:Type} (xs:List α) (f:α→V) (F:List α→List V) (σ:ij):List V→List V→ij→Prop:=fun r acc σ₂=>∃ a b,a++b=xs∧b.map f=r∧F a=acc∧σ=σ₂
theorem pU {α:Type} {xs:List α} {f:α→V} {F:List α→List V} {P:V→List V→List V→ij→Addr→Prop} (h:∀ a y b,a++y :: b=xs→∀ D,σ D=none→P (f y) (b.map f) (F a) σ D):
  ∀ x r acc σ₂ D,JX xs f F σ (x :: r) acc σ₂→σ₂ D=none→P x r acc σ₂ D:=by
 intro x r acc σ₂ D hJ hD
 obtain ⟨a,b,h1,h2,h3,h4⟩:=hJ
 cases b with
 | nil=>cases h2
 | cons y b=>
  injection h2 with e1 e2
  subst h3 h4 e1 e2
  exact h a y b h1 D hD
theorem uw {α:Type} {xs:List α} {f:α→V} {F:List α→List V} {acc:List V} {σ₂:ij} (h:JX xs f F σ [] acc σ₂):acc=F xs∧σ₂=σ:=by
 obtain ⟨a,b,h1,h2,h3,h4⟩:=h
 have:b=[]:=by cases b with
  | nil=>rfl
  | cons=>cases h2
 rw [this,aE] at h1
 exact ⟨h1 ▸ h3.symm,h4.symm⟩
theorem Cu {α:Type} {xs:List α} {f:α→V} {F:List α→List V} {acc:List V} (h:F []=acc):JX xs f F σ (xs.map f) acc σ:=⟨[],xs,rfl,rfl,h,rfl⟩
theorem pV {α:Type} {xs:List α} {f:α→V} {F:List α→List V} {acc:List V} {a b:List α} {y:α} (h:a++y :: b=xs) (e:F (a++[y])=acc):JX xs f F σ (b.map f) acc σ:=⟨a++[y],b,by rw [ay];exact h,rfl,e,rfl⟩
theorem jS {α:Type} {xs a b:List α} {y:α} (h:a++y :: b=xs):y∈xs:=h ▸ bz _ ao
theorem wp {α:Type} {xs a b:List α} {y:α} (h:a++y :: b=xs):a.length < xs.length:=by rw [← h,af,ax];exact fA (dK _)
theorem oM {caps fr:Fm} (h:(caps.all fun p=>fr.all fun q=>p.1 != q.1)=true):∀ p∈caps,∀ q∈fr,p.1≠q.1:=fun p hp q hq=>by
 have:=a9.mp (a9.mp h p hp) q hq
 simpa using this
theorem wB {α:Type} (pr:α→Bool) (g:α→V) (a:List α):((a.filter pr).map g).length≤a.length:=by rw [ag];exact bW _ _
theorem wC {α:Type} (pr:α→Bool) (g:α→V) (a:List α) (y:α):((a++[y]).filter pr).map g=(a.filter pr).map g++if pr y=true then [g y] else []:=by
 rw [gn,aU,gC,List.filter_nil]
 split<;>rfl
theorem zd {ρ:Fm} {ifs:List Expr} {elt:Expr} {D:Addr} {acc:List V} {J:List V→ij→Prop} (b:Bool) (v:V) (hD:σ D=none) (hl:acc.length < 2 ^ 24)
  (h:lF K ρ ifs (io σ D acc) (fun ok σ₃=>σ₃=io σ D acc∧ok=b∧(b=true→EvP K ρ (io σ D acc) elt (fun w σ₄=>w=v∧σ₄=io σ D acc)))) (hJ:J (acc++if b=true then [v] else []) σ):
  lF K ρ ifs (io σ D acc) (fun ok σ₃=>if ok=true then EvP K ρ σ₃ elt (fun v σ₄=>acc.length < 2 ^ 24∧∃ σ₅,σ₄=io σ₅ D acc∧σ₅ D=none∧J (acc++[v]) σ₅) else ∃ σ₅,σ₃=io σ₅ D acc∧σ₅ D=none∧J acc σ₅):=by
 refine vq (fun ok σ₃ hh=>?_) h
 obtain ⟨e1,e2,h3⟩:=hh
 rw [e1,e2]
 cases b with
 | true=>
  rw [if_pos rfl] at hJ ⊢
  exact (h3 rfl).mono fun w σ₄ h=>⟨hl,σ,h.2,hD,h.1 ▸ hJ⟩
 | false=>
  rw [if_neg (by decide)] at hJ ⊢
  exact ⟨σ,rfl,hD,by rw [aE] at hJ;exact hJ⟩
theorem EX {α:Type} {scope:Scope} {caps:Fm} {target elt:Expr} {ifs:List Expr} (xs:List α) (f:α→V) (fr:α→Fm) (pr:α→Bool) (g:α→V) (hlen:xs.length < 2 ^ 24)
  (he:∀ x∈xs,kN (KxC K scope) target (f x) (fr x)∧(caps.all fun p=>(fr x).all fun q=>p.1 != q.1)=true∧
   ∀ D acc,σ D=none→lF (KxC K scope) (fr x++caps) ifs (io σ D acc) (fun ok σ₃=>σ₃=io σ D acc∧ok=pr x∧(pr x=true→EvP (KxC K scope) (fr x++caps) (io σ D acc) elt (fun v σ₄=>v=g x∧σ₄=io σ D acc)))):
  lk K scope caps target elt ifs (JX xs f (fun a=>(a.filter pr).map g) σ):=
 pU fun a y b hab D hD=>
  ⟨fr y,(he y (jS hab)).1,oM (he y (jS hab)).2.1,zd (J:=fun acc' σ'=>JX xs f (fun a=>(a.filter pr).map g) σ (b.map f) acc' σ') (pr y) (g y) hD (ae (wB pr g a) (cz (wp hab) hlen)) ((he y (jS hab)).2.2 D _ hD) (pV hab (wC pr g a y))⟩
theorem ld {α:Type} {elt target iter:Expr} {ifs:List Expr} {scope:Scope} {pos:Pos} (caps:Fm) (ok:jp K ρ scope caps) (f:α→V) (fr:α→Fm) (pr:α→Bool) (g:α→V)
  (h:EvP K ρ σ iter (fun v σ₁=>∃ xs:List α,iM v (xs.map f)∧xs.length < 2 ^ 24∧(∀ x∈xs,kN (KxC K scope) target (f x) (fr x)∧(caps.all fun p=>(fr x).all fun q=>p.1 != q.1)=true∧
   ∀ D acc,σ₁ D=none→lF (KxC K scope) (fr x++caps) ifs (io σ₁ D acc) (fun ok σ₃=>σ₃=io σ₁ D acc∧ok=pr x∧(pr x=true→EvP (KxC K scope) (fr x++caps) (io σ₁ D acc) elt (fun v σ₄=>v=g x∧σ₄=io σ₁ D acc))))∧
   Q (.lst ((xs.filter pr).map g)) σ₁))
  (hs:autoParam (∀ env x,foldedSetIterable iter env x=pure x) aI):EvP K ρ σ (.ListComp elt [⟨target,iter,ifs,0⟩] scope pos) Q:=
 pX caps ok (h.mono fun v σ₁ h=>h.elim fun xs h=>⟨xs.map f,h.1,_,Cu rfl,EX xs f fr pr g h.2.1 h.2.2.1,fun acc σ₂ hJ=>by obtain ⟨rfl,rfl⟩:=uw hJ;exact h.2.2.2⟩) hs
theorem iU {α:Type} {elt target iter:Expr} {scope:Scope} {pos:Pos} (caps:Fm) (ok:jp K ρ scope caps) (f:α→V) (fr:α→Fm) (g:α→V)
  (h:EvP K ρ σ iter (fun v σ₁=>∃ xs:List α,iM v (xs.map f)∧xs.length < 2 ^ 24∧(∀ x∈xs,kN (KxC K scope) target (f x) (fr x)∧(caps.all fun p=>(fr x).all fun q=>p.1 != q.1)=true∧
   ∀ D acc,σ₁ D=none→EvP (KxC K scope) (fr x++caps) (io σ₁ D acc) elt (fun v σ₄=>v=g x∧σ₄=io σ₁ D acc))∧
   Q (.lst (xs.map g)) σ₁))
  (hs:autoParam (∀ env x,foldedSetIterable iter env x=pure x) aI):EvP K ρ σ (.ListComp elt [⟨target,iter,[],0⟩] scope pos) Q:=
 ld caps ok f fr (fun _=>true) g (h.mono fun v σ₁ h=>h.elim fun xs h=>⟨xs,h.1,h.2.1,fun x hx=>⟨(h.2.2.1 x hx).1,(h.2.2.1 x hx).2.1,fun D acc hD=>ifs_nil' ⟨rfl,rfl,fun _=>(h.2.2.1 x hx).2.2 D acc hD⟩⟩,by rw [c6.mpr fun _ _=>rfl];exact h.2.2.2⟩) hs
theorem iJ {x:Str} {pos:Pos} {v:V} (h:K.names.lookup x=some .local):kN K (.Name x pos) v [(x,.val v)]:=.name x pos v h
theorem as_nameP {x:Str} {pos:Pos} {pv:V} {sl:Slot} {ρ':Fm} {Q:Fm→ij→Prop} (hk:K.names.lookup x=some .cell) (hm:(x,sl)∈ρ) (hs:∀ c,sl≠.sh c) (hu:Upd ρ x (.val pv) ρ') (h:Q ρ' σ):AsP K ρ σ (.Name x pos) pv Q:=as_name (kF hk hm hs) hu h
theorem as_nameF {x:Str} {pos:Pos} {pv:V} {ρ':Fm} {Q:Fm→ij→Prop} (hk:K.names.lookup x=some .cell) (hm:(x,Slot.emp)∈ρ) (hu:Upd ρ x (.val pv) ρ') (h:Q ρ' σ):AsP K ρ σ (.Name x pos) pv Q:=as_name (kF hk hm (by intro c e;cases e)) hu h
theorem s6 {α:Type} (xs:List α):∀ m,(aT m).filterMap (xs[·]?)=xs.take m:=by
 intro m
 induction m with
 | zero=>rfl
 | succ m ih=>
  rw [ef,fL,ih,dI,dO]
  rcases aZ m xs.length with h | h
  ·rw [ak h,aY h]
  ·rw [bd h]
   simp [aG h,aG (cF h)]
theorem q9 (m L:Nat):max 0 (min (m:Int) L)=((min m L:Nat):Int):=(Int.max_eq_right (Int.le_min.mpr ⟨aB _,aB _⟩)).trans ((cE m L).elim (fun h=>by rw [bl h,Int.min_eq_left (dM.mpr h)]) fun h=>by rw [cM h,Int.min_eq_right (dM.mpr h)])
theorem uJ (p q:Nat):(if (p:Int) < (q:Int) then ((q:Int) - (p:Int) + 1 - 1) / 1 else 0).toNat=q - p:=by split<;>lia
theorem Bm {m L:Nat}:L - min m L=L - m:=by
 rcases cE m L with h | h
 ·rw [bl h]
 ·rw [cM h,cw,bQ h]
theorem mV {α:Type} (xs:List α) (m:Nat):(iX none (some (m:Int)) none xs.length).filterMap (xs[·]?)=xs.take m:=by
 have e:iX none (some (m:Int)) none xs.length=aT (min m xs.length):=by
  unfold iX sliceBounds sliceRange
  simp only [cK,show ((1:Int) > 0) from by decide,if_true,show ¬ ((m:Int) < 0) from by walk_at "l", if_false]
  rw [q9]
  have h2:=uJ 0 (min m xs.length)
  rw [dL] at h2
  rw [show (if (0:Int) < ((min m xs.length:Nat):Int) then (((min m xs.length:Nat):Int) - 0 + 1 - 1) / 1 else 0).toNat=min m xs.length from h2]
  conv=>rhs;rw [← List.map_id (aT _)]
  exact b8 fun k _=>by simp
 rw [e,s6]
 rcases cE m xs.length with h | h
 ·rw [bl h]
 ·rw [cM h,cC,aG h]
end
end Internal
end
section
open PySem PySem.W PyProof.Rows PySem.Calls
namespace Internal
section
variable {K:Kx} {ρ:Fm} {σ:ij} {Q:V→ij→Prop} {R:Fl→Fm→ij→Prop}
theorem nM {pos:Pos} (h:Q (.lst []) σ):EvP K ρ σ (.List [] pos) Q:=yc (evs_nil ⟨by simp,h⟩)
theorem oI {pos:Pos} (h:∀ a,σ a=none→Q (.loc a) (upd σ a (some (.list [])))):EvP K ρ σ (.List [] pos) Q:=lc (evs_nil ⟨by simp,h⟩)
theorem gm_read {o:Expr} {ap pos:Pos} {args:List Expr} (h:EvP K ρ σ (.Call (.Attribute o "read" ap) args [] pos) Q):EvP K ρ σ (.Call (.Attribute o "read" ap) args [] pos) Q:=h
end
theorem mem1 {p a0:Str×Slot} {l:Fm}:p∈a0 :: p :: l:=ai _ ao
theorem mem2 {p a0 a1:Str×Slot} {l:Fm}:p∈a0 :: a1 :: p :: l:=ai _ (ai _ ao)
theorem mem3 {p a0 a1 a2:Str×Slot} {l:Fm}:p∈a0 :: a1 :: a2 :: p :: l:=ai _ (ai _ (ai _ ao))
theorem mem4 {p a0 a1 a2 a3:Str×Slot} {l:Fm}:p∈a0 :: a1 :: a2 :: a3 :: p :: l:=ai _ (ai _ (ai _ (ai _ ao)))
theorem mem5 {p a0 a1 a2 a3 a4:Str×Slot} {l:Fm}:p∈a0 :: a1 :: a2 :: a3 :: a4 :: p :: l:=ai _ (ai _ (ai _ (ai _ (ai _ ao))))
theorem mem6 {p a0 a1 a2 a3 a4 a5:Str×Slot} {l:Fm}:p∈a0 :: a1 :: a2 :: a3 :: a4 :: a5 :: p :: l:=ai _ (ai _ (ai _ (ai _ (ai _ (ai _ ao)))))
theorem mem7 {p a0 a1 a2 a3 a4 a5 a6:Str×Slot} {l:Fm}:p∈a0 :: a1 :: a2 :: a3 :: a4 :: a5 :: a6 :: p :: l:=ai _ (ai _ (ai _ (ai _ (ai _ (ai _ (ai _ ao))))))
theorem mem8 {p a0 a1 a2 a3 a4 a5 a6 a7:Str×Slot} {l:Fm}:p∈a0 :: a1 :: a2 :: a3 :: a4 :: a5 :: a6 :: a7 :: p :: l:=ai _ (ai _ (ai _ (ai _ (ai _ (ai _ (ai _ (ai _ ao)))))))
noncomputable def fdP (fd:FuncData) (R:FnRec):FuncData:={ fd with params:=R.params,defaults:=.none,kwdefaults:=.none }
theorem m6 {fd:FuncData} {R:FnRec} (h1:fd.params=R.params) (h2:fd.defaults=.none) (h3:fd.kwdefaults=.none):fd=fdP fd R:=by
 cases fd
 dsimp only at h1 h2 h3
 subst h1 h2 h3
 rfl
theorem binds_1 {R:FnRec} {x:Str} (h:∀ fd v,bindArgs (fdP fd R) ⟨[v],[]⟩=pure [(x,v)]):iH R [x]:=by
 intro fd h1 h2 h3 vs hl
 rw [m6 h1 h2 h3]
 obtain ⟨v,rfl⟩:=cq.1 hl
 exact h fd v
theorem binds_2 {R:FnRec} {x y:Str} (h:∀ fd v w,bindArgs (fdP fd R) ⟨[v,w],[]⟩=pure [(x,v),(y,w)]):iH R [x,y]:=by
 intro fd h1 h2 h3 vs hl
 rw [m6 h1 h2 h3]
 obtain ⟨v,t,rfl⟩:=au hl
 obtain ⟨w,rfl⟩:=cq.1 (az hl)
 exact h fd v w
theorem binds_3 {R:FnRec} {x y z:Str} (h:∀ fd v w u,bindArgs (fdP fd R) ⟨[v,w,u],[]⟩=pure [(x,v),(y,w),(z,u)]):iH R [x,y,z]:=by
 intro fd h1 h2 h3 vs hl
 rw [m6 h1 h2 h3]
 obtain ⟨v,t,rfl⟩:=au hl
 obtain ⟨w,t,rfl⟩:=au (az hl)
 obtain ⟨u,rfl⟩:=cq.1 (az (az hl))
 exact h fd v w u
noncomputable def zk (x y:Str):Bool:=decide (x=y)
theorem rest_keep {ρ:Fm} {x y:Str} {s:Slot} (r':Fm) (h:Rest ρ x r') (hne:zk y x=false):Rest ((y,s) :: ρ) x ((y,s) :: r'):=.keep h (of_decide_eq_false hne)
theorem rest_drop {ρ:Fm} {x:Str} {q:Str×Slot} (r':Fm) (h:Rest ρ x r'):Rest (q :: ρ) x r':=.drop h
theorem upd_mk {ρ:Fm} {x:Str} {s:Slot} (r':Fm) (h:Rest ρ x r'):Upd ρ x s ((x,s) :: r'):=.mk h
theorem upd_exE {ρ:Fm} {x:Str} {v:V} {P:Fm→Prop} (r':Fm) (hr:Rest ρ x r') (h:P ((x,.val v) :: r')):∃ ρ',Upd ρ x (.val v) ρ'∧P ρ':=⟨_,.mk hr,h⟩
theorem capl_free {ρ:Fm} {n:Str} {r:List (Str×NameKind)} {cs:List (Str×Addr)} (c:Addr) (out:List (Str×Addr)) (h:(n,Slot.sh c)∈ρ) (t:CapL ρ r ((n,c) :: cs) out):CapL ρ ((n,.free) :: r) cs out:=.free h t
theorem capl_other {ρ:Fm} {n:Str} {k:NameKind} {r:List (Str×NameKind)} {cs:List (Str×Addr)} (out:List (Str×Addr)) (h:k≠.free) (t:CapL ρ r cs out):CapL ρ ((n,k) :: r) cs out:=.other h t
end Internal
end
section
open PySem PySem.W PyProof.Rows PySem.Calls
namespace Internal
theorem binds_4 {R:FnRec} {x y z t:Str} (h:∀ fd a b c e,bindArgs (fdP fd R) ⟨[a,b,c,e],[]⟩=pure [(x,a),(y,b),(z,c),(t,e)]):iH R [x,y,z,t]:=by
 intro fd h1 h2 h3 vs hl
 rw [m6 h1 h2 h3]
 obtain ⟨a,l,rfl⟩:=au hl
 obtain ⟨b,l,rfl⟩:=au (az hl)
 obtain ⟨c,l,rfl⟩:=au (az (az hl))
 obtain ⟨e,rfl⟩:=cq.1 (az (az (az hl)))
 exact h fd a b c e
theorem binds_6 {R:FnRec} {x y z t u v:Str} (h:∀ fd a b c e f g,bindArgs (fdP fd R) ⟨[a,b,c,e,f,g],[]⟩=pure [(x,a),(y,b),(z,c),(t,e),(u,f),(v,g)]):iH R [x,y,z,t,u,v]:=by
 intro fd h1 h2 h3 vs hl
 rw [m6 h1 h2 h3]
 obtain ⟨a,l,rfl⟩:=au hl
 obtain ⟨b,l,rfl⟩:=au (az hl)
 obtain ⟨c,l,rfl⟩:=au (az (az hl))
 obtain ⟨e,l,rfl⟩:=au (az (az (az hl)))
 obtain ⟨f,l,rfl⟩:=au (az (az (az (az hl))))
 obtain ⟨g,rfl⟩:=cq.1 (az (az (az (az (az hl)))))
 exact h fd a b c e f g
section
variable (K:Kx) (ρ:Fm)
noncomputable abbrev QB2 (op:Operator) (Q:V→ij→Prop) (a:V):V→ij→Prop:=fun b σ₂=>M2 K.d (binaryOp op) a b σ₂ Q
noncomputable abbrev QB1 (op:Operator) (r:Expr) (Q:V→ij→Prop):V→ij→Prop:=fun a σ₁=>EvP K ρ σ₁ r (QB2 K op Q a)
noncomputable abbrev QC2 (op:CmpOp) (Q:V→ij→Prop) (a:V):V→ij→Prop:=fun b σ₂=>M2 K.d (compareOp op) a b σ₂ Q
noncomputable abbrev QC1 (op:CmpOp) (r:Expr) (Q:V→ij→Prop):V→ij→Prop:=fun a σ₁=>EvP K ρ σ₁ r (QC2 K op Q a)
noncomputable abbrev QTb (Q:Bool→ij→Prop):V→ij→Prop:=fun v σ₃=>∃ b,v=.bool b∧Q b σ₃
noncomputable abbrev QUn (op:UnaryOp) (Q:V→ij→Prop):V→ij→Prop:=fun a σ₁=>M1 K.d (unaryOp op) a σ₁ Q
noncomputable def FK (b o:List Stmt) (Q:Fl→Fm→ij→Prop):Bool→ij→Prop:=fun c σ₁=>if c=true then ExP K ρ σ₁ b Q else ExP K ρ σ₁ o Q
noncomputable def FL (a b:Expr) (Q:V→ij→Prop):Bool→ij→Prop:=fun c σ₁=>if c=true then EvP K ρ σ₁ a Q else EvP K ρ σ₁ b Q
noncomputable def FM (r:List Expr) (pos:Pos) (Q:Bool→ij→Prop):Bool→ij→Prop:=fun c σ₁=>if c=true then TsP K ρ σ₁ (.BoolOp .And r pos) Q else Q false σ₁
noncomputable def QOr (r:List Expr) (pos:Pos) (Q:Bool→ij→Prop):Bool→ij→Prop:=fun c σ₁=>if c=true then Q true σ₁ else TsP K ρ σ₁ (.BoolOp .Or r pos) Q
noncomputable abbrev Gb (Q:Bool→ij→Prop):V→ij→Prop:=fun v σ₁=>M1B K.d v σ₁ Q
noncomputable abbrev QF2 (Q:V→ij→Prop) (fv:V):List V→ij→Prop:=fun pl σ₂=>KeepOk σ₂ fv∧CallV K.d fv pl σ₂ Q
noncomputable abbrev QF1 (args:List Expr) (Q:V→ij→Prop):V→ij→Prop:=fun fv σ₁=>EvsP K ρ args σ₁ (QF2 K Q fv)
noncomputable abbrev QM2 (id:String) (Q:V→ij→Prop) (ov:V):List V→ij→Prop:=fun pl σ₂=>CallV K.d (.raw (.builtin id)) (ov :: pl) σ₂ Q
noncomputable abbrev QM1 (T id:String) (args:List Expr) (Q:V→ij→Prop):V→ij→Prop:=fun ov σ₁=>TyOf σ₁ ov T∧EvsP K ρ args σ₁ (QM2 K id Q ov)
noncomputable abbrev Gc (Q:V→ij→Prop):List V→ij→Prop:=fun vs σ₁=>vs.length≤2 ^ 24∧Q (.tup vs) σ₁
noncomputable abbrev Ge (Q:V→ij→Prop):List V→ij→Prop:=fun vs σ₁=>vs.length≤2 ^ 24∧Q (.lst vs) σ₁
noncomputable abbrev QS2 (Q:V→ij→Prop) (o:V):V→ij→Prop:=fun i σ₂=>SubTy σ₂ o∧M2 K.d getItem o i σ₂ Q
noncomputable abbrev QS1 (slice:Expr) (Q:V→ij→Prop):V→ij→Prop:=fun o σ₁=>EvP K ρ σ₁ slice (QS2 K Q o)
noncomputable abbrev QL3 (Q:V→ij→Prop) (a b:V):V→ij→Prop:=fun c σ₃=>∃ lo hi st,mO a lo∧mO b hi∧mO c st∧Q (.slc lo hi st) σ₃
noncomputable abbrev QL2 (t:Option Expr) (Q:V→ij→Prop) (a:V):V→ij→Prop:=fun b σ₂=>EvO K ρ σ₂ t (QL3 Q a b)
noncomputable abbrev QL1 (u t:Option Expr) (Q:V→ij→Prop):V→ij→Prop:=fun a σ₁=>EvO K ρ σ₁ u (QL2 K ρ t Q a)
noncomputable abbrev QE2 (Q:List V→ij→Prop) (pv:V):List V→ij→Prop:=fun pl σ₂=>Q (pv :: pl) σ₂
noncomputable abbrev QE1 (r:List Expr) (Q:List V→ij→Prop):V→ij→Prop:=fun pv σ₁=>EvsP K ρ r σ₁ (QE2 Q pv)
noncomputable abbrev QAt (attr:Str) (Q:V→ij→Prop):V→ij→Prop:=fun o σ₁=>M1 K.d (fun o=>getAttr o attr true) o σ₁ Q
noncomputable abbrev uU (x:Str) (Q:Fl→Fm→ij→Prop):V→ij→Prop:=fun v σ₁=>∃ ρ',Upd ρ x (.val v) ρ'∧Q .next ρ' σ₁
noncomputable abbrev Gg (op:Operator) (a:V) (x:Str) (Q:Fl→Fm→ij→Prop):V→ij→Prop:=fun b σ₂=>M2 K.d (inplaceOp op) a b σ₂ (uU ρ x Q)
noncomputable abbrev Gd (Q:Fl→Fm→ij→Prop):V→ij→Prop:=fun v σ₁=>Q (.ret v) ρ σ₁
noncomputable abbrev Gf (Q:Fl→Fm→ij→Prop):V→ij→Prop:=fun _ σ₁=>Q .next ρ σ₁
noncomputable abbrev QNx (Q:Fl→Fm→ij→Prop):Fm→ij→Prop:=fun ρ' σ'=>Q .next ρ' σ'
noncomputable abbrev Gh (t:Expr) (Q:Fl→Fm→ij→Prop):V→ij→Prop:=fun v σ₁=>AsP K ρ σ₁ t v (QNx Q)
noncomputable abbrev QAs (Q:Fm→ij→Prop) (ts:List Expr) (vs:List V):Fm→ij→Prop:=fun ρ₁ σ₁=>vV K Q ρ₁ σ₁ ts vs
end
section
variable {K:Kx} {ρ:Fm} {σ:ij} {d:Nat} {Q:V→ij→Prop}
theorem ev_binQ {l r:Expr} {op:Operator} {pos:Pos} (h:EvP K ρ σ l (QB1 K ρ op r Q)):EvP K ρ σ (.BinOp l op r pos) Q:=Es h
theorem ev_cmpQ {l r:Expr} {op:CmpOp} {pos:Pos} (h:EvP K ρ σ l (QC1 K ρ op r Q)) (hm:autoParam (behindInMarks op r=false) aW):EvP K ρ σ (.Compare l [op] [r] pos) Q:=Er h hm
theorem ts_cmpQ {l r:Expr} {op:CmpOp} {pos:Pos} {Q:Bool→ij→Prop} (h:EvP K ρ σ l (QC1 K ρ op r (QTb Q))) (hm:autoParam (behindInMarks op r=false) aW):TsP K ρ σ (.Compare l [op] [r] pos) Q:=DI h hm
theorem ev_unQ {x:Expr} {op:UnaryOp} {pos:Pos} (h:EvP K ρ σ x (QUn K op Q)):EvP K ρ σ (.UnaryOp op x pos) Q:=Fp h
theorem st_ifQ {t:Expr} {b o:List Stmt} {pos:Pos} {Q:Fl→Fm→ij→Prop} (h:TsP K ρ σ t (FK K ρ b o Q)):StP K ρ σ (.If t b o pos) Q:=EW h
theorem ev_ifexpQ {t a b:Expr} {pos:Pos} (h:TsP K ρ σ t (FL K ρ a b Q)):EvP K ρ σ (.IfExp t a b pos) Q:=vx h
theorem ts_andQ {x:Expr} {r:List Expr} {pos:Pos} {Q:Bool→ij→Prop} (h:TsP K ρ σ x (FM K ρ r pos Q)):TsP K ρ σ (.BoolOp .And (x :: r) pos) Q:=DJ h
theorem ts_orQ {x:Expr} {r:List Expr} {pos:Pos} {Q:Bool→ij→Prop} (h:TsP K ρ σ x (QOr K ρ r pos Q)):TsP K ρ σ (.BoolOp .Or (x :: r) pos) Q:=ES h
theorem q_sif {b o:List Stmt} {Q:Fl→Fm→ij→Prop} {c:Bool} (h:if c=true then ExP K ρ σ b Q else ExP K ρ σ o Q):FK K ρ b o Q c σ:=h
theorem q_ife {a b:Expr} {c:Bool} (h:if c=true then EvP K ρ σ a Q else EvP K ρ σ b Q):FL K ρ a b Q c σ:=h
theorem q_and {r:List Expr} {pos:Pos} {Q:Bool→ij→Prop} {c:Bool} (h:if c=true then TsP K ρ σ (.BoolOp .And r pos) Q else Q false σ):FM K ρ r pos Q c σ:=h
theorem q_or {r:List Expr} {pos:Pos} {Q:Bool→ij→Prop} {c:Bool} (h:if c=true then Q true σ else TsP K ρ σ (.BoolOp .Or r pos) Q):QOr K ρ r pos Q c σ:=h
theorem tbQ {Q:Bool→ij→Prop} {b:Bool} (h:Q b σ):QTb Q (.bool b) σ:=⟨b,rfl,h⟩
theorem ts_valQ {e:Expr} {Q:Bool→ij→Prop} (h:EvP K ρ σ e (Gb K Q))
  (he:autoParam (∀ env whole,isTrue e env whole=(do let v ← whole;standAt e.pos;holding [v] (truthy v))) aI):TsP K ρ σ e Q:=DH h he
theorem ev_callQ {x:Str} {np pos:Pos} {args:List Expr} (h:EvP K ρ σ (.Name x np) (QF1 K ρ args Q))
  (hse:autoParam (∀ env,backTo pos (starEach args env)=args.map fun e=>(false,eval e env)) aI):EvP K ρ σ (.Call (.Name x np) args [] pos) Q:=CJ h hse
theorem ev_tupleQ {elts:List Expr} {k:Nat} {pos:Pos} (h:EvsP K ρ elts σ (Gc Q))
  (hse:autoParam (∀ env,backTo pos (starEach elts env)=elts.map fun e=>(false,eval e env)) aI):EvP K ρ σ (.Tuple elts k pos) Q:=Az h hse
theorem ev_listQ {elts:List Expr} {pos:Pos} (h:EvsP K ρ elts σ (Ge Q))
  (hse:autoParam (∀ env,backTo pos (starEach elts env)=elts.map fun e=>(false,eval e env)) aI):EvP K ρ σ (.List elts pos) Q:=yc h hse
theorem ev_slcQ {l u t:Option Expr} {p:Pos} (h:EvO K ρ σ l (QL1 K ρ u t Q)):EvP K ρ σ (.Slice l u t p) Q:=Eo h
theorem ev_subQ {value slice:Expr} {pos:Pos} (h:EvP K ρ σ value (QS1 K ρ slice Q)):EvP K ρ σ (.Subscript value slice pos) Q:=En h
theorem evs_consQ {e:Expr} {r:List Expr} {Q:List V→ij→Prop} (h:EvP K ρ σ e (QE1 K ρ r Q)):EvsP K ρ (e :: r) σ Q:=h
theorem ev_attrQ {value:Expr} {attr:Str} {pos:Pos} (h:EvP K ρ σ value (QAt K attr Q)) (hbase:autoParam (∀ env,attributeBase value attr env (eval value env)=eval value env) aI):
  EvP K ρ σ (.Attribute value attr pos) Q:=CK h hbase
theorem ev_methQ {T id:String} {o:Expr} {name:Str} {apos pos:Pos} {args:List Expr} (m:oW T name id) (h:EvP K ρ σ o (QM1 K ρ T id args Q))
  (hbase:autoParam (∀ env,attributeBase o name env (eval o env)=eval o env) aI)
  (hfew:autoParam (∀ env,((backTo pos (starEach args env)).all (fun x=>!x.1) && (backToKw pos (keywordEach [] env)).all (fun x=>x.1.isSome)
   && decide (args.length + ([]:List Keyword).length + (if ([]:List Keyword).isEmpty then 0 else 1) < 30))=true) aI)
  (hline:autoParam ((apos.endLine == pos.line)=true) aR)
  (hse:autoParam (∀ env,backTo pos (starEach args env)=args.map fun e=>(false,eval e env)) aI):EvP K ρ σ (.Call (.Attribute o name apos) args [] pos) Q:=CI m h hbase hfew hline hse
theorem st_assignQ {x:Str} {e:Expr} {pos' pos:Pos} {Q:Fl→Fm→ij→Prop} (hk:K.names.lookup x=some .local) (h:EvP K ρ σ e (uU ρ x Q))
  (hs:autoParam (∀ env,swapsWith e (some (.Name x pos')) pos.line env=pure false) aI):StP K ρ σ (.Assign [.Name x pos'] e pos) Q:=p8 (stores_local hk) h hs
theorem upd_asg {x:Str} {v:V} {Q:Fl→Fm→ij→Prop} (r':Fm) (hr:Rest ρ x r') (h:Q .next ((x,.val v) :: r') σ):uU ρ x Q v σ:=⟨_,.mk hr,h⟩
noncomputable def wz (ρ:Fm) (x:Str):Bool:=ρ.all fun p=>!zk p.1 x
theorem upd_mkN {x:Str} {s:Slot} (hx:wz ρ x=true):Upd ρ x s ((x,s) :: ρ):=fun p hp=>by
 rcases am.mp hp with rfl | hp
 ·exact .inl rfl
 ·refine .inr ⟨hp,fun e=>?_⟩
  have:=a9.mp hx p hp
  rw [show zk p.1 x=true from decide_eq_true e] at this
  exact absurd this (by decide)
theorem upd_asgN {x:Str} {v:V} {Q:Fl→Fm→ij→Prop} (hx:wz ρ x=true) (h:Q .next ((x,.val v) :: ρ) σ):uU ρ x Q v σ:=⟨_,upd_mkN hx,h⟩
theorem st_augQ {x:Str} {a:V} {op:Operator} {e:Expr} {pos' pos:Pos} {Q:Fl→Fm→ij→Prop} (hk:kO K ρ x) (hx:(x,Slot.val a)∈ρ) (h:EvP K ρ σ e (Gg K ρ op a x Q))
  (hn:autoParam ((x == ("__classdict__" : Str))=false) aD):StP K ρ σ (.AugAssign (.Name x pos') op e pos) Q:=DS hk hx h hn
theorem st_retQ {e:Expr} {pos:Pos} {Q:Fl→Fm→ij→Prop} (h:EvP K ρ σ e (Gd ρ Q)):StP K ρ σ (.Return (some e) pos) Q:=DQ h
theorem st_exprQ {e:Expr} {pos:Pos} {Q:Fl→Fm→ij→Prop} (h:EvP K ρ σ e (Gf ρ Q)) (hs:autoParam (∀ env,swapsWith e none pos.line env=pure false) aI):StP K ρ σ (.Expr e pos) Q:=Bp h hs
theorem st_assignTQ {t e:Expr} {pos:Pos} {Q:Fl→Fm→ij→Prop} (h:EvP K ρ σ e (Gh K ρ t Q))
  (he:autoParam (∀ env,(assignEach [t] env).map (·.2)=[assign t env]) aI)
  (hs:autoParam (∀ env,swapsWithSole [t] e pos.line env=pure false) aI) (hw:autoParam (∀ env:Env,env.scope.kind=.function→env.scope.names=K.names→swappedStores [t] e env=pure none) aI):StP K ρ σ (.Assign [t] e pos) Q:=lm h he hs hw
theorem ass_consQ {Q:Fm→ij→Prop} {t:Expr} {ts:List Expr} {v:V} {vs:List V} (h:AsP K ρ σ t v (QAs K Q ts vs)):vV K Q ρ σ (t :: ts) (v :: vs):=h
end
end Internal
end
section
open PySem PySem.W PyProof.Rows PySem.Calls
namespace Internal
section
variable {K:Kx} {ρ:Fm} {σ:ij} {d:Nat} {Q:V→ij→Prop}
theorem vC (elt t1 i1 t2 i2:Expr) (ifs:List Expr) (scope:Scope) (pos:Pos) (it acc:Value) (env:Env):
  compTurn (.ListComp elt [⟨t1,i1,[],0⟩,⟨t2,i2,ifs,0⟩] scope pos) 1 it acc env=(do
   standAt i2.pos
   match ← pyNext it with
   | none=>pure (.done .next)
   | some v=>
    letOwnedTupleGo t2 it v
    assign t2 env v
    let mut ok:=true
    for c in ifs do
     if ok then ok ← isTrue c env (eval c env)
    if ok then
     (do let _ ← call (.builtin "list.append") [acc,← eval elt env])
    again (.compLoop (.ListComp elt [⟨t1,i1,[],0⟩,⟨t2,i2,ifs,0⟩] scope pos) 1 it acc env)):=by rfl
theorem uG (elt t1 i1 t2 i2:Expr) (ifs:List Expr) (scope:Scope) (pos:Pos) (it acc:Value) (env:Env):
  compTurn (.ListComp elt [⟨t1,i1,[],0⟩,⟨t2,i2,ifs,0⟩] scope pos) 0 it acc env=(do
   standAt i1.pos
   match ← pyNext it with
   | none=>pure (.done .next)
   | some v=>
    letOwnedTupleGo t1 it v
    assign t1 env v
    let mut ok:=true
    for c in ([]:List Expr) do
     if ok then ok ← isTrue c env (eval c env)
    if ok then
     let x ← eval i2 env
     standAt i2.pos
     let x ← foldedSetIterable i2 env x
     let _ ← runOwn (.compStart (.ListComp elt [⟨t1,i1,[],0⟩,⟨t2,i2,ifs,0⟩] scope pos) 1 (← holding [x] (pyIter x)) acc env) env
    again (.compLoop (.ListComp elt [⟨t1,i1,[],0⟩,⟨t2,i2,ifs,0⟩] scope pos) 0 it acc env)):=by rfl
theorem vD {R:Result→Shared→Prop} {A:Around} {s:Shared} {elt t1 i1 t2 i2:Expr} {ifs:List Expr} {scope:Scope} {pos:Pos} {it acc:Value} {env:Env} {prog:Program} {w:World} (I:Nat→Shared→Prop)
  (turn:∀ n s,I n s→wpAny (model prog w) A (pyNext it) (fun r s₁=>match r with
   | none=>R (.ok .next) s₁
   | some v=>wpAny (model prog w) A (letOwnedTupleGo t2 it v) (fun _ s₁'=>wpAny (model prog w) A (assign t2 env v) (fun _ s₂=>
     wpAny (model prog w) A (forIn ifs true fun c r=>if r=true then do let ok ← isTrue c env (eval c env);pure (ForInStep.yield ok) else pure (ForInStep.yield r)) (fun ok s₃=>
      if ok=true then wpAny (model prog w) A (eval elt env) (fun x s₄=>
       wpAny (model prog w) A (PySem.call (.builtin "list.append") [acc,x]) (fun _ s₅=>∃ m,m < n∧I m s₅) Bot s₄) Bot s₃
      else ∃ m,m < n∧I m s₃) Bot s₂) Bot s₁') Bot s₁) Bot s)
  (n:Nat) (h:I n s):codeAny (model prog w) A (.compLoop (.ListComp elt [⟨t1,i1,[],0⟩,⟨t2,i2,ifs,0⟩] scope pos) 1 it acc env) R s:=by
 refine codeAny_loop rfl I (fun n s hI=>?_) n h
 show wpAny _ A ((compTurn (.ListComp elt [⟨t1,i1,[],0⟩,⟨t2,i2,ifs,0⟩] scope pos) 1 it acc env).onRaise (fun x=>do noteFrame x env;theTreesLotGoes x)) _ _ s
 refine wpAny_noted ?_
 rw [vC]
 refine wpAny_bind (wpAny_standAt (wpAny_bind (wpAny_mono (turn n s hI) (fun r s₁ h₁=>?_) fun _ _ x=>x.elim)))
 cases r with
 | none=>exact wpAny_pure h₁
 | some v=>
  refine wpAny_bind (wpAny_mono h₁ (fun _ s₁' h₁'=>?_) fun _ _ x=>x.elim)
  refine wpAny_bind (wpAny_mono h₁' (fun _ s₂ h₂=>wpAny_bind (wpAny_mono h₂ (fun ok s₃ h₃=>?_) fun _ _ x=>x.elim)) fun _ _ x=>x.elim)
  cases ok with
  | false=>exact wpAny_pure ⟨rfl,h₃⟩
  | true=>
   exact wpAny_bind (wpAny_bind (wpAny_mono h₃ (fun x s₄ h₄=>wpAny_bind (wpAny_mono h₄ (fun _ s₅ h₅=>wpAny_pure (wpAny_pure ⟨rfl,h₅⟩)) fun _ _ x=>x.elim)) fun _ _ x=>x.elim))
theorem uI {R:Result→Shared→Prop} {A:Around} {s:Shared} {elt t1 i1 t2 i2:Expr} {ifs:List Expr} {scope:Scope} {pos:Pos} {it acc:Value} {env:Env} {prog:Program} {w:World} (I:Nat→Shared→Prop)
  (hs:∀ x,foldedSetIterable i2 env x=pure x)
  (turn:∀ n s,I n s→wpAny (model prog w) A (pyNext it) (fun r s₁=>match r with
   | none=>R (.ok .next) s₁
   | some v=>wpAny (model prog w) A (letOwnedTupleGo t1 it v) (fun _ s₁'=>wpAny (model prog w) A (assign t1 env v) (fun _ s₂=>
     wpAny (model prog w) A (eval i2 env) (fun x s₃=>wpAny (model prog w) A (pyIter x) (fun it2 s₄=>
      codeAny (model prog w) A (.compStart (.ListComp elt [⟨t1,i1,[],0⟩,⟨t2,i2,ifs,0⟩] scope pos) 1 it2 acc env) (fun r s₅=>r=.ok .next∧∃ m,m < n∧I m s₅) s₄) Bot s₃) Bot s₂) Bot s₁') Bot s₁) Bot s)
  (n:Nat) (h:I n s):codeAny (model prog w) A (.compLoop (.ListComp elt [⟨t1,i1,[],0⟩,⟨t2,i2,ifs,0⟩] scope pos) 0 it acc env) R s:=by
 refine codeAny_loop rfl I (fun n s hI=>?_) n h
 show wpAny _ A ((compTurn (.ListComp elt [⟨t1,i1,[],0⟩,⟨t2,i2,ifs,0⟩] scope pos) 0 it acc env).onRaise (fun x=>do noteFrame x env;theTreesLotGoes x)) _ _ s
 refine wpAny_noted ?_
 rw [uG]
 refine wpAny_bind (wpAny_standAt (wpAny_bind (wpAny_mono (turn n s hI) (fun r s₁ h₁=>?_) fun _ _ x=>x.elim)))
 cases r with
 | none=>exact wpAny_pure h₁
 | some v=>
  refine wpAny_bind (wpAny_mono h₁ (fun _ s₁' h₁'=>?_) fun _ _ x=>x.elim)
  refine wpAny_bind (wpAny_mono h₁' (fun _ s₂ h₂=>wpAny_bind (wpAny_pure ?_)) fun _ _ x=>x.elim)
  refine wpAny_bind (wpAny_mono h₂ (fun x s₃ h₃=>wpAny_bind (wpAny_standAt (wpAny_bind (wpAny_of_eq (hs x) (wpAny_bind (wpAny_holding (wpAny_mono h₃ (fun it2 s₄ h₄=>?_) fun _ _ x=>x.elim))))))) fun _ _ x=>x.elim)
  refine wpAny_bind (wpAny_runOwn (h:=none) (codeAny_mono h₄ fun r s₅ h₅=>?_))
  walk_at "u"; obtain ⟨eq0,h₅⟩:=h₅;walk_at "v"
  subst eq0
  exact wpAny_pure ⟨rfl,h₅⟩
theorem uH {R:Result→Shared→Prop} {A:Around} {s:Shared} {elt t1 i1 t2 i2:Expr} {ifs:List Expr} {scope:Scope} {pos:Pos} {it acc:Value} {env:Env} {prog:Program} {w:World}
  (h0:codeAny (model prog w) A (.compLoop (.ListComp elt [⟨t1,i1,[],0⟩,⟨t2,i2,ifs,0⟩] scope pos) 1 it acc env) R s)
  (h:wpAny (model prog w) A (pyIter it) (fun it' s'=>codeAny (model prog w) A (.compLoop (.ListComp elt [⟨t1,i1,[],0⟩,⟨t2,i2,ifs,0⟩] scope pos) 1 it' acc env) R s') Bot s):
  codeAny (model prog w) A (.compStart (.ListComp elt [⟨t1,i1,[],0⟩,⟨t2,i2,ifs,0⟩] scope pos) 1 it acc env) R s:=by
 refine codeAny_of_tree ?_
 show wpAny _ _ ((compStart (.ListComp elt [⟨t1,i1,[],0⟩,⟨t2,i2,ifs,0⟩] scope pos) 1 it acc env).onRaise (fun x=>do noteFrame x env;standAt theWindowsPlace)) _ _ s
 refine wpAny_notedAt ?_
 unfold compStart
 show wpAny _ _ (ask >>= _) _ _ s
 refine wpAny_bind (wpAny_askSetting (wpAny_ite ?_))
 split
 ·exact wpAny_bind (wpAny_pure (wpAny_pure (And.intro rfl h0)))
 ·refine wpAny_bind (wpAny_rule ?_)
  show wpAny _ _ (standAt i2.pos >>= _) _ _ s
  exact wpAny_bind (wpAny_standAt (wpAny_bind (wpAny_mono h (fun it' s' h'=>wpAny_pure (And.intro rfl h')) fun _ _ x=>x.elim)))
end
structure j6 (L:Addr) (σ:ij) (h:Heap) (σ':ij) (h':Heap):Prop where
 keep:∀ a o,a≠L→h.get? a=some o→σ a=none→a∉C.tabs→h'.get? a=some o
 free:∀ a o,a≠L→h.get? a=some o→σ a=none→a∉C.tabs→σ' a=none
 cell:∀ c v,σ c=some (.cell v)→∃ v',σ' c=some (.cell v')
section
variable {K:Kx} {ρ:Fm} {σ:ij} {d:Nat} {Q:V→ij→Prop} {L:Addr}
theorem j6.of {σ':ij} {h h':Heap} (x:Ext σ h σ' h'):j6 L σ h σ' h':=⟨fun a o _ e hs ht=>x.keep a o e hs ht,fun a o _ e hs ht=>x.free a o e hs ht,x.cell⟩
theorem j6.trans {σ₁ σ₂:ij} {h h₁ h₂:Heap} (x:j6 L σ h σ₁ h₁) (y:j6 L σ₁ h₁ σ₂ h₂):j6 L σ h σ₂ h₂:=
 ⟨fun a o n e hs ht=>y.keep a o n (x.keep a o n e hs ht) (x.free a o n e hs ht) ht,fun a o n e hs ht=>y.free a o n (x.keep a o n e hs ht) (x.free a o n e hs ht) ht,fun c v e=>(x.cell c v e).elim fun _ e'=>y.cell c _ e'⟩
theorem j6.loc {h h':Heap} (x:oX L σ h h'):j6 L σ h σ h':=⟨fun a o n e _ _=>x.keep a o n e,fun a o _ _ hs _=>hs,fun c v e=>⟨v,e⟩⟩
theorem j6.but {σ':ij} {h h₁ h₂:Heap} {a:Addr} (e:j6 L σ h σ' h₁) (k:∀ b o,b≠a→h₁.get? b=some o→h₂.get? b=some o) (hn:h.get? a=none):j6 L σ h σ' h₂:=
 ⟨fun b o n g hs ht=>k b o (fun q=>by rw [q,hn] at g;cases g) (e.keep b o n g hs ht),e.free,e.cell⟩
theorem j6.acc {σ₁ σ₂ σ₅:ij} {h₁ h' h'':Heap} {D:Addr} {acc acc':List V} (E:Ext σ₁ h₁ σ₂ h') (F:j6 L (io σ₂ D acc) h' (io σ₅ D acc') h'') (hD:h₁.get? D=none) (hL:h₁.get? L=none) (h2:σ₂ D=none) (h5:σ₅ D=none):Ext σ₁ h₁ σ₅ h'':=by
 have ne:∀ a o,h₁.get? a=some o→a≠D:=fun a o e q=>by rw [q,hD] at e;cases e
 have nl:∀ a o,h₁.get? a=some o→a≠L:=fun a o e q=>by rw [q,hL] at e;cases e
 refine ⟨fun a o e hs ht=>F.keep a o (nl a o e) (E.keep a o e hs ht) ((iO (ne a o e)).trans (E.free a o e hs ht)) ht,fun a o e hs ht=>?_,fun c v e=>?_⟩
 ·have:=F.free a o (nl a o e) (E.keep a o e hs ht) ((iO (ne a o e)).trans (E.free a o e hs ht)) ht
  rwa [iO (ne a o e)] at this
 ·refine bc fun hbc=>?_
  obtain ⟨v',e'⟩:=E.cell c v e
  have hc:c≠D:=fun q=>by rw [q,h2] at e';cases e'
  obtain ⟨v'',e''⟩:=F.cell c v' ((iO hc).trans e')
  refine hbc ?_
  clear hbc
  exact ⟨v'',by rwa [iO hc] at e''⟩
theorem Itr.keepX {σ':ij} {h h':Heap} {it:Addr} {r:List V} (x:Itr σ h it r) (hL:it≠L) (e:j6 L σ h σ' h') (hq:iW σ h σ' h'):Itr σ' h' it r:=by
 walk_at "u"; obtain ⟨o,vs,g,d,_⟩:=x.st.obj;walk_at "v"
 exact ⟨x.st.mono (fun o' g'=>e.keep it o' hL g' x.un x.nt) hq,e.free it o hL g x.un x.nt,x.lo,x.nt⟩
theorem j6.seq {env:Env} {h h':Heap} {σ':ij} (hr:Rep K env ρ σ h) (x:j6 env.locals σ h σ' h'):iW σ h σ' h':=
 ⟨fun a o e f hs ht=>x.keep a o (fun q=>lh.notFixed hr hs e f (.inl q)) e hs ht,fun a o e f hs ht=>x.free a o (fun q=>lh.notFixed hr hs e f (.inl q)) e hs ht⟩
noncomputable def tj (K:Kx) (caps:Fm) (target elt:Expr) (ifs:List Expr) (J:List V→List V→ij→Prop):Prop:=
 ∀ x r acc σ₂ D,J (x :: r) acc σ₂→σ₂ D=none→∃ fr,kN K target x fr∧(∀ p∈caps,∀ q∈fr,p.1≠q.1)∧
    lF K (fr++caps) ifs (io σ₂ D acc) (fun ok σ₃=>if ok=true then EvP K (fr++caps) σ₃ elt (fun v σ₄=>acc.length < 2 ^ 24∧∃ σ₅,σ₄=io σ₅ D acc∧σ₅ D=none∧J r (acc++[v]) σ₅)
     else ∃ σ₅,σ₃=io σ₅ D acc∧σ₅ D=none∧J r acc σ₅)
inductive EL (K:Kx) (env:Env) (caps:Fm) (J:List V→List V→ij→Prop) (D it:Addr) (σ:ij) (h₁:Heap) (n:Nat) (s':Shared):Prop
 | mk (r acc:List V) (σ₂:ij) (e:n=r.length) (hJ:J r acc σ₂) (hd:σ₂ D=none) (hI:Itr (io σ₂ D acc) s'.heap it r) (hr:Rep K env caps (io σ₂ D acc) s'.heap) (hi:Inv (io σ₂ D acc) s') (E:j6 env.locals σ h₁ (io σ₂ D acc) s'.heap)
theorem wq {elt t1 i1 t2 i2:Expr} {ifs:List Expr} {scope:Scope} {pos:Pos} {caps:Fm} {A:Around} {env:Env} {s₁:Shared} {D:Addr} {acc₀:List V} (ha:AOk K.d A) (hr₁:Rep K env caps (io σ D acc₀) s₁.heap) (i₁:Inv (io σ D acc₀) s₁) (hd₀:σ D=none)
  {items:List V} {pv:V} {v:Value} (hit:iM pv items) (r₁:Rel (io σ D acc₀) s₁.heap v pv) (J:List V→List V→ij→Prop) (hJ:J items acc₀ σ) (turn:tj K caps t2 elt ifs J) {QM:Result→Shared→Prop}
  (fin:∀ acc σ₂ s',J [] acc σ₂→σ₂ D=none→Inv (io σ₂ D acc) s'→Rep K env caps (io σ₂ D acc) s'.heap→j6 env.locals (io σ D acc₀) s₁.heap (io σ₂ D acc) s'.heap→QM (.ok .next) s'):
  wpAny (model C.prog C.w) A (pyIter v) (fun it s₄=>codeAny (model C.prog C.w) A (.compStart (.ListComp elt [⟨t1,i1,[],0⟩,⟨t2,i2,ifs,0⟩] scope pos) 1 it (.ref D) env) QM s₄) Bot s₁:=by
 refine nH hit r₁ i₁ ha fun it h₂ fr₂ g₂ hI=>?_
 have i₂:Inv (io σ D acc₀) { s₁ with heap:=h₂ }:=i₁.grow (s':={ s₁ with heap:=h₂ }) g₂ rfl rfl
 have hr₂:Rep K env caps (io σ D acc₀) h₂:=hr₁.mono (Ext.grow g₂)
 have hitL:it≠env.locals:=fun q=>by obtain ⟨m,o,_,_,e,_⟩:=hr₁.loc;rw [← q,fr₂] at e;cases e
 have loop:codeAny (model C.prog C.w) A (.compLoop (.ListComp elt [⟨t1,i1,[],0⟩,⟨t2,i2,ifs,0⟩] scope pos) 1 (.ref it) (.ref D) env) QM { s₁ with heap:=h₂ }:=by
  refine vD (EL K env caps J D it (io σ D acc₀) s₁.heap) ?_ items.length ⟨items,acc₀,σ,rfl,hJ,hd₀,hI,hr₂,i₂,.of (Ext.grow g₂)⟩
  intro n s' hJ2
  walk_at "u"; obtain ⟨r,acc,σ₂,eq0,hJ,hd,hI,hrc,hi',hE⟩:=hJ2;walk_at "v"
  subst eq0
  refine k8 hI ha (fun e h'' k=>?_) (fun x r' e v h'' tk k rv hI'=>?_)
  ·subst e
   have nd:=hI.nd
   exact fin acc σ₂ { s' with heap:=h'' } hJ hd (hi'.poke (s':={ s' with heap:=h'' }) k rfl rfl) (hrc.poke k nd) (hE.but k.keep fr₂)
  ·subst e
   have nd:=hI.nd
   have hrc':=hrc.poke k nd
   have hi'':=hi'.poke (s':={ s' with heap:=h'',toks:=tk }) k rfl rfl
   have hE':=hE.but k.keep fr₂
   walk_at "u"; obtain ⟨fr,ht,hdis,body⟩:=turn x r' acc σ₂ D hJ hd;walk_at "v"
   refine oi (s:={ s' with heap:=h'',toks:=tk }) hI'.st ?_
   refine nU (s:={ s' with heap:=h'',toks:=tk }) (d:=K.d) ht ha hdis hrc' hi'' rv fun s₂ hrc₂ hi₂ eL=>?_
   have hE₂:=hE'.trans (j6.loc eL)
   have hI₂:Itr (io σ₂ D acc) s₂.heap it r':=hI'.keepX hitL (j6.loc eL) (eL.seq hrc')
   refine Ah (K:=K) ha body hrc₂ hi₂ fun ok σ₃ s₃ q₃ i₃ e₃=>?_
   cases ok with
   | false=>
    walk_at "u"; obtain ⟨σ₅,eq0,h5,hJ'⟩:=q₃;walk_at "v"
    subst eq0
    exact ⟨r'.length,by simp,r',acc,σ₅,rfl,hJ',h5,hI₂.keep hrc₂ e₃.toF,(hrc₂.mono e₃).sub (fun p hp=>bz _ hp),i₃,hE₂.trans (.of e₃)⟩
   | true=>
    refine q₃ A env s₃ ha (hrc₂.mono e₃) i₃ _ fun v pv σ₄ s₄ q₄ i₄ e₄ r₄=>?_
    walk_at "u"; obtain ⟨hlen,σ₅,eq0,h5,hJ'⟩:=q₄;walk_at "v"
    subst eq0
    refine bi_append (d:=K.d) (Q:=fun v σ'=>σ'=io σ₅ D (acc++[pv])) i8 hlen kf A s₄ _ _ ha i₄ (.raw _) (.cons (.loc D) (.cons r₄ .nil)) _ fun v' pv' σ₆ s₆ q₆ i₆ e₆ r₆=>?_
    subst q₆
    have EE:=(e₃.trans e₄).trans e₆
    exact ⟨r'.length,by simp,r',acc++[pv],σ₅,rfl,hJ',h5,hI₂.keep hrc₂ EE.toF,(hrc₂.mono EE).sub (fun p hp=>bz _ hp),i₆,hE₂.trans (.of EE)⟩
 exact uH loop (rk (s:={ s₁ with heap:=h₂ }) hI.st loop)
end
section
variable {K:Kx} {ρ:Fm} {σ:ij} {d:Nat} {Q:V→ij→Prop}
noncomputable def lj (K:Kx) (caps:Fm) (t1 i2 t2 elt:Expr) (ifs:List Expr) (J:List V→List V→ij→Prop):Prop:=
 ∀ x r acc σ₂ D,J (x :: r) acc σ₂→σ₂ D=none→∃ fr,kN K t1 x fr∧(∀ p∈caps,∀ q∈fr,p.1≠q.1)∧
  EvP K (fr++caps) (io σ₂ D acc) i2 (fun v σ₃=>σ₃=io σ₂ D acc∧∃ items,iM v items∧∃ J2:List V→List V→ij→Prop,J2 items acc σ₂∧tj K (fr++caps) t2 elt ifs J2∧∀ acc' σ₆,J2 [] acc' σ₆→J r acc' σ₆)
theorem wN {elt t1 i1 t2 i2:Expr} {ifs:List Expr} {scope:Scope} {pos:Pos} (caps:Fm) (ok:jp K ρ scope caps) {A:Around} {env:Env} {s₁:Shared} (ha:AOk K.d A) (hr₁:Rep K env ρ σ s₁.heap) (i₁:Inv σ s₁)
  {items:List V} {pv:V} {v:Value} (hit:iM pv items) (r₁:Rel σ s₁.heap v pv) (J:List V→List V→ij→Prop) (hJ:J items [] σ) (turn:lj (KxC K scope) caps t1 i2 t2 elt ifs J) {RR:Value→Addr→Result→Shared→Prop}
  (hs:∀ env x,foldedSetIterable i2 env x=pure x)
  (fin:∀ D L acc σ₂ s',J [] acc σ₂→σ₂ D=none→Inv (io σ₂ D acc) s'→Rep (KxC K scope) (jw env scope L) caps (io σ₂ D acc) s'.heap→Ext σ s₁.heap σ₂ s'.heap→s₁.heap.get? L=none→D≠L→C.h1.objs.size≤D→RR (.ref D) L (.ok .next) s'):
  wpAny (model C.prog C.w) A (pyIter v) (fun it s₂=>wpAny (model C.prog C.w) A (newList []) (fun acc s₃=>wpAny (model C.prog C.w) A (newFunctionEnv scope env.globals (closL env.cells scope.names []) [] env.qual none .none (some env)) (fun cenv s₄=>
   codeAny (model C.prog C.w) A (.compStart (.ListComp elt [⟨t1,i1,[],0⟩,⟨t2,i2,ifs,0⟩] scope pos) 0 it acc { cenv with scope:=relabel scope env }) (RR acc cenv.locals) s₄) Bot s₃) Bot s₂) Bot s₁:=by
 refine rG caps ok ha hr₁ i₁ hit r₁ fun D L it s' S=>?_
 refine uI (DD (KxC K scope) (jw env scope L) caps J D it σ s₁.heap) (hs _) ?_ items.length ⟨items,[],σ,rfl,hJ,S.sD,S.itr,S.rep,S.inv,S.ext⟩
 have n1:=S.gD
 have n2:=S.gL
 have fr₂:=S.gI
 have hitC:=S.nIL
 have hDC:=S.nDL
 have hDlo:=S.lo
 clear S
 intro n s' hJ2
 walk_at "u"; obtain ⟨r,acc,σ₂,eq0,hJ,hd,hI,hrc,hi',hE⟩:=hJ2;walk_at "v"
 subst eq0
 refine k8 hI ha (fun e h'' k=>?_) (fun x r' e v h'' tk k rv hI'=>?_)
 ·subst e
  have nd:=hI.nd
  exact fin D L acc σ₂ { s' with heap:=h'' } hJ hd (hi'.poke (s':={ s' with heap:=h'' }) k rfl rfl) (hrc.poke k nd) (hE.but k.keep fr₂) n2 hDC hDlo
 ·subst e
  have nd:=hI.nd
  have hrc':=hrc.poke k nd
  have hi'':=hi'.poke (s':={ s' with heap:=h'',toks:=tk }) k rfl rfl
  have hE':=hE.but k.keep fr₂
  walk_at "u"; obtain ⟨fr,ht,hdis,body⟩:=turn x r' acc σ₂ D hJ hd;walk_at "v"
  refine oi (s:={ s' with heap:=h'',toks:=tk }) hI'.st ?_
  refine nU (s:={ s' with heap:=h'',toks:=tk }) (d:=K.d) ht ha hdis hrc' hi'' rv fun s₂ hrc₂ hi₂ eL=>?_
  have hE₂:Ext σ s₁.heap σ₂ s₂.heap:=hE'.but eL.keep n2
  have hI₂:Itr (io σ₂ D acc) s₂.heap it r':=hI'.keepX hitC (j6.loc eL) (eL.seq hrc')
  refine body A (jw env scope L) s₂ ha hrc₂ hi₂ _ fun v pv σ₃ s₃ q₃ i₃ e₃ r₃=>?_
  walk_at "u"; obtain ⟨eq0,its2,hit2,J2,hJ2,turn2,done2⟩:=q₃;walk_at "v"
  subst eq0
  have hrc₃:=hrc₂.mono e₃
  have hI₃:=hI₂.keep hrc₂ e₃.toF
  refine wq (K:=KxC K scope) ha hrc₃ i₃ hd hit2 r₃ J2 hJ2 turn2 fun acc' σ₆ s₆ q₆ h6 i₆ r₆ e₆=>?_
  have F:=(j6.of (L:=L) e₃).trans e₆
  exact ⟨rfl,r'.length,by simp,r',acc',σ₆,rfl,done2 _ _ q₆,h6,hI₃.keepX hitC e₆ (j6.seq hrc₃ e₆),r₆.sub (fun p hp=>bz _ hp),i₆,j6.acc hE₂ F n1 n2 hd h6⟩
theorem Dj {elt t1 i1 t2 i2:Expr} {ifs:List Expr} {scope:Scope} {pos:Pos} (caps:Fm) (ok:jp K ρ scope caps) (hs:∀ env x,foldedSetIterable i2 env x=pure x) {pv:V} {P:List V→ij→Prop}
  (h:∃ items,iM pv items∧∃ J:List V→List V→ij→Prop,J items [] σ∧lj (KxC K scope) caps t1 i2 t2 elt ifs J∧∀ acc σ₂,J [] acc σ₂→P acc σ₂):A9 K ρ (.ListComp elt [⟨t1,i1,[],0⟩,⟨t2,i2,ifs,0⟩] scope pos) scope σ pv P:=
 h.elim fun _ h=>h.2.elim fun J h2 _ _ _ _ ha hr hi r _ fin=>wN caps ok ha hr hi h.1 r J h2.1 h2.2.1 hs fun D L acc σ₂ s' hJ hd hi' hrc hE n2 hDC hDlo=>fin D L acc σ₂ s' (h2.2.2 acc σ₂ hJ) ⟨hd,hi',⟨_,_,_,rfl,hrc⟩,hE,n2,hDC,hDlo⟩
theorem AC {elt t1 i1 t2 i2:Expr} {ifs:List Expr} {scope:Scope} {pos:Pos} (caps:Fm) (ok:jp K ρ scope caps)
  (h:EvP K ρ σ i1 (fun v σ₁=>∃ items,iM v items∧∃ J:List V→List V→ij→Prop,J items [] σ₁∧lj (KxC K scope) caps t1 i2 t2 elt ifs J∧(∀ acc σ₂,J [] acc σ₂→Q (.lst acc) σ₂)))
  (hs:autoParam (∀ env x,foldedSetIterable i1 env x=pure x) aI) (hs2:autoParam (∀ env x,foldedSetIterable i2 env x=pure x) aI):EvP K ρ σ (.ListComp elt [⟨t1,i1,[],0⟩,⟨t2,i2,ifs,0⟩] scope pos) Q:=wD ok.kind ok.names ok.free (h.mono fun _ _=>Dj caps ok hs2) hs
theorem pq {y:Str} {elt t1 i1 t2 i2:Expr} {ifs:List Expr} {scope:Scope} {pos py spos:Pos} {Q:Fl→Fm→ij→Prop} (caps:Fm) (ok:jp K ρ scope caps) (hy:K.names.lookup y=some .local)
  (h:EvP K ρ σ i1 (fun v σ₁=>∃ items,iM v items∧∃ J:List V→List V→ij→Prop,J items [] σ₁∧lj (KxC K scope) caps t1 i2 t2 elt ifs J∧(∀ acc σ₂,J [] acc σ₂→∃ ρ',Upd ρ y (.val (.lst acc)) ρ'∧Q .next ρ' σ₂)))
  (hline:autoParam ((py.line == pos.line)=true) aR) (hnot:autoParam ((scope.names.any fun (n,k)=>n == y && (k == .local || k == .cell))=false) aK)
  (hs:autoParam (∀ env x,foldedSetIterable i1 env x=pure x) aI) (hs2:autoParam (∀ env x,foldedSetIterable i2 env x=pure x) aI):StP K ρ σ (.Assign [.Name y py] (.ListComp elt [⟨t1,i1,[],0⟩,⟨t2,i2,ifs,0⟩] scope pos) spos) Q:=vZ ok.kind ok.names ok.free hy (h.mono fun _ _=>Dj caps ok hs2) hline hnot hs
end
section
variable {K:Kx} {ρ:Fm} {σ:ij} {d:Nat} {Q:V→ij→Prop}
theorem CF {α β:Type} (ys:α→List β) (pr:α→β→Bool) (el:α→β→V):∀ l:List α,(l.flatMap fun x=>((ys x).filter (pr x)).map (el x)).length≤(l.flatMap ys).length:=by
 intro l
 induction l with
 | nil=>exact av _
 | cons a l ih=>
  rw [ch,ch,af,af,ag]
  exact aX (bW _ _) ih
theorem CE {α β:Type} {xs a b:List α} {x:α} {c e:List β} {y:β} (ys:α→List β) (pr:α→β→Bool) (el:α→β→V) (h:a++x :: b=xs) (h2:c++y :: e=ys x):
  ((a.flatMap fun x=>((ys x).filter (pr x)).map (el x))++(c.filter (pr x)).map (el x)).length < (xs.flatMap ys).length:=by
 have h3:=CF ys pr el a
 have h4:=wB (pr x) (el x) c
 have h5:=wp h2
 rw [← h,bP,ch,af,af,af]
 exact an (Nat.add_lt_add_of_le_of_lt h3 (ae h4 h5)) (bF (aM _ _) _)
theorem Dl {α β:Type} {caps:Fm} {t1 i2 t2 elt:Expr} {ifs:List Expr} (xs:List α) (f:α→V) (fr:α→Fm) (ys:α→List β) (g:β→V) (fr2:β→Fm) (pr:α→β→Bool) (el:α→β→V) (hlen:(xs.flatMap ys).length < 2 ^ 24)
  (h:∀ x∈xs,kN K t1 (f x) (fr x)∧(caps.all fun p=>(fr x).all fun q=>p.1 != q.1)=true∧(∀ D acc,σ D=none→EvP K (fr x++caps) (io σ D acc) i2 (fun v σ'=>σ'=io σ D acc∧iM v ((ys x).map g)))∧
   ∀ y∈ys x,kN K t2 (g y) (fr2 y)∧((fr x++caps).all fun p=>(fr2 y).all fun q=>p.1 != q.1)=true∧∀ D acc,σ D=none→lF K (fr2 y++(fr x++caps)) ifs (io σ D acc) (fun ok σ₃=>σ₃=io σ D acc∧ok=pr x y∧(pr x y=true→EvP K (fr2 y++(fr x++caps)) (io σ D acc) elt (fun v σ₄=>v=el x y∧σ₄=io σ D acc)))):
  ∃ J:List V→List V→ij→Prop,J (xs.map f) [] σ∧lj K caps t1 i2 t2 elt ifs J∧∀ acc σ₂,J [] acc σ₂→acc=xs.flatMap (fun x=>((ys x).filter (pr x)).map (el x))∧σ₂=σ:=
 ⟨JX xs f (fun a=>a.flatMap fun x=>((ys x).filter (pr x)).map (el x)) σ,Cu rfl,pU fun a x b hab D hD=>
  ⟨fr x,(h x (jS hab)).1,oM (h x (jS hab)).2.1,((h x (jS hab)).2.2.1 D _ hD).mono fun v σ₃ q=>⟨q.1,_,q.2,JX (ys x) g (fun c=>(a.flatMap fun x=>((ys x).filter (pr x)).map (el x))++(c.filter (pr x)).map (el x)) σ,Cu (aE _),
   pU fun c y e hce D' hD'=>
    ⟨fr2 y,((h x (jS hab)).2.2.2 y (jS hce)).1,oM ((h x (jS hab)).2.2.2 y (jS hce)).2.1,zd (J:=fun acc' σ'=>JX (ys x) g (fun c=>(a.flatMap fun x=>((ys x).filter (pr x)).map (el x))++(c.filter (pr x)).map (el x)) σ (e.map g) acc' σ') (pr x y) (el x y) hD' (cz (CE ys pr el hab hce) hlen) (((h x (jS hab)).2.2.2 y (jS hce)).2.2 D' _ hD')
     (pV hce (by rw [wC,ay]))⟩,
   fun acc' σ₆ hJ=>by obtain ⟨rfl,rfl⟩:=uw hJ;exact pV hab (by rw [bP,ch,fb,aE])⟩⟩,
  fun acc σ₂=>uw⟩
theorem yR {α β:Type} {elt t1 i1 t2 i2:Expr} {ifs:List Expr} {scope:Scope} {pos:Pos} (caps:Fm) (ok:jp K ρ scope caps) (f:α→V) (fr:α→Fm) (ys:α→List β) (g:β→V) (fr2:β→Fm) (pr:α→β→Bool) (el:α→β→V)
  (h:EvP K ρ σ i1 (fun v σ₁=>∃ xs:List α,iM v (xs.map f)∧(xs.flatMap ys).length < 2 ^ 24∧(∀ x∈xs,kN (KxC K scope) t1 (f x) (fr x)∧(caps.all fun p=>(fr x).all fun q=>p.1 != q.1)=true∧(∀ D acc,σ₁ D=none→EvP (KxC K scope) (fr x++caps) (io σ₁ D acc) i2 (fun v σ'=>σ'=io σ₁ D acc∧iM v ((ys x).map g)))∧
   ∀ y∈ys x,kN (KxC K scope) t2 (g y) (fr2 y)∧((fr x++caps).all fun p=>(fr2 y).all fun q=>p.1 != q.1)=true∧∀ D acc,σ₁ D=none→lF (KxC K scope) (fr2 y++(fr x++caps)) ifs (io σ₁ D acc) (fun ok σ₃=>σ₃=io σ₁ D acc∧ok=pr x y∧(pr x y=true→EvP (KxC K scope) (fr2 y++(fr x++caps)) (io σ₁ D acc) elt (fun v σ₄=>v=el x y∧σ₄=io σ₁ D acc))))∧Q (.lst (xs.flatMap fun x=>((ys x).filter (pr x)).map (el x))) σ₁))
  (hs:autoParam (∀ env x,foldedSetIterable i1 env x=pure x) aI) (hs2:autoParam (∀ env x,foldedSetIterable i2 env x=pure x) aI):EvP K ρ σ (.ListComp elt [⟨t1,i1,[],0⟩,⟨t2,i2,ifs,0⟩] scope pos) Q:=by
 refine AC caps ok (h.mono fun v σ₁ hh=>?_) hs hs2
 refine bc fun hbc=>?_
 obtain ⟨xs,hit,hlen,he,hQ⟩:=hh
 obtain ⟨J,h0,ht,hd⟩:=Dl xs f fr ys g fr2 pr el hlen he
 refine hbc ?_
 clear hbc
 exact ⟨_,hit,J,h0,ht,fun acc σ₂ hJ=>by obtain ⟨rfl,rfl⟩:=hd acc σ₂ hJ;exact hQ⟩
theorem og {α β:Type} {z:Str} {elt t1 i1 t2 i2:Expr} {ifs:List Expr} {scope:Scope} {pos py spos:Pos} {Q:Fl→Fm→ij→Prop} (caps:Fm) (ok:jp K ρ scope caps) (hy:K.names.lookup z=some .local) (f:α→V) (fr:α→Fm) (ys:α→List β) (g:β→V) (fr2:β→Fm) (pr:α→β→Bool) (el:α→β→V)
  (h:EvP K ρ σ i1 (fun v σ₁=>∃ xs:List α,iM v (xs.map f)∧(xs.flatMap ys).length < 2 ^ 24∧(∀ x∈xs,kN (KxC K scope) t1 (f x) (fr x)∧(caps.all fun p=>(fr x).all fun q=>p.1 != q.1)=true∧(∀ D acc,σ₁ D=none→EvP (KxC K scope) (fr x++caps) (io σ₁ D acc) i2 (fun v σ'=>σ'=io σ₁ D acc∧iM v ((ys x).map g)))∧
   ∀ y∈ys x,kN (KxC K scope) t2 (g y) (fr2 y)∧((fr x++caps).all fun p=>(fr2 y).all fun q=>p.1 != q.1)=true∧∀ D acc,σ₁ D=none→lF (KxC K scope) (fr2 y++(fr x++caps)) ifs (io σ₁ D acc) (fun ok σ₃=>σ₃=io σ₁ D acc∧ok=pr x y∧(pr x y=true→EvP (KxC K scope) (fr2 y++(fr x++caps)) (io σ₁ D acc) elt (fun v σ₄=>v=el x y∧σ₄=io σ₁ D acc))))∧(∃ ρ',Upd ρ z (.val (.lst (xs.flatMap fun x=>((ys x).filter (pr x)).map (el x)))) ρ'∧Q .next ρ' σ₁)))
  (hline:autoParam ((py.line == pos.line)=true) aR) (hnot:autoParam ((scope.names.any fun (n,k)=>n == z && (k == .local || k == .cell))=false) aK)
  (hs:autoParam (∀ env x,foldedSetIterable i1 env x=pure x) aI) (hs2:autoParam (∀ env x,foldedSetIterable i2 env x=pure x) aI):StP K ρ σ (.Assign [.Name z py] (.ListComp elt [⟨t1,i1,[],0⟩,⟨t2,i2,ifs,0⟩] scope pos) spos) Q:=by
 refine pq caps ok hy (h.mono fun v σ₁ hh=>?_) hline hnot hs hs2
 refine bc fun hbc=>?_
 obtain ⟨xs,hit,hlen,he,hQ⟩:=hh
 obtain ⟨J,h0,ht,hd⟩:=Dl xs f fr ys g fr2 pr el hlen he
 refine hbc ?_
 clear hbc
 exact ⟨_,hit,J,h0,ht,fun acc σ₂ hJ=>by obtain ⟨rfl,rfl⟩:=hd acc σ₂ hJ;exact hQ⟩
end
end Internal
end
section
open PySem PySem.W PyProof.Rows PySem.Calls
namespace Internal
theorem zR {M:Model} {A:Around} {E:Value→Shared→Prop} {s:Shared} {scope:Scope} {globals:Addr} {closure:List (Str×Addr)} {qual:Str} {func:Option Addr} {code:Value} {outer:Env} {builtins:Addr} {Q:Env→Shared→Prop} {x:Str}
  (hc:∀ n cl,cellsFrom n scope.names cl=(x,n) :: cl) (hp:∀ h,pushCells h scope.names=h.push { cls:=.type "cell", data:=.cell none })
  (hQ:Q (newEnv scope s.heap.objs.size globals ((x,s.heap.objs.size + 1) :: closure) qual func code (some outer) builtins) { s with heap:=(s.heap.push { cls:=.type "dict", data:=.dict #[] }).push { cls:=.type "cell", data:=.cell none } }):
  wpAny M A (newFunctionEnv scope globals closure [] qual func code (some outer) builtins) Q E s:=by
 simp only [newFunctionEnv,Option.isSome_some,if_true]
 refine wpAny_bind (wpAny_alloc ?_)
 refine wpAny_bind (wpAny_layCells _ (fun name kind cells=>by cases hkc:kind == NameKind.cell<;>simp [hkc]) _ _ _ _ ?_)
 rw [show ({ s with heap:=s.heap.push { cls:=.type "dict", data:=.dict #[] } }:Shared).heap.objs.size=s.heap.objs.size + 1 from Heap.size_push ..,hc,hp]
 exact wpAny_bind (wpAny_pure (wpAny_pure hQ))
section
variable {K:Kx} {ρ:Fm} {σ:ij} {d:Nat} {Q:V→ij→Prop}
theorem yz {x:Str} {ρ':Fm} {v:Value} {pv:V} {A:Around} {env:Env} {s:Shared} {c:Addr} (hk:K.names.lookup x=some .cell) (hcl:env.cells.lookup x=some c) (hsc:σ c=none)
  (hr:Rep K env ρ σ s.heap) (hi:Inv σ s) (hv:Rel σ s.heap v pv) (hu:Upd ρ x (.val pv) ρ') {QM:Unit→Shared→Prop}
  (hq:∀ s',Rep K env ρ' σ s'.heap→Inv σ s'→oX c σ s.heap s'.heap→iW σ s.heap σ s'.heap→QM () s'):wpAny (model C.prog C.w) A (storeName env x v) QM Bot s:=by
 refine bc fun hbc=>?_
 obtain ⟨m,hm⟩:=hr.loc
 obtain ⟨h1,h2,h3,h4,h5⟩:=hr.cells x c hcl
 obtain ⟨v₀,hv₀⟩:=h4 hsc
 refine hbc ?_
 clear hbc
 refine wpAny_storeName_cell hr.kind ((congrArg (·.lookup x) hr.names).trans hk) hcl hv₀ (fun h' hn hs=>?_)
 have k:ji σ c s.heap h':=⟨fun b o hb e=>(hs.2 b hb).trans e,fun o e=>⟨hsc,h2,by
  walk_at "u"; obtain ⟨o',e',d⟩:=hv₀;walk_at "v"
  have:=e.symm.trans e'
  obtain rfl:=aq this
  exact ⟨fun q=>(by rcases q with ⟨_,_,q⟩ | ⟨_,_,q⟩<;>exact (jW (d.symm.trans q) rfl).elim),fun vs q=>(jW (d.symm.trans q) rfl).elim⟩⟩⟩
 have hns:∀ m,s.heap.Ns env.locals m→h'.Ns env.locals m:=fun m y=>nC y fun _ e=>(hs.2 _ h1).trans e
 have hce:∀ c' v,c'≠c→s.heap.IsCell c' v→h'.IsCell c' v:=fun c v hne y=>oS y fun _ e=>(hs.2 _ hne).trans e
 refine hq _ ⟨hr.kind,hr.names,hr.glob,hr.blt,hr.qual,hr.code,⟨_,hns m hm⟩,hr.locF,fun y c' hc'=>?_,hr.cinj,fun p hp=>?_⟩ (hi.poke k rfl rfl) ⟨k.keep⟩ k.seq
 ·walk_at "u"; obtain ⟨g1,g2,g3,g4,g5⟩:=hr.cells y c' hc';walk_at "v"
  refine ⟨g1,g2,g3,fun e=>?_,g5⟩
  by_cases hcc:c'=c
  ·subst hcc;exact ⟨_,hn⟩
  ·obtain ⟨v,q⟩:=g4 e;exact ⟨v,hce _ _ hcc q⟩
 ·rcases hu p hp with rfl | ⟨hp,hne⟩
  ·exact .inr ⟨.inl hk,c,v,hcl,hn,hv.mono k.seq,hsc,h3⟩
  ·have hv':=hr.vars p hp
   walk_at "u"; obtain ⟨y,sl⟩:=p;walk_at "v"
   cases sl with
   | val pv'=>
    rcases hv' with ⟨h1,m₀,v',h2,h3,h4⟩ | ⟨h1,c',v',h2,h3,h4,h5,h6⟩
    ·exact .inl ⟨h1,m₀,v',hns m₀ h2,h3,h4.mono k.seq⟩
    ·exact .inr ⟨h1,c',v',h2,hce c' _ (fun q=>hne (hr.cinj y x c' h2 (q ▸ hcl))) h3,h4.mono k.seq,h5,h6⟩
   | sh c'=>exact hv'
   | emp=>obtain ⟨h1,c',h2,⟨v',h3⟩,h5,h6⟩:=hv';exact ⟨h1,c',h2,⟨v',hce c' _ (fun q=>hne (hr.cinj y x c' h2 (q ▸ hcl))) h3⟩,h5,h6⟩
theorem zy {env:Env} {h:Heap} {x:Str} {c:Addr} (hr:Rep K env ρ σ h) (hk:K.names.lookup x=some .cell) (hc:h.IsCell c none) (hL:env.locals≠c) (lo:C.h1.objs.size≤c) (nt:c∉C.tabs) (hs:σ c=none)
  (hn:∀ y c',env.cells.lookup y=some c'→c'≠c) (hx:∀ p∈ρ,p.1≠x) (hz:env.cells.lookup x=none):Rep K { env with cells:=(x,c) :: env.cells } ((x,.emp) :: ρ) σ h:=by
 have l1:∀ y,y≠x→((x,c) :: env.cells).lookup y=env.cells.lookup y:=fun y hy=>by
  rw [aS,show (y == x)=false by simpa using hy]
 have l2:((x,c) :: env.cells).lookup x=some c:=by rw [aS,beq_self_eq_true]
 refine ⟨hr.kind,hr.names,hr.glob,hr.blt,hr.qual,hr.code,hr.loc,hr.locF,fun y c' hc'=>?_,fun y z c' hy hz'=>?_,fun p hp=>?_⟩
 ·by_cases hy:y=x
  ·subst hy
   obtain rfl:=aq (l2.symm.trans hc')
   exact ⟨hL,lo,nt,fun _=>⟨_,hc⟩,fun o q=>(al _ (q.symm.trans hs)).elim⟩
  ·have h:=hr.cells y c' ((l1 y hy).symm.trans hc');exact ⟨h.1,h.2,h.3,h.4,h.5⟩
 ·by_cases h1:y=x<;>by_cases h2:z=x
  ·exact h1.trans h2.symm
  ·subst h1
   obtain rfl:=aq (l2.symm.trans hy)
   exact absurd rfl (hn z _ ((l1 z h2).symm.trans hz'))
  ·subst h2
   obtain rfl:=aq (l2.symm.trans hz')
   exact absurd rfl (hn y _ ((l1 y h1).symm.trans hy))
  ·exact hr.cinj y z c' ((l1 y h1).symm.trans hy) ((l1 z h2).symm.trans hz')
 ·rcases am.mp hp with rfl | hp
  ·exact ⟨hk,c,l2,⟨⟨none,rfl⟩,hc⟩,hs,nt⟩
  ·have hv:=hr.vars p hp
   have hne:=hx p hp
   walk_at "u"; obtain ⟨y,sl⟩:=p;walk_at "v"
   cases sl with
   | val pv=>
    rcases hv with ⟨h1,m,v,h2,h3,h4⟩ | ⟨h1,c',v,h2,h3,h4,h5,h6⟩
    ·exact .inl ⟨h1,m,v,h2,h3,h4⟩
    ·exact .inr ⟨h1,c',v,(l1 y hne).trans h2,h3,h4,h5,h6⟩
   | sh c'=>obtain ⟨h1,h2,h3⟩:=hv;exact ⟨h1,(l1 y hne).trans h2,h3⟩
   | emp=>obtain ⟨h1,c',h2,h3,h5,h6⟩:=hv;exact ⟨h1,c',(l1 y hne).trans h2,h3,h5,h6⟩
structure mA (K:Kx) (ρ:Fm) (scope:Scope) (x:Str) (caps:Fm):Prop where
 kind:scope.kind=.function
 xk:scope.names.lookup x=some .cell
 names:∀ x∈scope.names,x.2=.local→scope.names.lookup x.1=some .local
 free:∀ x∈scope.names,x.2=.free→o8 K ρ x.1
 caps:∀ p∈caps,p∈ρ∧scope.names.lookup p.1=some .free∧p.2≠.emp
 nox:∀ y∈scope.names,y.2=.free→y.1≠x
 cf:∀ n cl,cellsFrom n scope.names cl=(x,n) :: cl
 pc:∀ h,pushCells h scope.names=h.push { cls:=.type "cell", data:=.cell none }
noncomputable def AQ (kn:List (Str×NameKind)) (rn:List Str) (scope:Scope) (x:Str) (cn:List Str):Bool:=
 (scope.kind == .function) && (scope.names.lookup x == some .cell) && scope.names.all (fun x=>x.2 != .local || scope.names.lookup x.1 == some .local) &&
 scope.names.all (fun y=>y.2 != .free || (rn.contains y.1 && kn.lookup y.1 != some .local && y.1 != x)) && cn.all (fun x=>scope.names.lookup x == some .free)
theorem yf {scope:Scope} {x:Str} {caps:Fm} (h:AQ K.names (ρ.map (·.1)) scope x (caps.map (·.1))=true) (hc:Has ρ caps) (he:caps.all (fun p=>p.2.full)=true)
  (cf:∀ n cl,cellsFrom n scope.names cl=(x,n) :: cl) (pc:∀ h,pushCells h scope.names=h.push { cls:=.type "cell", data:=.cell none }):mA K ρ scope x caps:=by
 unfold AQ at h
 simp only [aV,a9,de,bne_iff_ne,beq_iff_eq,a8] at h
 walk_at "u"; obtain ⟨⟨⟨⟨h1,h2⟩,h3⟩,h4⟩,h5⟩:=h;walk_at "v"
 refine ⟨h1,h2,fun x hx e=>?_,fun x hx e=>?_,fun p hp=>⟨hc p hp,h5 _ (c5 hp),fun e=>?_⟩,fun y hy e=>?_,cf,pc⟩
 ·rcases h3 x hx with h | h
  ·exact absurd e h
  ·exact h
 ·rcases h4 x hx with h | ⟨⟨h,h'⟩,_⟩
  ·exact absurd e h
  ·walk_at "u"; obtain ⟨⟨y,sl⟩,hp,eq0⟩:=aA.mp h;walk_at "v"
   subst eq0
   exact ⟨sl,hp,h'⟩
 ·have:=a9.mp he p hp
  rw [e] at this;exact absurd this (by decide)
 ·rcases h4 y hy with h | ⟨_,h⟩
  ·exact absurd e h
  ·exact h
noncomputable def li (K:Kx) (x:Str) (caps:Fm) (elt:Expr) (ifs:List Expr) (J:List V→List V→ij→Prop):Prop:=
 ∀ y r acc σ₂ D,J (y :: r) acc σ₂→σ₂ D=none→
    lF K ((x,.val y) :: caps) ifs (io σ₂ D acc) (fun ok σ₃=>if ok=true then EvP K ((x,.val y) :: caps) σ₃ elt (fun v σ₄=>acc.length < 2 ^ 24∧∃ σ₅,σ₄=io σ₅ D acc∧σ₅ D=none∧J r (acc++[v]) σ₅)
     else ∃ σ₅,σ₃=io σ₅ D acc∧σ₅ D=none∧J r acc σ₅)
noncomputable abbrev rM (env:Env) (scope:Scope) (L:Addr) (x:Str) (c:Addr):Env:={ jw env scope L with cells:=(x,c) :: closL env.cells scope.names [] }
inductive EN (K:Kx) (env:Env) (x:Str) (c:Addr) (caps:Fm) (J:List V→List V→ij→Prop) (D it:Addr) (σ:ij) (h₁:Heap) (n:Nat) (s':Shared):Prop
 | mk (r acc:List V) (σ₂:ij) (sl:Slot) (e:n=r.length) (hJ:J r acc σ₂) (hd:σ₂ D=none) (hI:Itr (io σ₂ D acc) s'.heap it r) (hsl:∀ c,sl≠.sh c) (hc:io σ₂ D acc c=none) (hr:Rep K env ((x,sl) :: caps) (io σ₂ D acc) s'.heap) (hi:Inv (io σ₂ D acc) s') (E:Ext σ h₁ σ₂ s'.heap)
theorem wM {elt iter:Expr} {ifs:List Expr} {scope:Scope} {pos px:Pos} {x:Str} (caps:Fm) (ok:mA K ρ scope x caps) {A:Around} {env:Env} {s₁:Shared} (ha:AOk K.d A) (hr₁:Rep K env ρ σ s₁.heap) (i₁:Inv σ s₁)
  {items:List V} {pv:V} {v:Value} (hit:iM pv items) (r₁:Rel σ s₁.heap v pv) (J:List V→List V→ij→Prop) (hJ:J items [] σ) (turn:li (KxC K scope) x caps elt ifs J) {RR:Value→Addr→Result→Shared→Prop}
  (fin:∀ D L c acc σ₂ s',J [] acc σ₂→σ₂ D=none→Inv (io σ₂ D acc) s'→Rep (KxC K scope) (rM env scope L x c) caps (io σ₂ D acc) s'.heap→Ext σ s₁.heap σ₂ s'.heap→s₁.heap.get? L=none→D≠L→C.h1.objs.size≤D→RR (.ref D) L (.ok .next) s'):
  wpAny (model C.prog C.w) A (pyIter v) (fun it s₂=>wpAny (model C.prog C.w) A (newList []) (fun acc s₃=>wpAny (model C.prog C.w) A (newFunctionEnv scope env.globals (closL env.cells scope.names []) [] env.qual none .none (some env)) (fun cenv s₄=>
   codeAny (model C.prog C.w) A (.compStart (.ListComp elt [⟨.Name x px,iter,ifs,0⟩] scope pos) 0 it acc { cenv with scope:=relabel scope env }) (RR acc cenv.locals) s₄) Bot s₃) Bot s₂) Bot s₁:=by
 walk_at "u"; obtain ⟨hk,hxk,hnames,hfree,hcaps,hnox,hcf,hpc⟩:=ok;walk_at "v"
 have hxK:(KxC K scope).names.lookup x=some .cell:=by
  show (tC K scope.names).lookup x=_
  rw [km,hxk];rfl
 refine nH hit r₁ i₁ ha fun it h₂ fr₂ g₂ hI=>?_
 have i₂:Inv σ { s₁ with heap:=h₂ }:=i₁.grow (s':={ s₁ with heap:=h₂ }) g₂ rfl rfl
 have hr₂:Rep K env ρ σ h₂:=hr₁.mono (Ext.grow g₂)
 refine wpAny_newObj_type (zR hcf hpc ?_)
 dsimp only
 generalize hH3:h₂.push { cls:=.type "list", dict:=none,data:=.seq ([]:List Value).toArray }=H3
 have hD:h₂.get? h₂.objs.size=none:=get?_ge (av _)
 have hC:H3.objs.size=h₂.objs.size + 1:=by rw [← hH3,Heap.size_push]
 have hDC:h₂.objs.size≠H3.objs.size:=by rw [hC];exact ce (bv _)
 have hCn:h₂.get? H3.objs.size=none:=get?_ge (by rw [hC];exact cG _)
 have hcn:h₂.get? (H3.objs.size + 1)=none:=get?_ge (by rw [hC];exact cF (cG _))
 have hns:((H3.push { cls:=.type "dict", data:=.dict #[] }).push { cls:=.type "cell", data:=.cell none }).Ns H3.objs.size fun _=>none:=(Heap.Ns.new H3 (.type "dict")).keeps fun b o e=>Heap.get?_push_of_some _ e
 have hcell:((H3.push { cls:=.type "dict", data:=.dict #[] }).push { cls:=.type "cell", data:=.cell none }).IsCell (H3.objs.size + 1) none:=by
  rw [← Heap.size_push H3 { cls:=.type "dict", data:=.dict #[] }];exact ⟨_,Heap.get?_push_size _ rfl,rfl⟩
 have g₄:∀ b o,h₂.get? b=some o→((H3.push { cls:=.type "dict", data:=.dict #[] }).push { cls:=.type "cell", data:=.cell none }).get? b=some o:=fun b o e=>Heap.get?_push_of_some _ (Heap.get?_push_of_some _ (hH3 ▸ Heap.get?_push_of_some _ e))
 have hDo:((H3.push { cls:=.type "dict", data:=.dict #[] }).push { cls:=.type "cell", data:=.cell none }).get? h₂.objs.size=some (lstO #[] 0):=Heap.get?_push_of_some _ (Heap.get?_push_of_some _ (hH3 ▸ Heap.get?_push_size _ rfl))
 generalize (H3.push { cls:=.type "dict", data:=.dict #[] }).push { cls:=.type "cell", data:=.cell none }=h₄ at *
 walk_at "u"; obtain ⟨i₄,E₄⟩:=i₂.new (s':={ s₁ with heap:=h₄ }) (p:=.list []) hD i₂.size g₄ ⟨#[],0,hDo,.nil⟩ rfl rfl;walk_at "v"
 have hr₄:Rep K env ρ (io σ h₂.objs.size []) h₄:=hr₂.mono E₄
 have hLs:σ H3.objs.size=none:=i₂.off hCn
 have hL:(io σ h₂.objs.size []) H3.objs.size=none:=(ir σ _ (Ne.symm hDC)).trans hLs
 have hlo:C.h1.objs.size≤H3.objs.size:=by rw [hC];exact aa i₂.size (cG _)
 have hcl:(io σ h₂.objs.size []) (H3.objs.size + 1)=none:=(ir σ _ (by rw [hC];lia)).trans (i₂.off hcn)
 have rc0:Rep (KxC K scope) (jw env scope H3.objs.size) caps (io σ h₂.objs.size []) h₄:=
  vB hr₄ hk hfree hcaps hns hL hlo (i₂.notTab hlo) fun x c hc q=>hr₂.cellEx i₂ hc (q ▸ hCn)
 have look:∀ y c,(closL env.cells scope.names []).lookup y=some c→y≠x∧env.cells.lookup y=some c:=fun y c hc=>by
  rcases mx (mem_of_lookup hc) with q | ⟨m,q⟩
  ·cases q
  ·walk_at "u"; obtain ⟨c',hc'⟩:=(hfree _ m rfl).cell hr₂;walk_at "v"
   rw [hc'] at q ⊢;exact ⟨hnox _ m rfl,congrArg some q.symm⟩
 have rc:Rep (KxC K scope) (rM env scope H3.objs.size x (H3.objs.size + 1)) ((x,.emp) :: caps) (io σ h₂.objs.size []) h₄:=
  zy rc0 hxK hcell (ce (bv _)) (cF hlo) (i₂.notTab (cF hlo)) hcl (fun y c' hc' q=>hr₂.cellEx i₂ (look y c' hc').2 (q ▸ hcn))
   (fun p hp e=>by have:=(hcaps p hp).2.1;rw [e,hxk] at this;cases this) (by
    show (closL env.cells scope.names []).lookup x=none
    cases q:(closL env.cells scope.names []).lookup x with
    | none=>rfl
    | some c=>exact absurd rfl (look x c q).1)
 have hitD:it≠h₂.objs.size:=fun q=>by obtain ⟨o,_,e,_⟩:=hI.st.obj;rw [q,hD] at e;cases e
 have hitC:it≠H3.objs.size:=fun q=>by obtain ⟨o,_,e,_⟩:=hI.st.obj;rw [q,hCn] at e;cases e
 have hitc:it≠H3.objs.size + 1:=fun q=>by obtain ⟨o,_,e,_⟩:=hI.st.obj;rw [q,hcn] at e;cases e
 have hI₄:Itr (io σ h₂.objs.size []) h₄ it items:=⟨hI.st.mono (fun o e=>g₄ it o e) E₄.seq,(ir σ _ hitD).trans hI.un,hI.lo,hI.nt⟩
 have nn:∀ a,h₂.get? a=none→s₁.heap.get? a=none:=fun a ha=>by
  cases q:s₁.heap.get? a with
  | none=>rfl
  | some o=>have:=g₂ a o q;rw [ha] at this;cases this
 have n1:=nn _ hD
 have n2:=nn _ hCn
 have n3:=nn _ hcn
 have d0:σ h₂.objs.size=none:=i₂.off hD
 have hDlo:C.h1.objs.size≤h₂.objs.size:=i₂.size
 have E₁₄:Ext σ s₁.heap σ h₄:=Ext.grow fun b o e=>g₄ b o (g₂ b o e)
 have hDc:h₂.objs.size≠H3.objs.size + 1:=by rw [hC];lia
 clear hr₄ rc0 hns hcell hDo E₄ hLs hL hlo hD hCn hcn hC
 revert i₄ rc hI₄ d0 E₁₄ hDlo hitD hitC hitc n1 n2 n3 hDC hcl hDc
 generalize H3.objs.size + 1=c
 generalize h₂.objs.size=D
 generalize H3.objs.size=L
 intro hDC i₄ hcl rc hitD hitC hitc hI₄ n1 n2 n3 d0 hDlo E₁₄ hDc
 have loop:codeAny (model C.prog C.w) A (.compLoop (.ListComp elt [⟨.Name x px,iter,ifs,0⟩] scope pos) 0 (.ref it) (.ref D) (rM env scope L x c))
   (RR (.ref D) L) { s₁ with heap:=h₄ }:=by
  refine lC (EN (KxC K scope) (rM env scope L x c) x c caps J D it σ s₁.heap) ?_ items.length ⟨items,[],σ,.emp,rfl,hJ,d0,hI₄,(by intro c e;cases e),hcl,rc,i₄,E₁₄⟩
  intro n s' hJ2
  walk_at "u"; obtain ⟨r,acc,σ₂,sl,eq0,hJ,hd,hI,hsl,hcl,hrc,hi',hE⟩:=hJ2;walk_at "v"
  subst eq0
  refine k8 hI ha (fun e h'' k=>?_) (fun y r' e v h'' tk k rv hI'=>?_)
  ·subst e
   have nd:=hI.nd
   exact fin D L c acc σ₂ { s' with heap:=h'' } hJ hd (hi'.poke (s':={ s' with heap:=h'' }) k rfl rfl) ((hrc.poke k nd).sub fun p hp=>ai _ hp) (hE.but k.keep fr₂) n2 hDC hDlo
  ·subst e
   have nd:=hI.nd
   have hrc':=hrc.poke k nd
   have hi'':=hi'.poke (s':={ s' with heap:=h'',toks:=tk }) k rfl rfl
   have hE':=hE.but k.keep fr₂
   have body:=turn y r' acc σ₂ D hJ hd
   refine oi (s:={ s' with heap:=h'',toks:=tk }) hI'.st ?_
   have hxc:(rM env scope L x c).cells.lookup x=some c:=by show ((x,c) :: _).lookup x=_;rw [aS,beq_self_eq_true]
   refine wpAny_assign_Name (yz (ρ':=(x,.val y) :: caps) (s:={ s' with heap:=h'',toks:=tk }) hxK hxc hcl hrc' hi'' rv (fun p hp=>?_) fun s₂ hrc₂ hi₂ eL eS=>?_)
   ·rcases am.mp hp with rfl | hp
    ·exact .inl rfl
    ·exact .inr ⟨ai _ hp,fun e=>by have:=(hcaps p hp).2.1;rw [e,hxk] at this;cases this⟩
   have hE₂:Ext σ s₁.heap σ₂ s₂.heap:=hE'.but eL.keep n3
   have hI₂:Itr (io σ₂ D acc) s₂.heap it r':=⟨hI'.st.mono (fun o e=>eL.keep it o hitc e) eS,hI'.un,hI'.lo,hI'.nt⟩
   have keepc:∀ {τ:ij} {h:Heap},Rep (KxC K scope) (rM env scope L x c) ((x,.val y) :: caps) τ h→τ c=none:=fun {τ h} hr=>by
    rcases hr.vars _ ao with ⟨h1,_⟩ | ⟨_,c',_,h2,_,_,h5,_⟩
    ·have:=aq (hxK.symm.trans h1);cases this
    ·obtain rfl:=aq (hxc.symm.trans h2);exact h5
   refine Ah (K:=KxC K scope) ha body hrc₂ hi₂ fun ok σ₃ s₃ q₃ i₃ e₃=>?_
   cases ok with
   | false=>
    walk_at "u"; obtain ⟨σ₅,eq0,h5,hJ'⟩:=q₃;walk_at "v"
    subst eq0
    have hr₃:=hrc₂.mono e₃
    exact ⟨r'.length,by simp,r',acc,σ₅,.val y,rfl,hJ',h5,hI₂.keep hrc₂ e₃.toF,(by intro c e;cases e),keepc hr₃,hr₃,i₃,uR hE₂ e₃ n1 hd h5⟩
   | true=>
    refine q₃ A (rM env scope L x c) s₃ ha (hrc₂.mono e₃) i₃ _ fun v pv σ₄ s₄ q₄ i₄ e₄ r₄=>?_
    walk_at "u"; obtain ⟨hlen,σ₅,eq0,h5,hJ'⟩:=q₄;walk_at "v"
    subst eq0
    refine bi_append (d:=K.d) (Q:=fun v σ'=>σ'=io σ₅ D (acc++[pv])) i8 hlen kf A s₄ _ _ ha i₄ (.raw _) (.cons (.loc D) (.cons r₄ .nil)) _ fun v' pv' σ₆ s₆ q₆ i₆ e₆ r₆=>?_
    subst q₆
    have EE:=(e₃.trans e₄).trans e₆
    have hr₆:=hrc₂.mono EE
    exact ⟨r'.length,by simp,r',acc++[pv],σ₅,.val y,rfl,hJ',h5,hI₂.keep hrc₂ EE.toF,(by intro c e;cases e),keepc hr₆,hr₆,i₆,uR hE₂ EE n1 hd h5⟩
 exact codeAny_compStart_list loop (rk (s:={ s₁ with heap:=h₄ }) hI₄.st loop)
theorem Di {elt iter:Expr} {ifs:List Expr} {scope:Scope} {pos px:Pos} {x:Str} (caps:Fm) (ok:mA K ρ scope x caps) {pv:V} {P:List V→ij→Prop}
  (h:∃ items,iM pv items∧∃ J:List V→List V→ij→Prop,J items [] σ∧li (KxC K scope) x caps elt ifs J∧∀ acc σ₂,J [] acc σ₂→P acc σ₂):A9 K ρ (.ListComp elt [⟨.Name x px,iter,ifs,0⟩] scope pos) scope σ pv P:=
 h.elim fun _ h=>h.2.elim fun J h2 _ _ _ _ ha hr hi r _ fin=>wM caps ok ha hr hi h.1 r J h2.1 h2.2.1 fun D L c acc σ₂ s' hJ hd hi' hrc hE n2 hDC hDlo=>fin D L acc σ₂ s' (h2.2.2 acc σ₂ hJ) ⟨hd,hi',⟨_,_,_,rfl,hrc⟩,hE,n2,hDC,hDlo⟩
theorem AB {elt iter:Expr} {ifs:List Expr} {scope:Scope} {pos px:Pos} {x:Str} (caps:Fm) (ok:mA K ρ scope x caps)
  (h:EvP K ρ σ iter (fun v σ₁=>∃ items,iM v items∧∃ J:List V→List V→ij→Prop,J items [] σ₁∧li (KxC K scope) x caps elt ifs J∧(∀ acc σ₂,J [] acc σ₂→Q (.lst acc) σ₂)))
  (hs:autoParam (∀ env x,foldedSetIterable iter env x=pure x) aI):EvP K ρ σ (.ListComp elt [⟨.Name x px,iter,ifs,0⟩] scope pos) Q:=wD ok.kind ok.names ok.free (h.mono fun _ _=>Di caps ok) hs
theorem pn {y:Str} {elt iter:Expr} {ifs:List Expr} {scope:Scope} {pos py px spos:Pos} {x:Str} {Q:Fl→Fm→ij→Prop} (caps:Fm) (ok:mA K ρ scope x caps) (hy:K.names.lookup y=some .local)
  (h:EvP K ρ σ iter (fun v σ₁=>∃ items,iM v items∧∃ J:List V→List V→ij→Prop,J items [] σ₁∧li (KxC K scope) x caps elt ifs J∧(∀ acc σ₂,J [] acc σ₂→∃ ρ',Upd ρ y (.val (.lst acc)) ρ'∧Q .next ρ' σ₂)))
  (hline:autoParam ((py.line == pos.line)=true) aR) (hnot:autoParam ((scope.names.any fun (n,k)=>n == y && (k == .local || k == .cell))=false) aK)
  (hs:autoParam (∀ env x,foldedSetIterable iter env x=pure x) aI):StP K ρ σ (.Assign [.Name y py] (.ListComp elt [⟨.Name x px,iter,ifs,0⟩] scope pos) spos) Q:=vZ ok.kind ok.names ok.free hy (h.mono fun _ _=>Di caps ok) hline hnot hs
theorem EY {α:Type} {caps:Fm} {x:Str} {elt:Expr} {ifs:List Expr} (xs:List α) (f:α→V) (pr:α→Bool) (g:α→V) (hlen:xs.length < 2 ^ 24)
  (he:∀ y∈xs,∀ D acc,σ D=none→lF K ((x,.val (f y)) :: caps) ifs (io σ D acc) (fun ok σ₃=>σ₃=io σ D acc∧ok=pr y∧(pr y=true→EvP K ((x,.val (f y)) :: caps) (io σ D acc) elt (fun v σ₄=>v=g y∧σ₄=io σ D acc)))):
  ∃ J:List V→List V→ij→Prop,J (xs.map f) [] σ∧li K x caps elt ifs J∧∀ acc σ₂,J [] acc σ₂→acc=(xs.filter pr).map g∧σ₂=σ:=
 ⟨JX xs f (fun a=>(a.filter pr).map g) σ,Cu rfl,pU fun a y b hab D hD=>zd (J:=fun acc' σ'=>JX xs f (fun a=>(a.filter pr).map g) σ (b.map f) acc' σ') (pr y) (g y) hD (ae (wB pr g a) (cz (wp hab) hlen)) (he y (jS hab) D _ hD) (pV hab (wC pr g a y)),
  fun acc σ₂=>uw⟩
theorem od {α:Type} {z:Str} {elt iter:Expr} {ifs:List Expr} {scope:Scope} {pos px py spos:Pos} {x:Str} {Q:Fl→Fm→ij→Prop} (caps:Fm) (ok:mA K ρ scope x caps) (hy:K.names.lookup z=some .local) (f:α→V) (pr:α→Bool) (g:α→V)
  (h:EvP K ρ σ iter (fun v σ₁=>∃ xs:List α,iM v (xs.map f)∧xs.length < 2 ^ 24∧(∀ y∈xs,∀ D acc,σ₁ D=none→lF (KxC K scope) ((x,.val (f y)) :: caps) ifs (io σ₁ D acc)
   (fun ok σ₃=>σ₃=io σ₁ D acc∧ok=pr y∧(pr y=true→EvP (KxC K scope) ((x,.val (f y)) :: caps) (io σ₁ D acc) elt (fun v σ₄=>v=g y∧σ₄=io σ₁ D acc))))∧(∃ ρ',Upd ρ z (.val (.lst ((xs.filter pr).map g))) ρ'∧Q .next ρ' σ₁)))
  (hline:autoParam ((py.line == pos.line)=true) aR) (hnot:autoParam ((scope.names.any fun (n,k)=>n == z && (k == .local || k == .cell))=false) aK)
  (hs:autoParam (∀ env x,foldedSetIterable iter env x=pure x) aI):StP K ρ σ (.Assign [.Name z py] (.ListComp elt [⟨.Name x px,iter,ifs,0⟩] scope pos) spos) Q:=by
 refine pn caps ok hy (h.mono fun v σ₁ hh=>?_) hline hnot hs
 refine bc fun hbc=>?_
 obtain ⟨xs,hit,hlen,he,hQ⟩:=hh
 obtain ⟨J,h0,ht,hd⟩:=EY xs f pr g hlen he
 refine hbc ?_
 clear hbc
 exact ⟨_,hit,J,h0,ht,fun acc σ₂ hJ=>by obtain ⟨rfl,rfl⟩:=hd acc σ₂ hJ;exact hQ⟩
end
end Internal
end
section
open PySem PySem.W PyProof.Rows PySem.Calls
namespace Internal

noncomputable abbrev nY:Addr:=28
noncomputable abbrev sF:Value:=.ref 27
noncomputable def lG:FnRec:=⟨"__init__", "_netrclex.__init__", im (iR 1 0),.stmts (iu (iR 1 0)),iq (iR 1 0)⟩

noncomputable abbrev iI:Addr:=35
noncomputable abbrev pI:Value:=.ref 34
noncomputable def kC:FnRec:=⟨"_read_char", "_netrclex._read_char", im (iR 1 1),.stmts (iu (iR 1 1)),iq (iR 1 1)⟩

noncomputable abbrev j3:Addr:=42
noncomputable abbrev rO:Value:=.ref 41
noncomputable def kR:FnRec:=⟨"get_token", "_netrclex.get_token", im (iR 1 2),.stmts (iu (iR 1 2)),iq (iR 1 2)⟩

noncomputable abbrev mj:Addr:=49
noncomputable abbrev pH:Value:=.ref 48
noncomputable def kB:FnRec:=⟨"push_token", "_netrclex.push_token", im (iR 1 3),.stmts (iu (iR 1 3)),iq (iR 1 3)⟩

noncomputable abbrev nh:Addr:=63
noncomputable abbrev vK:Value:=.ref 62
noncomputable def ng:FnRec:=⟨"_div2n1n", "_div2n1n", im (stm 4),.stmts (iu (stm 4)),iq (stm 4)⟩

noncomputable abbrev r9:Addr:=70
noncomputable abbrev vJ:Value:=.ref 69
noncomputable def nb:FnRec:=⟨"_div3n2n", "_div3n2n", im (stm 5),.stmts (iu (stm 5)),iq (stm 5)⟩

noncomputable abbrev kq:Nat:=6
noncomputable abbrev mR:Addr:=77
noncomputable abbrev rR:Value:=.ref 76
noncomputable def kU:FnRec:=⟨"_int2digits", "_int2digits", im (stm 6),.stmts (iu (stm 6)),iq (stm 6)⟩

noncomputable abbrev kr:Nat:=7
noncomputable abbrev mT:Addr:=84
noncomputable abbrev rT:Value:=.ref 83
noncomputable def kX:FnRec:=⟨"_digits2int", "_digits2int", im (stm 7),.stmts (iu (stm 7)),iq (stm 7)⟩

noncomputable abbrev mS:Addr:=91
noncomputable abbrev rS:Value:=.ref 90
noncomputable def kW:FnRec:=⟨"_divmod_pos", "_divmod_pos", im (stm 8),.stmts (iu (stm 8)),iq (stm 8)⟩

noncomputable abbrev ju:Addr:=98
noncomputable abbrev mL:Value:=.ref 97
noncomputable def kd:FnRec:=⟨"int_divmod", "int_divmod", im (stm 9),.stmts (iu (stm 9)),iq (stm 9)⟩

noncomputable abbrev mP:Addr:=116
noncomputable abbrev rP:Value:=.ref 115
noncomputable def kS:FnRec:=⟨"in_table_b1", "in_table_b1", im (stm 12),.stmts (iu (stm 12)),iq (stm 12)⟩

noncomputable abbrev mi:Addr:=162
noncomputable abbrev pG:Value:=.ref 161
noncomputable def kA:FnRec:=⟨"map_table_b3", "map_table_b3", im (stm 14),.stmts (iu (stm 14)),iq (stm 14)⟩

noncomputable abbrev mm:Addr:=169
noncomputable abbrev pJ:Value:=.ref 168
noncomputable def kD:FnRec:=⟨"_law_letters", "_law_letters", im (stm 16),.stmts (iu (stm 16)),iq (stm 16)⟩

noncomputable abbrev nZ:Addr:=174
noncomputable abbrev sG:Value:=.ref 173
noncomputable def lH:FnRec:=⟨"_law_words", "_law_words", im (stm 17),.stmts (iu (stm 17)),iq (stm 17)⟩

noncomputable abbrev ph:Addr:=179
noncomputable abbrev uN:Value:=.ref 178
noncomputable def mh:FnRec:=⟨"_law_file", "_law_file", im (stm 18),.stmts (iu (stm 18)),iq (stm 18)⟩

noncomputable abbrev n7:Addr:=186
noncomputable abbrev sI:Value:=.ref 185
noncomputable def lJ:FnRec:=⟨"_law_lexer", "_law_lexer", im (stm 19),.stmts (iu (stm 19)),iq (stm 19)⟩

noncomputable abbrev n6:Addr:=191
noncomputable abbrev sH:Value:=.ref 190
noncomputable def lI:FnRec:=⟨"_law_ticks", "_law_ticks", im (stm 20),.stmts (iu (stm 20)),iq (stm 20)⟩

noncomputable abbrev mQ:Addr:=196
noncomputable abbrev rQ:Value:=.ref 195
noncomputable def kT:FnRec:=⟨"_law_number", "_law_number", im (stm 21),.stmts (iu (stm 21)),iq (stm 21)⟩

noncomputable abbrev jq:Addr:=201
noncomputable abbrev lQ:Value:=.ref 200
noncomputable def iT:FnRec:=⟨"_law_divided", "_law_divided", im (stm 22),.stmts (iu (stm 22)),iq (stm 22)⟩

noncomputable abbrev pg:Addr:=208
noncomputable abbrev uM:Value:=.ref 207
noncomputable def mf:FnRec:=⟨"_law_read", "_law_read", im (stm 23),.stmts (iu (stm 23)),iq (stm 23)⟩

noncomputable abbrev yv:Addr:=213
noncomputable abbrev AX:Value:=.ref 212
noncomputable def te:FnRec:=⟨"law", "law", im (stm 24),.stmts (iu (stm 24)),iq (stm 24)⟩

theorem lN {β:Type} {x:Addr} {v:β}:∀ {l:List (Addr×β)},l.lookup x=some v→(x,v)∈l
 | (y,w) :: r,h=>by
  rw [aS] at h
  by_cases hxy:x=y
  ·subst hxy;rw [beq_self_eq_true] at h;cases h;exact ao
  ·rw [show (x == y)=false by simpa using hxy] at h;exact ai _ (lN h)
theorem B.tabs:C.tabs=pj:=by unfold Ctx.tabs;rw [B.nest];rfl
theorem B.nt {a:Addr} (h:autoParam ((pj.contains a)=false) aR):a∉C.tabs:=fun q=>by
 rw [B.tabs] at q
 have:=a8.mpr q
 rw [h] at this;cases this
theorem B.at {a:Addr} {o:Obj} (h:(iB C.w.params).get? a=some o):C.h1.get? a=some o:=by rw [B.h1];exact h
theorem Dn:∀ P:Params,((iB P).isNs mainGlobals,(iB P).isNs builtinsNs,(iB P).isNs cStatics,(iB P).nsMap cStatics "sys.recursionlimit")=(true,true,true,none):=by intro P;kernel_rfl
theorem B.ok2:C.Ok2:=by
 have e:=Dn C.w.params
 have e1:=(Prod.mk.inj e).1
 have e2:=(Prod.mk.inj (Prod.mk.inj e).2).1
 have e3:=(Prod.mk.inj (Prod.mk.inj (Prod.mk.inj e).2).2).1
 have e4:=(Prod.mk.inj (Prod.mk.inj (Prod.mk.inj e).2).2).2
 refine ⟨⟨?_,?_,B.nt,B.nt⟩,⟨(iB C.w.params).nsMap cStatics,?_,e4⟩,B.nt⟩
 ·rw [B.h1,B.mg];exact .of_isNs e1
 ·rw [B.h1,B.mb];exact .of_isNs e2
 ·rw [B.h1];exact .of_isNs e3

theorem Dy:∀ P:Params,((iB P).nsMap mainGlobals "__builtins__", (iB P).get? 4)=(some (.ref 4),some (boot_o_4 P)):=by intro P;kernel_rfl
theorem B.ok3:C.Ok3 where
 toOk2:=B.ok2
 heads:=fun n hn=>by
  rw [B.nest] at hn
  simp only [q6,am,bj,or_false] at hn
  rcases hn with rfl | rfl | rfl
  ·exact ⟨codeHd_of_K (K:=[(76,ol C.w.params)]) (fun a o e=>by
    by_cases h:a=76
    ·subst h;cases e;exact B.at (by kernel_rfl)
    ·rw [aS,beq_false_of_ne h] at e;cases e) (by kernel_rfl),B.nt⟩
  ·exact ⟨codeHd_of_K (K:=[(83,oj C.w.params)]) (fun a o e=>by
    by_cases h:a=83
    ·subst h;cases e;exact B.at (by kernel_rfl)
    ·rw [aS,beq_false_of_ne h] at e;cases e) (by kernel_rfl),B.nt⟩
  ·exact ⟨codeHd_of_K (K:=[(185,t8 C.w.params)]) (fun a o e=>by
    by_cases h:a=185
    ·subst h;cases e;exact B.at (by kernel_rfl)
    ·rw [aS,beq_false_of_ne h] at e;cases e) (by kernel_rfl),B.nt⟩
 inj:=fun n hn n' hn' e=>by
  rw [B.nest] at hn hn'
  simp only [q6,am,bj,or_false] at hn hn'
  rcases hn with rfl | rfl | rfl<;>rcases hn' with rfl | rfl | rfl<;>first | rfl | cases e
 bi:=⟨4,_,(congrFun B.mg _).trans (Prod.mk.inj (Dy C.w.params)).1,by decide,by decide,B.nt,B.at (Prod.mk.inj (Dy C.w.params)).2,rfl,rfl,rfl⟩
 apart:=fun n hn d hd d' hd' e1 e2=>by
  rw [B.nest] at hn
  simp only [q6,am,bj,or_false] at hn
  rcases hn with rfl | rfl | rfl
  ·simp only [kP,am,bj,or_false] at hd hd'
   rw [hd,hd']
  ·simp only [kQ,am,bj,or_false] at hd hd'
   rw [hd,hd']
  ·simp only [ka,am,bj,or_false] at hd hd'
   rcases hd with rfl | rfl<;>rcases hd' with rfl | rfl<;>first | rfl | (exact absurd e1 (by decide))

noncomputable def fnO (F:FnRec) (c:Addr) (dc mo:Value):Obj:=⟨.type "function", none,.func ⟨F.name,F.qual,F.params,F.body,F.scope,mainGlobals,[],.none,.none,dc,mo,none,.ref c,.none,builtinsNs⟩,⟨[]⟩⟩
noncomputable def Ek (o:Obj):Option Value:=match o.data with | .fields vs=>vs[1]? | _=>none
theorem CD {o:Obj} {v:Value} (h:Ek o=some v):∃ vs,o.data=.fields vs∧vs[1]?=some v:=by
 unfold Ek at h
 split at h
 ·exact ⟨_,‹_›,h⟩
 ·cases h
theorem B.mkF {A c:Addr} {F:FnRec} {o oc:Obj} {dc mo:Value} {t:Tok} (h1:(iB C.w.params).get? A=some o) (e:o=fnO F c dc mo) (h2:(iB C.w.params).get? c=some oc) (h3:Ek oc=some (.str F.qual t)) (n:(pj.contains A || pj.contains c)=false):FnB A F (.ref c):=by
 subst e
 have n:=fT.mp n
 obtain ⟨vs,d1,d2⟩:=CD h3
 exact ⟨B.nt n.1,⟨⟨_,_,B.at h1,rfl,rfl,rfl,rfl,rfl,rfl,rfl,rfl,rfl,rfl,rfl⟩,⟨c,oc,vs,t,rfl,B.at h2,d1,d2⟩⟩,fun x q=>by cases q;exact B.nt n.2⟩
theorem B.f_m___init__:FnB nY lG sF:=B.mkF (o:=l0 C.w.params) (oc:=oA C.w.params) (by kernel_rfl) rfl (by kernel_rfl) rfl rfl
theorem B.f_m__read_char:FnB iI kC pI:=B.mkF (o:=lZ C.w.params) (oc:=oz C.w.params) (by kernel_rfl) rfl (by kernel_rfl) rfl rfl
theorem B.f_m_get_token:FnB j3 kR rO:=B.mkF (o:=lY C.w.params) (oc:=ou C.w.params) (by kernel_rfl) rfl (by kernel_rfl) rfl rfl
theorem B.f_m_push_token:FnB mj kB pH:=B.mkF (o:=lX C.w.params) (oc:=ot C.w.params) (by kernel_rfl) rfl (by kernel_rfl) rfl rfl
theorem B.f__div2n1n:FnB nh ng vK:=B.mkF (o:=oo C.w.params) (oc:=oq C.w.params) (by kernel_rfl) rfl (by kernel_rfl) rfl rfl
theorem B.f__div3n2n:FnB r9 nb vJ:=B.mkF (o:=ql C.w.params) (oc:=qm C.w.params) (by kernel_rfl) rfl (by kernel_rfl) rfl rfl
theorem B.f__int2digits:FnB mR kU rR:=B.mkF (o:=qk C.w.params) (oc:=ol C.w.params) (by kernel_rfl) rfl (by kernel_rfl) rfl rfl
theorem B.f__digits2int:FnB mT kX rT:=B.mkF (o:=qj C.w.params) (oc:=oj C.w.params) (by kernel_rfl) rfl (by kernel_rfl) rfl rfl
theorem B.f__divmod_pos:FnB mS kW rS:=B.mkF (o:=qg C.w.params) (oc:=qi C.w.params) (by kernel_rfl) rfl (by kernel_rfl) rfl rfl
theorem B.f_int_divmod:FnB ju kd mL:=B.mkF (o:=qe C.w.params) (oc:=qf C.w.params) (by kernel_rfl) rfl (by kernel_rfl) rfl rfl
theorem B.f_in_table_b1:FnB mP kS rP:=B.mkF (o:=uc C.w.params) (oc:=ud C.w.params) (by kernel_rfl) rfl (by kernel_rfl) rfl rfl
theorem B.f_map_table_b3:FnB mi kA pG:=B.mkF (o:=xy C.w.params) (oc:=xz C.w.params) (by kernel_rfl) rfl (by kernel_rfl) rfl rfl
theorem B.f__law_letters:FnB mm kD pJ:=B.mkF (o:=xw C.w.params) (oc:=xx C.w.params) (by kernel_rfl) rfl (by kernel_rfl) rfl rfl
theorem B.f__law_words:FnB nZ lH sG:=B.mkF (o:=xu C.w.params) (oc:=xv C.w.params) (by kernel_rfl) rfl (by kernel_rfl) rfl rfl
theorem B.f__law_file:FnB ph mh uN:=B.mkF (o:=xr C.w.params) (oc:=xt C.w.params) (by kernel_rfl) rfl (by kernel_rfl) rfl rfl
theorem B.f__law_lexer:FnB n7 lJ sI:=B.mkF (o:=xq C.w.params) (oc:=t8 C.w.params) (by kernel_rfl) rfl (by kernel_rfl) rfl rfl
theorem B.f__law_ticks:FnB n6 lI sH:=B.mkF (o:=xo C.w.params) (oc:=xp C.w.params) (by kernel_rfl) rfl (by kernel_rfl) rfl rfl
theorem B.f__law_number:FnB mQ kT rQ:=B.mkF (o:=xm C.w.params) (oc:=xn C.w.params) (by kernel_rfl) rfl (by kernel_rfl) rfl rfl
theorem B.f__law_divided:FnB jq iT lQ:=B.mkF (o:=xj C.w.params) (oc:=xl C.w.params) (by kernel_rfl) rfl (by kernel_rfl) rfl rfl
theorem B.f__law_read:FnB pg mf uM:=B.mkF (o:=xh C.w.params) (oc:=xi C.w.params) (by kernel_rfl) rfl (by kernel_rfl) rfl rfl
theorem B.f_law:FnB yv te AX:=B.mkF (o:=xf C.w.params) (oc:=xg C.w.params) (by kernel_rfl) rfl (by kernel_rfl) rfl rfl
noncomputable abbrev ml:Addr:=52
noncomputable abbrev FT:Addr:=106
noncomputable abbrev FS:Addr:=117
theorem B.g__div2n1n:C.mg "_div2n1n" = (some (.ref 63)):=(congrFun B.mg _).trans (by kernel_rfl)
theorem B.g__div3n2n:C.mg "_div3n2n" = (some (.ref 70)):=(congrFun B.mg _).trans (by kernel_rfl)
theorem B.g__int2digits:C.mg "_int2digits" = (some (.ref 77)):=(congrFun B.mg _).trans (by kernel_rfl)
theorem B.g__digits2int:C.mg "_digits2int" = (some (.ref 84)):=(congrFun B.mg _).trans (by kernel_rfl)
theorem B.g__divmod_pos:C.mg "_divmod_pos" = (some (.ref 91)):=(congrFun B.mg _).trans (by kernel_rfl)
theorem B.g_int_divmod:C.mg "int_divmod" = (some (.ref 98)):=(congrFun B.mg _).trans (by kernel_rfl)
theorem B.g_in_table_b1:C.mg "in_table_b1" = (some (.ref 116)):=(congrFun B.mg _).trans (by kernel_rfl)
theorem B.g_map_table_b3:C.mg "map_table_b3" = (some (.ref 162)):=(congrFun B.mg _).trans (by kernel_rfl)
theorem B.g__law_letters:C.mg "_law_letters" = (some (.ref 169)):=(congrFun B.mg _).trans (by kernel_rfl)
theorem B.g__law_words:C.mg "_law_words" = (some (.ref 174)):=(congrFun B.mg _).trans (by kernel_rfl)
theorem B.g__law_file:C.mg "_law_file" = (some (.ref 179)):=(congrFun B.mg _).trans (by kernel_rfl)
theorem B.g__law_lexer:C.mg "_law_lexer" = (some (.ref 186)):=(congrFun B.mg _).trans (by kernel_rfl)
theorem B.g__law_ticks:C.mg "_law_ticks" = (some (.ref 191)):=(congrFun B.mg _).trans (by kernel_rfl)
theorem B.g__law_number:C.mg "_law_number" = (some (.ref 196)):=(congrFun B.mg _).trans (by kernel_rfl)
theorem B.g__law_divided:C.mg "_law_divided" = (some (.ref 201)):=(congrFun B.mg _).trans (by kernel_rfl)
theorem B.g__law_read:C.mg "_law_read" = (some (.ref 208)):=(congrFun B.mg _).trans (by kernel_rfl)
theorem B.g__netrclex:C.mg "_netrclex" = (some (.ref 52)):=(congrFun B.mg _).trans (by kernel_rfl)
theorem B.g_b1_set:C.mg "b1_set" = (some (.ref 106)):=(congrFun B.mg _).trans (by kernel_rfl)
theorem B.g_b3_exceptions:C.mg "b3_exceptions" = (some (.ref 117)):=(congrFun B.mg _).trans (by kernel_rfl)
theorem B.g__DIV_LIMIT:C.mg "_DIV_LIMIT" = some (.int 4000 249):=(congrFun B.mg _).trans (by kernel_rfl)
theorem B.n_ZeroDivisionError:C.mg "ZeroDivisionError" = none:=(congrFun B.mg _).trans (by kernel_rfl)
theorem B.b_ZeroDivisionError:C.mb "ZeroDivisionError" = some (.type "ZeroDivisionError"):=(congrFun B.mb _).trans (by kernel_rfl)
theorem B.n_chr:C.mg "chr" = none:=(congrFun B.mg _).trans (by kernel_rfl)
theorem B.b_chr:C.mb "chr" = some (.builtin "chr"):=(congrFun B.mb _).trans (by kernel_rfl)
theorem B.n_divmod:C.mg "divmod" = none:=(congrFun B.mg _).trans (by kernel_rfl)
theorem B.b_divmod:C.mb "divmod" = some (.builtin "divmod"):=(congrFun B.mb _).trans (by kernel_rfl)
theorem B.n_iter:C.mg "iter" = none:=(congrFun B.mg _).trans (by kernel_rfl)
theorem B.b_iter:C.mb "iter" = some (.builtin "iter"):=(congrFun B.mb _).trans (by kernel_rfl)
theorem B.n_len:C.mg "len" = none:=(congrFun B.mg _).trans (by kernel_rfl)
theorem B.b_len:C.mb "len" = some (.builtin "len"):=(congrFun B.mb _).trans (by kernel_rfl)
theorem B.n_list:C.mg "list" = none:=(congrFun B.mg _).trans (by kernel_rfl)
theorem B.b_list:C.mb "list" = some (.type "list"):=(congrFun B.mb _).trans (by kernel_rfl)
theorem B.n_max:C.mg "max" = none:=(congrFun B.mg _).trans (by kernel_rfl)
theorem B.b_max:C.mb "max" = some (.builtin "max"):=(congrFun B.mb _).trans (by kernel_rfl)
theorem B.n_ord:C.mg "ord" = none:=(congrFun B.mg _).trans (by kernel_rfl)
theorem B.b_ord:C.mb "ord" = some (.builtin "ord"):=(congrFun B.mb _).trans (by kernel_rfl)
theorem B.n_range:C.mg "range" = none:=(congrFun B.mg _).trans (by kernel_rfl)
theorem B.b_range:C.mb "range" = some (.type "range"):=(congrFun B.mb _).trans (by kernel_rfl)
theorem B.n_reversed:C.mg "reversed" = none:=(congrFun B.mg _).trans (by kernel_rfl)
theorem B.b_reversed:C.mb "reversed" = some (.type "reversed"):=(congrFun B.mb _).trans (by kernel_rfl)
theorem B.n_str:C.mg "str" = none:=(congrFun B.mg _).trans (by kernel_rfl)
theorem B.b_str:C.mb "str" = some (.type "str"):=(congrFun B.mb _).trans (by kernel_rfl)
theorem B.n_sum:C.mg "sum" = none:=(congrFun B.mg _).trans (by kernel_rfl)
theorem B.b_sum:C.mb "sum" = some (.builtin "sum"):=(congrFun B.mb _).trans (by kernel_rfl)
noncomputable def FR (P:Params):Frag:=[(52,mW P),(51,mX P),(28,l0 P),(35,lZ P),(42,lY P),(49,lX P)]
theorem Fo:∀ P:Params,[(iB P).get? 52,(iB P).get? 51,(iB P).get? 28,(iB P).get? 35,(iB P).get? 42,(iB P).get? 49]=[some (mW P),some (mX P),some (l0 P),some (lZ P),some (lY P),some (lX P)]:=by intro P;kernel_rfl
theorem B.fr:kz (FR C.w.params) where
 inn:=Frag.in_of (as:=[52,51,28,35,42,49]) rfl (by rw [B.h1];exact Fo C.w.params)
 nt:=fun a o e=>by
  have:=lN e
  simp only [FR,am,bj,or_false,Prod.mk.injEq] at this
  rcases this with ⟨rfl,_⟩ | ⟨rfl,_⟩ | ⟨rfl,_⟩ | ⟨rfl,_⟩ | ⟨rfl,_⟩ | ⟨rfl,_⟩<;>exact B.nt
theorem ly:∀ P:Params,(plainGet (FR P) 52 "", hasDictIn (FR P) 52,makesIn (FR P) 52,keepIn (FR P) (.ref 52),plainOver (FR P) 52,findIn (FR P) (.ref 52) "__setattr__", findIn (FR P) (.ref 52) "__getattribute__", findIn (FR P) (.ref 52) "__getattr__")=(true,true,true,true,true,some (some (.builtin "object.__setattr__")),some (some (.builtin "object.__getattribute__")),some none):=by intro P;kernel_rfl
theorem oH:∀ P:Params,(findIn (FR P) (.ref 52) "lineno", takerIn (FR P) 52 "lineno")=(some none,some none):=by intro P;kernel_rfl
theorem o5:∀ P:Params,(findIn (FR P) (.ref 52) "instream", takerIn (FR P) 52 "instream")=(some none,some none):=by intro P;kernel_rfl
theorem mJ:∀ P:Params,(findIn (FR P) (.ref 52) "whitespace", takerIn (FR P) 52 "whitespace")=(some none,some none):=by intro P;kernel_rfl
theorem o4:∀ P:Params,(findIn (FR P) (.ref 52) "pushback", takerIn (FR P) 52 "pushback")=(some none,some none):=by intro P;kernel_rfl
theorem sk:∀ P:Params,(findIn (FR P) (.ref 52) "__init__", typeIn (FR P) (.ref 28))=(some (some (.ref 28)),some (.type "function")):=by intro P;kernel_rfl
theorem pz:∀ P:Params,(findIn (FR P) (.ref 52) "_read_char", typeIn (FR P) (.ref 35),findObj (FR P) 52 none "_read_char")=(some (some (.ref 35)),some (.type "function"),some (.bind (.builtin "function.__get__") (.ref 35))):=by intro P;kernel_rfl
theorem rp:∀ P:Params,(findIn (FR P) (.ref 52) "get_token", typeIn (FR P) (.ref 42),findObj (FR P) 52 none "get_token")=(some (some (.ref 42)),some (.type "function"),some (.bind (.builtin "function.__get__") (.ref 42))):=by intro P;kernel_rfl
theorem pu:∀ P:Params,(findIn (FR P) (.ref 52) "push_token", typeIn (FR P) (.ref 49),findObj (FR P) 52 none "push_token")=(some (some (.ref 49)),some (.type "function"),some (.bind (.builtin "function.__get__") (.ref 49))):=by intro P;kernel_rfl
theorem FA:∀ P:Params,(iB P).get? 106=some (nB P):=by intro P;kernel_rfl
noncomputable abbrev b1O:=nB
theorem Dz:∀ P:Params,(iB P).get? 117=some kI:=by intro P;kernel_rfl
noncomputable def yd:Expr→Arguments | .Lambda a _ _ _=>a | _=>default
noncomputable def Dw:Expr→Expr | .Lambda _ b _ _=>b | e=>e
noncomputable def AF:Expr→Scope | .Lambda _ _ s _=>s | _=>default
noncomputable def yD:Stmt→Expr | .Assign _ e _=>e | _=>.Tuple [] 0 default
noncomputable def wY:FnRec:=⟨"<lambda>", "_law_lexer.<locals>.<lambda>", yd (yD (mY (iu (stm 19)) 1)),.expr (Dw (yD (mY (iu (stm 19)) 1))),AF (yD (mY (iu (stm 19)) 1))⟩
noncomputable def uT:FnRec:=⟨"<lambda>", "_law_lexer.<locals>.<lambda>", yd (yD (mY (iu (stm 19)) 2)),.expr (Dw (yD (mY (iu (stm 19)) 2))),AF (yD (mY (iu (stm 19)) 2))⟩
end Internal
end
open PySem PySem.W PyProof.Rows PySem.Calls
namespace Internal
open Ia Ib
noncomputable def yn:FnRec:=⟨"inner", "_digits2int.<locals>.inner", im (mY (iu (stm kr)) 0),.stmts (iu (mY (iu (stm kr)) 0)),iq (mY (iu (stm kr)) 0)⟩
theorem A3:iH yn ["L", "R"]:=by walk_at "binds"
theorem AU:fnL yn ["L", "R"] ["n", "inner", "digits"]=true:=by decide +kernel
theorem r5:iH kX ["digits", "n"]:=by walk_at "binds"
theorem rL:fnC kX ["digits", "n"] ["inner"]=true:=by decide +kernel
section
theorem sW {L R k:Nat} (hL:L < R) (h:L + 1≠R) (hk:R - L≤2 * 2 ^ k):L < (L + R) / 2∧(L + R) / 2 < R∧R - (L + R) / 2≤2 ^ k∧(L + R) / 2 - L≤2 ^ k:=by
 have h1:(L + R) / 2 * 2≤L + R:=gh _ _
 have h2:L + R < (L + R) / 2 * 2 + 2:=Nat.lt_div_mul_add (by decide)
 generalize (L + R) / 2=M at *
 have:=fY hk
 exact ⟨by lia,by lia,fW (by lia),fW (by lia)⟩
theorem Eg {ds:List Nat} {n:Nat} {c1 c2 c3 f:Addr} (hn:1≤n) (hds:∀ x∈ds,x < 2 ^ n) (hsz:n * ds.length≤2 ^ 20) (hnd:[c2,c3,c1].Nodup):∀ (k d:Nat) (hd:k + 1≤d) {σ:ij} {Q:V→ij→Prop} (L R:Nat),L < R→R≤ds.length→R - L≤2 ^ k→
  σ c1=some (.cell (some (.lst (ds.map fun x:Nat=>V.int x))))→σ c2=some (.cell (some (.int n)))→σ c3=some (.cell (some (.loc f)))→σ f=some (.func yn [("n", c2),("inner", c3),("digits", c1)] none)→
  Q (.int (d2i n ((ds.drop L).take (R - L)))) σ→CallV d (.loc f) [.int L,.int R] σ Q:=by
 intro k
 induction k with
 | zero=>
  intro d hd σ Q L R hL hR hk h1 h2 h3 hf q
  refine CallV.le (d:=1) ?_ hd
  refine pY (d:=0) B.ok2 hf A3 AU rfl rfl ?_ hnd rfl fun code=>?_
  ·intro p hp
   simp only [am,bj,or_false] at hp
   rcases hp with rfl | rfl | rfl
   ·exact ⟨_,h2⟩
   ·exact ⟨_,h3⟩
   ·exact ⟨_,h1⟩
  walk_at "start"
  walk_at "go"
  refine jb (fun h=>?_) (fun h=>?_)
  ·walk_at "go"
   have hx:=hds _ (bq (show L < ds.length by lia))
   refine iV (.fr _) (x:=.int ((ds[L]'(by lia):Nat):Int)) (by rw [aN,ak (by lia)];rfl) (by rw [ag];have:=bu ds.length hn;walk_at "l") ?_
   walk_at "go"
   have:(ds.drop L).take (R - L)=[ds[L]'(by lia)]:=by
    rw [show R - L=1 by lia,bI (by lia)];rfl
   rw [this] at q
   simpa [d2i] using q
  ·simp at hk;lia
 | succ k ih=>
  intro d hd σ Q L R hL hR hk h1 h2 h3 hf q
  obtain ⟨d,rfl⟩:∃ d',d=d' + 1:=⟨d - 1,by lia⟩
  refine pY (d:=d) B.ok2 hf A3 AU rfl rfl ?_ hnd rfl fun code=>?_
  ·intro p hp
   simp only [am,bj,or_false] at hp
   rcases hp with rfl | rfl | rfl
   ·exact ⟨_,h2⟩
   ·exact ⟨_,h3⟩
   ·exact ⟨_,h1⟩
  walk_at "start"
  walk_at "go"
  refine jb (fun h=>?_) (fun h=>?_)
  ·walk_at "go"
   refine iV (.fr _) (x:=.int ((ds[L]'(by lia):Nat):Int)) (by rw [aN,ak (by lia)];rfl) (by rw [ag];have:=bu ds.length hn;walk_at "l") ?_
   walk_at "go"
   have:(ds.drop L).take (R - L)=[ds[L]'(by lia)]:=by
    rw [show R - L=1 by lia,bI (by lia)];rfl
   rw [this] at q
   simpa [d2i] using q
  have hl:ds.length≤2 ^ 20:=aa (bu ds.length hn) hsz
  have hp:2 ^ (k + 1)=2 * 2 ^ k:=by rw [fE,bo]
  rw [hp] at hk
  obtain ⟨m1,m2,m3,m4⟩:=sW hL h hk
  have hM:=aa (aF m2) hR
  walk_at "go"
  rotate_left;· exact jn (.inl (ae (aa (bK _ _) (aa hM hl)) (by decide)))
  generalize (L + R) / 2=M at *
  refine ⟨kp hf,ih d (by lia) _ _ (by walk_at "l") hR (by walk_at "l") h1 h2 h3 hf ?_⟩
  have hlen:((ds.drop (M)).take (R - M)).length=R - M:=by rw [aP,bk];exact bl (fV hR _)
  have hlt:=rC n ((ds.drop (M)).take (R - M)) fun x hx=>hds x (fP (ey hx))
  rw [hlen] at hlt
  walk_at "go"
  rotate_left
  ·have h1:=iP hlt
   have h2:n * (R - M)≤n * ds.length:=aO _ (aa (bK _ _) hR)
   have h3:(M - L) * n≤n * ds.length:=by rw [bo];exact aO _ (aa (bK _ _) hM)
   exact aa (aX (aa h1 (aa h2 hsz)) (aa h3 hsz)) (by decide)
  refine ⟨kp hf,ih d (by lia) _ _ (by walk_at "l") (by lia) (by walk_at "l") h1 h2 h3 hf ?_⟩
  walk_at "go"
  have e:(ds.drop L).take (R - L)=(ds.drop L).take (M - L)++(ds.drop (M)).take (R - M):=by
   have:(ds.drop (M))=(ds.drop L).drop (M - L):=by rw [gP];rw [bn (aF m1)]
   rw [this,← gU,zj (aF m1) (aF m2)]
  rw [e,rD] at q
  have l2:((ds.drop L).take (M - L)).length=M - L:=by rw [aP,bk];exact bl (fV hM _)
  rw [l2] at q
  have e2:d2i n ((ds.drop (M)).take (R - M)) * 2 ^ ((M - L) * n) + d2i n ((ds.drop L).take (M - L))=d2i n ((ds.drop L).take (M - L)) + 2 ^ (n * (M - L)) * d2i n ((ds.drop (M)).take (R - M)):=by
   rw [bo n,bo (2 ^ _),aQ]
  rw [e2];exact q
end
section
theorem ky {d:Nat} (hd:40≤d) {ds:List Nat} {n:Nat} {σ:ij} {Q:V→ij→Prop} (hn:1≤n) (hds:∀ x∈ds,x < 2 ^ n) (hsz:n * ds.length≤2 ^ 20)
  (q:Q (.int (d2i n ds:Nat)) σ):CallV d (.raw (.ref mT)) [.lst (ds.map fun x:Nat=>V.int x),.int n] σ Q:=by
 have hl:ds.length≤2 ^ 20:=aa (bu ds.length hn) hsz
 refine CallV.le (d:=40) (CallV.pure ?_) hd
 refine kJ (d:=39) B.ok2 B.f__digits2int r5 rL rfl rfl rfl ?_
 walk_at "start"
 refine l6 (x := "digits") (v:=?_) (r':=?_) ?_ ?_ ?_ fun c1 hc1=>?_;walk_at "share"
 refine l6 (x := "n") (v:=?_) (r':=?_) ?_ ?_ ?_ fun c2 hc2=>?_;walk_at "share"
 refine s8 (x := "inner") (r':=?_) ?_ ?_ fun c3 hc3=>?_;walk_at "share0"
 refine ex_cons (zl B.ok3 (n:=kQ) (cap:=?_) (by rw [B.nest];exact ai _ ao) (by exact ao) rfl ?_ rfl rfl rfl rfl (by intro _;rfl) (by walk_at "mem") (by decide +kernel) (ik ..) fun f hf=>?_)
 rotate_left;walk_at "capl"
 refine bc fun hbc=>?_
 obtain ⟨n21,hc2⟩:=iC hc2
 obtain ⟨n32,hc3⟩:=iC hc3
 obtain ⟨n31,hc3⟩:=iC hc3
 obtain ⟨nf3,hf⟩:=iC hf
 obtain ⟨nf2,hf⟩:=iC hf
 obtain ⟨nf1,hf⟩:=iC hf
 refine hbc ?_
 clear hbc
 refine cont_next ?_
 generalize hσ:upd (upd (upd (upd (upd σ c1 _) c2 _) c3 _) f _) c3 _=σ5
 have s1:σ5 c1=some (.cell (some (.lst (ds.map fun x:Nat=>V.int x)))):=by rw [← hσ];exact il (Ne.symm n31) (il (Ne.symm nf1) (il (Ne.symm n31) (il (Ne.symm n21) (ik ..))))
 have s2:σ5 c2=some (.cell (some (.int n))):=by rw [← hσ];exact il (Ne.symm n32) (il (Ne.symm nf2) (il (Ne.symm n32) (ik ..)))
 have s3:σ5 c3=some (.cell (some (.loc f))):=by rw [← hσ];exact ik ..
 have sf:σ5 f=some (.func yn [("n", c2),("inner", c3),("digits", c1)] none):=by rw [← hσ];exact il nf3 (ik ..)
 have sub:Sub σ σ5:=by rw [← hσ];exact (((((Sub.refl.upd hc1).upd hc2).upd hc3).upd hf).upd hc3)
 have hnd:[c2,c3,c1].Nodup:=by simp [n21,n32,n31,Ne.symm n32,Ne.symm n31]
 walk_at "go"
 rotate_left;· rw [ag];walk_at "l"
 refine jA (fun h=>?_) (fun h=>?_)
 ·walk_at "go"
  rotate_left;· rw [ag];walk_at "l"
  have h0:0 < ds.length:=by cases ds with | nil=>simp at h | cons=>simp
  refine ⟨kp sf,CallV.le (d:=22) ?_ (by decide)⟩
  refine Eg hn hds hsz hnd 20 22 (by walk_at "l") 0 (ds.map fun x:Nat=>V.int x).length (by rw [ag];exact h0) (by rw [ag];exact av _) (by rw [ag];walk_at "l") s1 s2 s3 sf ?_
  walk_at "go"
  refine ⟨sub,_,.same _ (by intro a e;cases e),?_⟩
  have:(ds.drop 0).take ((ds.map fun x:Nat=>V.int x).length - 0)=ds:=by simp
  rw [this];exact q
 ·have:ds=[]:=by cases ds with | nil=>rfl | cons=>simp at h
  subst this
  walk_at "go"
  exact ⟨sub,_,.same _ (by intro a e;cases e),q⟩
end
noncomputable def ym:FnRec:=⟨"inner", "_int2digits.<locals>.inner", im (mY (iu (stm kq)) 1),.stmts (iu (mY (iu (stm kq)) 1)),iq (mY (iu (stm kq)) 1)⟩
theorem A2:iH ym ["x", "L", "R"]:=by walk_at "binds"
theorem AT:fnL ym ["x", "L", "R"] ["n", "inner", "a_digits"]=true:=by decide +kernel
theorem rZ:iH kU ["a", "n"]:=by walk_at "binds"
theorem rJ:fnC kU ["a", "n"] ["a_digits", "inner"]=true:=by decide +kernel
theorem jk (σ:ij) (a:Addr) (o o':Option PObj):upd (upd σ a o) a o'=upd σ a o':=by
 funext b;unfold upd;split<;>rfl
noncomputable def lW (vs:List V) (L R:Nat) (ds:List Nat):List V:=vs.take L++ds.map (fun x:Nat=>V.int x)++vs.drop R
theorem vc (vs:List V) (L x:Nat) (h:L < vs.length):vs.set L (.int x)=lW vs L (L + 1) [x]:=by
 unfold lW
 rw [List.set_eq_take_append_cons_drop,if_pos h];simp
theorem zF (vs:List V) (L R:Nat) (ds:List Nat) (h:L≤R) (hR:R≤vs.length) (hd:ds.length=R - L):(lW vs L R ds).length=vs.length:=by
 unfold lW
 rw [af,af,aP,ag,bk,bl (aa h hR),hd,bn h,bn hR]
theorem zE (vs:List V) (L M R:Nat) (d1 d2:List Nat) (h1:L≤M) (h2:M≤R) (hR:R≤vs.length) (e1:d1.length=M - L) (e2:d2.length=R - M):lW (lW vs L M d1) M R d2=lW vs L R (d1++d2):=by
 unfold lW
 have l1:(ig L vs++dl (fun x:Nat=>V.int x) d1).length=M:=by simp;lia
 rw [cO (by rw [l1];exact av _),aG (by rw [l1];exact av _)]
 have:fy R (ig L vs++dl (fun x:Nat=>V.int x) d1++fy M vs)=fy R vs:=by
  rw [List.drop_append,l1,cu (by rw [l1];exact h2),gP]
  simp;congr 1;lia
 rw [this];simp
section
theorem Ef {n:Nat} {c1 c2 c3 f p:Addr} (hn:1≤n) (hnd:[c2,c3,c1].Nodup):∀ (k d:Nat) (hd:k + 1≤d) {σ:ij} {Q:V→ij→Prop} (vs:List V) (x L R:Nat),L < R→R≤vs.length→R - L≤2 ^ k→n * vs.length≤2 ^ 20→x < 2 ^ (n * (R - L))→
  σ c1=some (.cell (some (.loc p)))→σ c2=some (.cell (some (.int n)))→σ c3=some (.cell (some (.loc f)))→σ f=some (.func ym [("n", c2),("inner", c3),("a_digits", c1)] none)→σ p=some (.list vs)→
  Q .none (upd σ p (some (.list (lW vs L R (i2d n (R - L) x)))))→CallV d (.loc f) [.int x,.int L,.int R] σ Q:=by
 intro k
 induction k with
 | zero=>
  intro d hd σ Q vs x L R hL hR hk hsz hx h1 h2 h3 hf hp q
  have hl:vs.length≤2 ^ 20:=aa (bu vs.length hn) hsz
  refine CallV.le (d:=1) ?_ hd
  refine pY (d:=0) B.ok2 hf A2 AT rfl rfl ?_ hnd rfl fun code=>?_
  ·intro p hp
   simp only [am,bj,or_false] at hp
   rcases hp with rfl | rfl | rfl
   ·exact ⟨_,h2⟩
   ·exact ⟨_,h3⟩
   ·exact ⟨_,h1⟩
  walk_at "start"
  walk_at "go"
  refine jb (fun h=>?_) (fun h=>?_)
  ·walk_at "go"
   refine ⟨p,vs,(L:Int),rfl,rfl,hp,aB L,by simp;lia,by walk_at "l", ?_⟩
   walk_at "go"
   rw [bw,vc vs L x (by lia)]
   have:R - L=1:=by lia
   rw [this,bU] at hx
   rw [this] at q
   simp only [i2d,bY hx] at q
   rw [h];exact q
  ·simp at hk;lia
 | succ k ih=>
  intro d hd σ Q vs x L R hL hR hk hsz hx h1 h2 h3 hf hp q
  have hl:vs.length≤2 ^ 20:=aa (bu vs.length hn) hsz
  obtain ⟨d,rfl⟩:∃ d',d=d' + 1:=⟨d - 1,by lia⟩
  refine pY (d:=d) B.ok2 hf A2 AT rfl rfl ?_ hnd rfl fun code=>?_
  ·intro p hp
   simp only [am,bj,or_false] at hp
   rcases hp with rfl | rfl | rfl
   ·exact ⟨_,h2⟩
   ·exact ⟨_,h3⟩
   ·exact ⟨_,h1⟩
  have hpw:2 ^ (k + 1)=2 * 2 ^ k:=by rw [fE,bo]
  rw [hpw] at hk
  walk_at "start"
  walk_at "go"
  refine jb (fun h=>?_) (fun h=>?_)
  ·walk_at "go"
   refine ⟨p,vs,(L:Int),rfl,rfl,hp,aB L,by simp;lia,by walk_at "l", ?_⟩
   walk_at "go"
   rw [bw,vc vs L x (by lia)]
   have:R - L=1:=by lia
   rw [this,bU] at hx
   rw [this] at q
   simp only [i2d,bY hx] at q
   rw [h];exact q
  obtain ⟨m1,m2,m3,m4⟩:=sW hL h hk
  have hM:=aa (aF m2) hR
  have hle:n * (R - L)≤n * vs.length:=aO _ (aa (bK _ _) hR)
  have hle2:((L + R) / 2 - L) * n≤n * vs.length:=by rw [bo];exact aO _ (aa (bK _ _) hM)
  walk_at "go"
  rotate_left
  ·exact jn (.inl (ae (aa (bK _ _) (aa hM hl)) (by decide)))
  ·have h8:=aa (iP (ae (em x (2 ^ (((L + R) / 2 - L) * n))) hx)) (aa hle hsz)
   have h9:=aa hle2 hsz
   walk_at "l"
  rw [Bd]
  generalize (L + R) / 2=M at *
  have n1:c1≠p:=fun e=>by rw [e,hp] at h1;cases h1
  have n2:c2≠p:=fun e=>by rw [e,hp] at h2;cases h2
  have n3:c3≠p:=fun e=>by rw [e,hp] at h3;cases h3
  have nf:f≠p:=fun e=>by rw [e,hp] at hf;cases hf
  have ec:(M - L) * n=n * (M - L):=bo _ _
  have hlen1:=zF vs L (M) (i2d n (M - L) x) (by walk_at "l") (by lia) (jG ..)
  refine ⟨kp hf,ih d (by lia) vs _ _ _ (by walk_at "l") (by lia) (by walk_at "l") hsz (by rw [ec];exact bg _ (aJ _)) h1 h2 h3 hf hp ?_⟩
  rw [ec,Cw]
  have h1':=il (o:=some (.list (lW vs L (M) (i2d n (M - L) x)))) n1 h1
  have h2':=il (o:=some (.list (lW vs L (M) (i2d n (M - L) x)))) n2 h2
  have h3':=il (o:=some (.list (lW vs L (M) (i2d n (M - L) x)))) n3 h3
  have hf':=il (o:=some (.list (lW vs L (M) (i2d n (M - L) x)))) nf hf
  walk_at "go"
  refine ⟨kp hf',ih d (by lia) (lW vs L (M) (i2d n (M - L) x)) _ _ _ (by walk_at "l") (by lia) (by walk_at "l") (by rw [hlen1];exact hsz) ?_ h1' h2' h3' hf' (ik ..) ?_⟩
  ·rw [b9 (aJ _),← bC,← bV]
   exact an hx (bh (by decide) (aO _ (cA ((aQ _ _).trans (zj (aF m1) (aF m2)).symm.symm).symm)))
  walk_at "go"
  rw [jk,zE _ _ _ _ _ _ (by walk_at "l") (by walk_at "l") hR (jG ..) (jG ..),← Cy]
  rw [zj (aF m1) (aF m2)];exact q
end
section
noncomputable def jm (n a:Nat):Nat:=(iD a + n - 1) / n
theorem uq {n a:Nat} (hn:1≤n):a < 2 ^ (n * jm n a):=by
 refine an (nF a) (bh (by decide) ?_)
 unfold jm
 have h1:iD a + n - 1 + 1=iD a + n:=bx (aa hn (cm ..))
 exact Nat.le_of_add_le_add_right (b:=n) (aa (cA h1.symm) (Nat.lt_mul_div_succ (iD a + n - 1) hn))
theorem kx {d:Nat} (hd:40≤d) {a n:Nat} {σ:ij} {Q:V→ij→Prop} (hn:1≤n) (hn2:n≤2 ^ 19) (ha:a < 2 ^ (2 ^ 19))
  (q:Q (.lst ((i2d n (jm n a) a).map fun x:Nat=>V.int x)) σ):CallV d (.raw (.ref mR)) [.int a,.int n] σ Q:=by
 have hb:=iP ha
 have hnd:n * jm n a≤2 ^ 20:=by
  unfold jm
  exact aa (gT _ _) (aa (bK _ _) (aa (aX hb hn2) (by decide)))
 have hl:jm n a≤2 ^ 20:=aa (bu _ hn) hnd
 refine CallV.le (d:=40) (CallV.pure ?_) hd
 refine kJ (d:=39) B.ok2 B.f__int2digits rZ rJ rfl rfl rfl ?_
 walk_at "start"
 refine ex_cons (p8 (kF (sl:=.emp) (by kernel_rfl) (by walk_at "mem") (by intro c e;cases e)) ?_)
 walk_at "go"
 rotate_left;· walk_at "l"
 ·have h3:n < 2 ^ 9000:=ae hn2 (by decide +kernel)
  have h4:n≠0:=by walk_at "l"
  exact (fX h4).mpr h3
 refine A0 (.fr _) (by simpa [jm] using (show jm n a≤2 ^ 24 by walk_at "l")) (by exact (show jm n a≤2 ^ 24 by walk_at "l")) fun p hp=>?_
 have hrep:(aC ((iD a + n - 1) / n) [V.int 0]).flatten=aC (jm n a) (.int 0):=by
  show _=aC ((iD a + n - 1) / n) (V.int 0)
  induction ((iD a + n - 1) / n) with
  | zero=>rfl
  | succ m ih=>rw [dG,bT,ih];rfl
 rw [hrep]
 walk_at "upd"
 refine cont_next ?_
 refine l6 (x := "n") (v:=?_) (r':=?_) ?_ ?_ ?_ fun c2 hc2=>?_;walk_at "share"
 refine l6 (x := "a_digits") (v:=?_) (r':=?_) ?_ ?_ ?_ fun c1 hc1=>?_;walk_at "share"
 refine s8 (x := "inner") (r':=?_) ?_ ?_ fun c3 hc3=>?_;walk_at "share0"
 refine ex_cons (zl B.ok3 (n:=kP) (cap:=?_) (by rw [B.nest];exact ao) (by exact ao) rfl ?_ rfl rfl rfl rfl (by intro _;rfl) (by walk_at "mem") (by kernel_rfl) (ik ..) fun f hf=>?_)
 rotate_left;walk_at "capl"
 refine bc fun hbc=>?_
 obtain ⟨n2p,hc2⟩:=iC hc2
 obtain ⟨n12,hc1⟩:=iC hc1
 obtain ⟨n1p,hc1⟩:=iC hc1
 obtain ⟨n31,hc3⟩:=iC hc3
 obtain ⟨n32,hc3⟩:=iC hc3
 obtain ⟨n3p,hc3⟩:=iC hc3
 obtain ⟨nf3,hf⟩:=iC hf
 obtain ⟨nf1,hf⟩:=iC hf
 obtain ⟨nf2,hf⟩:=iC hf
 obtain ⟨nfp,hf⟩:=iC hf
 refine hbc ?_
 clear hbc
 refine cont_next ?_
 generalize hσ:upd (upd (upd (upd (upd (upd σ p _) c2 _) c1 _) c3 _) f _) c3 _=σ5
 have s1:σ5 c1=some (.cell (some (.loc p))):=by rw [← hσ];exact il (Ne.symm n31) (il (Ne.symm nf1) (il (Ne.symm n31) (ik ..)))
 have s2:σ5 c2=some (.cell (some (.int n))):=by rw [← hσ];exact il (Ne.symm n32) (il (Ne.symm nf2) (il (Ne.symm n32) (il (Ne.symm n12) (ik ..))))
 have s3:σ5 c3=some (.cell (some (.loc f))):=by rw [← hσ];exact ik ..
 have sf:σ5 f=some (.func ym [("n", c2),("inner", c3),("a_digits", c1)] none):=by rw [← hσ];exact il nf3 (ik ..)
 have sp:σ5 p=some (.list (aC (jm n a) (.int 0))):=by rw [← hσ];exact il (Ne.symm n3p) (il (Ne.symm nfp) (il (Ne.symm n3p) (il (Ne.symm n1p) (il (Ne.symm n2p) (ik ..)))))
 have sub:Sub σ σ5:=by rw [← hσ];exact ((((((Sub.refl.upd hp).upd hc2).upd hc1).upd hc3).upd hf).upd hc3)
 have hnn:[c2,c3,c1].Nodup:=by simp [n12,n32,n31,Ne.symm n32,Ne.symm n31,Ne.symm n12]
 walk_at "go"
 by_cases h0:a=0
 ·subst h0
  rw [show ((0:Nat) != 0)=false from rfl]
  walk_at "go"
  refine ⟨sub,_,.lst sp hp,?_⟩
  have:(i2d n (jm n 0) 0).map (fun x:Nat=>V.int x)=aC (jm n 0) (.int 0):=by
   generalize jm n 0=m
   induction m with
   | zero=>rfl
   | succ m ih=>simp only [i2d,be,dG,fD,Nat.zero_div];rw [ih];rfl
  rw [this] at q;exact q
 ·rw [bne_iff_ne.mpr h0]
  walk_at "go"
  rotate_left;· simp;walk_at "l"
  have hm:0 < jm n a:=by
   rcases bL (jm n a) with e | e
   ·have:=uq (a:=a) hn;rw [e] at this;simp at this;exact absurd this h0
   ·exact e
  refine ⟨kp sf,CallV.le (d:=22) ?_ (by decide)⟩
  refine Ef hn hnn 20 22 (by walk_at "l") (aC (jm n a) (.int 0)) a 0 (aC (jm n a) (V.int 0)).length (by simpa using hm) (av _) (by simp;walk_at "l") (by simpa using hnd) (by simpa using uq (a:=a) hn) s1 s2 s3 sf sp ?_
  have np1:c1≠p:=n1p
  have s1':=il (o:=some (.list (lW (aC (jm n a) (.int 0)) 0 (aC (jm n a) (V.int 0)).length (i2d n ((aC (jm n a) (V.int 0)).length - 0) a)))) n1p s1
  walk_at "go"
  refine ⟨fun b o hb=>?_,_,.lst (ik ..) hp,?_⟩
  ·rw [ir _ _ (fun e=>by rw [e,hp] at hb;cases hb)];exact sub b o hb
  ·have:lW (aC (jm n a) (.int 0)) 0 (aC (jm n a) (V.int 0)).length (i2d n ((aC (jm n a) (V.int 0)).length - 0) a)=(i2d n (jm n a) a).map fun x:Nat=>V.int x:=by
    simp [lW]
   rw [this];exact q
end
theorem vR:iH ng ["a", "b", "n"]:=by walk_at "binds"
theorem vG:fnB ng ["a", "b", "n"]=true:=by decide +kernel
theorem r4:iH kW ["a", "b"]:=by walk_at "binds"
theorem rK:fnB kW ["a", "b"]=true:=by decide +kernel
theorem j2:iH kd ["a", "b"]:=by walk_at "binds"
theorem j0:fnB kd ["a", "b"]=true:=by decide +kernel
theorem ye {b n h dg:Nat} (hb:1≤b) (hdg:dg < 2 ^ n):h % b * 2 ^ n + dg < b * 2 ^ n∧(h % b * 2 ^ n + dg) % b=(h * 2 ^ n + dg) % b∧(h * 2 ^ n + dg) / b=h / b * 2 ^ n + (h % b * 2 ^ n + dg) / b∧(h % b * 2 ^ n + dg) / b < 2 ^ n:=by
 have e:h * 2 ^ n + dg=b * (h / b * 2 ^ n) + (h % b * 2 ^ n + dg):=by
  conv=>lhs;rw [← cD h b,dD]
  rw [eI,bN]
 have hlt:h % b * 2 ^ n + dg < b * 2 ^ n:=by
  have h1:h % b + 1≤b:=bg h (by walk_at "l")
  have h2:(h % b + 1) * 2 ^ n≤b * 2 ^ n:=cg _ h1
  rw [dD,dU] at h2;lia
 refine ⟨hlt,by rw [e,fk],by rw [e,ek (by walk_at "l")],?_⟩
 rw [b9 (by walk_at "l"),bo (2 ^ n) b];exact hlt
theorem xY (n:Nat):∀ (k x m:Nat),m < k→(i2d n k x)[m]?=some (x / 2 ^ (n * m) % 2 ^ n)
 | k + 1,x,0,_=>by simp [i2d]
 | k + 1,x,m + 1,h=>by
  simp only [i2d,List.getElem?_cons_succ]
  rw [xY n k _ m (by lia),du,← bC,bV,bU,aQ n]
theorem Nat.mul_add_mod_of_lt' {x m y:Nat} (h:y < m):(x * m + y) % m=y:=by rw [bo,fk,bY h]
theorem Nat.mul_add_div_of_lt' {x m y:Nat} (h:y < m):(x * m + y) / m=x:=by rw [bo,ek (by walk_at "l"),cY h,cJ]
noncomputable def th (b n:Nat):Prop:=∀ {d:Nat} {σ:ij} {Q:V→ij→Prop} (x:Nat),60≤d→x < b * 2 ^ n→Q (.tup [.int ((x / b:Nat):Int),.int ((x % b:Nat):Int)]) σ→CallV d (.raw (.ref nh)) [.int x,.int b,.int n] σ Q
section
theorem rF {a b:Nat} (D:th b (iD b)) {d:Nat} {σ:ij} {Q:V→ij→Prop} (hd:70≤d) (hb:1≤b) (hbs:iD b≤2 ^ 19) (ha:a < 2 ^ (2 ^ 19))
  (q:Q (.tup [.int ((a / b:Nat):Int),.int ((a % b:Nat):Int)]) σ):CallV d (.raw (.ref mS)) [.int a,.int b] σ Q:=by
 refine CallV.le (d:=70) (CallV.pure ?_) hd
 refine jX (d:=69) B.ok2 B.f__divmod_pos r4 rK rfl rfl rfl ?_
 walk_at "start"
 walk_at "go"
 have hn1:1≤iD b:=by unfold iD;rw [if_neg (by walk_at "l")];walk_at "l"
 have hla:=uq (n:=iD b) (a:=a) hn1
 have hndb:iD b * jm (iD b) a≤2 ^ 20:=by
  unfold jm
  exact aa (gT _ _) (aa (bK _ _) (aa (aX (iP ha) hbs) (by decide)))
 refine kx (by decide) hn1 hbs ha ?_
 generalize hL:jm (iD b) a=L at *
 generalize hn:iD b=n at *
 have hLl:L≤2 ^ 20:=aa (bu _ hn1) hndb
 iterate 9 walk_at "s"
 refine lc ?_
 walk_at "s"
 refine ⟨by simp,fun qa hqa=>?_⟩
 walk_at "go"
 refine nq ?_
 walk_at "go"
 refine vO fun it hit=>?_
 walk_at "u"; obtain ⟨nit,hit⟩:=iC hit;walk_at "v"
 refine ⟨it,_,rfl,ik ..,trivial,fun m ρ' σ'=>∃ (r:Nat) (qs:List Nat),Has ρ' [("r", .val (.int r)),("q_digits", .val (.loc qa)),("n", .val (.int n)),("b", .val (.int b))]∧σ' qa=some (.list (qs.map fun x:Nat=>V.int x))∧
  σ' it=some (.riter ((i2d n L a).map fun x:Nat=>V.int x) m)∧Sub σ σ'∧m≤L∧qs.reverse=i2d n (L - m) (a / 2 ^ (n * m) / b)∧r=a / 2 ^ (n * m) % b,((i2d n L a).map fun x:Nat=>V.int x).length,?_,?_⟩
 ·rw [ag,jG]
  refine ⟨0,[],(by show Has _ [("r", .val (.int (0:Int))),("q_digits", .val (.loc qa)),("n", .val (.int n)),("b", .val (.int b))];walk_at "has"),il (Ne.symm nit) (ik ..),ik ..,((Sub.refl.upd hqa).upd hit),av _,by simp [i2d],?_⟩
  rw [cY hla];simp
 ·intro m ρ' σ' hJ3
  walk_at "u"; obtain ⟨r,qs,hhas,hsq,hsi,sub,hm,hqs,rfl⟩:=hJ3;walk_at "v"
  have hlen:qs.length=L - m:=by have:=congrArg dA hqs;simpa [jG] using this
  refine D1 hsi (by rw [ag,jG];exact hm) (fun h0=>?_) (fun j x hj hx=>?_)
  ·subst h0
   refine cont_next (ExP.has ?_ hhas)
   walk_at "go"
   refine wU hsq (by simp;lia) ?_
   refine cont_next ?_
   refine jO (x := "q_digits") (r':=?_) (ik ..) ?_ ?_ ?_;rotate_left
   ·walk_at "mem"
   ·walk_at "rest"
   walk_at "go"
   rw [← eZ,hqs]
   refine ky (by decide) hn1 (Eh _ _ _) (by rw [jG];exact hndb) ?_
   walk_at "go"
   refine ⟨(sub.upd hqa).upd hqa,_,.same _ (by intro a e;cases e),?_⟩
   rw [CS]
   simp only [fF,eW,Nat.div_one,dL]
   rw [bY (ae (em a b) hla)]
   exact q
  ·subst hj
   have hj:j < L:=hm
   have hx':x=.int ((a / 2 ^ (n * j) % 2 ^ n:Nat):Int):=by
    rw [aN,xY n L a j hj] at hx
    exact (aq hx).symm
   subst hx'
   refine ⟨⟨_,ik ..,trivial⟩,AsP.sub ?_ hhas⟩
   have hsq':=il (o:=some (.riter ((i2d n L a).map fun x:Nat=>V.int x) j)) (Ne.symm nit) hsq
   walk_at "u"; obtain ⟨v1,v2,v3,v4⟩:=ye (b:=b) (n:=n) (h:=a / 2 ^ (n * (j + 1))) (dg:=a / 2 ^ (n * j) % 2 ^ n) hb (bg _ (aJ n));walk_at "v"
   have hH:a / 2 ^ (n * (j + 1)) * 2 ^ n + a / 2 ^ (n * j) % 2 ^ n=a / 2 ^ (n * j):=by
    have:a / 2 ^ (n * (j + 1))=a / 2 ^ (n * j) / 2 ^ n:=by rw [du,← bC,bV,bU]
    rw [this,bo];exact cD _ _
   rw [hH] at v2 v3
   have hbn:b < 2 ^ n:=by rw [← hn];exact nF b
   have hr:a / 2 ^ (n * (j + 1)) % b < 2 ^ n:=cz (bg _ (by walk_at "l")) hbn
   walk_at "go"
   rotate_left
   ·have:=iP hr;lia
   refine D _ (by decide) v1 ?_
   walk_at "go"
   rotate_left
   ·simp;lia
   refine iY (m:=j) (by walk_at "l") ⟨_,qs++[(a / 2 ^ (n * (j + 1)) % b * 2 ^ n + a / 2 ^ (n * j) % 2 ^ n) / b],by walk_at "has", ?_,il nit (ik ..),(sub.upd hit).upd hqa,by walk_at "l", ?_,v2⟩
   ·rw [ik];simp
   ·rw [ga,List.reverse_singleton,List.singleton_append,hqs,show L - j=(L - (j + 1)) + 1 from Bn hj]
    simp only [i2d]
    rw [v3,Nat.mul_add_mod_of_lt' v4,Nat.mul_add_div_of_lt' v4]
theorem su {a b:Int} (D:th b.natAbs (iD b.natAbs)) {d:Nat} {σ:ij} {Q:V→ij→Prop} (hd:80≤d) (hb:b≠0) (hbs:iD b.natAbs≤2 ^ 19) (ha:a.natAbs < 2 ^ (2 ^ 19))
  (q:Q (.tup [.int (a.fdiv b),.int (a.fmod b)]) σ):CallV d (.raw (.ref ju)) [.int a,.int b] σ Q:=by
 have pos:∀ (a b:Nat) {d:Nat} {σ:ij} {Q:V→ij→Prop},th b (iD b)→72≤d→1≤b→iD b≤2 ^ 19→a < 2 ^ (2 ^ 19)→Q (.tup [.int ((a / b:Nat):Int),.int ((a % b:Nat):Int)]) σ→CallV d (.raw (.ref ju)) [.int a,.int b] σ Q:=by
  intro a b d σ Q D hd hb hbs ha q
  refine CallV.le (d:=72) ?_ hd
  refine jX (d:=71) B.ok2 B.f_int_divmod j2 j0 rfl rfl rfl ?_
  walk_at "start"
  walk_at "go"
  rw [beq_false_of_ne (show b≠0 by walk_at "l")]
  walk_at "go"
  rw [decide_eq_false (show ¬ b < 0 by lia)]
  walk_at "go"
  rw [decide_eq_false (show ¬ a < 0 by lia)]
  walk_at "go"
  refine rF D (by decide) hb hbs ha ?_
  walk_at "go"
  exact q
 have pos2:∀ (a:Int) (b:Nat) {d:Nat} {σ:ij} {Q:V→ij→Prop},th b (iD b)→74≤d→1≤b→iD b≤2 ^ 19→a.natAbs < 2 ^ (2 ^ 19)→Q (.tup [.int (a.fdiv b),.int (a.fmod b)]) σ→CallV d (.raw (.ref ju)) [.int a,.int b] σ Q:=by
  intro a b d σ Q D hd hb hbs ha q
  by_cases h0:0≤a
  ·walk_at "u"; obtain ⟨m,rfl⟩:=cN h0;walk_at "v"
   refine pos m b D (by walk_at "l") hb hbs (by simpa using ha) ?_
   rw [Av,Aq] at q;exact q
  ·refine CallV.le (d:=74) ?_ hd
   refine jX (d:=73) B.ok2 B.f_int_divmod j2 j0 rfl rfl rfl ?_
   walk_at "start"
   walk_at "go"
   rw [beq_false_of_ne (show b≠0 by walk_at "l")]
   walk_at "go"
   rw [decide_eq_false (show ¬ b < 0 by lia)]
   walk_at "go"
   rw [decide_eq_true (show a < 0 by lia)]
   walk_at "go"
   walk_at "u"; obtain ⟨m,hm⟩:=cN (show 0≤-a - 1 by lia);walk_at "v"
   rw [show Builtin.bitNot a=(m:Int) from hm]
   refine pos m b D (by decide) hb hbs (by walk_at "L") ?_
   walk_at "go"
   have hb':(0:Int) < b:=by lia
   obtain ⟨e1,e2⟩:=(gf (a:=a) (r:=(b:Int) - ((m % b:Nat):Int) - 1) (q:=-((m / b:Nat):Int) - 1) hb').mpr (by
    have h1:=cD m b
    have h2:=bg m (show 0 < b by walk_at "l")
    have h3:((b * (m / b) + m % b:Nat):Int)=m:=by rw [h1]
    rw [et,gQ] at h3
    refine ⟨?_,by lia,by lia⟩
    rw [Int.mul_sub,Int.mul_neg];lia)
   rw [cX _ (by walk_at "l"),dP _ (by walk_at "l"),e1,e2] at q
   have e3:(b:Int) + Builtin.bitNot ((m % b:Nat):Int)=(b:Int) - ((m % b:Nat):Int) - 1:=by unfold Builtin.bitNot;walk_at "l"
   rw [e3]
   exact q
 by_cases h0:0 < b
 ·walk_at "u"; obtain ⟨m,rfl⟩:=cN (Int.le_of_lt h0);walk_at "v"
  exact CallV.of (pos2 a m D (by walk_at "l") (by lia) hbs ha q)
 ·refine CallV.le (d:=80) ?_ hd
  refine jX (d:=79) B.ok2 B.f_int_divmod j2 j0 rfl rfl rfl ?_
  walk_at "u"; obtain ⟨m,hm⟩:=cN (show 0≤-b by lia);walk_at "v"
  have hbm:b.natAbs=m:=by lia
  rw [hbm] at D hbs
  walk_at "start"
  walk_at "go"
  rw [beq_false_of_ne hb]
  walk_at "go"
  rw [decide_eq_true (show b < 0 by lia)]
  walk_at "go"
  rw [hm]
  refine pos2 (-a) m D (by decide) (by walk_at "L") hbs (by walk_at "L") ?_
  walk_at "go"
  rw [← hm,gJ]
  have e:-((-a).fmod (-b))=a.fmod b:=by
   have h1:=eu a b
   have h2:=eu (-a) (-b)
   rw [gJ,Int.neg_mul] at h2
   lia
  rw [e];exact q
end
theorem vQ:iH nb ["a12", "a3", "b", "b1", "b2", "n"]:=by walk_at "binds"
theorem vF:fnB nb ["a12", "a3", "b", "b1", "b2", "n"]=true:=by decide +kernel
theorem q8 {a b:Nat} (h:iD a + iD b≤2 ^ 27):IntMulOk (a:Int) (b:Int):=by
 unfold IntMulOk
 rw [jo,jo]
 have:Builtin.Int.intTooBig ((iD a:Int) + iD b)=false:=decide_eq_false (by show ¬ (_ > (2:Int) ^ 27);lia)
 rw [this];simp
noncomputable def y5 (D b n:Nat):Prop:=∀ {d:Nat} {σ:ij} {Q:V→ij→Prop} (x:Nat),D≤d→x < b * 2 ^ n→Q (.tup [.int ((x / b:Nat):Int),.int ((x % b:Nat):Int)]) σ→CallV d (.raw (.ref nh)) [.int x,.int b,.int n] σ Q
section
theorem Fu {D a12 a3 b n:Nat} (hD:y5 D (b / 2 ^ n) n) (hn:1≤n) (hn2:n≤2 ^ 20) (hb:2 ^ n≤b) (hb2:b < 2 ^ (2 * n)) (ha:a12 < b) (h3:a3 < 2 ^ n) {d:Nat} {σ:ij} {Q:V→ij→Prop} (hd:D + 1≤d)
  (q:Q (.tup [.int (((a12 * 2 ^ n + a3) / b:Nat):Int),.int (((a12 * 2 ^ n + a3) % b:Nat):Int)]) σ):
  CallV d (.raw (.ref r9)) [.int a12,.int a3,.int b,.int (b / 2 ^ n:Nat),.int (b % 2 ^ n:Nat),.int n] σ Q:=by
 refine CallV.le (d:=D + 1) ?_ hd
 refine jX (d:=D) B.ok2 B.f__div3n2n vQ vF rfl rfl rfl ?_
 walk_at "start"
 walk_at "go"
 generalize hK:Cont _ _ _=KK
 have tail:∀ (qh rh:Nat) ρ',Has ρ' [("q", .val (.int qh)),("r", .val (.int rh)),("a3", .val (.int a3)),("b", .val (.int b)),("b2", .val (.int (b % 2 ^ n:Nat))),("n", .val (.int n))]→qh * (b / 2 ^ n) + rh=a12→qh < 2 ^ n→a12 * 2 ^ n + a3 < (qh + 1) * b→KK .next ρ' σ:=by
  intro qh rh ρ' hhas e hq hr
  have hor:rh * 2 ^ n ||| a3=rh * 2 ^ n + a3:=by rw [bo,fm h3]
  have hrh:rh < 2 ^ (2 * n):=by lia
  have hb2n:b % 2 ^ n < 2 ^ n:=bg _ (aJ n)
  have hN:qh * b + (rh * 2 ^ n + a3)=a12 * 2 ^ n + a3 + qh * (b % 2 ^ n):=by
   have h1:qh * b=qh * (b / 2 ^ n) * 2 ^ n + qh * (b % 2 ^ n):=by
    conv=>lhs;rw [← cD b (2 ^ n),bV,bo (2 ^ n),← eI]
   rw [← e,dD,h1];walk_at "l"
  subst hK
  refine cont_next (ExP.has ?_ hhas)
  walk_at "go"
  ·refine p6 (fun m ρ₁ σ₁=>σ₁=σ∧∃ qq rr:Int,Has ρ₁ [("q", .val (.int qq)),("r", .val (.int rr)),("b", .val (.int b))]∧qq * b + rr=((a12 * 2 ^ n + a3:Nat):Int)∧rr < b∧-rr≤m) (qh * (b % 2 ^ n)) ⟨rfl,_,_,by walk_at "has", ?_,?_,?_⟩ ?_
   ·rw [hor]
    have:((qh * b:Nat):Int)=(qh:Int) * b:=by simp
    rw [← this];lia
   ·rw [hor,dD] at *;lia
   ·have h0:=aB (rh * 2 ^ n ||| a3);lia
   ·intro m ρ₁ σ₁ hJ3
    walk_at "u"; obtain ⟨rfl,qq,rr,h1,h2,h3',h4⟩:=hJ3;walk_at "v"
    refine TsP.sub ?_ h1
    walk_at "go"
    refine jQ (fun h=>?_) (fun h=>?_)
    ·refine ExP.has ?_ h1
     walk_at "go"
     refine iY (m:=m - 1) (by lia) ⟨rfl,_,_,by walk_at "has", ?_,?_,?_⟩
     ·rw [Int.sub_mul];lia
     ·lia
     ·lia
    ·refine cont_next (ExP.has ?_ h1)
     walk_at "go"
     obtain ⟨u1,u2⟩:=(gf (a:=((a12 * 2 ^ n + a3:Nat):Int)) (b:=(b:Int)) (r:=rr) (q:=qq) (by have:=aJ n;lia)).2 ⟨by rw [g8,hV];exact h2,by lia,h3'⟩
     rw [← u1,← u2]
     exact q
  ·have:=iP hrh;lia
  ·have h1:=iP hq;have h2:=iP hb2n;exact q8 (by lia)
 have hb1:a12 / 2 ^ n≤b / 2 ^ n:=fZ (aF ha)
 refine jb (fun h=>?_) (fun h=>?_)
 ·refine ex_cons (st_assign_swap (names:=["q", "r"]) ?_ (by intro env h1 h2;obtain ⟨⟨_,_,_,_⟩,_,_,_,_,_,_,_,_⟩:=env;dsimp only at h1 h2;subst h1 h2;kernel_rfl) (by intro _;rfl))
  walk_at "go"
  rotate_left
  ·have:iD 1=1:=by decide
   walk_at "l"
  ·have:=iP (a:=b / 2 ^ n) (k:=n) (by rw [b9 (aJ n),← bC,← fU];exact hb2);lia
  have hp:=aJ n
  have e1:=cD a12 (2 ^ n)
  rw [h] at e1
  have e2:((a12:Int) - ((b / 2 ^ n * 2 ^ n:Nat):Int) + ((b / 2 ^ n:Nat):Int))=((a12 % 2 ^ n + b / 2 ^ n:Nat):Int):=by rw [bo];lia
  rw [e2,dU]
  refine ⟨_,rfl,rfl,?_⟩
  show lS _ _ _ [_,_] [_,_]
  walk_at "swp"
  walk_at "go"
  refine tail _ _ _ (by walk_at "has") ?_ (by lia) ?_
  ·have:(2 ^ n - 1) * (b / 2 ^ n) + b / 2 ^ n=2 ^ n * (b / 2 ^ n):=by rw [ia,dU,bx (bu _ hp)]
   walk_at "l"
  ·rw [bx hp]
   have:(a12 + 1) * 2 ^ n≤b * 2 ^ n:=cg _ ha
   rw [dD,bo b] at this;lia
 ·walk_at "go"
  have hb0:1≤b / 2 ^ n:=by rw [fN (aJ n)];lia
  have hlt:a12 < b / 2 ^ n * 2 ^ n:=by rw [← b9 (aJ n)];lia
  refine hD _ (av _) hlt ?_
  walk_at "go"
  refine tail _ _ _ (by walk_at "has") (d5 ..) ?_ ?_
  ·rw [b9 hb0,bo];exact hlt
  ·have h1:a12 + 1≤(a12 / (b / 2 ^ n) + 1) * (b / 2 ^ n):=by
    have h1:=d5 a12 (b / 2 ^ n)
    have h2:=bg a12 hb0
    rw [dD];lia
   have h2:(a12 + 1) * 2 ^ n≤(a12 / (b / 2 ^ n) + 1) * (b / 2 ^ n) * 2 ^ n:=cg _ h1
   have h3:b / 2 ^ n * 2 ^ n≤b:=gh _ _
   have h4:=aO (a12 / (b / 2 ^ n) + 1) h3
   rw [← eI] at h4
   rw [dD] at h2
   walk_at "l"
set_option tactic.hygienic true in
theorem F6 {x b n:Nat} (hn:1≤n) (hb:2 ^ (n - 1)≤b) (hx:iD x≤n + 4000):Builtin.divisionGoesByPylong (x:Int) (b:Int)=false:=by
 have hb0:b≠0:=by have:=aJ (n - 1);lia
 have hl:n - 1≤b.log2:=(Nat.le_log2 hb0).2 hb
 show (_ && decide ((if (x:Int) == 0 then 0 else ((x:Int).natAbs.log2) / 30 + 1) > (if (b:Int) == 0 then 0 else ((b:Int).natAbs.log2) / 30 + 1) + 150))=false
 rw [Bool.and_eq_false_iff]
 refine .inr (decide_eq_false ?_)
 rw [bD,bD,if_neg (c:=((b:Int) == 0)=true) (by simpa using hb0)]
 unfold iD at hx
 split
 ·lia
 ·rename_i h0
  rw [if_neg (by intro z;subst z;simp at h0)] at hx
  exact b7.mpr (dZ (aa (fZ (fJ (aa hx (aX (fY hl) (by decide:4000≤4500))))) (cA (Nat.add_mul_div_right _ 150 (by decide:0 < 30)))))
theorem Fv {D b n:Nat} (hn:1≤n) (hn2:n≤2 ^ 19) (hb:2 ^ (n - 1)≤b) (hbn:b < 2 ^ n)
  (hD:4000 < n→y5 D (b * 2 ^ (n % 2) / 2 ^ ((n + n % 2) / 2)) ((n + n % 2) / 2)):y5 (D + 3) b n:=by
 intro d σ Q x hd hx q
 refine CallV.le (d:=D + 3) ?_ hd
 refine jX (d:=D + 2) B.ok2 B.f__div2n1n vR vG rfl rfl rfl ?_
 have hx2:x < 2 ^ (2 * n):=an hx (by rw [fU,bC];exact cg _ (aF hbn))
 have hbits:=iP hx2
 have hb0:b≠0:=by have:=aJ (n - 1);lia
 walk_at "start"
 walk_at "go"
 refine jQ (fun h=>?_) (fun h=>?_)
 ·walk_at "go"
  ·exact q
  ·exact hb0
  ·exact F6 hn hb (by lia)
 ·walk_at "go"
  generalize hK:Cont _ _ _=KK
  have tail:∀ p ρ',p=n % 2→Has ρ' [("pad", .val (.int p)),("a", .val (.int (x * 2 ^ p:Nat))),("b", .val (.int (b * 2 ^ p:Nat))),("n", .val (.int (n + p:Nat)))]→KK .next ρ' σ:=by
   intro p ρ' hp hhas
   subst hK
   have hD':y5 D (b * 2 ^ (n % 2) / 2 ^ ((n + n % 2) / 2)) ((n + n % 2) / 2):=hD (by lia)
   rw [← hp] at hD'
   have hp1:p≤1:=by lia
   obtain ⟨h,hN⟩:∃ h,n + p=2 * h:=⟨(n + p) / 2,(Nat.mul_div_cancel' (d8 (by rw [hp,ic,Nat.mod_mod];rcases cW n with e | e<;>rw [e]))).symm⟩
   have e2:(n + p) / 2=h:=by rw [hN];exact Nat.mul_div_cancel_left _ (by decide)
   have hh:h≤2 ^ 20:=by lia
   rw [e2] at hD'
   have h2p:1≤1 * 2 ^ ((n + p) / 2):=by have:=aJ ((n + p) / 2);lia
   have hm:∀ y,y &&& (1 * 2 ^ h - 1)=y % 2 ^ h:=fun y=>by rw [dU,Nat.and_two_pow_sub_one_eq_mod]
   have n1:iD 1=1:=by decide
   refine cont_next (ExP.has ?_ hhas)
   walk_at "go"
   rotate_left
   ·rw [n1,e2];exact aa (bF hh 1) (by decide)
   rw [e2]
   refine st_assign_swap (names:=["b1", "b2"]) ?_ (by intro env h1 h2;obtain ⟨⟨_,_,_,_⟩,_,_,_,_,_,_,_,_⟩:=env;dsimp only at h1 h2;subst h1 h2;kernel_rfl) (by intro _;rfl)
   walk_at "go"
   rw [hm]
   refine ⟨_,rfl,rfl,?_⟩
   show lS _ _ _ [_,_] [_,_]
   walk_at "swp"
   walk_at "go"
   rw [hm]
   have hp2:=aJ p
   have hV1:2 ^ h≤b * 2 ^ p:=by
    refine aa (bh (by decide) (show h≤n - 1 + p by have:n - 1 + p + 1=2 * h:=(by rw [bS,bx hn,hN]);lia)) ?_
    rw [bC];exact cg _ hb
   have hV2:b * 2 ^ p < 2 ^ (2 * h):=by rw [← hN,bC];exact cU hbn hp2
   have hA:x * 2 ^ p / 2 ^ (n + p) < b * 2 ^ p:=by
    rw [b9 (aJ _)]
    refine an (cU hx hp2) ?_
    rw [Nat.mul_right_comm]
    exact aO _ (bh (by decide) (aM _ _))
   have e3:x * 2 ^ p / 2 ^ (n + p) * 2 ^ h + x * 2 ^ p / 2 ^ h % 2 ^ h=x * 2 ^ p / 2 ^ h:=by
    rw [hN,fU,bC,← du,d5]
   have hmod:x * 2 ^ p / 2 ^ h % (b * 2 ^ p) < b * 2 ^ p:=bg _ (by walk_at "l")
   refine Fu hD' (by lia) hh hV1 hV2 hA (bg _ (aJ h)) (cG _) ?_
   rw [e3]
   walk_at "go"
   rw [hm]
   refine Fu hD' (by lia) hh hV1 hV2 hmod (bg _ (aJ h)) (cG _) ?_
   walk_at "go"
   walk_at "u"; obtain ⟨v1,v2,v3,v4⟩:=ye (b:=b * 2 ^ p) (n:=h) (h:=x * 2 ^ p / 2 ^ h) (dg:=x * 2 ^ p % 2 ^ h) (by lia) (bg _ (aJ h));walk_at "v"
   rw [d5] at v2 v3
   rw [Nat.mul_mod_mul_right] at v2
   rw [Nat.mul_div_mul_right _ _ hp2] at v3
   rw [v2]
   have hq1:x * 2 ^ p / 2 ^ h / (b * 2 ^ p) < 2 ^ (2 * n):=ae (by rw [v3];have:=Nat.le_mul_of_pos_right (x * 2 ^ p / 2 ^ h / (b * 2 ^ p)) (aJ h);lia) (ae (em x b) hx2)
   have hq2:=iP hq1
   have hor:x * 2 ^ p / 2 ^ h / (b * 2 ^ p) * 2 ^ h ||| (x * 2 ^ p / 2 ^ h % (b * 2 ^ p) * 2 ^ h + x * 2 ^ p % 2 ^ h) / (b * 2 ^ p)=x / b:=by
    rw [v3,bo _ (2 ^ h),fm v4]
   rcases (show p=0∨p=1 by lia) with rfl | rfl
   ·refine ifn (by decide) ?_
    walk_at "go"
    ·rw [hor,eW,bU];exact q
    ·exact aa (aX hq2 hh) (by lia)
   ·refine ifp (by decide) ?_
    walk_at "go"
    ·rw [hor,Nat.pow_one,Nat.mul_div_cancel _ (by decide)];exact q
    ·exact aa (aX hq2 hh) (by lia)
  by_cases hpad:n % 2=0
  ·refine ifn (by rw [hpad];decide) ?_
   refine ex_nil ?_
   exact tail 0 _ hpad.symm (by rw [hpad];simp only [eW,bU,cJ];walk_at "has")
  ·have h1:n % 2=1:=by lia
   refine ifp (by rw [h1];decide) ?_
   walk_at "go"
   ·exact tail 1 _ h1.symm (by rw [h1];walk_at "has")
   ·lia
   ·have:=iP hbn;lia
end
theorem F9:∀ L {b n:Nat},1≤n→n≤2 ^ 19→2 ^ (n - 1)≤b→b < 2 ^ n→n≤4000 * 2 ^ L→y5 (3 + 4 * L) b n:=by
 intro L
 induction L with
 | zero=>intro b n h1 h2 h3 h4 h5;exact Fv (D:=0) h1 h2 h3 h4 fun h=>absurd h (by walk_at "l")
 | succ L ih=>
  intro b n h1 h2 h3 h4 h5
  refine Fv (D:=3 + 4 * L + 1) h1 h2 h3 h4 fun h=>?_
  obtain ⟨p,hp⟩:∃ p,n % 2=p:=⟨_,rfl⟩
  obtain ⟨k,hk⟩:∃ k,(n + p) / 2=k:=⟨_,rfl⟩
  rw [hp,hk]
  have hp1:p≤1:=by lia
  have hN:n + p=k + k:=by lia
  have hV1:2 ^ (k - 1) * 2 ^ k≤b * 2 ^ p:=by
   rw [← bC,show k - 1 + k=n - 1 + p from f0 (m:=1) (by rw [bS,bx (dh fun e=>absurd hN (by subst e;exact bE (Nat.add_pos_left h1 p))),bS,bx h1,hN]),bC];exact cg _ h3
  have hV2:b * 2 ^ p < 2 ^ k * 2 ^ k:=by rw [← bC,← hN,bC];exact cU h4 (aJ p)
  have hpw:2 ^ (L + 1)=2 * 2 ^ L:=by rw [fE,bo]
  have key:y5 (3 + 4 * L) (b * 2 ^ p / 2 ^ k) k:=ih (n:=k) (b:=b * 2 ^ p / 2 ^ k) (by lia) (by lia) (by rw [fN (aJ k)];exact hV1) (by rw [b9 (aJ k)];exact hV2) (by lia)
  intro d σ Q x hd hx q
  exact key x (aa (cG _) hd) hx q
theorem yU {b n:Nat} (h1:1≤n) (h2:n≤2 ^ 19) (h3:2 ^ (n - 1)≤b) (h4:b < 2 ^ n):th b n:=fun x hd=>F9 8 h1 h2 h3 h4 (by walk_at "l") x (by walk_at "l")
section
variable {σ:ij} {d:Nat} {Q:V→ij→Prop}
noncomputable def nI:List Nat:=[173,847,6150,6155,6156,6157,8203,8204,8205,8288,65279,65024,65025,65026,65027,65028,65029,65030,65031,65032,65033,65034,65035,65036,65037,65038,65039]
noncomputable def b1 (c:Nat):Bool:=nI.contains c
noncomputable def nu:Data→List (Int×Value) | .set es _ _=>es.toList | _=>[]
noncomputable def lV (es:List (Int×Value)):List (Int×Tok):=es.map fun e=>match e.2 with | .int k t=>(k,t) | _=>(0,0)
theorem Fy:∀ P:Params,nu (b1O P).data=(lV (nu (b1O P).data)).map fun p=>(hashInt p.1,.int p.1 p.2):=by intro P;kernel_rfl
theorem Fx:∀ P:Params,(((lV (nu (b1O P).data)).map (·.1)).all (fun k=>(nI.map ii).contains k) && nI.all (fun c=>((lV (nu (b1O P).data)).map (·.1)).contains (ii c)))=true:=by intro P;kernel_rfl
theorem b1_set:C.h1.SetOf (intKind C.prog C.w) FT (fun k=>((lV (nu (b1O C.w.params).data)).map (·.1)).contains k) 27:=by
 have e:=Fy C.w.params
 refine ⟨_,_,_,_,B.at (FA C.w.params),⟨rfl,rfl,rfl⟩,rfl,?_,?_,by decide,by rfl,rfl⟩
 ·intro x hx
  have hx:x∈nu (b1O C.w.params).data:=hx
  rw [e] at hx
  walk_at "u"; obtain ⟨p,hp,rfl⟩:=aA.mp hx;walk_at "v"
  exact ⟨⟨p.1,by simp [intKind,Value.isInt],rfl⟩,rfl⟩
 ·intro k
  rw [a8]
  constructor
  ·intro h
   walk_at "u"; obtain ⟨p,hp,rfl⟩:=aA.mp h;walk_at "v"
   exact ⟨(hashInt p.1,.int p.1 p.2),by show _∈nu (b1O C.w.params).data;rw [e];exact aA.mpr ⟨p,hp,rfl⟩,by simp [intKind,Value.isInt]⟩
  ·intro hJ0
   walk_at "u"; obtain ⟨x,hx,hk⟩:=hJ0;walk_at "v"
   have hx:x∈nu (b1O C.w.params).data:=hx
   rw [e] at hx
   walk_at "u"; obtain ⟨p,hp,rfl⟩:=aA.mp hx;walk_at "v"
   have:p.1=k:=by simpa [intKind,Value.isInt] using hk
   rw [← this];exact aA.mpr ⟨p,hp,rfl⟩
theorem Fz (P:Params) (c:Nat):((lV (nu (b1O P).data)).map (·.1)).contains (c:Int)=b1 c:=by
 have h:=Fx P
 rw [aV,a9,a9] at h
 unfold b1
 apply gK.mpr
 rw [a8,a8]
 constructor
 ·intro m
  have:=h.1 _ m
  rw [a8] at this
  walk_at "u"; obtain ⟨x,hx,e⟩:=aA.mp this;walk_at "v"
  have:x=c:=by have:(x:Int)=c:=e;lia
  rw [← this];exact hx
 ·intro m
  have:=h.2 _ m
  rw [a8] at this
  exact this
theorem AS {c:Nat} (q:Q (.bool (b1 c)) σ):M2 d (compareOp .In) (.int (c:Int)) (.raw (.ref FT)) σ Q:=fun A s x y hA hi hx hy QM hq=>by
 cases hx;cases hy
 have hS:=b1_set
 walk_at "u"; obtain ⟨o,es,ep,t,ho,r⟩:=hS;walk_at "v"
 refine wpAny_inSet_of (knd:=intKind C.prog C.w) (k:=(c:Int)) (by simp [intKind,Value.isInt]) rfl ⟨o,es,ep,t,hi.base _ o ho B.nt,r⟩ ?_
 rw [Fz]
 exact hq _ _ _ _ q hi.toks .refl (.bool _)
end
theorem rX:iH kS ["code"]:=by walk_at "binds"
theorem rH:fnB kS ["code"]=true:=by decide +kernel
theorem pK:iH kA ["code"]:=by walk_at "binds"
theorem pC:fnB kA ["code"]=true:=by decide +kernel
theorem wJ (k:Int):∀ (l:List (Int×Str)) (t:Nat),match l.lookup k with
  | some v=>∃ e u,(iA t l).find? (fun e=>Value.isInt k e.key)=some e∧e.val=.str v u
  | none=>(iA t l).find? (fun e=>Value.isInt k e.key)=none:=by
 intro lr
 induction lr with
 | nil=>
  intro t
  exact rfl
 | cons hdp r ihr=>
  obtain ⟨j,v⟩:=hdp
  intro t
  have ih:=ihr (t + 3)
  rw [aS]
  by_cases h:k=j
  ·subst h
   rw [beq_self_eq_true]
   refine ⟨⟨hashInt k,.int k t,.str v (t + 1)⟩,t + 1,?_,rfl⟩
   unfold iA
   rw [c9]
   simp [Value.isInt]
  ·have e1:(k == j)=false:=by simpa using h
   have e2:Value.isInt k (.int j t)=false:=by simp [Value.isInt];exact fun q=>h q.symm
   rw [e1]
   unfold iA
   simp only [c9,e2]
   exact ih
theorem wG (k:Int):∀ (l:List (Int×Str)) (t:Nat),match l.lookup k with
  | some v=>∃ e u,(i5 t l).find? (fun e=>Value.isInt k e.key)=some e∧e.val=.str v u
  | none=>(i5 t l).find? (fun e=>Value.isInt k e.key)=none:=by
 intro lr
 induction lr with
 | nil=>
  intro t
  exact rfl
 | cons hdp r ihr=>
  obtain ⟨j,v⟩:=hdp
  intro t
  have ih:=ihr (t + 2)
  rw [aS]
  by_cases h:k=j
  ·subst h
   rw [beq_self_eq_true]
   refine ⟨⟨hashInt k,.int k t,.str v (t + 1)⟩,t + 1,?_,rfl⟩
   unfold i5
   rw [c9]
   simp [Value.isInt]
  ·have e1:(k == j)=false:=by simpa using h
   have e2:Value.isInt k (.int j t)=false:=by simp [Value.isInt];exact fun q=>h q.symm
   rw [e1]
   unfold i5
   simp only [c9,e2]
   exact ih
theorem wH:∀ (l:List (Int×Str)) (t:Nat),∀ e∈iA t l,∃ k,Value.isInt k e.key=true∧e.hash=hashInt k:=by
 intro lr
 induction lr with
 | nil=>
  intro t e h
  cases h
 | cons hdp r ihr=>
  obtain ⟨j,v⟩:=hdp
  intro t e h
  rcases am.mp h with rfl | h
  ·exact ⟨j,by simp [Value.isInt],rfl⟩
  ·exact ihr _ e h
theorem wE:∀ (l:List (Int×Str)) (t:Nat),∀ e∈i5 t l,∃ k,Value.isInt k e.key=true∧e.hash=hashInt k:=by
 intro lr
 induction lr with
 | nil=>
  intro t e h
  cases h
 | cons hdp r ihr=>
  obtain ⟨j,v⟩:=hdp
  intro t e h
  rcases am.mp h with rfl | h
  ·exact ⟨j,by simp [Value.isInt],rfl⟩
  ·exact ihr _ e h
theorem rg {β:Type} {x:Int}:∀ {l l':List (Int×β)},(l++l').lookup x=(l.lookup x).or (l'.lookup x)
 | [],l'=>by simp
 | (n,v) :: l,l'=>by
  simp only [ar,aS]
  cases hx:x == n<;>simp [rg]
noncomputable def dEs:Data→List DictEntry | .dict es _=>es.toList | _=>[]
theorem C7 (k:Int):match k7.lookup k with
  | some v=>∃ e u,(dEs kI.data).find? (fun e=>Value.isInt k e.key)=some e∧e.val=.str v u
  | none=>(dEs kI.data).find? (fun e=>Value.isInt k e.key)=none:=by
 obtain ⟨t1,t2,hE⟩:∃ t1 t2,dEs kI.data=iA t1 (pC0++pCs.flatten)++i5 t2 pL:=⟨_,_,rfl⟩
 rw [hE,oh,← ay,rg]
 have h1:=wJ k (pC0++pCs.flatten) t1
 have h2:=wG k pL t2
 generalize (pC0++pCs.flatten).lookup k=r1 at h1 ⊢
 generalize pL.lookup k=r2 at h2 ⊢
 rw [List.find?_append]
 cases r1 with
 | some v=>
  walk_at "u"; obtain ⟨e,u,g,hv⟩:=h1;walk_at "v"
  exact ⟨e,u,by rw [g];rfl,hv⟩
 | none=>
  have h1:(iA t1 (pC0++pCs.flatten)).find? (fun e=>Value.isInt k e.key)=none:=h1
  rw [h1]
  cases r2 with
  | some v=>exact h2
  | none=>exact h2
theorem C6:∀ e∈dEs kI.data,∃ k,Value.isInt k e.key=true∧e.hash=hashInt k:=by
 obtain ⟨t1,t2,hE⟩:∃ t1 t2,dEs kI.data=iA t1 (pC0++pCs.flatten)++i5 t2 pL:=⟨_,_,rfl⟩
 rw [hE]
 intro e he
 rcases bb.mp he with h | h
 ·exact wH _ _ e h
 ·exact wE _ _ e h
noncomputable def yj (c:Nat):Option (List Nat):=(k7.lookup (c:Int)).map (·.cps.toList)
noncomputable def zV (x:List Nat):List Nat:=(Txt.lower ⟨x.toArray⟩).cps.toList
noncomputable def xN (c:Nat):List Nat:=(yj c).getD (zV [c])
section
variable {K:Kx} {ρ:Fm} {σ:ij} {d:Nat} {Q:V→ij→Prop}
theorem rE (hd:4≤d) {c:Nat} (q:Q (.bool (b1 c)) σ):CallV d (.raw (.ref mP)) [.str [c]] σ Q:=by
 refine CallV.le (d:=4) ?_ hd
 refine jX (d:=3) B.ok2 B.f_in_table_b1 rX rH rfl rfl rfl ?_
 walk_at "start"
 walk_at "go"
 refine AS ?_
 walk_at "go"
 exact q
theorem AA {T id:String} {o:Expr} {name:Str} {apos pos:Pos} {args:List Expr} (m:oW T name id) {a:Addr} {ob:Obj} (ho:C.h1.get? a=some ob) (ht:a∉C.tabs) (hc:ob.cls=.type T) (hdi:ob.dict=none)
  (h:EvP K ρ σ o (fun ov σ₁=>ov=.raw (.ref a)∧EvsP K ρ args σ₁ (fun pl σ₂=>CallV K.d (.raw (.builtin id)) (.raw (.ref a) :: pl) σ₂ Q)))
  (hbase:autoParam (∀ env,attributeBase o name env (eval o env)=eval o env) aI)
  (hfew:autoParam (∀ env,((backTo pos (starEach args env)).all (fun x=>!x.1) && (backToKw pos (keywordEach [] env)).all (fun x=>x.1.isSome)
   && decide (args.length + ([]:List Keyword).length + (if ([]:List Keyword).isEmpty then 0 else 1) < 30))=true) aI)
  (hline:autoParam ((apos.endLine == pos.line)=true) aR)
  (hse:autoParam (∀ env,backTo pos (starEach args env)=args.map fun e=>(false,eval e env)) aI):EvP K ρ σ (.Call (.Attribute o name apos) args [] pos) Q:=fun A env s ha hr hi QM hq=>
 wpAny_Call_method (hbase env) (hfew env) hline m.pa m.slot m.ty (h A env s ha hr hi _ fun v pv σ₁ s₁ h₁ i₁ e₁ r₁=>by
  walk_at "u"; obtain ⟨rfl,h₁⟩:=h₁;walk_at "v"
  cases r₁
  have hb:=i₁.base a ob ho ht
  refine ⟨⟨ob,hb,hc⟩,fun b e=>(by cases e;exact ⟨ob,hb,hdi⟩),?_⟩
  refine lg (fv:=.raw (.builtin id)) (pre:=[.raw (.ref a)]) (hse env) ?_ ha (hr.mono e₁) i₁ (.raw _) (.cons (.raw _) .nil) fun v pv σ₂ s₂ q i₂ e₂ r₂=>hq v pv σ₂ s₂ q i₂ (e₁.trans e₂) r₂
  exact EvsP.mono (fun pl σ' q=>⟨keep_builtin,q⟩) h₁)
set_option tactic.hygienic true in
theorem C4 {c:Nat} (q1:∀ x,yj c=some x→Q (.str x) σ) (q2:yj c=none→Q .none σ):CallV d (.raw (.builtin "dict.get")) [.raw (.ref FS),.int (c:Int)] σ Q:=fun A s f l ha hi hf hr QM hq=>by
 walk_at "u"; obtain ⟨x,y,rfl,hx,hy⟩:=mH hr;walk_at "v"
 cases hf;cases hx;cases hy
 rename_i t
 have ho:=hi.base _ _ (B.at (Dz C.w.params)) B.nt
 have hk:(intKind C.prog C.w).is (c:Int) (.int (c:Int) t)=true:=by simp [intKind,Value.isInt]
 have hf:=C7 (c:Int)
 refine call_meetsIn F.slot_dict_get ⟨_,ho,rfl⟩ F.entry_dict_get (F.args_dict_get_2 _ _) (meets_dict_get (intKind C.prog C.w) FS (k:=(c:Int)) hk (by rfl)) ⟨fun k=>findBy Value.isInt ⟨dEs kI.data⟩ k,?_,?_⟩
 ·exact ⟨_,_,_,ho,⟨rfl,rfl,rfl⟩,rfl,fun e he=>C6 e (Array.mem_toList_iff.mpr he),fun k=>rfl⟩
 ·have:findBy Value.isInt ⟨dEs kI.data⟩ (c:Int)=((dEs kI.data).find? fun e=>Value.isInt c e.key).map (·.val):=by unfold findBy;simp
  show wants QM Bot (.ok (.ret ((findBy Value.isInt ⟨dEs kI.data⟩ (c:Int)).getD .none))) _
  rw [this]
  unfold yj at q1 q2
  cases hp:k7.lookup (c:Int) with
  | some v=>
   rw [hp] at hf q1
   walk_at "u"; obtain ⟨e,u,g,hv⟩:=hf;walk_at "v"
   rw [g]
   show QM e.val _
   rw [hv]
   exact hq _ _ _ _ (q1 _ rfl) hi.toks .refl (.strOf rfl)
  | none=>
   rw [hp] at hf q2
   have hf:(dEs kI.data).find? (fun e=>Value.isInt c e.key)=none:=hf
   rw [hf]
   exact hq _ _ _ _ (q2 rfl) hi.toks .refl .none
theorem zU:oW "dict" "get" "dict.get" := ⟨F.plainAttrs_dict,F.slot_dict_get,F.type_dict_get⟩
theorem pA (hd:4≤d) {c:Nat} (q:Q (.str (xN c)) σ):CallV d (.raw (.ref mi)) [.str [c]] σ Q:=by
 refine CallV.le (d:=4) ?_ hd
 refine jX (d:=3) B.ok2 B.f_map_table_b3 pK pC rfl rfl rfl ?_
 walk_at "start"
 walk_at "go"
 refine AA zU (B.at (Dz C.w.params)) B.nt rfl rfl ?_
 walk_at "go"
 refine ⟨rfl,?_⟩
 walk_at "go"
 refine C4 (fun x hx=>?_) (fun hx=>?_)
 ·walk_at "go"
  unfold xN at q;rw [hx] at q;exact q
 ·walk_at "go"
  ·unfold xN zV at q;rw [hx] at q;exact q
  ·simp
end
theorem C5:iH uT ["size"]:=by walk_at "binds"
theorem CX:fnL uT ["size"] ["left"]=true:=by decide +kernel
theorem pN:iH kC ["self"]:=by walk_at "binds"
theorem pE:fnB kC ["self"]=true:=by decide +kernel
theorem pM:iH kB ["self", "token"]:=by walk_at "binds"
theorem pD:fnB kB ["self", "token"]=true:=by decide +kernel
theorem me:iH kR ["self"]:=by walk_at "binds"
theorem ma:fnB kR ["self"]=true:=by decide +kernel
theorem sK:iH lG ["self", "fp"]:=by walk_at "binds"
theorem sA:fnB lG ["self", "fp"]=true:=by decide +kernel
structure iL where
 x:Addr
 dx:Addr
 st:Addr
 dst:Addr
 rd:Addr
 cl:Addr
 lf:Addr
 pb:Addr
noncomputable def wsL:List Nat:=[10,9,13,32]
noncomputable abbrev s4 (A:iL) (n:Nat):List (Str×V):=[("lineno", .int n),("instream", .loc A.st),("whitespace", .str wsL),("pushback", .loc A.pb)]
noncomputable abbrev vH (l:List Nat):List V:=l.map fun c=>.str [c]
structure Lex (A:iL) (σ:ij) (l:List Nat) (n:Nat) (p:List (List Nat)):Prop where
 hx:σ A.x=some (.inst ml A.dx)
 hd:σ A.dx=some (.ns (s4 A n))
 hst:σ A.st=some (.func wY [] (some A.dst))
 hdst:σ A.dst=some (.ns [("read", .loc A.rd)])
 hrd:σ A.rd=some (.func uT [("left", A.cl)] none)
 hcl:σ A.cl=some (.cell (some (.loc A.lf)))
 hlf:σ A.lf=some (.list (vH l))
 hpb:σ A.pb=some (.list (p.map V.str))
 ne:A.lf≠A.pb
noncomputable def iG (A:iL) (σ:ij) (l:List Nat) (n:Nat) (p:List (List Nat)):ij:=upd (upd (upd σ A.lf (some (.list (vH l)))) A.dx (some (.ns (s4 A n)))) A.pb (some (.list (p.map V.str)))
theorem ip {σ:ij} {a b:Addr} {p q:PObj} (h1:σ a=some p) (h2:σ b=some q) (h:p≠q):a≠b:=fun e=>h (by rw [e,h2] at h1;exact (aq h1).symm)
theorem Lex.set {A:iL} {σ:ij} {l l':List Nat} {n n':Nat} {p p':List (List Nat)} (h:Lex A σ l n p):Lex A (iG A σ l' n' p') l' n' p':=by
 have e1:A.x≠A.lf:=ip h.hx h.hlf (by intro e;cases e)
 have e2:A.x≠A.dx:=ip h.hx h.hd (by intro e;cases e)
 have e3:A.x≠A.pb:=ip h.hx h.hpb (by intro e;cases e)
 have d3:A.dx≠A.pb:=ip h.hd h.hpb (by intro e;cases e)
 have s1:A.st≠A.lf:=ip h.hst h.hlf (by intro e;cases e)
 have s2:A.st≠A.dx:=ip h.hst h.hd (by intro e;cases e)
 have s3:A.st≠A.pb:=ip h.hst h.hpb (by intro e;cases e)
 have t1:A.dst≠A.lf:=ip h.hdst h.hlf (by intro e;cases e)
 have t2:A.dst≠A.dx:=ip h.hdst h.hd (by intro e;cases e)
 have t3:A.dst≠A.pb:=ip h.hdst h.hpb (by intro e;cases e)
 have r1:A.rd≠A.lf:=ip h.hrd h.hlf (by intro e;cases e)
 have r2:A.rd≠A.dx:=ip h.hrd h.hd (by intro e;cases e)
 have r3:A.rd≠A.pb:=ip h.hrd h.hpb (by intro e;cases e)
 have c1:A.cl≠A.lf:=ip h.hcl h.hlf (by intro e;cases e)
 have c2:A.cl≠A.dx:=ip h.hcl h.hd (by intro e;cases e)
 have c3:A.cl≠A.pb:=ip h.hcl h.hpb (by intro e;cases e)
 have l2:A.lf≠A.dx:=ip h.hlf h.hd (by intro e;cases e)
 exact ⟨il e3 (il e2 (il e1 h.hx)),il d3 (ik ..),il s3 (il s2 (il s1 h.hst)),il t3 (il t2 (il t1 h.hdst)),il r3 (il r2 (il r1 h.hrd)),il c3 (il c2 (il c1 h.hcl)),il h.ne (il l2 (ik ..)),ik ..,h.ne⟩
set_option tactic.hygienic true in
theorem i0 {σ:ij} {a:Addr} {o:Option PObj} (h:σ a=o):upd σ a o=σ:=by
 funext b;unfold upd;split
 ·rename_i e;rw [e,h]
 ·rfl
theorem Lex.same {A:iL} {σ:ij} {l:List Nat} {n:Nat} {p:List (List Nat)} (h:Lex A σ l n p):iG A σ l n p=σ:=by
 unfold iG
 rw [i0 h.hlf,i0 h.hd,i0 h.hpb]
theorem Lex.twice {A:iL} {σ:ij} {l l₀ l':List Nat} {n n₀ n':Nat} {p p₀ p':List (List Nat)} (h:Lex A σ l₀ n₀ p₀):iG A (iG A σ l n p) l' n' p'=iG A σ l' n' p':=by
 have d3:A.dx≠A.pb:=ip h.hd h.hpb (by intro e;cases e)
 have l2:A.lf≠A.dx:=ip h.hlf h.hd (by intro e;cases e)
 have l3:=h.ne
 unfold iG
 funext c;unfold upd
 by_cases e1:c=A.lf<;>by_cases e2:c=A.dx<;>by_cases e3:c=A.pb<;>simp [e1,e2,e3]
theorem Lex.lf {A:iL} {σ:ij} {l l':List Nat} {n:Nat} {p:List (List Nat)} (h:Lex A σ l n p):upd σ A.lf (some (.list (vH l')))=iG A σ l' n p:=by
 have l2:A.lf≠A.dx:=ip h.hlf h.hd (by intro e;cases e)
 unfold iG
 rw [i0 (σ:=upd σ A.lf _) (a:=A.dx) (il (Ne.symm l2) h.hd),i0 (il (Ne.symm h.ne) h.hpb)]
theorem Lex.dx {A:iL} {σ:ij} {l:List Nat} {n n':Nat} {p:List (List Nat)} (h:Lex A σ l n p):upd σ A.dx (some (.ns (s4 A n')))=iG A σ l n' p:=by
 have d3:A.dx≠A.pb:=ip h.hd h.hpb (by intro e;cases e)
 unfold iG
 rw [i0 h.hlf,i0 (a:=A.pb) (il (Ne.symm d3) h.hpb)]
theorem Lex.pb' {A:iL} {σ:ij} {l:List Nat} {n:Nat} {p p':List (List Nat)} (h:Lex A σ l n p):upd σ A.pb (some (.list (p'.map V.str)))=iG A σ l n p':=by
 unfold iG
 rw [i0 h.hlf,i0 h.hd]
section
variable {K:Kx} {ρ:Fm} {σ:ij} {d:Nat} {Q:V→ij→Prop}
theorem wu {h:Heap} {v:Value} {i:Int} (r:Rel σ h v (.int i)):handedIn v=true:=by cases r;rfl
theorem wt {h:Heap} {v:Value} {i:List Nat} (r:Rel σ h v (.str i)):handedIn v=true:=by cases r;rfl
theorem rm {h:Heap} {v:Value} {i:Addr} (r:Rel σ h v (.loc i)):handedIn v=true:=by cases r;rfl
theorem ut {A:iL} {l:List Nat} {n:Nat} {p:List (List Nat)} (h:Lex A σ l n p) {name:Str} {pv:V} {expr:Bool} (hl:(s4 A n).lookup name=some pv) (hf:findIn (FR C.w.params) (.ref ml) name=some none) (hv:∀ v h,Rel σ h v pv→handedIn v=true) (q:Q pv σ):
  M1 d (fun o=>getAttr o name expr) (.loc A.x) σ Q:=by
 have e:=ly C.w.params
 simp only [Prod.mk.injEq] at e
 exact Am B.fr h.hx h.hd hl e.1 e.2.1 hf hv q
theorem lex_lineno {A:iL} {l:List Nat} {n:Nat} {p:List (List Nat)} (h:Lex A σ l n p) {expr:Bool} (q:Q (.int n) σ):M1 d (fun o=>getAttr o "lineno" expr) (.loc A.x) σ Q:=
 ut h (by rfl) (Prod.mk.inj (oH C.w.params)).1 (fun _ _ r=>wu r) q
theorem lex_instream {A:iL} {l:List Nat} {n:Nat} {p:List (List Nat)} (h:Lex A σ l n p) {expr:Bool} (q:Q (.loc A.st) σ):M1 d (fun o=>getAttr o "instream" expr) (.loc A.x) σ Q:=
 ut h (by rfl) (Prod.mk.inj (o5 C.w.params)).1 (fun _ _ r=>rm r) q
theorem lex_whitespace {A:iL} {l:List Nat} {n:Nat} {p:List (List Nat)} (h:Lex A σ l n p) {expr:Bool} (q:Q (.str wsL) σ):M1 d (fun o=>getAttr o "whitespace" expr) (.loc A.x) σ Q:=
 ut h (by rfl) (Prod.mk.inj (mJ C.w.params)).1 (fun _ _ r=>wt r) q
theorem lex_pushback {A:iL} {l:List Nat} {n:Nat} {p:List (List Nat)} (h:Lex A σ l n p) {expr:Bool} (q:Q (.loc A.pb) σ):M1 d (fun o=>getAttr o "pushback" expr) (.loc A.x) σ Q:=
 ut h (by rfl) (Prod.mk.inj (o4 C.w.params)).1 (fun _ _ r=>rm r) q
open PySem.Spec PySem.SeqAt in
theorem oN:∀ xs:List (List Nat),sQ σ (xs.map V.str) (xs.map fun x=>PySem.PyData.str ⟨x.toArray⟩):=by
 intro lr
 induction lr with
 | nil=>
  exact .nil
 | cons x xs ihr=>
  exact .cons (.str x) (ihr)
noncomputable def OkS (x:List Nat):Prop:=PyData.strOk ⟨x.toArray⟩=true
open PySem.Spec PySem.SeqAt in
theorem vl:∀ xs:List (List Nat),(∀ x∈xs,OkS x)→PyData.canLayAll0 (xs.map fun x=>PySem.PyData.str ⟨x.toArray⟩)=true∧PyData.depthAll (xs.map fun x=>PySem.PyData.str ⟨x.toArray⟩)=0:=by
 intro lr
 induction lr with
 | nil=>
  intro _
  exact ⟨rfl,rfl⟩
 | cons x xs ihr=>
  intro h
  walk_at "u"; obtain ⟨h1,h2⟩:=ihr fun y hy=>h y (ai _ hy);walk_at "v"
  constructor
  ·simp only [be,PyData.canLayAll0,h1,eH];exact h x ao
  ·simp only [be,PyData.depthAll,h2];rfl
open PySem.Spec PySem.SeqAt in
theorem oZ (xs:List (List Nat)) (h:∀ x∈xs,OkS x):shaped (.list (xs.map fun x=>PySem.PyData.str ⟨x.toArray⟩))=true:=by
 unfold shaped
 walk_at "u"; obtain ⟨h1,h2⟩:=vl xs h;walk_at "v"
 rw [aV]
 constructor
 ·simp only [PyData.canLay0];exact h1
 ·simp only [PyData.depth,h2];rfl
open PySem.Spec PySem.SeqAt in
theorem D3 {a:Addr} {xs:List (List Nat)} (h:∀ x∈xs,OkS x) (hs:σ a=some (.list (xs.map V.str))) (q:Q (.bool (!xs.isEmpty)) σ):M2 d (compareOp .NotEq) (.loc a) (.lst []) σ Q:=by
 refine wO (.own hs (oN xs)) (.lst .nil) (oZ xs h) (by rfl) (by cases xs<;>rfl) ?_
 have:same (.list (xs.map fun x=>PySem.PyData.str ⟨x.toArray⟩)) (.list [])=xs.isEmpty:=by cases xs<;>rfl
 rw [this];exact q
end
section
variable {K:Kx} {ρ:Fm} {σ:ij} {d:Nat} {Q:V→ij→Prop}
noncomputable def OkL (l:List Nat):Prop:=l.length < 2 ^ 20∧∀ c∈l,c < 0x110000
theorem OkL.strs {l:List Nat} (h:OkL l):∀ x∈l.map (fun c=>[c]),OkS x:=fun x hx=>by
 walk_at "u"; obtain ⟨c,hc,rfl⟩:=aA.mp hx;walk_at "v"
 have:=h.2 c hc
 unfold OkS PyData.strOk
 simp [this]
theorem OkL.tail {c:Nat} {l:List Nat} (h:OkL (c :: l)):OkL l:=⟨by have:=h.1;simp at this;lia,fun x hx=>h.2 x (ai _ hx)⟩
theorem OkL.drop {l:List Nat} (h:OkL l) (n:Nat):OkL (l.drop n):=⟨by have:=h.1;simp;lia,fun x hx=>h.2 x (fP hx)⟩
theorem CZ (l:List Nat):vH l=(l.map fun c=>[c]).map V.str:=by simp [vH]
theorem CT {A:iL} {l:List Nat} {n:Nat} {p:List (List Nat)} (h:Lex A σ l n p) (hl:OkL l) (q:Q (.str (l.take 1)) (iG A σ (l.drop 1) n p)):CallV 3 (.loc A.rd) [.int 1] σ Q:=by
 refine CallV.of ?_
 refine CV (d:=2) B.ok2 h.hrd C5 CX rfl rfl ?_ (by simp) rfl fun code=>?_
 ·intro p hp
  simp only [am,bj,or_false] at hp
  subst hp
  exact ⟨_,h.hcl⟩
 have hcl:=h.hcl
 have hlf:=h.hlf
 conv=>arg 4;whnf
 conv=>arg 2;simp only [pslots,be,gW,ar,aw,aE]
 walk_at "go"
 refine nM ?_
 walk_at "go"
 refine D3 (xs:=l.map fun c=>[c]) hl.strs (by rw [← CZ];exact hlf) ?_
 walk_at "go"
 cases l with
 | nil=>
  refine jA (fun h0=>by simp at h0) (fun h0=>?_)
  walk_at "go"
  have:=h.same
  simp only [List.take_nil,List.drop_nil,this] at q
  exact q
 | cons c l=>
  refine jA (fun h0=>?_) (fun h0=>by simp at h0)
  walk_at "go"
  refine yg hlf (by have:=hl.1;simp at this ⊢;lia) ?_
  rw [h.lf]
  exact q
noncomputable def iZ (l:List Nat):Nat:=l.count 10
theorem Cn {A:iL} {l:List Nat} {n:Nat} {p:List (List Nat)} (h:Lex A σ l n p):Db (FR C.w.params) ml "lineno" := by
 have e:=ly C.w.params
 simp only [Prod.mk.injEq] at e
 exact ⟨e.2.2.2.2.2.1,e.2.2.2.2.1,(Prod.mk.inj (oH C.w.params)).2,e.2.1⟩
theorem nR {A:iL} {l:List Nat} {n:Nat} {p:List (List Nat)} (h:Lex A σ l n p) (hl:OkL l) (q:Q (.str (l.take 1)) (iG A σ (l.drop 1) (n + iZ (l.take 1)) p)):pe 6 (.ref iI) [.loc A.x] σ Q:=by
 refine vE (d:=5) B.ok2 B.f_m__read_char pN pE rfl rfl rfl ?_
 walk_at "start"
 walk_at "go"
 refine ⟨_,_,_,_,_,_,rfl,h.hst,h.hdst,rfl,?_⟩
 walk_at "go"
 refine ⟨kp h.hrd,CallV.le (d:=3) (CT h hl ?_) (by decide)⟩
 have h1:Lex A (iG A σ (l.drop 1) n p) (l.drop 1) n p:=h.set
 walk_at "go"
 refine jb (fun e=>?_) (fun e=>?_)
 ·have hs:=Cn h
  refine ex_cons (v9 B.fr ?_)
  walk_at "go"
  refine ⟨_,_,_,_,rfl,h1.hx,h1.hd,hs,by simp,?_⟩
  have e2:nw "lineno" (.int ((n + 1:Nat):Int)) (s4 A n)=s4 A (n + 1):=by rfl
  have e3:iZ (l.take 1)=1:=by rw [e];rfl
  walk_at "go"
  rw [e3,← h.twice (l:=l.drop 1) (n:=n) (p:=p),← h1.dx] at q
  exact q
 ·have e3:iZ (l.take 1)=0:=by
   cases l with
   | nil=>rfl
   | cons c l => 
    have:c≠10:=fun q=>e (by rw [q];rfl)
    simp [iZ,this]
  walk_at "go"
  rw [e3] at q;exact q
theorem sr {A:iL} {l:List Nat} {n:Nat} {p:List (List Nat)} {x:List Nat} (h:Lex A σ l n p) (hp:p.length < 2 ^ 20) (q:Q .none (iG A σ l n (p++[x]))):CallV 6 (.raw (.ref mj)) [.loc A.x,.str x] σ Q:=by
 refine jX (d:=5) B.ok2 B.f_m_push_token pM pD rfl rfl rfl ?_
 have hpb:=h.hpb
 walk_at "start"
 walk_at "go"
 rotate_left;· simp;walk_at "l"
 have e:p.map V.str++[V.str x]=(p++[x]).map V.str:=by simp
 rw [e,h.pb']
 exact q
end
noncomputable def ws (c:Nat):Bool:=Txt.contains ⟨wsL.toArray⟩ ⟨#[c]⟩
noncomputable def mU:List Nat→List Nat→List Nat×List Nat
 | acc,[]=>(acc,[])
 | acc,c :: r=>if c=34 then (acc,r) else if c=92 then (match r with | []=>(acc,[]) | d :: r=>mU (acc++[d]) r) else mU (acc++[c]) r
noncomputable def lT:List Nat→List Nat→List Nat×List Nat
 | acc,[]=>(acc,[])
 | acc,c :: r=>if ws c then (acc,r) else if c=92 then (match r with | []=>(acc,[]) | d :: r=>lT (acc++[d]) r) else lT (acc++[c]) r
noncomputable def tok:List Nat→List Nat×List Nat
 | []=>([],[])
 | c :: r=>if ws c then tok r else if c=34 then mU [] r else if c=92 then lT (r.take 1) (r.drop 1) else lT [c] r
theorem jH (acc:List Nat) (c:Nat) (r:List Nat):mU acc (c :: r)=if c=34 then (acc,r) else if c=92 then mU (acc++r.take 1) (r.drop 1) else mU (acc++[c]) r:=by
 cases r with
 | nil=>
  show _=if c=34 then _ else if c=92 then mU (acc++[]) [] else _
  rw [aE];rfl
 | cons d r=>rfl
theorem Bf:ws 92=false:=by decide +kernel
theorem jh (acc:List Nat) (c:Nat) (r:List Nat):lT acc (c :: r)=if ws c=true then (acc,r) else if c=92 then lT (acc++r.take 1) (r.drop 1) else lT (acc++[c]) r:=by
 cases r with
 | nil=>
  show _=if ws c=true then _ else if c=92 then lT (acc++[]) [] else _
  rw [aE];rfl
 | cons d r=>rfl
theorem j4 (c:Nat) (r:List Nat):tok (c :: r)=if ws c then tok r else if c=34 then mU [] r else if c=92 then lT (r.take 1) (r.drop 1) else lT [c] r:=rfl
section
variable {K:Kx} {ρ:Fm} {σ:ij} {d:Nat} {Q:V→ij→Prop}
theorem Lex.mono {A:iL} {σ':ij} {l:List Nat} {n:Nat} {p:List (List Nat)} (h:Lex A σ l n p) (s:Sub σ σ'):Lex A σ' l n p:=
 ⟨s _ _ h.hx,s _ _ h.hd,s _ _ h.hst,s _ _ h.hdst,s _ _ h.hrd,s _ _ h.hcl,s _ _ h.hlf,s _ _ h.hpb,h.ne⟩
theorem i4 {A:iL} {l l':List Nat} {n n':Nat} {p p':List (List Nat)} (h:Lex A σ l n p) {a:Addr} {o:PObj} (ha:σ a=some o) (hk:(∀ vs,o≠.list vs)∧∀ m,o≠.ns m):iG A σ l' n' p' a=some o:=
 il (ip ha h.hpb (hk.1 _)) (il (ip ha h.hd (hk.2 _)) (il (ip ha h.hlf (hk.1 _)) ha))
theorem By:∃ fo fd,C.h1.get? iI=some fo∧fo.data=.func fd:=B.f_m__read_char.is.get.elim fun fo h=>h.elim fun fd h=>⟨fo,fd,h.1,h.2.1⟩
theorem uo {A:iL} {l₀ l:List Nat} {n₀ n:Nat} {p₀ p:List (List Nat)} (h:Lex A σ l₀ n₀ p₀) (hl:OkL l) {it b:Addr} (hit:σ it=some (.citer (.loc b) (.str []))) (hb:σ b=some (.bound (.ref iI) (.loc A.x))) {Qn:Option V→ij→Prop}
  (q0:l=[]→Qn none (upd (iG A σ [] n p) it (some .cend))) (q1:∀ c r,l=c :: r→Qn (some (.str [c])) (iG A σ r (n + iZ [c]) p)):NxP 8 it (iG A σ l n p) Qn:=by
 walk_at "u"; obtain ⟨fo,fd,hfo,hfd⟩:=By;walk_at "v"
 have kc:(∀ vs,PObj.citer (.loc b) (.str [])≠.list vs)∧∀ m,PObj.citer (.loc b) (.str [])≠.ns m:=⟨(by intro _ e;cases e),(by intro _ e;cases e)⟩
 have kb:(∀ vs,PObj.bound (.ref iI) (.loc A.x)≠.list vs)∧∀ m,PObj.bound (.ref iI) (.loc A.x)≠.ns m:=⟨(by intro _ e;cases e),(by intro _ e;cases e)⟩
 refine D2 (d:=7) (i4 h hit kc) (i4 h hb kb) hfo B.nt hfd ?_
 have h1:Lex A (iG A σ l n p) l n p:=h.set
 refine CallV.le (d:=6) (AO (i4 h hb kb) (nR h1 hl ?_)) (by decide)
 rw [h.twice]
 refine ⟨i4 h hit kc,i4 h hb kb,_,rfl,fun e=>?_,fun e=>?_⟩
 ·have:l=[]:=by cases l with | nil=>rfl | cons=>simp at e
  subst this
  exact q0 rfl
 ·cases l with
  | nil=>exact absurd rfl e
  | cons c r=>exact q1 c r rfl
end
section
variable {K:Kx} {ρ:Fm} {σ:ij} {d:Nat} {Q:V→ij→Prop}
theorem sX:findIn (FR C.w.params) (.ref ml) "_read_char" = some (some (.ref iI))∧typeIn (FR C.w.params) (.ref iI)=some (.type "function")∧findObj (FR C.w.params) ml none "_read_char" = some (.bind (.builtin "function.__get__") (.ref iI)):=by
 have e:=pz C.w.params
 simp only [Prod.mk.injEq] at e
 exact e
theorem zp {A:iL} {l:List Nat} {n:Nat} {p:List (List Nat)} (h:Lex A σ l n p) {expr:Bool} (q:∀ a,σ a=none→Q (.loc a) (upd σ a (some (.bound (.ref iI) (.loc A.x))))):M1 d (fun o=>getAttr o "_read_char" expr) (.loc A.x) σ Q:=by
 have e:=ly C.w.params
 simp only [Prod.mk.injEq] at e
 walk_at "u"; obtain ⟨m1,m2,m3⟩:=sX;walk_at "v"
 exact ww B.fr h.hx h.hd (by rfl) e.1 e.2.1 m1 m2 m3 q
theorem rt {F:Frag} (O:kz F) {o:Expr} {name:Str} {apos pos:Pos} {args:List Expr}
  (h:EvP K ρ σ o (fun ov σ₁=>∃ x dx c f at_,ov=.loc x∧σ₁ x=some (.inst c dx)∧σ₁ dx=some (.ns at_)∧at_.lookup name=none∧findIn F (.ref c) "__getattribute__" = some (some (.builtin "object.__getattribute__"))∧
   findIn F (.ref c) "__getattr__" = some none∧findIn F (.ref c) name=some (some (.ref f))∧typeIn F (.ref f)=some (.type "function")∧
   EvsP K ρ args σ₁ (fun pl σ₂=>KeepOk σ₂ (.raw (.ref f))∧CallV K.d (.raw (.ref f)) (.loc x :: pl) σ₂ Q))) {pl:Env→Sem Bool}
  (he:autoParam (∀ env,eval (.Call (.Attribute o name apos) args [] pos) env=(do
   let ov ← eval o env
   standAt apos.atName
   let (f,first) ← holding [ov] (getMethod ov name (pl env))
   callWith pos f first (backTo pos (starEach args env)) (backToKw pos (keywordEach [] env)))) aI)
  (hse:autoParam (∀ env,backTo pos (starEach args env)=args.map fun e=>(false,eval e env)) aI):EvP K ρ σ (.Call (.Attribute o name apos) args [] pos) Q:=fun A env s ha hr hi QM hq=>by
 refine methodCall_KW (pl:=pl env) (h A env s ha hr hi _ fun ov po σ₁ s₁ h₁ i₁ e₁ r₁=>?_) (he env)
 walk_at "u"; obtain ⟨x,dx,c,f,at_,rfl,hx,hd,hl,h2,h3,h4,h5,hE⟩:=h₁;walk_at "v"
 cases r₁
 walk_at "u"; obtain ⟨es,n,I,r⟩:=pW i₁ hx hd;walk_at "v"
 have fd:=r.find name
 rw [hl] at fd
 refine method_fn (O.at i₁) I h2 h3 h4 h5 (by show (lookIn name (dictOf es n)).map (·.isSome)=_;rw [show lookIn name (dictOf es n)=getL name es from rfl,fd];rfl) ?_
 exact lg (fv:=.raw (.ref f)) (pre:=[.loc x]) (hse env) hE ha (hr.mono e₁) i₁ (.raw _) (.cons (.loc x) .nil) fun v pv σ₂ s₂ q i₂ e₂ r₂=>hq v pv σ₂ s₂ q i₂ (e₁.trans e₂) r₂
theorem my {A:iL} {l:List Nat} {n:Nat} {p:List (List Nat)} (h:Lex A σ l n p) (hl:OkL l) {o:Expr} {apos pos:Pos} (hd:6≤K.d) (ho:∀ Q:V→ij→Prop,Q (.loc A.x) σ→EvP K ρ σ o Q)
  (q:Q (.str (l.take 1)) (iG A σ (l.drop 1) (n + iZ (l.take 1)) p))
  {pl:Env→Sem Bool}
  (he:autoParam (∀ env,eval (.Call (.Attribute o "_read_char" apos) [] [] pos) env=(do
   let ov ← eval o env
   standAt apos.atName
   let (f,first) ← holding [ov] (getMethod ov "_read_char" (pl env))
   callWith pos f first (backTo pos (starEach [] env)) (backToKw pos (keywordEach [] env)))) aI)
  (hse:autoParam (∀ env,backTo pos (starEach [] env)=[].map fun e=>(false,eval e env)) aI):EvP K ρ σ (.Call (.Attribute o "_read_char" apos) [] [] pos) Q:=by
 have e:=ly C.w.params
 simp only [Prod.mk.injEq] at e
 walk_at "u"; obtain ⟨m1,m2,m3⟩:=sX;walk_at "v"
 exact rt (pl:=pl) B.fr (ho _ ⟨_,_,_,_,_,rfl,h.hx,h.hd,by rfl,e.2.2.2.2.2.2.1,e.2.2.2.2.2.2.2,m1,m2,B.f_m__read_char.keep,CallV.le (d:=6) (nR h hl q).call hd⟩) he hse
theorem jC {A:iL} {l:List Nat} {n:Nat} {p:List (List Nat)} {x:List Nat} (h:Lex A σ l n (x :: p)) (hp:p.length < 2 ^ 20) (q:Q (.str x) (iG A σ l n p)):CallV 12 (.raw (.ref j3)) [.loc A.x] σ Q:=by
 refine jX (d:=11) B.ok2 B.f_m_get_token me ma rfl rfl rfl ?_
 have hpb:=h.hpb
 walk_at "start"
 walk_at "go"
 rotate_left;· simp;lia
 refine jA (fun h0=>?_) (fun h0=>by simp at h0)
 walk_at "go"
 refine yg hpb (by simp;walk_at "l") ?_
 rw [h.pb']
 walk_at "go"
 exact q
theorem NxP.le {d d':Nat} {a:Addr} {Qn:Option V→ij→Prop} (h:NxP d a σ Qn) (hd:d≤d'):NxP d' a σ Qn:=fun A s ha=>h A s (ha.le hd)
theorem CallV.clean {fv:V} {args:List V} (h:CallV d fv args σ (fun v σ'=>∃ τ,Sub τ σ'∧(∀ a,σ a=none→τ a=none)∧(∀ c v,σ c=some (.cell v)→∃ v',τ c=some (.cell v'))∧Q v τ)):CallV d fv args σ Q:=fun A s f vs ha hi hf hr QM hq=>
 h A s f vs ha hi hf hr QM fun v pv σ' s' q i' e' r'=>by
  walk_at "u"; obtain ⟨τ,sub,non,cel,q⟩:=q;walk_at "v"
  have free:∀ a,σ' a=none→τ a=none:=fun a hn=>by
   cases hs:τ a with
   | none=>rfl
   | some o=>(first | obtain rfl:=aq ((sub a o hs).symm.trans hn) | exact absurd ((sub a o hs).symm.trans hn) (al _) | exact absurd ((sub a o hs).symm.trans hn).symm (al _) | exact (jW ((sub a o hs).symm.trans hn) rfl).elim | (rw [sub a o hs] at hn;cases hn))
  have sq:iW σ' s'.heap τ s'.heap:=⟨fun _ _ e _ _ _=>e,fun a o e _ hn _=>free a hn⟩
  have i'':Inv τ s':=by
   refine ⟨i'.base,i'.top,fun a o ho=>⟨(i'.own a o (sub a o ho)).1,jj.swap sq (fun cd q y=>?_) (i'.own a o (sub a o ho)).2⟩,i'.tabLt,fun n hn=>?_,i'.gens,i'.os⟩
   ·exact ⟨y.1,fun c e=>⟨free c (y.2 c e).1,(y.2 c e).2⟩⟩
   ·walk_at "u"; obtain ⟨ps,g,t,f⟩:=i'.tabs n hn;walk_at "v"
    exact ⟨ps,g,t,fun d hd cv hc=>have y:=f d hd cv hc;⟨y.1,fun c e=>⟨free c (y.2 c e).1,(y.2 c e).2⟩⟩⟩
  have E:Ext σ s.heap τ s'.heap:=⟨fun a o g hs ht=>e'.keep a o g hs ht,fun a o g hs ht=>non a hs,cel⟩
  exact hq v pv τ s' q i'' E (r'.mono sq)
theorem vk {A:iL} {τ:ij} {l:List Nat} {n:Nat} {p:List (List Nat)} (h:Sub σ τ):Sub (iG A σ l n p) (iG A τ l n p):=fun a o ha=>by
 unfold iG at ha ⊢
 unfold upd at ha ⊢
 by_cases e1:a=A.pb
 ·simp only [e1,if_true] at ha ⊢;exact ha
 ·by_cases e2:a=A.dx
  ·simp only [e1,e2,if_true,if_false] at ha ⊢;exact ha
  ·by_cases e3:a=A.lf
   ·simp only [e1,e2,e3,if_true,if_false] at ha ⊢;exact ha
   ·simp only [e1,e2,e3,if_false] at ha ⊢;exact h a o ha
theorem sZ {A:iL} {l l':List Nat} {n n':Nat} {p p':List (List Nat)} (h:Lex A σ l n p) {a:Addr} (ha:σ a=none):iG A σ l' n' p' a=none:=by
 have h1:a≠A.lf:=fun e=>by rw [e,h.hlf] at ha;cases ha
 have h2:a≠A.dx:=fun e=>by rw [e,h.hd] at ha;cases ha
 have h3:a≠A.pb:=fun e=>by rw [e,h.hpb] at ha;cases ha
 exact il h3 (il h2 (il h1 ha))
theorem yL {A:iL} {l l':List Nat} {n n':Nat} {p p':List (List Nat)} (h:Lex A σ l n p) {c:Addr} {v:Option V} (hc:σ c=some (.cell v)):∃ v',iG A σ l' n' p' c=some (.cell v'):=
 ⟨v,i4 h hc ⟨(by intro _ e;cases e),(by intro _ e;cases e)⟩⟩
noncomputable def yu (A:iL) (τ:ij) (it:Addr) (N:Nat) (acc l':List Nat) (ρ:Fm) (σ':ij):Prop:=
 ∃ n',Has ρ [("token", .val (.str acc)),("self", .val (.loc A.x)),("fiter", .val (.loc it))]∧σ'=iG A τ l' n' []∧n' + iZ l'=N∧acc.length + l'.length≤2 ^ 20∧OkL l'
noncomputable def FP (A:iL) (τ:ij) (it:Addr) (N:Nat) (acc:List Nat) (ρ:Fm) (σ':ij):Prop:=
 ∃ n',Has ρ [("token", .val (.str acc)),("self", .val (.loc A.x)),("fiter", .val (.loc it))]∧σ'=upd (iG A τ [] n' []) it (some .cend)∧n'=N
theorem mw (c:Nat) (l:List Nat):iZ [c] + iZ l=iZ (c :: l):=by unfold iZ;rw [fh (l:=l),fh];simp;walk_at "l"
theorem mu (l:List Nat):iZ (l.take 1) + iZ (l.drop 1)=iZ l:=by unfold iZ;rw [← List.count_append,dw]
theorem uD {A:iL} {l:List Nat} {n:Nat} (h:Lex A σ l n []) (hl:OkL l) (q:∀ n',n' + iZ (tok l).2=n + iZ l→Q (.str (tok l).1) (iG A σ (tok l).2 n' [])):CallV 12 (.raw (.ref j3)) [.loc A.x] σ Q:=by
 refine CallV.of (CallV.clean ?_)
 generalize hR:tok l=R at q
 have fin:∀ {σ':ij} {n':Nat},Sub (iG A σ R.2 n' []) σ'→n' + iZ R.2=n + iZ l→∃ τ,Sub τ σ'∧(∀ a,σ a=none→τ a=none)∧(∀ c v,σ c=some (.cell v)→∃ v',τ c=some (.cell v'))∧Q (.str R.1) τ:=
  fun s e=>⟨_,s,fun a ha=>sZ h ha,fun c v hc=>yL h hc,q _ e⟩
 generalize hN:n + iZ l=N at fin
 refine jX (d:=11) B.ok2 B.f_m_get_token me ma rfl rfl rfl ?_
 have hpb:=h.hpb
 walk_at "start"
 walk_at "go"
 rotate_left;· simp
 refine jA (fun h0=>by simp at h0) (fun h0=>?_)
 walk_at "go"
 refine zp h fun b hb=>?_
 walk_at "go"
 refine A1 (ik ..) fun it hit=>?_
 walk_at "u"; obtain ⟨nib,hit⟩:=iC hit;walk_at "v"
 walk_at "go"
 generalize hτ:upd (upd σ b _) it _=τ
 have tb:τ b=some (.bound (.ref iI) (.loc A.x)):=by rw [← hτ];exact il (Ne.symm nib) (ik ..)
 have ti:τ it=some (.citer (.loc b) (.str [])):=by rw [← hτ];exact ik ..
 have sub:Sub σ τ:=by rw [← hτ];exact (Sub.refl.upd hb).upd hit
 have ht:Lex A τ l n []:=h.mono sub
 have done:∀ {acc r:List Nat} {n':Nat},R=(acc,r)→n' + iZ r=N→∃ τ',Sub τ' (iG A τ r n' [])∧(∀ a,σ a=none→τ' a=none)∧(∀ c v,σ c=some (.cell v)→∃ v',τ' c=some (.cell v'))∧Q (.str acc) τ':=fun {acc r n'} e e2=>by
  subst e;exact fin (vk sub) e2
 have done2:∀ {acc:List Nat} {n':Nat},R=(acc,[])→n'=N→∃ τ',Sub τ' (upd (iG A τ [] n' []) it (some .cend))∧(∀ a,σ a=none→τ' a=none)∧(∀ c v,σ c=some (.cell v)→∃ v',τ' c=some (.cell v'))∧Q (.str acc) τ':=fun {acc n'} e e2=>by
  subst e;exact fin ((vk sub).upd (sZ h hit)) (by simpa [iZ] using e2)
 refine nq ?_
 walk_at "go"
 refine ⟨it,_,rfl,ti,trivial,fun m ρ' σ'=>(∃ l',m=l'.length + 1∧tok l'=R∧yu A τ it N [] l' ρ' σ')∨(m=0∧∃ acc,R=(acc,[])∧FP A τ it N acc ρ' σ'),l.length + 1,?_,?_⟩
 ·exact .inl ⟨l,rfl,hR,n,by walk_at "has", ht.same.symm,hN,by have:=hl.1;simp;walk_at "l", hl⟩
 ·rintro m ρ' σ' (⟨l',rfl,hl',n',hhas,rfl,hn',hlen,hok⟩ | ⟨rfl,acc,hacc,n',hhas,rfl,hn'⟩)
  ·refine NxP.le (uo ht hok ti tb (fun e=>?_) (fun c r e=>?_)) (by decide)
   ·subst e
    refine cont_next (ExP.has ?_ hhas)
    walk_at "go"
    have:R=([],[]):=by rw [← hl'];rfl
    exact done2 this (by simpa [iZ] using hn')
   ·subst e
    have hs1:=mw c r
    have hlen1:r.length + 1≤2 ^ 20:=by simpa using hlen
    have h1:Lex A (iG A τ r (n' + iZ [c]) []) r (n' + iZ [c]) []:=ht.set
    have kc:(∀ vs,PObj.citer (.loc b) (.str [])≠.list vs)∧∀ m,PObj.citer (.loc b) (.str [])≠.ns m:=⟨(by intro _ e;cases e),(by intro _ e;cases e)⟩
    have hi1:(iG A τ r (n' + iZ [c]) []) it=some (.citer (.loc b) (.str [])):=i4 ht ti kc
    refine ⟨⟨_,hi1,trivial⟩,AsP.sub ?_ hhas⟩
    walk_at "go"
    refine pZ ?_
    walk_at "go"
    refine jA (fun hw=>?_) (fun hw=>?_)
    ·walk_at "go"
     refine yx (m:=r.length + 1) (by simp) (.inl ⟨r,rfl,?_,n' + iZ [c],by walk_at "has", rfl,by lia,by simp;lia,hok.tail⟩)
     rw [← hl',j4,if_pos (show ws c=true from hw)]
    rw [j4,if_neg (by rw [show ws c=false from hw];decide)] at hl'
    walk_at "go"
    refine jb (fun e=>?_) (fun e=>?_)
    ·have e:c=34:=by simpa using e
     rw [if_pos e] at hl'
     refine ex_cons ?_
     refine nq ?_
     walk_at "go"
     refine ⟨it,_,rfl,hi1,trivial,fun m ρ' σ'=>∃ acc l',m=l'.length + 1∧mU acc l'=R∧yu A τ it N acc l' ρ' σ',r.length + 1,⟨[],r,rfl,hl',n' + iZ [c],by walk_at "has", rfl,by lia,by simp;lia,hok.tail⟩,?_⟩
     intro m2 ρ2 σ2 hJ3
     walk_at "u"; obtain ⟨acc,l2,rfl,hl2,n2,hhas2,rfl,hn2,hlen2,hok2⟩:=hJ3;walk_at "v"
     refine NxP.le (uo ht hok2 ti tb (fun e=>?_) (fun c2 r2 e=>?_)) (by decide)
     ·subst e
      refine cont_next (ExP.has ?_ hhas2)
      walk_at "go"
      exact iY (m:=0) (by walk_at "l") (.inr ⟨rfl,acc,by rw [← hl2];rfl,n2,by walk_at "has", rfl,by simpa [iZ] using hn2⟩)
     ·subst e
      rw [jH] at hl2
      have hs2:=mw c2 r2
      have h2:Lex A (iG A τ r2 (n2 + iZ [c2]) []) r2 (n2 + iZ [c2]) []:=ht.set
      refine ⟨⟨_,i4 ht ti kc,trivial⟩,AsP.sub ?_ hhas2⟩
      have hlen3:acc.length + (r2.length + 1)≤2 ^ 20:=hlen2
      walk_at "go"
      refine jb (fun e=>?_) (fun e=>?_)
      ·have e:c2=34:=by simpa using e
       rw [if_pos e] at hl2
       walk_at "go"
       exact done hl2.symm (by lia)
      have e:¬ c2=34:=by simpa using e
      rw [if_neg e] at hl2
      walk_at "go"
      refine jb (fun e=>?_) (fun e=>?_)
      ·have e:c2=92:=by simpa using e
       rw [if_pos e] at hl2
       walk_at "go"
       refine my h2 hok2.tail (by decide) (fun Q q=>ev_name (by walk_at "mem") q) ?_
       rw [ht.twice]
       have ht3:=mu r2
       have hlt:(r2.take 1).length≤1:=by simp;walk_at "l"
       walk_at "go"
       rotate_left;· simp;lia
       exact iY (m:=(r2.drop 1).length + 1) (by simp;lia) ⟨_,r2.drop 1,rfl,hl2,_,by walk_at "has", rfl,by lia,by simp only [af,aP,bk];exact D4 (by lia),hok2.tail.drop 1⟩
      have e:¬ c2=92:=by simpa using e
      rw [if_neg e] at hl2
      ·walk_at "go"
       rotate_left;· simp;lia
       exact iY (m:=r2.length + 1) (by simp) ⟨_,r2,rfl,hl2,_,by walk_at "has", rfl,by lia,by simp;lia,hok2.tail⟩
    have e:¬ c=34:=by simpa using e
    rw [if_neg e] at hl'
    walk_at "go"
    refine jb (fun e=>?_) (fun e=>?_)
    ·have e:c=92:=by simpa using e
     rw [if_pos e] at hl'
     walk_at "go"
     refine my h1 hok.tail (by decide) (fun Q q=>ev_name (by walk_at "mem") q) ?_
     rw [ht.twice]
     have ht1:=mu r
     have hi2:(iG A τ (r.drop 1) (n' + iZ [c] + iZ (r.take 1)) []) it=some (.citer (.loc b) (.str [])):=i4 ht ti kc
     walk_at "go"
     rotate_left;· simp;walk_at "l"
     refine nq ?_
     walk_at "go"
     refine ⟨it,_,rfl,hi2,trivial,fun m ρ' σ'=>∃ acc l',m=l'.length + 1∧lT acc l'=R∧yu A τ it N acc l' ρ' σ',(r.drop 1).length + 1,⟨[]++r.take 1,r.drop 1,rfl,hl',_,by walk_at "has", rfl,by lia,by simp only [aw,aP,bk];exact Fb (by lia),hok.tail.drop 1⟩,?_⟩
     intro m2 ρ2 σ2 hJ3
     walk_at "u"; obtain ⟨acc,l2,rfl,hl2,n2,hhas2,rfl,hn2,hlen2,hok2⟩:=hJ3;walk_at "v"
     refine NxP.le (uo ht hok2 ti tb (fun e=>?_) (fun c2 r2 e=>?_)) (by decide)
     ·subst e
      refine cont_next (ExP.has ?_ hhas2)
      walk_at "go"
      exact iY (m:=0) (by walk_at "l") (.inr ⟨rfl,acc,by rw [← hl2];rfl,n2,by walk_at "has", rfl,by simpa [iZ] using hn2⟩)
     ·subst e
      rw [jh] at hl2
      have hs2:=mw c2 r2
      have h2:Lex A (iG A τ r2 (n2 + iZ [c2]) []) r2 (n2 + iZ [c2]) []:=ht.set
      refine ⟨⟨_,i4 ht ti kc,trivial⟩,AsP.sub ?_ hhas2⟩
      have hlen3:acc.length + (r2.length + 1)≤2 ^ 20:=hlen2
      walk_at "go"
      refine pZ ?_
      walk_at "go"
      refine jA (fun hw=>?_) (fun hw=>?_)
      ·rw [if_pos (show ws c2=true from hw)] at hl2
       walk_at "go"
       exact done hl2.symm (by lia)
      rw [if_neg (by rw [show ws c2=false from hw];decide)] at hl2
      walk_at "go"
      refine jb (fun e=>?_) (fun e=>?_)
      ·have e:c2=92:=by simpa using e
       rw [if_pos e] at hl2
       walk_at "go"
       refine my h2 hok2.tail (by decide) (fun Q q=>ev_name (by walk_at "mem") q) ?_
       rw [ht.twice]
       have ht3:=mu r2
       have hlt:(r2.take 1).length≤1:=by simp;walk_at "l"
       walk_at "go"
       rotate_left;· simp;lia
       exact iY (m:=(r2.drop 1).length + 1) (by simp;lia) ⟨_,r2.drop 1,rfl,hl2,_,by walk_at "has", rfl,by lia,by simp only [af,aP,bk];exact D4 (by lia),hok2.tail.drop 1⟩
      have e:¬ c2=92:=by simpa using e
      rw [if_neg e] at hl2
      ·walk_at "go"
       rotate_left;· simp;lia
       exact iY (m:=r2.length + 1) (by simp) ⟨_,r2,rfl,hl2,_,by walk_at "has", rfl,by lia,by simp;lia,hok2.tail⟩
    have e:¬ c=92:=by simpa using e
    rw [if_neg e] at hl'
    walk_at "go"
    rotate_left;· simp
    refine nq ?_
    walk_at "go"
    refine ⟨it,_,rfl,hi1,trivial,fun m ρ' σ'=>∃ acc l',m=l'.length + 1∧lT acc l'=R∧yu A τ it N acc l' ρ' σ',r.length + 1,⟨[]++[c],r,rfl,hl',n' + iZ [c],by walk_at "has", rfl,by lia,by simp;lia,hok.tail⟩,?_⟩
    intro m2 ρ2 σ2 hJ3
    walk_at "u"; obtain ⟨acc,l2,rfl,hl2,n2,hhas2,rfl,hn2,hlen2,hok2⟩:=hJ3;walk_at "v"
    refine NxP.le (uo ht hok2 ti tb (fun e=>?_) (fun c2 r2 e=>?_)) (by decide)
    ·subst e
     refine cont_next (ExP.has ?_ hhas2)
     walk_at "go"
     exact iY (m:=0) (by walk_at "l") (.inr ⟨rfl,acc,by rw [← hl2];rfl,n2,by walk_at "has", rfl,by simpa [iZ] using hn2⟩)
    ·subst e
     rw [jh] at hl2
     have hs2:=mw c2 r2
     have h2:Lex A (iG A τ r2 (n2 + iZ [c2]) []) r2 (n2 + iZ [c2]) []:=ht.set
     refine ⟨⟨_,i4 ht ti kc,trivial⟩,AsP.sub ?_ hhas2⟩
     have hlen3:acc.length + (r2.length + 1)≤2 ^ 20:=hlen2
     walk_at "go"
     refine pZ ?_
     walk_at "go"
     refine jA (fun hw=>?_) (fun hw=>?_)
     ·rw [if_pos (show ws c2=true from hw)] at hl2
      walk_at "go"
      exact done hl2.symm (by lia)
     rw [if_neg (by rw [show ws c2=false from hw];decide)] at hl2
     walk_at "go"
     refine jb (fun e=>?_) (fun e=>?_)
     ·have e:c2=92:=by simpa using e
      rw [if_pos e] at hl2
      walk_at "go"
      refine my h2 hok2.tail (by decide) (fun Q q=>ev_name (by walk_at "mem") q) ?_
      rw [ht.twice]
      have ht3:=mu r2
      have hlt:(r2.take 1).length≤1:=by simp;walk_at "l"
      walk_at "go"
      rotate_left;· simp;lia
      exact iY (m:=(r2.drop 1).length + 1) (by simp;lia) ⟨_,r2.drop 1,rfl,hl2,_,by walk_at "has", rfl,by lia,by simp only [af,aP,bk];exact D4 (by lia),hok2.tail.drop 1⟩
     have e:¬ c2=92:=by simpa using e
     rw [if_neg e] at hl2
     ·walk_at "go"
      rotate_left;· simp;lia
      exact iY (m:=r2.length + 1) (by simp) ⟨_,r2,rfl,hl2,_,by walk_at "has", rfl,by lia,by simp;lia,hok2.tail⟩
  ·refine Cg (ik ..) ?_
   refine cont_next (ExP.has ?_ hhas)
   walk_at "go"
   exact done2 hacc hn'
end
section
variable {K:Kx} {ρ:Fm} {σ:ij} {d:Nat} {Q:V→ij→Prop}
theorem pQ {name:Str} (h:takerIn (FR C.w.params) ml name=some none):Db (FR C.w.params) ml name:=by
 have e:=ly C.w.params
 simp only [Prod.mk.injEq] at e
 exact ⟨e.2.2.2.2.2.1,e.2.2.2.2.1,h,e.2.1⟩
theorem zG (m:Str) (v:V):∀ l:List (Str×V),(nw m v l).length≤l.length + 1:=by
 intro lr
 induction lr with
 | nil=>
  simp [nw]
 | cons hdp r ihr=>
  obtain ⟨k,w⟩:=hdp
  unfold nw
  split
  ·simp
  ·simpa using ihr
theorem mr {m:Str} {v:V} {l:List (Str×V)} {n:Nat} (h:l.length < n):(nw m v l).length < n + 1:=ae (zG m v l) (Nat.succ_lt_succ h)
theorem vA {x dx st:Addr} (hx:σ x=some (.inst ml dx)) (hd:σ dx=some (.ns [])) (q:∀ pb σ',σ pb=none→σ' x=some (.inst ml dx)→σ' dx=some (.ns [("lineno", .int ((1:Nat):Int)),("instream", .loc st),("whitespace", .str wsL),("pushback", .loc pb)])→σ' pb=some (.list [])→
  (∀ a o,a≠dx→σ a=some o→σ' a=some o)→Q .none σ'):pe 6 (.ref nY) [.loc x,.loc st] σ Q:=by
 refine vE (d:=5) B.ok2 B.f_m___init__ sK sA rfl rfl rfl ?_
 have nx:x≠dx:=ip hx hd (by intro e;cases e)
 have hs1:=pQ (Prod.mk.inj (oH C.w.params)).2
 have hs2:=pQ (Prod.mk.inj (o5 C.w.params)).2
 have hs3:=pQ (Prod.mk.inj (mJ C.w.params)).2
 have hs4:=pQ (Prod.mk.inj (o4 C.w.params)).2
 walk_at "start"
 walk_at "go"
 refine p0 B.fr ?_
 walk_at "go"
 refine ⟨_,_,_,_,rfl,hx,hd,hs1,by simp,?_⟩
 walk_at "go"
 refine p0 B.fr ?_
 walk_at "go"
 refine ⟨_,_,_,_,rfl,il nx hx,ik ..,hs2,mr (n:=899) (by simp),?_⟩
 rw [jk]
 walk_at "go"
 refine p0 B.fr ?_
 walk_at "go"
 refine ⟨_,_,_,_,rfl,il nx hx,ik ..,hs3,mr (n:=899) (mr (n:=898) (by simp)),?_⟩
 rw [jk]
 refine cont_next (ex_cons (lm (lc (evs_nil ⟨by simp,fun pb hpb=>?_⟩))))
 walk_at "u"; obtain ⟨npb,hpb⟩:=iC hpb;walk_at "v"
 refine p0 B.fr ?_
 walk_at "go"
 refine ⟨_,_,_,_,rfl,il (fun e=>by rw [← e,hx] at hpb;cases hpb) (il nx hx),il (Ne.symm npb) (ik ..),hs4,mr (n:=899) (mr (n:=898) (mr (n:=897) (by simp))),?_⟩
 walk_at "go"
 refine q pb _ hpb ?_ ?_ ?_ fun a o hne ho=>?_
 ·exact il nx (il (fun e=>by rw [← e,hx] at hpb;cases hpb) (il nx hx))
 ·rw [ik];kernel_rfl
 ·exact il npb (ik ..)
 ·exact il hne (il (fun e=>by rw [e,hpb] at ho;cases ho) (il hne ho))
theorem AN {st:Addr} (q:∀ x dx pb σ',σ x=none→σ dx=none→σ pb=none→x≠dx→σ' x=some (.inst ml dx)→σ' dx=some (.ns [("lineno", .int ((1:Nat):Int)),("instream", .loc st),("whitespace", .str wsL),("pushback", .loc pb)])→σ' pb=some (.list [])→
  Sub σ σ'→Q (.loc x) σ'):CallV 7 (.raw (.ref ml)) [.loc st] σ Q:=by
 have e:=ly C.w.params
 simp only [Prod.mk.injEq] at e
 have e2:=sk C.w.params
 simp only [Prod.mk.injEq] at e2
 refine CU (d:=6) B.fr e.2.2.1 e2.1 e2.2 fun x dx hx hdx hne=>?_
 refine vA (ik ..) (il (Ne.symm hne) (ik ..)) fun pb σ' hpb h1 h2 h3 h4=>⟨rfl,?_⟩
 refine bc fun hbc=>?_
 obtain ⟨n1,hpb⟩:=iC hpb
 obtain ⟨n2,hpb⟩:=iC hpb
 refine hbc ?_
 clear hbc
 refine q x dx pb σ' hx hdx hpb hne h1 h2 h3 fun a o ho=>h4 a o (fun e=>by rw [e,hdx] at ho;cases ho) ?_
 exact il (fun e=>by rw [e,hx] at ho;cases ho) (il (fun e=>by rw [e,hdx] at ho;cases ho) ho)
end
noncomputable abbrev iS (l:List Nat):List V:=l.map fun x:Nat=>V.int x
theorem zh (l:List Nat):(l.map fun x:Nat=>(x:Int)).sum=((l.sum:Nat):Int):=by
 induction l with
 | nil=>rfl
 | cons x l ih=>simp [ih]
theorem lz:∀ (l:List Nat),∀ x∈l,x≤l.foldr max 0
 | y :: l,x,h=>by
  rcases am.mp h with rfl | h
  ·exact Nat.le_max_left ..
  ·exact aa (lz l x h) (Nat.le_max_right ..)
theorem kM:∀ (l:List Nat),l.foldr max 0∈0 :: l:=by
 intro lr
 induction lr with
 | nil=>
  simp
 | cons y l ihr=>
  have ih:=ihr
  rw [List.foldr_cons]
  rcases cE y (l.foldr max 0) with h | h
  ·rw [Nat.max_eq_right h]
   rcases am.mp ih with e | h
   ·rw [e];simp
   ·simp [h]
  ·rw [Nat.max_eq_left h];simp
noncomputable def lM (c:Nat):List Nat:=if b1 c then [] else xN c
noncomputable def jJ (w:List Nat):List Nat:=(w.map lM).flatten
theorem FY {K:Kx} {x y:Str} {p1 p2 pos:Pos} {k:Nat} {v w:V} (h1:K.names.lookup x=some .local) (h2:K.names.lookup y=some .local) (hne:x≠y):kN K (.Tuple [.Name x p1,.Name y p2] k pos) (.tup [v,w]) [(x,.val v),(y,.val w)]:=by
 have:=kN.tup (K:=K) [(x,p1),(y,p2)] k pos [v,w] rfl (fun z hz=>(am.mp hz).elim (fun e=>e ▸ h1) fun hz=>(am.mp hz).elim (fun e=>e ▸ h2) fun hz=>nomatch hz) (by simpa using hne)
 simpa [pslots] using this
noncomputable abbrev j8 (l:List (List Nat)):List V:=l.map V.str
section
variable {K:Kx} {ρ:Fm} {σ:ij}
end
section
variable {K:Kx} {ρ:Fm} {σ:ij} {d:Nat} {Q:V→ij→Prop}
theorem wS {a:V} {xs:List Nat} (h:LV σ a (iS xs)) (q:Q (.int (xs.sum:Nat)) σ):CallV d (.raw (.builtin "sum")) [a] σ Q:=by
 refine bi_sum (xs:=xs.map fun x:Nat=>(x:Int)) (by simpa [iS,Function.comp_def] using h) ?_
 rw [zh];exact q
theorem nS {a b:V} {xs ys zs:List V} (ha:LV σ a xs) (hb:LV σ b ys) (hl:xs.length + ys.length≤2 ^ 24) (e:xs++ys=zs) (q:Q (.lst zs) σ):M2 d (binaryOp .Add) a b σ Q:=C3 ha hb hl (e ▸ q)
theorem nD {l:List Nat} {i:Nat} (h:i < l.length):(iS l)[i]?=some (.int ((l.getD i 0:Nat):Int)):=by
 rw [aN,ak h,aj,ak h];rfl
theorem nm {l:List (List Nat)} {i:Nat} (h:i < l.length):(j8 l)[i]?=some (.str (l.getD i [])):=by
 rw [aN,ak h,aj,ak h];rfl
set_option tactic.hygienic true in
theorem jU {x res:List Nat} {lo hi' st:Option Int} (h0:(st.getD 1 == 0)=false) (he:(iX lo hi' st x.length).filterMap (x[·]?)=res) (hw:(iX lo hi' st x.length).length=x.length→st.getD 1=1→res=x) (hl:res.length≤2 ^ 24) (q:Q (.str res) σ):
  M2 d getItem (.str x) (.slc lo hi' st) σ Q:=fun A s a b ha hi ra rb QM hq=>by
 walk_at "u"; obtain ⟨t,rfl⟩:=Rel.inv ra;walk_at "v"
 cases rb with
 | slc hso hσ ht=>
  rename_i a l u st
  have hsz:(PySem.Str.mk x.toArray).length=x.length:=by show x.toArray.size=_;simp
  have hp:slicePicked ⟨x.toArray⟩ l u st=iX (l.map (·.1)) (u.map (·.1)) (st.map (·.1)) x.length:=by unfold slicePicked;rw [hsz];rfl
  refine wpAny_getItem_str_slice ⟨_,hso,rfl,rfl⟩ h0 ?_
  unfold sliceMade
  rw [hp,hsz]
  split
  ·rename_i hh
   rw [aV,beq_iff_eq,beq_iff_eq] at hh
   rw [hw hh.2 hh.1] at q
   exact hq _ _ _ _ q hi .refl (.str x t)
  ·refine ⟨?_,hq _ _ _ _ q hi.toks .refl (.strOf ?_)⟩
   ·show (List.toArray _).size≤2 ^ 24
    rw [eT]
    refine aa (cA ?_) hl
    rw [← he];simp
   ·rw [← he];simp
theorem ro {α:Type} (xs:List α) (a:Nat):∀ n,(aT n).filterMap (fun k=>xs[a + k]?)=(xs.drop a).take n:=by
 intro n
 have:=s6 (xs.drop a) n
 rw [← this]
 congr 1
 funext k
 rw [gm]
theorem qc {α:Type} (xs:List α) (m:Nat):(iX (some (m:Int)) none none xs.length).filterMap (xs[·]?)=xs.drop m:=by
 unfold iX sliceBounds sliceRange
 simp only [cK,show ((1:Int) > 0) from by decide,if_true,show ¬ ((m:Int) < 0) from by walk_at "l", if_false]
 rw [q9,uJ,eJ,show xs.length - min m xs.length=xs.length - m from Bm]
 rcases cE m xs.length with h | h
 ·rw [bl h]
  have:=ro xs m (xs.length - m)
  rw [show (xs.drop m).take (xs.length - m)=xs.drop m by rw [aG (by simp)]] at this
  rw [← this]
  congr 1
  funext k
  show xs[((m:Int) + 1 * (k:Int)).toNat]?=_
  rw [show ((m:Int) + 1 * (k:Int)).toNat=m + k by lia]
 ·rw [bQ h,cu h];rfl
theorem vX {env:Env} {elt:Expr} {gens:List Comprehension} {scope:Scope} {pos p:Pos} {t:Str} {line:Nat} (hn:env.scope.names=K.names) (hk:K.names.lookup t=some .cell):swapsWith (.ListComp elt gens scope pos) (some (.Name t p)) line env=pure false:=by
 unfold swapsWith
 have:env.kindOf t=some .cell:=by show env.scope.names.lookup t=_;rw [hn];exact hk
 simp only [this]
 rw [show (some NameKind.cell == some NameKind.local)=false from rfl,eB,dm,dm]
theorem jI {x:Str} {elt:Expr} {gens:List Comprehension} {scope:Scope} {cp pos' pos:Pos} {sl:Slot} {Q:Fl→Fm→ij→Prop} (hk:K.names.lookup x=some .cell) (hm:(x,sl)∈ρ) (hs:∀ c,sl≠.sh c)
  (h:EvP K ρ σ (.ListComp elt gens scope cp) (fun v σ₁=>∃ ρ',Upd ρ x (.val v) ρ'∧Q .next ρ' σ₁)):StP K ρ σ (.Assign [.Name x pos'] (.ListComp elt gens scope cp) pos) Q:=fun A env s ha hr hi QM hq=>
 wpAny_Assign_Name (h A env s ha hr hi _ fun v pv σ₁ s₁ h₁ i₁ e₁ r₁=>by
  walk_at "u"; obtain ⟨ρ',hu,h₁⟩:=h₁;walk_at "v"
  exact kl (kF hk hm hs) (hr.mono e₁) i₁ r₁ hu fun s₂ hr₂ i₂ e₂=>hq .next .next ρ' σ₁ s₂ h₁ trivial hr₂ i₂ (e₁.toF.trans e₂)) (vX hr.names hk)
theorem oJ {t a b:Expr} {pos:Pos} {Q:V→ij→Prop} (c:Bool) (v:V) (ht:TsP K ρ σ t (fun c' σ'=>c'=c∧σ'=σ)) (h1:c=true→EvP K ρ σ a (fun v' σ'=>v'=v∧σ'=σ))
  (h2:c=false→EvP K ρ σ b (fun v' σ'=>v'=v∧σ'=σ)) (q:Q v σ):EvP K ρ σ (.IfExp t a b pos) Q:=by
 refine vx (TsP.mono ht.of ?_)
 intro c' σ' hJ2
 walk_at "u"; obtain ⟨rfl,rfl⟩:=hJ2;walk_at "v"
 cases c' with
 | true=>rw [if_pos rfl];exact EvP.mono (h1 rfl).of fun v' σ' ⟨e1,e2⟩=>by subst e1 e2;exact q
 | false=>rw [if_neg (by decide)];exact EvP.mono (h2 rfl).of fun v' σ' ⟨e1,e2⟩=>by subst e1 e2;exact q
theorem mt {α:Type} (xs:List α) (a b:Nat):(iX (some (a:Int)) (some (b:Int)) none xs.length).length=min b xs.length - min a xs.length∧(iX (some (a:Int)) (some (b:Int)) none xs.length).filterMap (xs[·]?)=(xs.drop a).take (b - a):=by
 unfold iX sliceBounds sliceRange
 simp only [cK,show ((1:Int) > 0) from by decide,if_true,show ¬ ((a:Int) < 0) from by walk_at "l", show ¬ ((b:Int) < 0) from by walk_at "l", if_false]
 rw [q9,q9]
 rw [uJ]
 refine ⟨by simp,?_⟩
 rw [eJ]
 have h3:=ro xs (min a xs.length) (min b xs.length - min a xs.length)
 have h4:(xs.drop (min a xs.length)).take (min b xs.length - min a xs.length)=(xs.drop a).take (b - a):=by
  rcases cE a xs.length with h | h
  ·rw [bl h]
   rcases cE b xs.length with h' | h'
   ·rw [bl h']
   ·rw [cM h',aG (by simp),aG (by simp;lia)]
  ·rw [cM h,List.drop_length,cu h];simp
 rw [← h4,← h3]
 congr 1
 funext k
 show xs[(((min a xs.length:Nat):Int) + 1 * (k:Int)).toNat]?=_
 rw [show (((min a xs.length:Nat):Int) + 1 * (k:Int)).toNat=min a xs.length + k by lia]
theorem sV {α:Type} (xs:List α):(iX none none (some (-1)) xs.length).filterMap (xs[·]?)=xs.reverse:=by
 unfold iX sliceBounds sliceRange
 simp only [dS,show ¬ ((-1:Int) > 0) from by decide,if_false]
 have h2:(if (xs.length:Int) - 1 > -1 then ((xs.length:Int) - 1 - -1 - -1 - 1) / (- -1) else 0).toNat=xs.length:=by split<;>lia
 rw [h2,eJ]
 have:∀ n,n≤xs.length→(aT n).filterMap (fun k:Nat=>xs[((xs.length:Int) - 1 + -1 * (k:Int)).toNat]?)=(xs.reverse).take n:=by
  intro n
  induction n with
  | zero=>intro _;rfl
  | succ n ih=>
   intro hn
   rw [ef,fL,ih (by lia),dI,dO,show ((xs.length:Int) - 1 + -1 * (n:Int)).toNat=xs.length - 1 - n by rw [show ((xs.length:Int) - 1 + -1 * n)=(xs.length:Int) - ((1 + n:Nat):Int) by rw [et];simp +arith,Int.toNat_sub,hY],ak (ae (bK _ _) (EV (an (dK n) hn))),aY (by simp;lia)]
   simp
 have h:=this xs.length (av _)
 rw [aG (by simp)] at h
 exact h
theorem vy {L m:Nat} (h:L - min m L=L):L - m=L:=by
 rcases cE m L with h1 | h1
 ·rw [bl h1] at h;exact h
 ·rw [cM h1,cw] at h;rw [← h,fC]
theorem D5 {x m L:Nat} (h2:0 < m) (hL:0 < L) (h:x≤L):x - m < L:=by lia
theorem Cm {L a b:Nat} (h:min b L - min a L=L):min (b - a) (L - a)=L:=by
 rcases bL L with rfl | hL
 ·rw [fC,Nat.min_zero]
 ·have h1:min a L=0:=by
   rcases bL (min a L) with h2 | h2
   ·exact h2
   ·exact absurd (D5 h2 hL (bZ b L)) (by rw [h];exact cB _)
  have h2:a=0:=by
   rcases cE a L with h3 | h3
   ·rw [bl h3] at h1;exact h1
   ·rw [cM h3] at h1;rw [h1] at hL;exact absurd hL (cB 0)
  rw [h1,dL] at h
  rw [h2,dL,dL,h]
theorem Ak {x:List Nat} {a b:Nat} (hl:x.length≤2 ^ 24) (q:Q (.str ((x.drop a).take (b - a))) σ):M2 d getItem (.str x) (.slc (some (a:Int)) (some (b:Int)) none) σ Q:=by
 walk_at "u"; obtain ⟨h1,h2⟩:=mt x a b;walk_at "v"
 refine jU rfl h2 (fun h _=>?_) (aa (by rw [aP,bk];exact aa (bZ _ _) (bK _ _)) hl) q
 rw [h1] at h
 refine ((List.take_sublist _ _).trans (eV _ _)).eq_of_length ?_
 rw [aP,bk];exact Cm h
theorem nJ {x:List Nat} {m:Nat} (hl:x.length≤2 ^ 24) (q:Q (.str (x.take m)) σ):M2 d getItem (.str x) (.slc none (some (m:Int)) none) σ Q:=by
 have h2:=(mt x 0 m).1
 refine jU rfl (mV x m) (fun h _=>?_) (aa (by simp;walk_at "l") hl) q
 have h3:(iX (some ((0:Nat):Int)) (some (m:Int)) none x.length)=iX none (some (m:Int)) none x.length:=by
  unfold iX sliceBounds
  simp only [cK,show ((1:Int) > 0) from by decide,if_true,show ¬ (((0:Nat):Int) < 0) from by walk_at "l", if_false]
  rw [show max 0 (min ((0:Nat):Int) x.length)=0 by lia]
 rw [h3,h] at h2
 exact aG (aa (cA h2) (aa (bK _ _) (gO _ _)))
theorem CA {x:List Nat} {m:Nat} (hl:x.length≤2 ^ 24) (q:Q (.str (x.drop m)) σ):M2 d getItem (.str x) (.slc (some (m:Int)) none none) σ Q:=by
 have h2:=(mt x m x.length).1
 refine jU rfl (qc x m) (fun h _=>?_) (aa (by simp) hl) q
 have h3:(iX (some (m:Int)) (some (x.length:Int)) none x.length)=iX (some (m:Int)) none none x.length:=by
  unfold iX sliceBounds
  simp only [cK,show ((1:Int) > 0) from by decide,if_true,show ¬ ((x.length:Int) < 0) from by walk_at "l", if_false]
  rw [show max 0 (min (x.length:Int) x.length)=x.length by lia]
 rw [h3,h] at h2
 refine (eV _ _).eq_of_length ?_
 rw [bk];rw [g7] at h2;exact vy h2.symm
theorem ux {x:List Nat} (hl:x.length≤2 ^ 24) (q:Q (.str x.reverse) σ):M2 d getItem (.str x) (.slc none none (some (-1))) σ Q:=
 jU rfl (sV x) (fun _ h=>absurd h (by decide)) (by simpa using hl) q
end
section
variable {K:Kx} {ρ:Fm} {σ:ij} {d:Nat} {Q:V→ij→Prop}
end
open PySem.Spec PySem.SeqAt in
mutual
theorem mZ:∀ p:PyData,p.canLay0=true→noMix p p=true
 | .none,_=>rfl
 | .bool _,_=>rfl
 | .int _,_=>rfl
 | .str _,_=>rfl
 | .list xs,h=>by rw [noMix];rw [PyData.canLay0] at h;exact kK xs h
 | .tuple xs,h=>by rw [noMix];rw [PyData.canLay0] at h;exact kK xs h
 | .dict _,h=>by simp [PyData.canLay0] at h
theorem kK:∀ ps:List PyData,PyData.canLayAll0 ps=true→noMixAll ps ps=true
 | [],_=>rfl
 | p :: ps,h=>by
  rw [PyData.canLayAll0,aV] at h
  rw [noMixAll,aV]
  exact ⟨mZ p h.1,kK ps h.2⟩
end
noncomputable def dN (l:List Nat):List PySem.PyData:=l.map fun x:Nat=>PySem.PyData.int x
theorem Ev:∀ l:List Nat,PySem.PyData.canLayAll0 (dN l)=true∧PySem.PyData.depthAll (dN l)=0:=by
 intro lr
 induction lr with
 | nil=>
  exact ⟨rfl,rfl⟩
 | cons x l ihr=>
  walk_at "u"; obtain ⟨h1,h2⟩:=ihr;walk_at "v"
  constructor
  ·simp only [dN,be,PySem.PyData.canLayAll0,PySem.PyData.canLay0,dX];exact h1
  ·simp only [dN,be,PySem.PyData.depthAll,PySem.PyData.depth];rw [show dl (fun x:Nat=>PySem.PyData.int (x:Int)) l=dN l from rfl,h2];rfl
section
variable {K:Kx} {ρ:Fm} {σ:ij} {d:Nat} {Q:V→ij→Prop}
theorem rB:∀ l:List Nat,sQ σ (iS l) (dN l):=by
 intro lr
 induction lr with
 | nil=>
  exact .nil
 | cons x l ihr=>
  exact .cons (.int x) (ihr)
open PySem.Spec PySem.SeqAt in
theorem nN {a b:V} {p:PySem.PyData} (e:b=a) (ha:Dat σ a p) (sa:shaped p=true) (q:Q (.bool true) σ):M2 d (compareOp .Eq) a b σ Q:=by
 subst e
 refine EA ha ha sa sa (mZ p (canLay_of_shaped sa)) ?_
 rw [Spec.same_self];exact q
open PySem.Spec PySem.SeqAt in
theorem zS {a b:V} {p:PySem.PyData} (e:b=a) (ha:Dat σ a p) (sa:shaped p=true) (q:Q (.bool false) σ):M2 d (compareOp .NotEq) a b σ Q:=by
 subst e
 refine wO ha ha sa sa (mZ p (canLay_of_shaped sa)) ?_
 rw [Spec.same_self];exact q
end
set_option tactic.hygienic true in
theorem yI (x y:List Nat):(Txt.lstripChars ⟨x.toArray⟩ ⟨y.toArray⟩).cps.toList=x.dropWhile fun c=>y.contains c:=by
 have e:∀ l:List Nat,∀ p:Nat→Bool,l.drop (l.takeWhile p).length=l.dropWhile p:=by
  intro l p
  induction l with
  | nil=>rfl
  | cons c l ih=>
   rw [List.takeWhile_cons,gc]
   cases p c
   ·rfl
   ·simpa using ih
 have hs:(PySem.stripped (PySem.Str.mk y.toArray).cps.contains true false ⟨x.toArray⟩).cps.toList=x.dropWhile fun c=>y.contains c:=by
  unfold PySem.stripped stripLo stripHi Builtin.Str.strSub
  show ((x.toArray.extract _ x.toArray.size).toList)=_
  rw [fR,ft]
  have e2:=e x fun c=>y.contains c
  simp only [if_true]
  have e3:y.toArray.contains=fun c=>y.contains c:=by funext c;simp
  rw [e3,aG (by simp)]
  exact e2
 unfold Txt.lstripChars Txt.stripBy
 split
 ·rename_i h
  unfold stripSame at h
  rw [aV,beq_iff_eq] at h
  rw [← hs]
  unfold PySem.stripped Builtin.Str.strSub
  rw [h.1]
  show x.toArray.toList=(x.toArray.extract 0 x.toArray.size).toList
  simp
 ·exact hs
section
variable {K:Kx} {ρ:Fm} {σ:ij} {d:Nat} {Q:V→ij→Prop}
theorem rW {x y:List Nat} (hl:x.length≤2 ^ 24) (q:Q (.str (x.dropWhile fun c=>y.contains c)) σ):CallV d (.raw (.builtin "str.lstrip")) [.str x,.str y] σ Q:=fun A s f l ha hi hf hr QM hq=>by
 walk_at "u"; obtain ⟨u,v,rfl,hx,hy⟩:=mH hr;walk_at "v"
 obtain rfl:=Rel.inv hf
 refine bc fun hbc=>?_
 obtain ⟨_,rfl⟩:=Rel.inv hx
 obtain ⟨_,rfl⟩:=Rel.inv hy
 refine hbc ?_
 clear hbc
 exact call_gives F.slot_str_lstrip (typeIs_str _ _ _) F.entry_str_lstrip (F.args_str_lstrip_2 _ _) (gives_str_lstrip_chars _ _ _ _) (post_val_or_made (fun _=>fits_stripped _ _ _ (by show x.toArray.size≤2 ^ 24;simpa using hl)) fun t' k=>hq _ _ _ _ q hi.toks .refl (.strOf (yI x y)))
end
theorem Sub.none {σ':ij} (h:Sub σ σ') {a:Addr} (hn:σ' a=none):σ a=none:=by
 cases e:σ a with
 | none=>rfl
 | some o=>(first | obtain rfl:=aq ((h a o e).symm.trans hn) | exact absurd ((h a o e).symm.trans hn) (al _) | exact absurd ((h a o e).symm.trans hn).symm (al _) | exact (jW ((h a o e).symm.trans hn) rfl).elim | (rw [h a o e] at hn;cases hn))
theorem sN:iH lJ ["text"]:=by walk_at "binds"
theorem sE:fnC lJ ["text"] ["left"]=true:=by decide +kernel
section
variable {K:Kx} {ρ:Fm} {σ:ij} {d:Nat} {Q:V→ij→Prop}
theorem mK (hd:20≤d) {text:List Nat} (hok:OkL text) (q:∀ A σ',Lex A σ' text 1 []→Sub σ σ'→σ A.lf=none∧σ A.dx=none∧σ A.pb=none→Q (.tup [.loc A.x,.loc A.lf]) σ'):CallV d (.raw (.ref n7)) [.str text] σ Q:=by
 refine CallV.le (d:=20) (CallV.of ?_) hd
 refine kJ (d:=19) B.ok2 B.f__law_lexer sN sE rfl rfl rfl ?_
 walk_at "start"
 walk_at "go"
 refine uO (by have:=hok.1;walk_at "l") fun lf hlf=>?_
 walk_at "go"
 refine s9 B.ok3 (n:=ka) (cap:=?_) (by rw [B.nest];simp [q6]) (by exact ao) rfl ?_ rfl rfl fun st hst=>?_
 rotate_left;exact CapL.nil _
 walk_at "u"; obtain ⟨nsl,hst⟩:=iC hst;walk_at "v"
 walk_at "upd"
 refine cont_next ?_
 refine l6 (x := "left") (v:=?_) (r':=?_) ?_ ?_ ?_ fun cl hcl=>?_;walk_at "share"
 refine bc fun hbc=>?_
 obtain ⟨ncs,hcl⟩:=iC hcl
 obtain ⟨ncl,hcl⟩:=iC hcl
 refine hbc ?_
 clear hbc
 walk_at "go"
 refine s9 B.ok3 (n:=ka) (cap:=?_) (by rw [B.nest];simp [q6]) (by exact ai _ ao) rfl ?_ rfl rfl fun rd hrd=>?_
 rotate_left;walk_at "capl"
 refine bc fun hbc=>?_
 obtain ⟨nrc,hrd⟩:=iC hrd
 obtain ⟨nrs,hrd⟩:=iC hrd
 obtain ⟨nrl,hrd⟩:=iC hrd
 refine hbc ?_
 clear hbc
 refine A6 ?_
 walk_at "go"
 refine ⟨st,wY,[],rfl,il (Ne.symm nrs) (il (Ne.symm ncs) (ik ..)),fun dst hdst hds=>?_⟩
 refine bc fun hbc=>?_
 obtain ⟨ndr,hdst⟩:=iC hdst
 obtain ⟨ndc,hdst⟩:=iC hdst
 obtain ⟨_,hdst⟩:=iC hdst
 obtain ⟨ndl,hdst⟩:=iC hdst
 refine hbc ?_
 clear hbc
 refine cont_next ?_
 generalize hS:upd (upd (upd (upd (upd (upd σ lf _) st _) cl _) rd _) dst _) st _=S
 have s_st:S st=some (.func wY [] (some dst)):=by rw [← hS];exact ik ..
 have s_dst:S dst=some (.ns [("read", .loc rd)]):=by rw [← hS];exact il hds (ik ..)
 have s_rd:S rd=some (.func uT [("left", cl)] none):=by rw [← hS];exact il nrs (il (Ne.symm ndr) (ik ..))
 have s_cl:S cl=some (.cell (some (.loc lf))):=by rw [← hS];exact il ncs (il (Ne.symm ndc) (il (Ne.symm nrc) (ik ..)))
 have s_lf:S lf=some (.list (vH text)):=by rw [← hS];exact il (Ne.symm nsl) (il (Ne.symm ndl) (il (Ne.symm nrl) (il (Ne.symm ncl) (il (Ne.symm nsl) (ik ..)))))
 have sub:Sub σ S:=by rw [← hS];exact ((((((Sub.refl.upd hlf).upd hst).upd hcl).upd hrd).upd hdst).upd hst)
 clear hS
 walk_at "go"
 have ecls:=ly C.w.params
 simp only [Prod.mk.injEq] at ecls
 refine ⟨Ae B.fr ecls.2.2.2.1,CallV.le (d:=7) (AN fun x dx pb σ2 hx hdx hpb hne h1 h2 h3 sub2=>?_) (by decide)⟩
 have hlex:Lex ⟨x,dx,st,dst,rd,cl,lf,pb⟩ σ2 text 1 []:=⟨h1,h2,sub2 _ _ s_st,sub2 _ _ s_dst,sub2 _ _ s_rd,sub2 _ _ s_cl,sub2 _ _ s_lf,h3,fun (e:lf=pb)=>by rw [← e,s_lf] at hpb;cases hpb⟩
 have zj:Sub σ σ2:=fun a o h=>sub2 a o (sub a o h)
 have hno:σ lf=none∧σ dx=none∧σ pb=none:=⟨hlf,sub.none hdx,sub.none hpb⟩
 generalize hA:(⟨x,dx,st,dst,rd,cl,lf,pb⟩:iL)=A at hlex
 have hAx:x=A.x:=by rw [← hA]
 have hAcl:cl=A.cl:=by rw [← hA]
 have hAlf:lf=A.lf:=by rw [← hA]
 have hAdx:dx=A.dx:=by rw [← hA]
 have hApb:pb=A.pb:=by rw [← hA]
 rw [hAlf,hAdx,hApb] at hno
 rw [hAx,hAcl]
 clear hA
 have hcl':=hlex.hcl
 walk_at "go"
 exact q A σ2 hlex zj hno
end
theorem yS {N b S T:Nat} (h:N=b * S + T) (hT:T < b):N / b=S∧N % b=T:=by
 subst h
 refine ⟨?_,?_⟩
 ·rw [ek (by lia),cY hT,cJ]
 ·rw [fk,bY hT]
theorem Cj {w N m:Nat} (hw:1≤w) (hl:2 ^ (w * m)≤N) (hu:N < 2 ^ (w * (m + 1))):jm w N=m + 1:=by
 have h0:N≠0:=by have:=aJ (w * m);lia
 have h1:=iP hu
 have h2:w * m < iD N:=by
  rcases aZ (w * m) (iD N) with h | h
  ·exact h
  ·have:=nF N
   have h3:2 ^ iD N≤2 ^ (w * m):=bh (by decide) h
   omega
 unfold jm
 rw [bV,bU] at h1
 obtain ⟨z,hz⟩:∃ z,iD N=w * m + 1 + z:=⟨iD N - (w * m + 1),(Nat.add_sub_of_le h2).symm⟩
 have hz2:z < w:=by
  rw [hz] at h1
  exact cZ (n:=w * m) (by rw [bS] at h1;exact h1)
 have e:iD N + w - 1=w * (m + 1) + z:=by rw [hz,bV,bU,bS _ 1,bS _ 1,cb,bS]
 rw [e,ek hw,cY hz2,cJ]
theorem Cx (w:Nat):∀ l:List Nat,(∀ x∈l,x < 2 ^ w)→i2d w l.length (d2i w l)=l:=by
 intro lr
 induction lr with
 | nil=>
  intro _
  exact rfl
 | cons x r ihr=>
  intro h
  have hx:=h x ao
  have ih:=ihr fun y hy=>h y (ai _ hy)
  simp only [d2i,i2d,ax]
  rw [Nat.add_mul_mod_self_left,bY hx,Nat.add_mul_div_left _ _ (aJ w),cY hx,dq,ih]
noncomputable def i6:List Nat→List Nat
 | []=>[]
 | x :: r=>if (i6 r).isEmpty && x == 0 then [] else x :: i6 r
theorem oU:∀ (l:List Nat),∀ x∈i6 l,x∈l
 | y :: r,x,h=>by
  unfold i6 at h
  split at h
  ·cases h
  ·rcases am.mp h with rfl | h
   ·exact ao
   ·exact ai _ (oU r x h)
set_option tactic.hygienic true in
theorem oP (w:Nat):∀ l:List Nat,d2i w (i6 l)=d2i w l:=by
 intro lr
 induction lr with
 | nil=>
  exact rfl
 | cons x r ihr=>
  have ih:=ihr
  unfold i6
  split
  ·rename_i h
   simp only [aV,List.isEmpty_iff,beq_iff_eq] at h
   simp only [d2i,h.2,← ih,h.1];simp
  ·simp only [d2i,ih]
set_option tactic.hygienic true in
theorem CR (w:Nat):∀ l:List Nat,i6 l≠[]→2 ^ (w * ((i6 l).length - 1))≤d2i w l:=by
 intro lr
 induction lr with
 | nil=>
  intro h
  exact absurd rfl h
 | cons x r ihr=>
  intro h
  have ih:=ihr
  unfold i6 at h ⊢
  split at h
  ·exact absurd rfl h
  ·rename_i hc
   rw [if_neg hc]
   simp only [ax,cb,d2i]
   by_cases he:i6 r=[]
   ·have hx:x≠0:=fun e=>hc (by simp [he,e])
    rw [he]
    simp only [cQ,fF,eW]
    omega
   ·have hl:1≤(i6 r).length:=by cases hb:i6 r with | nil=>exact absurd hb he | cons=>simp
    have:=ih he
    have e:2 ^ (w * (i6 r).length)=2 ^ w * 2 ^ (w * ((i6 r).length - 1)):=by
     rw [← bC];congr 1
     conv=>lhs;rw [show (i6 r).length=((i6 r).length - 1) + 1 by lia,bV,bU]
     omega
    rw [e]
    exact aa (aO _ this) (cm ..)
theorem yb (w:Nat) (hw:1≤w) (l:List Nat) (h:∀ x∈l,x < 2 ^ w):i2d w (jm w (d2i w l)) (d2i w l)=i6 l:=by
 have hb:=Cx w (i6 l) fun x hx=>h x (oU l x hx)
 rw [oP] at hb
 by_cases he:i6 l=[]
 ·have h0:d2i w l=0:=by rw [← oP,he];rfl
  rw [h0,he]
  have:jm w 0=0:=by unfold jm;rw [show iD 0=0 from rfl,dq];exact cY (by lia)
  rw [this];rfl
 ·have hl:1≤(i6 l).length:=by cases hb:i6 l with | nil=>exact absurd hb he | cons=>simp
  have hlo:=CR w l he
  have hup:=rC w (i6 l) fun x hx=>h x (oU l x hx)
  rw [oP] at hup
  have:=Cj (m:=(i6 l).length - 1) hw hlo (by rw [bx hl];exact hup)
  rw [this,bx hl,hb]
noncomputable def om (w:List Nat) (i:Nat):Nat:=w.getD (i % w.length) 0
theorem Dm {w:List Nat} {i:Nat} (h:i < w.length):om w i=w.getD i 0:=by unfold om;rw [bY h]
theorem wj (w:List Nat) (i:Nat):om w (w.length + i)=om w i:=by unfold om;rw [gG]
theorem jN {a b:List Nat} {i:Nat} (h:i < a.length):(a++b).getD i 0=a.getD i 0:=by
 rw [aj,aj,bH h]
theorem jV {a b:List Nat} (i:Nat):(a++b).getD (a.length + i) 0=b.getD i 0:=by
 rw [aj,aj,bf (aM _ _),bB]
theorem ck {x y:List Nat} (hx:0 < x.length) {p:Nat} (h:∀ i,i < p→(x++y).getD i 0=(y++x).getD i 0) (i:Nat):i≤p→i < x.length + y.length→om x i=(x++y).getD i 0:=by
 induction i using fj with
 | ind i ih=>
  intro hp hl
  rcases aZ i x.length with hi | hi
  ·rw [Dm hi,jN hi]
  ·obtain ⟨j,rfl⟩:∃ j,i=x.length + j:=⟨i - x.length,(bn hi).symm⟩
   have hj:j < x.length + j:=fH hx
   have hy:j < y.length:=cZ hl
   rw [wj,ih j hj (aa (aF hj) hp) (cz hj hl),h j (an hj hp),jN hy,jV]
theorem Aw {a b:List Nat} (hl:a.length=b.length) (h:∀ i,i < a.length→a.getD i 0=b.getD i 0):a=b:=by
 refine List.ext_getElem hl fun i h1 h2=>?_
 have:=h i h1
 rw [aj,aj,ak h1,ak h2] at this
 exact this
theorem x7 {x y:List Nat} (hle:x.length≤y.length) (hx:0 < x.length) (ih:∀ z,x.length + z.length=y.length→(∀ i,i < x.length + z.length - eE x.length z.length→(x++z).getD i 0=(z++x).getD i 0)→x++z=z++x)
  (h:∀ i,i < x.length + y.length - eE x.length y.length→(x++y).getD i 0=(y++x).getD i 0):x++y=y++x:=by
 have hg:eE x.length y.length≤y.length:=Nat.gcd_le_right _ (an hx hle)
 have ht:y.take x.length=x:=by
  refine Aw (by rw [aP,bl hle]) fun i hi=>?_
  rw [aP,bl hle] at hi
  have:=h i (an hi (Nat.le_sub_of_add_le (bF hg _)))
  rw [jN hi,jN (an hi hle)] at this
  rw [this,aj,aj,cP,if_pos hi]
 obtain ⟨z,rfl⟩:∃ z,y=x++z:=⟨y.drop x.length,by rw [← dw x.length y,ht];simp⟩
 have hl:(x++z).length=x.length + z.length:=af
 have hgz:eE x.length (x++z).length=eE x.length z.length:=by rw [hl];exact Nat.gcd_self_add_right ..
 have e:=ih z hl.symm fun i hi=>by
  have:=h (x.length + i) (by rw [hgz,hl,Nat.add_sub_assoc (hl ▸ hgz ▸ hg)];exact c7 hi _)
  rwa [jV,ay,jV] at this
 rw [e,← ay,e]
theorem fw:∀ (n:Nat) (x y:List Nat),x.length + y.length≤n→(∀ i,i < x.length + y.length - eE x.length y.length→(x++y).getD i 0=(y++x).getD i 0)→x++y=y++x:=by
 intro n
 induction n with
 | zero=>intro x y hn _;rw [bA (Nat.eq_zero_of_add_eq_zero (Nat.le_zero.mp hn)).1];simp
 | succ n ih=>
  intro x y hn h
  rcases bL x.length with h0 | hx
  ·rw [bA h0];simp
  rcases bL y.length with h0 | hy
  ·rw [bA h0];simp
  rcases cE x.length y.length with hle | hle
  ·exact x7 hle hx (fun z hz=>ih x z (by omega)) h
  ·refine (x7 hle hy (fun z hz=>ih y z (by omega)) fun i hi=>?_).symm
   rw [aQ,Nat.gcd_comm] at hi
   exact (h i hi).symm
noncomputable def pre (w:List Nat) (t:Nat):List Nat:=(aT t).map (om w)
noncomputable def trn (w:List Nat) (t:Nat):List Nat:=(aT w.length).map fun i=>om w (t + i)
theorem vd (w:List Nat):pre w w.length=w:=by
 refine Aw (by unfold pre;rw [ag,aH]) fun i hi=>?_
 unfold pre at hi ⊢
 rw [ag,aH] at hi
 rw [aj,aN,bO hi]
 exact Dm hi
theorem xd (w:List Nat) (a b:Nat):pre w (a + b)=pre w a++(aT b).map fun i=>om w (a + i):=by
 unfold pre;rw [List.range_add,aU,b0];rfl
theorem Bz (w:List Nat) (t:Nat):w++pre w t=pre w t++trn w t:=by
 have h1:=xd w w.length t
 have h2:=xd w t w.length
 rw [vd] at h1
 rw [aQ,h1] at h2
 have e:(aT t).map (fun i=>om w (w.length + i))=pre w t:=b8 fun i _=>wj w i
 rw [e] at h2
 exact h2
noncomputable def iN:List Nat:=[102,105,115,116,104,112,32,953,34,92,10,35,172,174,846,848,6149,6151,6154,6158,8202,8206,8287,8289,65023,65040,65278,65280]
noncomputable def lix (c:Nat):Nat:=iN.idxOf c
noncomputable def jM (w:List Nat):List Nat:=(w.map lix).reverse
noncomputable def vn (W:Nat) (w:List Nat):Nat:=d2i W (jM w)
noncomputable def InL (w:List Nat):Prop:=∀ c∈w,c∈iN
theorem zY {c:Nat} (h:c∈iN):lix c≤27:=cI (List.idxOf_lt_length_of_mem h)
theorem jr (w:List Nat):(jM w).length=w.length:=by unfold jM;rw [dH,ag]
theorem us (a b:List Nat):jM (a++b)=jM b++jM a:=by unfold jM;rw [aU,ga]
theorem n8 (W:Nat) (a b:List Nat):vn W (a++b)=vn W b + 2 ^ (W * b.length) * vn W a:=by unfold vn;rw [us,rD,jr]
theorem vj {w:List Nat} (h:InL w):∀ x∈jM w,x≤27:=fun x hx=>by
 obtain ⟨c,hc,rfl⟩:=aA.mp (dz.mp hx)
 exact zY (h c hc)
theorem DG {W:Nat} (hW:5≤W):32≤2 ^ W:=bh (n:=2) (by decide) hW
theorem nG {W:Nat} (hW:5≤W) {w:List Nat} (h:InL w):∀ x∈jM w,x < 2 ^ W:=fun x hx=>ae (vj h x hx) (an (by decide) (DG hW))
theorem AM {W:Nat} (hW:5≤W):∀ {l:List Nat},l≠[]→(∀ x∈l,x≤27)→d2i W l + 2≤2 ^ (W * l.length)
 | [],h,_=>absurd rfl h
 | x :: r,_,h=>by
  have h1:=rC W r fun y hy=>ae (h y (ai _ hy)) (an (by decide) (DG hW))
  have h2:=DG hW
  have hx:=h x ao
  rw [ax,eX,aQ (W * _),bC,d2i,bS]
  exact aa (bp (aa (bp hx 2) (aa (by decide:27 + 2≤32) h2)) _) (by rw [aQ,← eX];exact aO _ h1)
theorem zO {w:List Nat} (hw:0 < w.length) (i:Nat):om w i∈w:=by
 unfold om
 rw [aj,ak (bg _ hw)]
 exact bq _
theorem xc {w:List Nat} (hw:0 < w.length) (h:InL w) (t:Nat):InL (pre w t):=fun c hc=>by
 obtain ⟨i,_,rfl⟩:=aA.mp hc
 exact h _ (zO hw i)
theorem tp {w:List Nat} (hw:0 < w.length) (h:InL w) (t:Nat):InL (trn w t):=fun c hc=>by
 obtain ⟨i,_,rfl⟩:=aA.mp hc
 exact h _ (zO hw _)
theorem jE (w:List Nat) (t:Nat):(pre w t).length=t:=by unfold pre;rw [ag,aH]
theorem iK (w:List Nat) (t:Nat):(trn w t).length=w.length:=by unfold trn;rw [ag,aH]
theorem Dd {W:Nat} (hW:5≤W) {w:List Nat} (hw:0 < w.length) (h:InL w):vn W w < 2 ^ (W * w.length) - 1:=by
 have:=AM hW (l:=jM w) (fun e=>by have:=jr w;rw [e] at this;exact absurd this (ce hw)) (vj h)
 rw [jr] at this
 exact Nat.lt_sub_of_add_lt this
theorem DF {W:Nat} (hW:5≤W) {w:List Nat} (hw:0 < w.length) (h:InL w) (t:Nat):
  vn W w * 2 ^ (W * t) / (2 ^ (W * w.length) - 1)=vn W (pre w t)∧vn W w * 2 ^ (W * t) % (2 ^ (W * w.length) - 1)=vn W (trn w t):=by
 have hlt:=Dd hW (w:=trn w t) (by rw [iK];exact hw) (tp hw h t)
 rw [iK] at hlt
 refine yS ?_ hlt
 have e:=congrArg (vn W) (Bz w t)
 rw [n8,n8,jE,iK] at e
 have hP:=aJ (W * w.length)
 rw [ia,dU,bo]
 refine f0 (m:=vn W (pre w t)) ?_
 rw [aQ,e,bS,bx (bu _ hP),aQ]
theorem Bh {W:Nat} (hW:5≤W) {w:List Nat} (h:InL w):i2d W (jm W (vn W w)) (vn W w)=i6 (jM w):=yb W (aa (by decide) hW) _ (nG hW h)
theorem wW (l:List Nat) (x:Nat):i6 (l++[x])=if x=0 then i6 l else l++[x]:=by
 induction l with
 | nil=>by_cases h:x=0<;>simp [i6,h]
 | cons y l ih=>
  rw [ar,i6,ih]
  by_cases h:x=0
  ·simp [h,i6]
  ·simp [h]
theorem zX {c:Nat} (h:lix c=0):c=102:=by
 unfold lix iN at h
 rw [List.idxOf_cons] at h
 by_cases e:(102 == c)=true
 ·exact (beq_iff_eq.mp e).symm
 ·rw [gF] at e
  rw [e] at h;cases h
theorem y1:∀ w:List Nat,i6 (jM w)=jM (w.dropWhile (· == 102)):=by
 intro lr
 induction lr with
 | nil=>
  exact rfl
 | cons c w ihr=>
  have e:jM (c :: w)=jM w++[lix c]:=by unfold jM;rw [be,dR]
  rw [e,wW]
  by_cases h:c=102
  ·subst h
   rw [if_pos (by decide),ihr];rfl
  ·rw [if_neg fun q=>h (zX q),gc,beq_false_of_ne h]
   exact e.symm
theorem y2 {K:Kx} {ρ:Fm} {σ:ij} {elts:List Expr} {k:Nat} {pos:Pos} {vs:List V} {Q:Fm→ij→Prop} (h:vV K Q ρ σ elts vs) (hl:elts.length=vs.length)
  (he:autoParam (∀ env,assignEach elts env=elts.map fun t=>(false,assign t env)) aI):AsP K ρ σ (.Tuple elts k pos) (.lst vs) Q:=fun A env s v ha hr hi hv QM hq=>by
 walk_at "u"; obtain ⟨a,items,n,e₀,ho,_,_,hrs⟩:=hv.inv;walk_at "v"
 subst e₀
 have hn:(assignEach elts env).length=items.size:=by rw [he,ag,hl,← hrs.length,Array.length_toList]
 have hst:(assignEach elts env).findIdx? (·.1)=none:=by rw [he];simp
 rw [PyProof.Rows.assign_Tuple]
 refine wpAny_bind (wpAny_standAt ?_)
 unfold unpack
 rw [hn,hst]
 refine wpAny_bind (wpAny_holding (kun_itemsOf ha.1 ⟨_,ho,rfl,_,rfl⟩ fun h' e=>?_))
 have k:ji σ s.heap.objs.size s.heap h':=⟨fun b o' hb q=>e b o' hb q,fun o' q=>by (rw [Heap.get?_size] at q;cases q)⟩
 have E:Ext σ s.heap σ h':=Ext.grow fun b o' q=>e b o' (fun q'=>by subst q';(rw [Heap.get?_size] at q;cases q)) q
 rw [he,show (elts.map fun t=>(false,assign t env)).map (·.2)=elts.map fun t=>assign t env by simp]
 exact td ha h (hr.mono E) (hi.poke (s':={ s with heap:=h' }) k rfl rfl) (hrs.mono k.seq) fun ρ' σ' s' q hr' i' e'=>hq ρ' σ' s' q hr' i' (E.toF.trans e')
theorem i7 {K:Kx} {ρ:Fm} {σ:ij} {b:Bool} {e1 e2:Expr} {Q:V→ij→Prop} (v:V) (h1:b=true→EvP K ρ σ e1 (fun v' σ'=>v'=v∧σ'=σ)) (h2:b=false→EvP K ρ σ e2 (fun v' σ'=>v'=v∧σ'=σ)) (q:Q v σ):
  if b=true then EvP K ρ σ e1 Q else EvP K ρ σ e2 Q:=by
 have fin:∀ v' σ',v'=v∧σ'=σ→Q v' σ':=fun v' σ' h=>by rw [h.1,h.2];exact q
 cases b with
 | true=>refine ifp rfl ?_;exact EvP.mono (h1 rfl).of fin
 | false=>refine ifn (by decide) ?_;exact EvP.mono (h2 rfl).of fin
theorem C2 {R:FnRec} (h:∀ fd,bindArgs (fdP fd R) ⟨[],[]⟩=pure []):iH R []:=by
 intro fd h1 h2 h3 vs hl
 rw [m6 h1 h2 h3]
 obtain rfl:=fx.1 hl
 exact h fd
theorem pO:iH kD []:=C2 (by intros;kernel_rfl)
theorem pF:fnB kD []=true:=by decide +kernel
theorem sL:iH lH ["cells"]:=by walk_at "binds"
theorem sB:fnC lH ["cells"] ["pair"]=true:=by decide +kernel
theorem jK {b:Nat} (h0:b≠0) (h:b < 2 ^ 64):b.log2 < 9000:=wo h0 (an h (bh (by decide) (by decide)))
section
variable {K:Kx} {ρ:Fm} {σ:ij} {d:Nat} {Q:V→ij→Prop}
theorem jD (hd:3≤d) (q:Q (.str iN) σ):CallV d (.raw (.ref mm)) [] σ Q:=by
 refine CallV.le (d:=3) (CallV.of ?_) hd
 refine jX (d:=2) B.ok2 B.f__law_letters pO pF rfl rfl rfl ?_
 walk_at "start"
 walk_at "go"
 exact q
noncomputable def Dh:List (List Nat):=[[97,98],[97],[97,97,98],[97,98,97],[97,98,98],[97,97],[98,97,98],[98],[]]
noncomputable def Dg:List (List Nat):=[[97],[98],[97,98],[98,97],[97,98,97],[98,98],[97,97,98],[98,97,97],[]]
noncomputable def ab (b:Bool):Nat:=if b then 98 else 97
noncomputable def zr:List (List Bool):=[[false,true],[false],[false,false,true],[false,true,false],[false,true,true],[false,false],[true,false,true],[true],[],[true,false],[true,true],[true,false,false]]
theorem zu:∀ i,i < 9→∃ r∈zr,Dh.getD i []=r.map ab:=by decide +kernel
theorem zt:∀ i,i < 9→∃ r∈zr,Dg.getD i []=r.map ab:=by decide +kernel
theorem u9:∀ r∈zr,r.length≤3:=by decide
theorem ri {k:Nat} (h:k < 28):iN.getD k 0∈iN:=by
 rw [aj,ak (show k < iN.length from h)]
 exact bq _
theorem ke {α:Type} (f:α→Nat):∀ r:List α,(r.map fun b=>[f b]).flatten=r.map f:=by
 intro lr
 induction lr with
 | nil=>
  exact rfl
 | cons b r ihr=>
  rw [be,bT,ihr];rfl
noncomputable def stp (x y:List Nat):Nat→List Nat×List Nat
 | 0=>(x,y)
 | 1=>(x,x++y)
 | 2=>(x,y++x)
 | 3=>(x++y,y)
 | _=>(y++x,y)
theorem InL.app {x y:List Nat} (hx:InL x) (hy:InL y):InL (x++y):=fun c hc=>(bb.mp hc).elim (hx c) (hy c)
theorem DO {x y:List Nat} (hx:InL x) (hy:InL y) (hl:x.length + y.length≤14) {m:Nat} (h:m≠0→x.length + y.length≤7):InL (stp x y m).1∧InL (stp x y m).2∧(stp x y m).1.length + (stp x y m).2.length≤14:=by
 rcases m with _ | _ | _ | _ | m
 ·exact ⟨hx,hy,hl⟩
 all_goals
  have h7:=h (fg _)
  simp only [stp,af]
  first
  | exact ⟨hx,hx.app hy,by lia⟩
  | exact ⟨hx,hy.app hx,by lia⟩
  | exact ⟨hx.app hy,hy,by lia⟩
  | exact ⟨hy.app hx,hy,by lia⟩
noncomputable def qd (a:Nat):Nat:=if a / 784 % 2=1 then a / 28 % 28 else (a % 28) ^^^ 1
theorem FU:∀ m,m < 28→m ^^^ 1 < 28:=by decide +kernel
theorem zK (a:Nat):qd a < 28:=by
 unfold qd
 split
 ·exact bg _ (by decide)
 ·exact FU _ (bg _ (by decide))
theorem jB {cs:List Nat} {k:Nat} {z:Int} (hz:z=(k:Int)) (hl:cs.length=8) (hk:k < 8) (q:Q (.int (cs.getD k 0:Nat)) σ):M2 d getItem (.lst (iS cs)) (.int z) σ Q:=by
 subst hz
 exact iV (.fr _) (nD (by rw [hl];exact hk)) (by unfold iS;rw [ag,hl];decide) q
theorem sv (hd:12≤d) {cs:List Nat} (hcs:cs.length=8) (hc:∀ k,k < 8→cs.getD k 0 < 2 ^ 64) (q:∀ x y:List Nat,InL x→InL y→x.length + y.length≤14→Q (.tup [.str x,.str y]) σ):
  CallV d (.raw (.ref nZ)) [.lst (iS cs)] σ Q:=by
 refine CallV.le (d:=12) (CallV.of ?_) hd
 refine kJ (d:=11) B.ok2 B.f__law_words sL sB rfl rfl rfl ?_
 have c0:=hc 0 (by decide)
 have c1:=hc 1 (by decide)
 walk_at "start"
 walk_at "go"
 refine jB (k:=0) rfl hcs (by decide) ?_
 obtain ⟨a,ha⟩:∃ a,cs.getD 0 0=a:=⟨_,rfl⟩
 obtain ⟨b,hb⟩:∃ b,cs.getD 1 0=b:=⟨_,rfl⟩
 rw [ha] at c0 ⊢
 rw [hb] at c1
 walk_at "go"
 refine jI (by kernel_rfl) (by walk_at "mem") (by intro c e;cases e) ?_
 refine iU (caps:=[]) (iQ (by kernel_rfl) (by walk_at "has") (by rfl)) (fun k:Nat=>V.int k) (fun k=>[("one", .val (.int k))]) (fun k=>V.str [iN.getD k 0]) ?_
 iterate 4 walk_at "s"
 refine oJ (a / 784 % 2 == 1) (.int (qd a)) ?_ (fun h=>?_) (fun h=>?_) ?_
 ·walk_at "go"
  refine jB (k:=0) rfl hcs (by decide) ?_
  rw [ha]
  walk_at "go"
  exact ⟨rfl,rfl⟩
 ·have h:a / 784 % 2=1:=beq_iff_eq.mp h
  walk_at "go"
  refine jB (k:=0) rfl hcs (by decide) ?_
  rw [ha]
  walk_at "go"
  exact ⟨congrArg (fun m:Nat=>V.int m) (if_pos h).symm,rfl⟩
 ·have h:¬ a / 784 % 2=1:=fun e=>absurd (h.symm.trans (beq_iff_eq.mpr e)) (by decide)
  walk_at "go"
  exact ⟨congrArg (fun m:Nat=>V.int m) (if_neg h).symm,rfl⟩
 walk_at "go"
 have hp:=zK a
 have hf:a % 28 < 28:=bg _ (by decide)
 refine ⟨[a % 28,qd a],.tup [_,_],an (bv 2) (by decide),fun k hk=>⟨iJ (by kernel_rfl),by kernel_rfl,fun D acc hD=>?_⟩,?_⟩
 ·have hk:k < 28:=by
   rcases am.mp hk with rfl | hk
   ·exact hf
   ·rcases am.mp hk with rfl | hk
    ·exact hp
    ·cases hk
  simp only [ar,aw]
  walk_at "go"
  refine jD (by decide) ?_
  walk_at "go"
  refine wv (c:=iN.getD k 0) (aB k) ?_ (by decide) ⟨rfl,rfl⟩
  rw [bw,aj,ak (show k < iN.length from hk)]
  rfl
 have hm1:a / 1568 % 9 < 9:=bg _ (by decide)
 have hm2:a / 14112 % 9 < 9:=bg _ (by decide)
 walk_at "go"
 refine ⟨by decide,?_⟩
 walk_at "go"
 refine jB (k:=0) rfl hcs (by decide) ?_
 rw [ha]
 walk_at "go"
 refine iV (.fr _) (nm (l:=Dh) hm1) (by decide) ?_
 walk_at "go"
 refine ⟨by decide,?_⟩
 walk_at "go"
 refine jB (k:=0) rfl hcs (by decide) ?_
 rw [ha]
 walk_at "go"
 refine iV (.fr _) (nm (l:=Dg) hm2) (by decide) ?_
 walk_at "go"
 obtain ⟨r1,m1,e1⟩:=zu _ hm1
 obtain ⟨r2,m2,e2⟩:=zt _ hm2
 rw [e1,e2]
 have hr1:=u9 r1 m1
 have hr2:=u9 r2 m2
 obtain ⟨lt,hlt⟩:∃ lt:Bool→Nat,(fun b=>iN.getD (if b then qd a else a % 28) 0)=lt:=⟨_,rfl⟩
 have hlt1:∀ b,lt b∈iN:=fun b=>by
  subst hlt
  cases b
  ·exact ri hf
  ·exact ri hp
 refine iU (caps:=[("pair", .val (.lst (dl (fun k=>V.str [iN.getD k 0]) [a % 28,qd a])))]) (iQ (by kernel_rfl) (by walk_at "has") (by rfl)) (fun r:List Bool=>V.str (r.map ab)) (fun r=>[("row", .val (.str (r.map ab)))]) (fun r=>V.str (r.map lt)) ?_
 walk_at "go"
 refine ⟨[r1,r2],.lst _,an (bv 2) (by decide),fun r hr=>⟨iJ (by kernel_rfl),by kernel_rfl,fun D acc hD=>?_⟩,?_⟩
 ·have hr3:r.length≤3:=by
   rcases am.mp hr with rfl | hr
   ·exact hr1
   ·rcases am.mp hr with rfl | hr
    ·exact hr2
    ·cases hr
  simp only [ar,aw]
  walk_at "go"
  refine iU (caps:=[("pair", .val (.lst (dl (fun k=>V.str [iN.getD k 0]) [a % 28,qd a])))]) (iQ (by kernel_rfl) (by walk_at "has") (by rfl)) (fun b:Bool=>V.str [ab b]) (fun b=>[("one", .val (.str [ab b]))]) (fun b=>V.str [lt b]) ?_
  walk_at "go"
  refine ⟨r,by simpa [Function.comp_def] using iM.str (r.map ab),ae hr3 (by decide),fun b hb=>⟨iJ (by kernel_rfl),by kernel_rfl,fun D' acc' hD'=>?_⟩,?_⟩
  ·simp only [ar,aw]
   walk_at "go"
   rw [show Txt.find ⟨(Str.ofString "ab").cps.toList.toArray⟩ ⟨#[ab b]⟩=((if b then 1 else 0:Nat):Int) by cases b<;>decide +kernel]
   refine iV (x:=.str [lt b]) (.fr _) ?_ (by rw [ag];exact an (bv 2) (by decide)) ⟨rfl,rfl⟩
   subst hlt
   cases b<;>rfl
  ·walk_at "go"
   refine nT (xs:=r.map fun b=>[lt b]) (by simpa [Function.comp_def] using LV.fr _) (by rw [ke,ag];exact aa hr3 (by decide)) ?_
   rw [ke]
   exact ⟨rfl,rfl⟩
 refine y2 ?_ rfl
 show vV _ _ _ _ _ [V.str (r1.map lt),V.str (r2.map lt)]
 have hx1:(r1.map lt).length + (r2.map lt).length≤14:=by rw [ag,ag];exact aa (aX hr1 hr2) (by decide)
 have hi1:InL (r1.map lt):=fun c hc=>by obtain ⟨b,_,rfl⟩:=aA.mp hc;exact hlt1 b
 have hi2:InL (r2.map lt):=fun c hc=>by obtain ⟨b,_,rfl⟩:=aA.mp hc;exact hlt1 b
 generalize r1.map lt=x0 at *
 generalize r2.map lt=y0 at *
 walk_at "go"
 refine kG ?_
 walk_at "go"
 refine ⟨_,ja 3 (by decide),fun k ρ' σ'=>∃ x y:List Nat,InL x∧InL y∧x.length + y.length≤14∧σ'=σ∧Has ρ' [("x", .val (.str x)),("y", .val (.str y)),("cells", .val (.lst (iS cs)))],⟨x0,y0,hi1,hi2,hx1,rfl,by walk_at "has"⟩,?_,?_⟩
 ·intro k v ρ' σ' hx hJ
  walk_at "u"; obtain ⟨x,y,ix,iy,hl,eσ,hhas⟩:=hJ;walk_at "v"
  have hk:k < 3:=by
   rcases aZ k 3 with h | h
   ·exact h
   ·exact absurd ((bd (by simpa using h)).symm.trans hx) (al _).symm
  have hv:v=.int ((k:Nat):Int):=by
   rw [aN,bO hk] at hx
   exact (aq hx).symm
  subst hv
  refine AsP.sub ?_ hhas
  have hxl:x.length≤14:=aa (aM _ _) hl
  have hyl:y.length≤14:=aa (cm _ _) hl
  walk_at "go"
  rotate_left
  ·exact ae hxl (by decide)
  ·exact ae hyl (by decide)
  refine i7 (.int ((if x.length + y.length≤7 then b / 5 ^ k % 5 else 0:Nat):Int)) (fun h=>?_) (fun h=>?_) ?_
  ·have h:x.length + y.length≤7:=of_decide_eq_true h
   walk_at "go"
   refine jB (k:=1) rfl hcs (by decide) ?_
   rw [hb]
   have h5:0 < 5 ^ k:=ib (by decide)
   walk_at "go"
   rotate_left
   ·exact aa (cV (show iD 5≤3 by decide) (aF hk)) (by decide)
   ·exact bE h5
   ·exact jK (bE h5) (ae (bh (by decide) (aF hk)) (by decide))
   exact ⟨congrArg (fun m:Nat=>V.int m) (if_pos h).symm,rfl⟩
  ·have h:¬ x.length + y.length≤7:=of_decide_eq_false h
   walk_at "go"
   exact ⟨congrArg (fun m:Nat=>V.int m) (if_neg h).symm,rfl⟩
  obtain ⟨m,hm⟩:∃ m,(if x.length + y.length≤7 then b / 5 ^ k % 5 else 0)=m:=⟨_,rfl⟩
  have hm5:m < 5:=by
   subst hm
   split
   ·exact bg _ (by decide)
   ·decide
  have hs:=DO ix iy hl (m:=m) fun h0=>by
   rcases aZ 7 (x.length + y.length) with h | h
   ·rw [if_neg (eO.mpr h)] at hm;exact absurd hm.symm h0
   ·exact h
  rw [hm]
  have hxy:x.length + y.length≤2 ^ 24:=aa hl (by decide)
  have hyx:y.length + x.length≤2 ^ 24:=aQ x.length _ ▸ hxy
  walk_at "go"
  rotate_left
  ·exact hxy
  ·exact hyx
  ·exact hxy
  ·exact hyx
  refine iV (x:=.tup [.str (stp x y m).1,.str (stp x y m).2]) (.fr _) ?_ (show 5 < 2 ^ 25 by decide) ?_
  ·rcases m with _ | _ | _ | _ | _ | m
   ·rfl
   ·rfl
   ·rfl
   ·rfl
   ·rfl
   ·exact absurd hm5 (b7.mpr (cm 5 m))
  walk_at "go"
  exact ⟨_,_,hs.1,hs.2.1,hs.2.2,eσ,by walk_at "has"⟩
 ·intro ρ₁ σ₂ hJ
  walk_at "u"; obtain ⟨x,y,ix,iy,hl,eσ,hhas⟩:=hJ;walk_at "v"
  subst eσ
  refine cont_next (ExP.has ?_ hhas)
  walk_at "go"
  exact q x y ix iy hl
end
theorem rY:iH kT ["word", "width"]:=by walk_at "binds"
theorem rI:fnC kT ["word", "width"] []=true:=by decide +kernel
theorem nK:∀ c∈iN,Txt.find ⟨iN.toArray⟩ ⟨#[c]⟩=((lix c:Nat):Int):=by decide +kernel
theorem zb (W:Nat) (w:List Nat):(((aT w.length).map fun k=>lix (w.getD k 0) * 2 ^ (W * (w.length - 1 - k))).sum)=vn W w:=by
 induction w with
 | nil=>rfl
 | cons c w ih=>
  have e:vn W (c :: w)=vn W w + 2 ^ (W * w.length) * lix c:=by
   rw [show c :: w=[c]++w from rfl,n8]
   show _ + 2 ^ (W * w.length) * (lix c + 2 ^ W * 0)=_
   rw [fF,cJ]
  rw [e,← ih,ax,d6,be,dW,b0,aQ,bo (2 ^ _)]
  refine congr (congrArg HAdd.hAdd (congrArg List.sum (b8 fun k hk=>?_))) ?_
  ·show lix ((c :: w).getD (k + 1) 0) * 2 ^ (W * (w.length + 1 - 1 - (k + 1)))=_
   rw [List.getD_cons_succ,cb,hY,aQ 1]
  ·rfl
section
variable {K:Kx} {ρ:Fm} {σ:ij} {d:Nat} {Q:V→ij→Prop}
theorem jc (hd:6≤d) {w:List Nat} {W:Nat} (hin:InL w) (hl:w.length≤2 ^ 10) (hw:W≤2 ^ 11) (q:Q (.int (vn W w:Nat)) σ):CallV d (.raw (.ref mQ)) [.str w,.int W] σ Q:=by
 refine CallV.le (d:=6) (CallV.of ?_) hd
 refine kJ (d:=5) B.ok2 B.f__law_number rY rI rfl rfl rfl ?_
 walk_at "start"
 walk_at "go"
 refine iU (caps:=[("word", .val (.str w)),("width", .val (.int (W:Int)))]) (iQ (by kernel_rfl) (by walk_at "has") (by rfl)) (fun k:Nat=>V.int k) (fun k=>[("k", .val (.int k))]) (fun k=>V.int ((lix (w.getD k 0) * 2 ^ (W * (w.length - 1 - k)):Nat):Int)) ?_
 walk_at "go"
 rotate_left;· exact ae hl (by decide)
 refine ⟨aT w.length,ja _ (ae hl (by decide)),by rw [aH];exact ae hl (by decide),fun k hk=>⟨iJ (by kernel_rfl),by kernel_rfl,fun D acc hD=>?_⟩,?_⟩
 ·have hk:k < w.length:=bR.mp hk
  obtain ⟨c,hc⟩:∃ c,w.getD k 0=c:=⟨_,rfl⟩
  have hcm:c∈w:=by rw [← hc,aj,ak hk];exact bq _
  simp only [ar,aw]
  walk_at "go"
  refine jD (by decide) ?_
  walk_at "go"
  refine wv (c:=c) (aB k) ?_ (ae hl (by decide)) ?_
  ·rw [bw,← hc,aj,ak hk];rfl
  walk_at "go"
  rw [nK c (hin c hcm)]
  walk_at "go"
  rotate_left
  ·exact ae hl (by decide)
  ·exact jn (.inl (ae hw (by decide)))
  ·exact aB _
  ·rw [nK c (hin c hcm),jo,← et]
   exact dM.mpr (aa (aX (iP (k:=5) (ae (zY (hin c hcm)) (by decide))) (cV hw (aa (bK _ _) (aa (bK _ _) hl)))) (by decide))
  exact ⟨by rw [bw,hc,gQ,Int.natCast_pow];rfl,rfl⟩
 ·walk_at "go"
  refine wS (xs:=(aT w.length).map fun k=>lix (w.getD k 0) * 2 ^ (W * (w.length - 1 - k))) (by simpa [iS,Function.comp_def] using LV.fr _) ?_
  walk_at "go"
  rw [zb];exact q
end
theorem DP {K:Kx} {ρ:Fm} {σ:ij} {body:List Stmt} {h₀:ExceptHandler} {hs:List ExceptHandler} {pos:Pos} {Q:Fl→Fm→ij→Prop} (h:ExP K ρ σ body Q):StP K ρ σ (.Try body (h₀ :: hs) [] [] pos) Q:=fun A env s ha hr hi QM hq=>by
 refine wpAny_Try_except (lD (h A env s ha hr hi _ fun f fl ρ' σ' s' q hf hr' hi' e=>?_))
 have:=hq f fl ρ' σ' s' q hf hr' hi' e
 cases f with
 | next=>exact wpAny_pure this
 | _=>exact this
theorem Ep {K:Kx} {ρ:Fm} {σ:ij} {e:Expr} {Q:V→ij→Prop} (v:V) (h:EvP K ρ σ e (fun v' σ'=>v'=v∧σ'=σ)) (q:Q v σ):EvP K ρ σ e Q:=h.mono fun v' σ' k=>by rw [k.1,k.2];exact q
section
variable {K:Kx} {ρ:Fm} {σ:ij} {l m r:Expr} {o₁ o₂:CmpOp} {pos:Pos}
theorem oK {Q:V→ij→Prop} (h:EvP K ρ σ l (fun a σ₁=>EvP K ρ σ₁ m (fun b σ₂=>M2 K.d (compareOp o₁) a b σ₂ (fun v σ₃=>∃ c,v=.bool c∧if c=true then EvP K ρ σ₃ r (fun e σ₄=>M2 K.d (compareOp o₂) b e σ₄ Q) else Q (.bool false) σ₃))))
  (hm:autoParam (lastMarks [o₁,o₂] [m,r]=false) aW):EvP K ρ σ (.Compare l [o₁,o₂] [m,r] pos) Q:=fun A env s ha hr hi QM hq=>
 Compare_chain (h A env s ha hr hi _ fun a pa σ₁ s₁ h₁ i₁ e₁ r₁=>chain_link (h₁ A env s₁ ha (hr.mono e₁) i₁ _ fun b pb σ₂ s₂ h₂ i₂ e₂ r₂=>h₂ A s₂ a b ha i₂ (r₁.mono e₂.seq) r₂ _ fun c pc σ₃ s₃ q i₃ e₃ r₃=>by
  obtain ⟨t,rfl,q⟩:=q
  cases r₃
  refine wpAny_truthy_bool ?_
  cases t with
  | false=>exact hq _ _ σ₃ s₃ q i₃ ((e₁.trans e₂).trans e₃) (.bool false)
  | true=>exact chain_last (q A env s₃ ha (hr.mono ((e₁.trans e₂).trans e₃)) i₃ _ fun d pd σ₄ s₄ h₄ i₄ e₄ r₄=>h₄ A s₄ b d ha i₄ (r₂.mono (e₃.trans e₄).seq) r₄ _ fun v pv σ₅ s₅ q₅ i₅ e₅ r₅=>hq v pv σ₅ s₅ q₅ i₅ ((((e₁.trans e₂).trans e₃).trans e₄).trans e₅) r₅))) hm
end
theorem oO {σ:ij} {α:Type} {f:α→Bool}:∀ l:List α,sQ σ (l.map fun p=>V.bool (f p)) ((l.map f).map PyData.bool):=by
 intro l
 induction l with
 | nil=>exact .nil
 | cons p l ih=>exact .cons (.bool _) ih
open PySem.Spec PySem.SeqAt in
theorem lq (bs:List Bool):shaped (.list (bs.map PyData.bool))=true:=by
 have h:PyData.canLayAll0 (bs.map PyData.bool)=true∧PyData.depthAll (bs.map PyData.bool)=0:=by
  induction bs with
  | nil=>exact ⟨rfl,rfl⟩
  | cons b bs ih=>
   walk_at "u"; obtain ⟨h1,h2⟩:=ih;walk_at "v"
   refine ⟨?_,?_⟩
   ·simp only [be,PyData.canLayAll0,PyData.canLay0,dX];exact h1
   ·simp only [be,PyData.depthAll,PyData.depth];rw [h2];rfl
 simp [shaped,PyData.canLay0,PyData.depth,h.1,h.2]
theorem lR:iH iT ["word", "told", "stands", "width"]:=by walk_at "binds"
theorem lP:fnB iT ["word", "told", "stands", "width"]=true:=by decide +kernel
theorem vh {b:Nat} (h:1≤b):1≤iD b∧2 ^ (iD b - 1)≤b:=by
 unfold iD
 rw [if_neg (by lia)]
 exact ⟨by lia,by rw [cb];exact Nat.log2_self_le (by lia)⟩
theorem rq (x:Int) {y:Int} (h:y < 0):y < x.fmod y∧x.fmod y≤0:=by
 have hp:0 < -y:=Int.neg_pos_of_neg h
 have e:x.fmod y=-((-x).fmod (-y)):=by
  have:=Int.neg_fmod_neg (-x) (-y)
  rw [ie,ie] at this
  exact this
 have h1:=ei (-x) hp
 have h2:=eQ (-x) hp
 rw [e]
 exact ⟨by lia,by lia⟩
theorem o3 (x:Int):Builtin.Int.intBits x=iD x.natAbs:=by
 unfold Builtin.Int.intBits iD
 by_cases h:x=0
 ·subst h;rfl
 ·rw [if_neg (fun e=>h (beq_iff_eq.mp e)),if_neg (fun e=>h (Int.natAbs_eq_zero.mp e))]
theorem yH {a b:Int} (ha:a.natAbs < 2 ^ (2 ^ 19)) (hb:b.natAbs < 2 ^ (2 ^ 19)):IntMulOk a b:=
 IntMulOk.of_bits (by rw [o3];exact aa (iP ha) (by decide)) (by rw [o3];exact aa (iP hb) (by decide))
theorem xO (w:List Nat):w.reverse.map (fun c=>V.int ((lix c:Nat):Int))=iS (jM w):=by unfold iS jM;rw [← eZ,b0];rfl
open PySem.Spec PySem.SeqAt in
theorem nr (x:List Nat):shaped (.list (dN x))=true:=by
 have h:=Ev x
 simp [shaped,PySem.PyData.canLay0,PySem.PyData.depth,h.1,h.2]
open PySem.Spec PySem.SeqAt in
theorem yC (a b:Int):shaped (.tuple [.int a,.int b])=true:=by simp [shaped,PySem.PyData.canLay0,PySem.PyData.canLayAll0,PySem.PyData.depth,PySem.PyData.depthAll]
section
variable {K:Kx} {ρ:Fm} {σ:ij} {d:Nat} {Q:V→ij→Prop}
theorem pB (hd:95≤d) {w:List Nat} {W t:Nat} (hw:0 < w.length) (hin:InL w) (hl:w.length≤14) (ht:t≤14) (hW:5≤W) (hW2:W≤1200) (q:∀ σ',Sub σ σ'→Q (.bool true) σ'):
  CallV d (.raw (.ref jq)) [.str w,.str (pre w t),.str (trn w t),.int W] σ Q:=by
 refine CallV.le (d:=95) (CallV.of ?_) hd
 refine jX (d:=94) B.ok2 B.f__law_divided lR lP rfl rfl rfl ?_
 walk_at "start"
 walk_at "go"
 refine iU (caps:=[]) (iQ (by kernel_rfl) (by walk_at "has") (by rfl)) (fun c:Nat=>V.str [c]) (fun c=>[("sign", .val (.str [c]))]) (fun c=>V.int ((lix c:Nat):Int)) ?_
 walk_at "go"
 refine ⟨_,_,_,.none,.none,.int _,sub_str,ux (aa hl (by decide)) ?_⟩
 refine ⟨w.reverse,iM.str w.reverse,by rw [dH];exact ae hl (by decide),fun c hc=>⟨iJ (by kernel_rfl),by kernel_rfl,fun D acc hD=>?_⟩,?_⟩
 ·simp only [ar,aw]
  walk_at "go"
  refine jD (by decide) ?_
  walk_at "go"
  rw [nK c (hin c (dz.mp hc))]
  exact ⟨rfl,rfl⟩
 rw [xO]
 walk_at "go"
 have h5:1≤W:=aa (by decide) hW
 refine ky (by decide) h5 (nG hW hin) (by rw [jr];exact aa (cV hW2 hl) (by decide)) ?_
 show uU _ _ _ (.int (vn W w:Nat)) σ
 iterate 4 walk_at "s"
 have hpin:=xc hw hin t
 have htin:=tp hw hin t
 have hpl:=jE w t
 have htl:=iK w t
 have hW11:W≤2 ^ 11:=aa hW2 (by decide)
 refine lc ?_
 walk_at "go"
 refine jc (by decide) hin (aa hl (by decide)) hW11 ?_
 walk_at "go"
 refine jc (by decide) hpin (by rw [hpl];exact aa ht (by decide)) hW11 ?_
 walk_at "go"
 have hlt:vn W (pre w t) < 2 ^ (W * t):=by
  have:=rC W (jM (pre w t)) (nG hW hpin)
  rw [jr,hpl] at this;exact this
 have hWt:W * t≤2 ^ 18:=aa (cV hW2 ht) (by decide)
 have hWn:W * w.length≤2 ^ 18:=aa (cV hW2 hl) (by decide)
 refine kx (by decide) h5 (aa hW2 (by decide)) (an hlt (bh (by decide) (aa hWt (by decide)))) ?_
 rw [Bh hW hpin,y1]
 obtain ⟨p,hp⟩:∃ p,(pre w t).dropWhile (· == 102)=p:=⟨_,rfl⟩
 have hpp:InL p:=fun c hc=>hpin c ((fB _).mem (hp ▸ hc))
 have hpl2:p.length≤14:=by rw [← hp];exact aa (fB _).length_le (aa (cA hpl) ht)
 rw [hp]
 walk_at "go"
 refine iU (caps:=[]) (iQ (by kernel_rfl) (by walk_at "has") (by rfl)) (fun c:Nat=>V.str [c]) (fun c=>[("sign", .val (.str [c]))]) (fun c=>V.int ((lix c:Nat):Int)) ?_
 walk_at "go"
 refine rW (by rw [hpl];exact aa ht (by decide)) ?_
 rw [show ((pre w t).dropWhile fun c=>(Str.ofString "f").cps.toList.contains c)=p by rw [← hp];congr 1;funext c;rw [show (Str.ofString "f").cps.toList=[102] by decide +kernel];simp;rfl]
 walk_at "go"
 refine ⟨_,_,_,.none,.none,.int _,sub_str,ux (aa hpl2 (by decide)) ?_⟩
 refine ⟨p.reverse,iM.str p.reverse,by rw [dH];exact ae hpl2 (by decide),fun c hc=>⟨iJ (by kernel_rfl),by kernel_rfl,fun D acc hD=>?_⟩,?_⟩
 ·simp only [ar,aw]
  walk_at "go"
  refine jD (by decide) ?_
  walk_at "go"
  rw [nK c (hpp c (dz.mp hc))]
  exact ⟨rfl,rfl⟩
 rw [xO]
 show M2 _ _ _ _ _ _
 refine nN rfl (.lst (rB _)) (nr _) ?_
 walk_at "go"
 intro D hD
 rw [beq_self_eq_true]
 walk_at "go"
 refine st_assign_swap (names:=["above", "below"]) ?_ (by intro env h1 h2;obtain ⟨⟨_,_,_,_⟩,_,_,_,_,_,_,_,_⟩:=env;dsimp only at h1 h2;subst h1 h2;kernel_rfl) (by intro _;rfl)
 walk_at "go"
 refine ⟨_,rfl,rfl,?_⟩
 show lS _ _ _ [_,_] [_,_]
 walk_at "swp"
 walk_at "go"
 have eb:((1 * 2 ^ (W * w.length):Nat):Int) - 1=((2 ^ (W * w.length) - 1:Nat):Int):=by rw [dU];exact (eK (aJ _)).symm
 rw [hpl,eb]
 have hlw:=Dd hW hw hin
 have hdiv:=DF hW hw hin t
 obtain ⟨b,hb⟩:∃ b,2 ^ (W * w.length) - 1=b:=⟨_,rfl⟩
 have hbl:b < 2 ^ (W * w.length):=hb ▸ gu (aJ _) (by decide)
 have hb0:1≤b:=by rw [← hb];exact ci hlw
 obtain ⟨N,hN⟩:∃ N,vn W w=N:=⟨_,rfl⟩
 rw [hb,hN] at hdiv hlw
 rw [hb,hN]
 have hbn:iD b≤2 ^ 18:=aa (iP hbl) hWn
 have dok:th b (iD b):=yU (vh hb0).1 (aa hbn (by decide)) (vh hb0).2 (nF b)
 have ibm:∀ (x y:Int) {σ₂:ij} {Q₂:V→ij→Prop},x.natAbs < 2 ^ (2 ^ 19)→y.natAbs=b→Q₂ (.tup [.int (x.fdiv y),.int (x.fmod y)]) σ₂→CallV 94 (.raw (.ref ju)) [.int x,.int y] σ₂ Q₂:=fun x y σ₂ Q₂ hx hy q₂=>
  su (by rw [hy];exact dok) (by decide) (fun e=>by rw [e] at hy;exact bE hb0 hy.symm) (by rw [hy];exact aa hbn (by decide)) hx q₂
 have hNt:N * 2 ^ (W * t) < 2 ^ (2 ^ 19):=by
  have h1:N * 2 ^ (W * t) < 2 ^ (W * w.length) * 2 ^ (W * t):=cU (cz hlw hbl) (aJ _)
  rw [← bC] at h1
  exact an h1 (bh (by decide) (aa (aX hWn hWt) (by decide)))
 obtain ⟨σ₁,e₁⟩:∃ σ₁,upd σ D (some (.list [.bool true,.bool true]))=σ₁:=⟨_,rfl⟩
 have hs₁:σ₁ D=some (.list [.bool true,.bool true]):=e₁ ▸ ik ..
 rw [e₁]
 refine DP ?_
 walk_at "go"
 refine ibm _ _ (by rw [bD];exact hNt) (bD b) ?_
 rw [cX _ (aB b),dP _ (aB b),← Int.natCast_ediv,← Int.natCast_emod,hdiv.1,hdiv.2]
 walk_at "go"
 refine jc (by decide) hpin (by rw [hpl];exact aa ht (by decide)) hW11 ?_
 walk_at "go"
 refine jc (by decide) htin (by rw [htl];exact aa hl (by decide)) hW11 ?_
 walk_at "go"
 show M2 _ _ _ _ _ _
 refine nN rfl (.tup (.cons (.int _) (.cons (.int _) .nil))) (yC _ _) ?_
 walk_at "go"
 have hs₂:∀ l:List V,Sub σ (upd σ₁ D (some (.list l))):=fun l=>by rw [← e₁];exact (Sub.refl.upd hD).upd hD
 refine kG ?_
 walk_at "go"
 obtain ⟨A,hA⟩:∃ A,N * 2 ^ (W * t)=A:=⟨_,rfl⟩
 rw [hA] at hNt ⊢
 have hbb:((b * b:Nat):Int) - N=((b * b - N:Nat):Int):=by rw [eK (aa (aF hlw) (bu b hb0))]
 rw [hbb]
 have hpairs:∀ p∈[((-(A:Int)),(b:Int)),((A:Int),-(b:Int)),(-(A:Int),-(b:Int)),(((b * b - N:Nat):Int),(b:Int))],p.1.natAbs < 2 ^ (2 ^ 19)∧p.2.natAbs=b:=by
  have hbb2:b * b - N < 2 ^ (2 ^ 19):=by
   have h1:b * b < 2 ^ (W * w.length) * 2 ^ (W * w.length):=Nat.mul_lt_mul'' hbl hbl
   rw [← bC] at h1
   exact ae (bK _ _) (an h1 (bh (by decide) (aa (aX hWn hWn) (by decide))))
  intro p hp
  simp only [am,bj,or_false] at hp
  rcases hp with rfl | rfl | rfl | rfl
  ·exact ⟨by rw [eD,bD];exact hNt,bD b⟩
  ·exact ⟨by rw [bD];exact hNt,by rw [eD,bD]⟩
  ·exact ⟨by rw [eD,bD];exact hNt,by rw [eD,bD]⟩
  ·exact ⟨by rw [bD];exact hbb2,bD b⟩
 obtain ⟨ps,hps⟩:∃ ps,[((-(A:Int)),(b:Int)),((A:Int),-(b:Int)),(-(A:Int),-(b:Int)),(((b * b - N:Nat):Int),(b:Int))]=ps:=⟨_,rfl⟩
 have hpl4:ps.length=4:=hps ▸ rfl
 rw [hps] at hpairs
 refine ⟨ps.map fun p=>.tup [.int p.1,.int p.2],hps ▸ iM.tup [_,_,_,_],fun k ρ' σ'=>σ' D=some (.list (aC (3 + k) (.bool true)))∧Sub σ σ'∧Has ρ' [("good", .val (.loc D))],⟨ik ..,hs₂ _,by walk_at "has"⟩,fun k v ρ₁ σ₂ hx hJ=>?_,fun ρ₁ σ₂ hJ=>?_⟩
 ·walk_at "u"; obtain ⟨hσ,hsub,hhas⟩:=hJ;walk_at "v"
  rw [aN] at hx
  obtain ⟨p,hp,hv⟩:=di.mp hx
  obtain ⟨px,py⟩:=hpairs p (ez hp)
  have hk:k < 4:=by rw [← hpl4];exact (bG.mp hp).1
  subst hv
  refine AsP.sub ?_ hhas
  walk_at "go"
  refine ibm _ _ px py ?_
  obtain ⟨x,hxx⟩:∃ x,p.1=x:=⟨_,rfl⟩
  obtain ⟨y,hyy⟩:∃ y,p.2=y:=⟨_,rfl⟩
  rw [hxx,hyy]
  have hyne:y≠0:=fun e=>by rw [hyy,e] at py;exact bE hb0 py.symm
  have hqr:x.fdiv y * y + x.fmod y=x:=by rw [g8];exact eu x y
  walk_at "go"
  refine AE ?_
  walk_at "go"
  rw [hqr,beq_self_eq_true]
  refine ⟨rfl,ifp rfl ?_⟩
  refine lA (Ep (.bool true) (Fq (oK ?_)) ?_)
  ·walk_at "go"
   rcases Int.lt_or_gt_of_ne hyne with hneg | hpos
   ·obtain ⟨f1,f2⟩:=rq x hneg
    refine jQ (fun h=>?_) (fun h=>?_)
    ·have h0:x.fmod y=0:=gR f2 h
     walk_at "go"
     rw [decide_eq_false (show ¬ x.fmod y < y from fun q=>Int.lt_irrefl _ (hU q f1))]
     refine ⟨rfl,ifn (by decide) ?_⟩
     refine lA (oK ?_)
     walk_at "go"
     rw [decide_eq_true f1]
     refine ifp rfl ?_
     walk_at "go"
     rw [decide_eq_true f2]
     exact ⟨rfl,rfl⟩
    ·walk_at "go"
     refine ⟨rfl,ifn (by decide) ?_⟩
     refine lA (oK ?_)
     walk_at "go"
     rw [decide_eq_true f1]
     refine ifp rfl ?_
     walk_at "go"
     rw [decide_eq_true f2]
     exact ⟨rfl,rfl⟩
   ·rw [decide_eq_true (ei x hpos)]
    refine ifp rfl ?_
    walk_at "go"
    rw [decide_eq_true (eQ x hpos)]
    exact ⟨rfl,ifp rfl ⟨rfl,rfl⟩⟩
  walk_at "go"
  refine ⟨?_,hsub.upd hD,by walk_at "has"⟩
  ·rw [ik,← bN,fO]
  ·refine yH (ae (Int.natAbs_fdiv_le_natAbs x y) (hxx ▸ px)) ?_
   rw [← hyy,py]
   exact an hbl (bh (by decide) (aa hWn (by decide)))
  ·rw [eo];exact an (c7 hk 3) (by decide)
 ·walk_at "u"; obtain ⟨hσ,hsub,hhas⟩:=hJ;walk_at "v"
  rw [ag,hpl4] at hσ
  refine cont_next ?_
  refine cont_next (ExP.has ?_ hhas)
  refine jO (x := "good") (r':=?_) hσ ?_ ?_ ?_;rotate_left
  ·walk_at "mem"
  ·walk_at "rest"
  walk_at "go"
  show M2 _ _ _ _ _ _
  refine oQ (.bool _) (.lst (ds:=(aC 7 true).map PyData.bool) (oO (f:=fun b=>b) (aC 7 true))) rfl (lq _) (by decide) ?_
  walk_at "go"
  exact q _ (hsub.upd hD)
 ·rw [hpl];exact ae ht (by decide)
 ·exact jn (.inl (ae hW2 (by decide)))
 ·rw [hpl]
  have:=rC W (jM w) (nG hW hin)
  rw [jr] at this
  exact aa (aX (aa (iP this) hWn) hWt) (by decide)
 ·exact ae hl (by decide)
 ·exact jn (.inl (ae hW2 (by decide)))
 ·exact aa (aX (show iD 1≤1 by decide) hWn) (by decide)
 ·exact an (bv 2) (by decide)
 ·exact q8 (aa (aX hbn hbn) (by decide))
end
section
variable {K:Kx} {ρ:Fm} {σ:ij} {d:Nat} {Q:V→ij→Prop}
theorem md {A:iL} {l:List Nat} {n:Nat} {p:List (List Nat)} (h:Lex A σ l n p) {o:Expr} {apos pos:Pos} (hd:12≤K.d) (ho:∀ Q:V→ij→Prop,Q (.loc A.x) σ→EvP K ρ σ o Q)
  (q:CallV 12 (.raw (.ref j3)) [.loc A.x] σ Q) {pl:Env→Sem Bool}
  (he:autoParam (∀ env,eval (.Call (.Attribute o "get_token" apos) [] [] pos) env=(do
   let ov ← eval o env
   standAt apos.atName
   let (f,first) ← holding [ov] (getMethod ov "get_token" (pl env))
   callWith pos f first (backTo pos (starEach [] env)) (backToKw pos (keywordEach [] env)))) aI)
  (hse:autoParam (∀ env,backTo pos (starEach [] env)=[].map fun e=>(false,eval e env)) aI):EvP K ρ σ (.Call (.Attribute o "get_token" apos) [] [] pos) Q:=by
 have e:=ly C.w.params
 simp only [Prod.mk.injEq] at e
 have m:=rp C.w.params
 simp only [Prod.mk.injEq] at m
 exact rt (pl:=pl) B.fr (ho _ ⟨_,_,_,_,_,rfl,h.hx,h.hd,by rfl,e.2.2.2.2.2.2.1,e.2.2.2.2.2.2.2,m.1,m.2.1,B.f_m_get_token.keep,CallV.le (d:=12) q hd⟩) he hse
theorem mz {A:iL} {l:List Nat} {n:Nat} {p:List (List Nat)} {x:List Nat} (h:Lex A σ l n p) (hp:p.length < 2 ^ 20) {o a:Expr} {apos pos:Pos} (hd:6≤K.d) (ho:∀ Q:V→ij→Prop,Q (.loc A.x) σ→EvP K ρ σ o Q) (ha:∀ Q:V→ij→Prop,Q (.str x) σ→EvP K ρ σ a Q)
  (q:Q .none (iG A σ l n (p++[x]))) {pl:Env→Sem Bool}
  (he:autoParam (∀ env,eval (.Call (.Attribute o "push_token" apos) [a] [] pos) env=(do
   let ov ← eval o env
   standAt apos.atName
   let (f,first) ← holding [ov] (getMethod ov "push_token" (pl env))
   callWith pos f first (backTo pos (starEach [a] env)) (backToKw pos (keywordEach [] env)))) aI)
  (hse:autoParam (∀ env,backTo pos (starEach [a] env)=[a].map fun e=>(false,eval e env)) aI):EvP K ρ σ (.Call (.Attribute o "push_token" apos) [a] [] pos) Q:=by
 have e:=ly C.w.params
 simp only [Prod.mk.injEq] at e
 have m:=pu C.w.params
 simp only [Prod.mk.injEq] at m
 exact rt (pl:=pl) B.fr (ho _ ⟨_,_,_,_,_,rfl,h.hx,h.hd,by rfl,e.2.2.2.2.2.2.1,e.2.2.2.2.2.2.2,m.1,m.2.1,Ay (ha _ (evs_nil ⟨B.f_m_push_token.keep,CallV.le (d:=6) (sr h hp q) hd⟩))⟩) he hse
theorem jf {A:iL} {l l':List Nat} {n n':Nat} {p p':List (List Nat)} (h:Lex A σ l n p) {D:Addr} {acc:List V} (hD:σ D=none):iG A (io σ D acc) l' n' p'=io (iG A σ l' n' p') D acc:=by
 have h1:D≠A.lf:=fun e=>by rw [e,h.hlf] at hD;cases hD
 have h2:D≠A.dx:=fun e=>by rw [e,h.hd] at hD;cases hD
 have h3:D≠A.pb:=fun e=>by rw [e,h.hpb] at hD;cases hD
 funext c
 unfold iG io upd
 by_cases e0:c=D
 ·subst e0;simp [h1,h2,h3]
 ·simp [e0]
end
structure tn (A B:iL):Prop where
 d:A.dx≠B.dx
 ll:A.lf≠B.lf
 lp:A.lf≠B.pb
 pl:A.pb≠B.lf
 pp:A.pb≠B.pb
theorem tn.symm {A B:iL} (h:tn A B):tn B A:=⟨Ne.symm h.d,Ne.symm h.ll,Ne.symm h.pl,Ne.symm h.lp,Ne.symm h.pp⟩
theorem Lex.other {A B:iL} {σ:ij} {l l' l₂:List Nat} {n n' n₂:Nat} {p p' p₂:List (List Nat)} (hA:Lex A σ l n p) (hB:Lex B σ l₂ n₂ p₂) (h:tn A B):Lex B (iG A σ l' n' p') l₂ n₂ p₂:=by
 have key:∀ {b:Addr} {o:PObj},σ b=some o→b≠A.lf→b≠A.dx→b≠A.pb→iG A σ l' n' p' b=some o:=fun hb h1 h2 h3=>il h3 (il h2 (il h1 hb))
 refine ⟨key hB.hx ?_ ?_ ?_,key hB.hd ?_ ?_ ?_,key hB.hst ?_ ?_ ?_,key hB.hdst ?_ ?_ ?_,key hB.hrd ?_ ?_ ?_,key hB.hcl ?_ ?_ ?_,key hB.hlf ?_ ?_ ?_,key hB.hpb ?_ ?_ ?_,hB.ne⟩
 ·exact ip hB.hx hA.hlf (by intro e;cases e)
 ·exact ip hB.hx hA.hd (by intro e;cases e)
 ·exact ip hB.hx hA.hpb (by intro e;cases e)
 ·exact ip hB.hd hA.hlf (by intro e;cases e)
 ·exact Ne.symm h.d
 ·exact ip hB.hd hA.hpb (by intro e;cases e)
 ·exact ip hB.hst hA.hlf (by intro e;cases e)
 ·exact ip hB.hst hA.hd (by intro e;cases e)
 ·exact ip hB.hst hA.hpb (by intro e;cases e)
 ·exact ip hB.hdst hA.hlf (by intro e;cases e)
 ·exact ip hB.hdst hA.hd (by intro e;cases e)
 ·exact ip hB.hdst hA.hpb (by intro e;cases e)
 ·exact ip hB.hrd hA.hlf (by intro e;cases e)
 ·exact ip hB.hrd hA.hd (by intro e;cases e)
 ·exact ip hB.hrd hA.hpb (by intro e;cases e)
 ·exact ip hB.hcl hA.hlf (by intro e;cases e)
 ·exact ip hB.hcl hA.hd (by intro e;cases e)
 ·exact ip hB.hcl hA.hpb (by intro e;cases e)
 ·exact Ne.symm h.ll
 ·exact ip hB.hlf hA.hd (by intro e;cases e)
 ·exact Ne.symm h.pl
 ·exact Ne.symm h.lp
 ·exact ip hB.hpb hA.hd (by intro e;cases e)
 ·exact Ne.symm h.pp
theorem v8 {K:Kx} {ρ:Fm} {σ:ij} {o i value:Expr} {tpos pos:Pos} {op:Operator} {Q:Fl→Fm→ij→Prop}
  (h:EvP K ρ σ o (fun ov σ₁=>EvP K ρ σ₁ i (fun iv σ₂=>M2 K.d getItem ov iv σ₂ (fun old σ₃=>EvP K ρ σ₃ value (fun b σ₄=>M2 K.d (inplaceOp op) old b σ₄ (fun r σ₅=>∃ a vs k,ov=.loc a∧iv=.int k∧σ₅ a=some (.list vs)∧0≤k∧k.toNat < vs.length∧vs.length < 2 ^ 25∧Q .next ρ (upd σ₅ a (some (.list (vs.set k.toNat r))))))))))
  (he:autoParam (∀ ov iv new,augStore i ov iv new=(do holding [new,ov,iv] (setItem ov iv new);release [new,ov,iv] [];pure .next)) aI):StP K ρ σ (.AugAssign (.Subscript o i tpos) op value pos) Q:=fun A env s ha hr hi QM hq=>by
 refine wpAny_AugAssign_SubscriptAny (h A env s ha hr hi _ fun ov po σ₁ s₁ h₁ i₁ e₁ r₁=>h₁ A env s₁ ha (hr.mono e₁) i₁ _ fun iv pi σ₂ s₂ h₂ i₂ e₂ r₂=>h₂ A s₂ ov iv ha i₂ (r₁.mono e₂.seq) r₂ _ fun old pold σ₃ s₃ h₃ i₃ e₃ r₃=>
  h₃ A env s₃ ha (hr.mono ((e₁.trans e₂).trans e₃)) i₃ _ fun v pv σ₄ s₄ h₄ i₄ e₄ r₄=>h₄ A s₄ old v ha i₄ (r₃.mono e₄.seq) r₄ _ fun r pr σ₅ s₅ q i₅ e₅ r₅=>?_) he
 walk_at "u"; obtain ⟨a,vs,k,rfl,rfl,hs,h0,hk,hl,q⟩:=q;walk_at "v"
 obtain ⟨_,rfl⟩:=Rel.inv r₁;cases r₂
 have E:=(((e₁.trans e₂).trans e₃).trans e₄).trans e₅
 exact o0 i₅ hs h0 hk hl r₅ fun s₆ i₆ e₆=>hq .next .next ρ _ s₆ q trivial (hr.mono (E.trans e₆)) i₆ (E.trans e₆).toF
theorem jl (σ:ij) {a b:Addr} (o p:Option PObj) (h:a≠b):upd (upd σ a o) b p=upd (upd σ b p) a o:=by
 funext c
 unfold upd
 by_cases h1:c=b
 ·rw [if_pos h1,if_neg (fun e=>h (e.symm.trans h1)),if_pos h1]
 ·rw [if_neg h1]
  by_cases h2:c=a
  ·rw [if_pos h2,if_pos h2]
  ·rw [if_neg h2,if_neg h2,if_neg h1]
theorem yK {A B:iL} {σ:ij} {l₁ l₂ l l':List Nat} {n₁ n₂ n n':Nat} {p₁ p₂ p p':List (List Nat)} (hA:Lex A σ l₁ n₁ p₁) (hB:Lex B σ l₂ n₂ p₂) (h:tn A B):iG A (iG B σ l' n' p') l n p=iG B (iG A σ l n p) l' n' p':=by
 have a1:A.lf≠B.dx:=ip hA.hlf hB.hd (by intro e;cases e)
 have a2:A.pb≠B.dx:=ip hA.hpb hB.hd (by intro e;cases e)
 have a3:A.dx≠B.lf:=ip hA.hd hB.hlf (by intro e;cases e)
 have a4:A.dx≠B.pb:=ip hA.hd hB.hpb (by intro e;cases e)
 unfold iG
 rw [jl _ _ _ (Ne.symm h.lp),jl _ _ _ (Ne.symm a1),jl _ _ _ (Ne.symm h.ll)]
 rw [jl _ _ _ (Ne.symm a4),jl _ _ _ (Ne.symm h.d),jl _ _ _ (Ne.symm a3)]
 rw [jl _ _ _ (Ne.symm h.pp),jl _ _ _ (Ne.symm a2),jl _ _ _ (Ne.symm h.pl)]
theorem Lex.fresh {A:iL} {σ:ij} {l l':List Nat} {n n':Nat} {p p':List (List Nat)} (h:Lex A σ l n p) {D:Addr} (hD:σ D=none):iG A σ l' n' p' D=none:=
 il (fun e=>by rw [e,h.hpb] at hD;cases hD) (il (fun e=>by rw [e,h.hd] at hD;cases hD) (il (fun e=>by rw [e,h.hlf] at hD;cases hD) hD))
noncomputable def jF (A B:iL) (σ:ij) (l₁:List Nat) (n₁:Nat) (l₂:List Nat) (n₂:Nat) (p q:List (List Nat)):ij:=iG B (iG A σ l₁ n₁ p) l₂ n₂ q
structure r8 (A B:iL) (σ:ij) (l₁:List Nat) (n₁:Nat) (l₂:List Nat) (n₂:Nat):Prop where
 a:Lex A σ l₁ n₁ []
 b:Lex B σ l₂ n₂ []
 ap:tn A B
section
variable {A B:iL} {σ:ij} {l₁ l₂:List Nat} {n₁ n₂:Nat} (h:r8 A B σ l₁ n₁ l₂ n₂) (p q p':List (List Nat))
include h
theorem r8.same:jF A B σ l₁ n₁ l₂ n₂ [] []=σ:=by unfold jF;rw [h.a.same,h.b.same]
theorem r8.la:Lex A (jF A B σ l₁ n₁ l₂ n₂ p q) l₁ n₁ p:=(h.a.other h.b h.ap).other h.a.set h.ap.symm
theorem r8.lb:Lex B (jF A B σ l₁ n₁ l₂ n₂ p q) l₂ n₂ q:=(h.a.other h.b h.ap).set
theorem r8.ua:iG A (jF A B σ l₁ n₁ l₂ n₂ p q) l₁ n₁ p'=jF A B σ l₁ n₁ l₂ n₂ p' q:=by
 unfold jF;rw [yK h.a.set (h.a.other h.b h.ap) h.ap,h.a.twice]
theorem r8.ub:iG B (jF A B σ l₁ n₁ l₂ n₂ p q) l₂ n₂ p'=jF A B σ l₁ n₁ l₂ n₂ p p':=by
 unfold jF;rw [(h.a.other h.b h.ap).twice]
theorem r8.fresh {D:Addr} (hD:σ D=none):jF A B σ l₁ n₁ l₂ n₂ p q D=none:=(h.a.other h.b h.ap).fresh (h.a.fresh hD)
end
theorem kZ (w:List Nat) (j:Nat):pre w (j + 1)=pre w j++[om w j]:=by unfold pre;rw [ef,aU];rfl
theorem uX {w:List Nat} (hw:0 < w.length) (j:Nat):∃ tl,trn w j=om w j :: tl∧trn w (j + 1)=tl++[om w j]:=by
 obtain ⟨n,hn⟩:∃ n,w.length=n + 1:=⟨w.length - 1,(bx hw).symm⟩
 refine ⟨(aT n).map fun i=>om w (j + (i + 1)),?_,?_⟩
 ·unfold trn;rw [hn,d6,be,b0];rfl
 ·unfold trn
  rw [hn,ef,aU]
  refine congr (congrArg HAppend.hAppend (b8 fun i _=>by rw [bN,aQ 1])) ?_
  show [om w (j + 1 + n)]=_
  rw [bN,aQ 1,← hn,aQ,wj]
theorem uW (w:List Nat):trn w 0=w:=by
 have:=vd w
 unfold pre at this
 unfold trn
 exact (b8 fun i _=>by rw [dq]).trans this
theorem r8.fresh2 {A B:iL} {σ:ij} {l₁ l₂:List Nat} {n₁ n₂:Nat} (h:r8 A B σ l₁ n₁ l₂ n₂) {p q p' q':List (List Nat)} {D:Addr} (hD:jF A B σ l₁ n₁ l₂ n₂ p q D=none):jF A B σ l₁ n₁ l₂ n₂ p' q' D=none:=by
 have h1:=(h.la p q).fresh (l':=l₁) (n':=n₁) (p':=p') hD
 rw [h.ua] at h1
 have h2:=(h.lb p' q).fresh (l':=l₂) (n':=n₂) (p':=q') h1
 rw [h.ub] at h2
 exact h2
theorem n9 {K:Kx} {scope:Scope} {caps:Fm} {y:Str} {yp:Pos} {elt:Expr} {A:iL} {σ:ij} {l:List Nat} {n:Nat} {R:List (List Nat)} {vs:List V} (hL:Lex A σ l n R) (hlen:R.length < 2 ^ 20) (hv:vs.length=R.length)
  (hk:(KxC K scope).names.lookup y=some .local) (hd:∀ v,(caps.all fun p=>[(y,Slot.val v)].all fun q=>p.1 != q.1)=true)
  (he:∀ v σ' x p (Q:V→ij→Prop),Lex A σ' l n (x :: p)→p.length < 2 ^ 20→Q (.str x) (iG A σ' l n p)→EvP (KxC K scope) ((y,.val v) :: caps) σ' elt Q)
  {Q:V→ij→Prop} (q:Q (.lst (R.map V.str)) (iG A σ l n [])):∃ J:List V→List V→ij→Prop,J vs [] σ∧lk K scope caps (.Name y yp) elt [] J∧∀ acc σ₂,J [] acc σ₂→Q (.lst acc) σ₂:=by
 refine ⟨fun r acc σ'=>∃ i,i≤R.length∧r=vs.drop i∧acc=(R.take i).map V.str∧σ'=iG A σ l n (R.drop i),⟨0,ba _,rfl,rfl,hL.same.symm⟩,?_,?_⟩
 ·intro v r acc σ₂ E hJ hE
  walk_at "u"; obtain ⟨i,hi,er,ea,es⟩:=hJ;walk_at "v"
  subst es ea
  have hlt:i < R.length:=by
   rcases aZ i R.length with q | q
   ·exact q
   ·rw [cu (by rw [hv];exact q)] at er;cases er
  have er2:r=vs.drop (i + 1):=by rw [← dk,← er];rfl
  refine ⟨[(y,.val v)],iJ hk,oM (hd v),ifs_nil' (ifp rfl ?_)⟩
  have ed:R.drop i=R[i] :: R.drop (i + 1):=bI hlt
  have h1:Lex A (iG A σ l n (R.drop i)) l n (R.drop i):=hL.set
  have h2:=h1.mono (Sub.refl.upd (o:=some (.list ((R.take i).map V.str))) hE)
  rw [ed] at h2
  have hf:=h1.fresh (l':=l) (n':=n) (p':=R.drop (i + 1)) hE
  have ea:=(jf (l':=l) (n':=n) (p':=R.drop (i + 1)) (acc:=(R.take i).map V.str) h1 hE).trans (by rw [hL.twice])
  rw [hL.twice] at hf
  rw [ed] at ea ⊢
  refine he v _ R[i] _ _ h2 (by rw [bk];exact ae (bK _ _) hlen) ⟨?_,_,ea,hf,i + 1,hlt,er2,?_,rfl⟩
  ·rw [ag,aP];exact ae (bZ _ _) (cz hlen (by decide))
  ·exact ((congrArg (dl V.str) (aY hlt)).trans aU).symm
 ·intro acc σ₂ hJ
  walk_at "u"; obtain ⟨i,hi,er,ea,eS⟩:=hJ;walk_at "v"
  have hi2:R.length≤i:=by
   have:=congrArg dA er
   rw [bk,hv] at this
   exact dy this.symm
  rw [eS,ea,aG hi2,cu hi2]
  exact q
theorem wh {n:Nat} (h:0 < n):iX (some (-1)) none none n=iX (some ((n - 1:Nat):Int)) none none n:=by
 unfold iX sliceBounds
 have e:(-1:Int) + n=((n - 1:Nat):Int):=by rw [eK h,hV];rfl
 simp only [cK,show ((1:Int) > 0) from by decide,if_true,show ((-1:Int) < 0) from by decide,show ¬ (((n - 1:Nat):Int) < 0) from by lia,if_false,e]
section
variable {K:Kx} {ρ:Fm} {σ:ij} {d:Nat} {Q:V→ij→Prop}
theorem uy {x:List Nat} {c:Nat} (hl:x.length < 2 ^ 24) (q:Q (.str [c]) σ):M2 d getItem (.str (x++[c])) (.slc (some (-1)) none none) σ Q:=by
 have hlen:(x++[c]).length=x.length + 1:=by rw [af];rfl
 have e:=wh (n:=(x++[c]).length) (by rw [hlen];exact dK _)
 have hd:(x++[c]).drop ((x++[c]).length - 1)=[c]:=by rw [hlen,cb,List.drop_left]
 have h2:=(mt (x++[c]) ((x++[c]).length - 1) (x++[c]).length).1
 refine jU rfl ((congrArg (List.filterMap _) e).trans (qc _ _)) (fun h _=>?_) (by rw [hd];exact fM rfl) (by rw [hd];exact q)
 have h3:(iX (some (((x++[c]).length - 1:Nat):Int)) (some ((x++[c]).length:Int)) none (x++[c]).length)=iX (some (((x++[c]).length - 1:Nat):Int)) none none (x++[c]).length:=by
  unfold iX sliceBounds
  simp only [cK,show ((1:Int) > 0) from by decide,if_true,show ¬ (((x++[c]).length:Int) < 0) from by lia,if_false]
  rw [show max 0 (min ((x++[c]).length:Int) (x++[c]).length)=(x++[c]).length by lia]
 rw [h3,← e,h] at h2
 refine (eV _ _).eq_of_length ?_
 rw [bk];rw [g7] at h2;exact vy h2.symm
end
theorem sM:iH lI ["lexers", "words", "most"]:=by walk_at "binds"
theorem sC:fnC lI ["lexers", "words", "most"] []=true:=by decide +kernel
section
variable {K:Kx} {ρ:Fm} {σ:ij} {d:Nat} {Q:V→ij→Prop}
inductive FE (La Lb:iL) (D:Addr) (k:Nat) (v:V) (S₁ S₂:ij):Prop
 | mk (A:iL) (l:List Nat) (n c:Nat) (p:List (List Nat)) (T₂:ij) (a b u:List Nat) (e0:v=.int (k:Nat)) (hk:k < 2) (e1:[V.loc La.x,.loc Lb.x][k]?=some (.loc A.x)) (hl:Lex A S₁ l n ([c] :: p)) (hp:p.length < 2 ^ 20)
  (e2:iG A S₁ l n (p++[[c]])=io T₂ D [.str a,.str b]) (e3:[V.str a,.str b][k]?=some (.str u)) (hu:u.length + 1≤2 ^ 24) (e4:S₂=io T₂ D ([V.str a,.str b].set k (.str (u++[c]))))
theorem sx (hd:30≤d) {La Lb:iL} {l₁ l₂:List Nat} {n₁ n₂:Nat} (h:r8 La Lb σ l₁ n₁ l₂ n₂) {x y:List Nat} (hx:x.length≤14) (hy:y.length≤14) {m T:Nat} (hm:m≤28) (hpos:0 < m→0 < x.length∧0 < y.length)
  (hT:T≤m) (hag:∀ i,i + 1 < T→om x i=om y i) (hend:T=m∨(0 < T∧om x (T - 1)≠om y (T - 1)))
  (q:Q (.tup [.lst [.str (pre x T),.str (pre y T)],.lst [.str (trn x T),.str (trn y T)]]) σ):
  CallV d (.raw (.ref n6)) [.lst [.loc La.x,.loc Lb.x],.tup [.str x,.str y],.int m] σ Q:=by
 refine CallV.le (d:=30) (CallV.of ?_) hd
 refine kJ (d:=29) B.ok2 B.f__law_ticks sM sC rfl rfl rfl ?_
 walk_at "start"
 iterate 2 walk_at "s"
 refine lc ?_
 walk_at "go"
 intro D hD
 walk_at "go"
 refine kG ?_
 refine yR (caps:=[("words", .val (.tup [.str x,.str y]))]) (iQ (by kernel_rfl) (by walk_at "has") (by rfl)) (fun k:Nat=>V.int k) (fun k=>[("k", .val (.int k))]) (fun k=>if k=0 then x else y) (fun c:Nat=>V.str [c]) (fun c=>[("sign", .val (.str [c]))]) (fun _ _=>true) (fun k c=>V.tup [.int k,.str [c]]) ?_
 walk_at "go"
 refine ⟨[0,1],.tup [_,_],?_,fun k hk=>⟨iJ (by kernel_rfl),by kernel_rfl,fun E acc hE=>?_,fun c hc=>⟨iJ (by kernel_rfl),by kernel_rfl,fun E acc hE=>?_⟩⟩,?_⟩
 ·rw [show gY (fun k=>if k=0 then x else y) [0,1]=x++y by simp,af]
  exact ae (aX hx hy) (by decide)
 ·simp only [ar,aw]
  walk_at "go"
  rcases am.mp hk with rfl | hk
  ·exact jT (by decide) rfl (show 2 < 2 ^ 25 by decide) ⟨rfl,.str _⟩
  ·rcases am.mp hk with rfl | hk
   ·exact jT (by decide) rfl (show 2 < 2 ^ 25 by decide) ⟨rfl,.str _⟩
   ·cases hk
 ·simp only [ar,aw]
  refine ifs_nil' ⟨rfl,rfl,fun _=>?_⟩
  walk_at "go"
  exact ⟨rfl,rfl⟩
 have eL:gY (fun k:Nat=>dl (fun c:Nat=>V.tup [V.int ((k:Nat):Int),V.str [c]]) (List.filter (fun _=>true) (if k=0 then x else y))) [0,1]=(x.map fun c=>V.tup [.int 0,.str [c]])++(y.map fun c=>V.tup [.int 1,.str [c]]):=by
  rw [ch,ch,fb,aE,c6.mpr fun _ _=>rfl,c6.mpr fun _ _=>rfl];rfl
 rw [eL]
 refine ⟨_,.lst _,fun j ρ' σ'=>σ'=io (jF La Lb σ l₁ n₁ l₂ n₂ ((x.take j).map fun c=>[c]) ((y.take (j - x.length)).map fun c=>[c])) D [.str [],.str []]∧Has ρ' [("told", .val (.loc D)),("lexers", .val (.lst [.loc La.x,.loc Lb.x])),("words", .val (.tup [.str x,.str y])),("most", .val (.int m))],⟨?_,by walk_at "has"⟩,fun j v ρ₁ σ₂ hv hJ=>?_,fun ρ₁ σ₂ hJ=>?_⟩
 ·rw [fC]
  show _=io (jF La Lb σ l₁ n₁ l₂ n₂ [] []) D _
  rw [h.same]
 ·walk_at "u"; obtain ⟨eσ,hhas⟩:=hJ;walk_at "v"
  subst eσ
  have hDn:=h.fresh ((x.take j).map fun c=>[c]) ((y.take (j - x.length)).map fun c=>[c]) hD
  have hlx:((x.take j).map fun c=>[c]).length < 2 ^ 20:=by rw [ag,aP];exact ae (aa (bZ _ _) hx) (by decide)
  have hly:((y.take (j - x.length)).map fun c=>[c]).length < 2 ^ 20:=by rw [ag,aP];exact ae (aa (bZ _ _) hy) (by decide)
  refine AsP.sub ?_ hhas
  rcases aZ j x.length with hj | hj
  ·rw [bH (by rw [ag];exact hj),aN,ak hj] at hv
   obtain rfl:=aq hv
   walk_at "go"
   refine mz ((h.la _ _).mono (Sub.refl.upd hDn)) hlx (by decide) (fun Q q=>?_) (fun Q q=>ev_name (by walk_at "mem") q) ?_
   ·walk_at "go"
    exact lx (.fr _) (by decide) rfl (show 2 < 2 ^ 25 by decide) q
   rw [jf (h.la _ _) hDn,h.ua]
   walk_at "go"
   refine ⟨?_,by walk_at "has"⟩
   rw [aY hj,aU,bQ (aF hj),bQ hj];rfl
  ·obtain ⟨i,rfl⟩:∃ i,j=x.length + i:=⟨j - x.length,(bn hj).symm⟩
   rw [bf (by rw [ag];exact hj),ag,bB,aN] at hv
   obtain ⟨c,hc,hv⟩:=di.mp hv
   obtain ⟨hi,ec⟩:=bG.mp hc
   subst hv
   walk_at "go"
   refine mz ((h.lb _ _).mono (Sub.refl.upd hDn)) hly (by decide) (fun Q q=>?_) (fun Q q=>ev_name (by walk_at "mem") q) ?_
   ·walk_at "go"
    exact lx (.fr _) (by decide) rfl (show 2 < 2 ^ 25 by decide) q
   rw [jf (h.lb _ _) hDn,h.ub]
   walk_at "go"
   refine ⟨?_,by walk_at "has"⟩
   rw [bN,bB,bB,aY hi,ec,aU,aG (aM _ _),aG (aM _ _)];rfl
 walk_at "u"; obtain ⟨eσ,hhas⟩:=hJ;walk_at "v"
 subst eσ
 rw [af,ag,ag,bB,aG (aM _ _),aG (av _)]
 refine cont_next (ExP.has ?_ hhas)
 walk_at "go"
 obtain ⟨S,hS⟩:∃ S:Nat→Nat→ij,(fun a b=>io (jF La Lb σ l₁ n₁ l₂ n₂ ((trn x a).map fun c=>[c]) ((trn y b).map fun c=>[c])) D [.str (pre x a),.str (pre y b)])=S:=⟨_,rfl⟩
 have hS':∀ a b,S a b=io (jF La Lb σ l₁ n₁ l₂ n₂ ((trn x a).map fun c=>[c]) ((trn y b).map fun c=>[c])) D [.str (pre x a),.str (pre y b)]:=fun a b=>hS ▸ rfl
 have h00:io (jF La Lb σ l₁ n₁ l₂ n₂ (x.map fun c=>[c]) (y.map fun c=>[c])) D [.str [],.str []]=S 0 0:=by rw [hS',uW,uW];rfl
 rw [h00]
 generalize hKK:Cont _ _ _=KK
 have tail:∀ ρ',Has ρ' [("told", .val (.loc D)),("lexers", .val (.lst [.loc La.x,.loc Lb.x])),("words", .val (.tup [.str x,.str y]))]→KK .next ρ' (S T T):=by
  intro ρ' hhas
  subst hKK
  refine cont_next (ExP.has ?_ hhas)
  have hsT:S T T D=some (.list [.str (pre x T),.str (pre y T)]):=by rw [hS'];exact i8
  have hLn:jF La Lb σ l₁ n₁ l₂ n₂ ((trn x T).map fun c=>[c]) ((trn y T).map fun c=>[c]) D=none:=h.fresh _ _ hD
  refine jO (x := "told") (r':=?_) hsT ?_ ?_ ?_;rotate_left
  ·walk_at "mem"
  ·walk_at "rest"
  rw [hS',show upd (io (jF La Lb σ l₁ n₁ l₂ n₂ ((trn x T).map fun c=>[c]) ((trn y T).map fun c=>[c])) D [.str (pre x T),.str (pre y T)]) D none=jF La Lb σ l₁ n₁ l₂ n₂ ((trn x T).map fun c=>[c]) ((trn y T).map fun c=>[c]) from (jk _ _ _ _).trans (i0 hLn)]
  walk_at "go"
  refine AB (caps:=[("lexers", .val (.lst [.loc La.x,.loc Lb.x])),("words", .val (.tup [.str x,.str y]))]) (yf (by kernel_rfl) (by walk_at "has") (by rfl) (fun _ _=>rfl) (fun _=>rfl)) ?_
  walk_at "go"
  have hxl:(trn x T).length=x.length:=iK x T
  have hyl:(trn y T).length=y.length:=iK y T
  refine ⟨[.int 0,.int 1],.tup _,fun r acc σ'=>(r=[.int 0,.int 1]∧acc=[]∧σ'=jF La Lb σ l₁ n₁ l₂ n₂ ((trn x T).map fun c=>[c]) ((trn y T).map fun c=>[c]))∨(r=[.int 1]∧acc=[.str (trn x T)]∧σ'=jF La Lb σ l₁ n₁ l₂ n₂ [] ((trn y T).map fun c=>[c]))∨(r=[]∧acc=[.str (trn x T),.str (trn y T)]∧σ'=jF La Lb σ l₁ n₁ l₂ n₂ [] []),.inl ⟨rfl,rfl,rfl⟩,?_,?_⟩
  ·intro v r acc σ₂ E hJ hE
   rcases hJ with ⟨er,ea,es⟩ | ⟨er,ea,es⟩ | ⟨er,_,_⟩
   ·injection er with e1 e2
    subst e1 e2 ea es
    refine ifs_nil' (ifp rfl ?_)
    simp only [ar,aw]
    walk_at "go"
    have hL0:Lex La (io (jF La Lb σ l₁ n₁ l₂ n₂ ((trn x T).map fun c=>[c]) ((trn y T).map fun c=>[c])) E []) l₁ n₁ ((trn x T).map fun c=>[c]):=(h.la _ _).mono (Sub.refl.upd hE)
    obtain ⟨σe,hσe⟩:∃ σe,io (jF La Lb σ l₁ n₁ l₂ n₂ ((trn x T).map fun c=>[c]) ((trn y T).map fun c=>[c])) E []=σe:=⟨_,rfl⟩
    rw [hσe] at hL0 ⊢
    refine pX (caps:=[("lexers", .val (.lst [.loc La.x,.loc Lb.x])),("k", .val (.int 0))]) (iQ (by kernel_rfl) (by walk_at "has") (by rfl)) ?_
    walk_at "go"
    refine jT (by decide) rfl (show 2 < 2 ^ 25 by decide) ?_
    refine ⟨_,.str x,n9 (R:=(trn x T).map fun c=>[c]) hL0 (by rw [ag,iK];exact ae hx (by decide)) (by rw [ag,ag,iK]) (by kernel_rfl) (fun _=>by kernel_rfl) (fun v σ' z p Q hl hp q=>?_) ?_⟩
    ·refine md hl (by decide) (fun Q q=>?_) (jC hl hp q)
     walk_at "go"
     exact lx (.fr _) (by decide) rfl (show 2 < 2 ^ 25 by decide) q
    walk_at "go"
    refine nT (xs:=(trn x T).map fun c=>[c]) (by simpa [Function.comp_def] using LV.fr _) (by rw [ke,ag,iK];exact aa hx (by decide)) ?_
    rw [ke,gX]
    refine ⟨by decide,jF La Lb σ l₁ n₁ l₂ n₂ [] ((trn y T).map fun c=>[c]),?_,h.fresh2 hE,.inr (.inl ⟨by trivial,by trivial,by trivial⟩)⟩
    rw [← hσe]
    exact (jf (h.la _ _) hE).trans (by rw [h.ua])
   ·injection er with e1 e2
    subst e1 e2 ea es
    refine ifs_nil' (ifp rfl ?_)
    simp only [ar,aw]
    walk_at "go"
    have hL0:Lex Lb (io (jF La Lb σ l₁ n₁ l₂ n₂ [] ((trn y T).map fun c=>[c])) E [.str (trn x T)]) l₂ n₂ ((trn y T).map fun c=>[c]):=(h.lb _ _).mono (Sub.refl.upd hE)
    obtain ⟨σe,hσe⟩:∃ σe,io (jF La Lb σ l₁ n₁ l₂ n₂ [] ((trn y T).map fun c=>[c])) E [.str (trn x T)]=σe:=⟨_,rfl⟩
    rw [hσe] at hL0 ⊢
    refine pX (caps:=[("lexers", .val (.lst [.loc La.x,.loc Lb.x])),("k", .val (.int 1))]) (iQ (by kernel_rfl) (by walk_at "has") (by rfl)) ?_
    walk_at "go"
    refine jT (by decide) rfl (show 2 < 2 ^ 25 by decide) ?_
    refine ⟨_,.str y,n9 (R:=(trn y T).map fun c=>[c]) hL0 (by rw [ag,iK];exact ae hy (by decide)) (by rw [ag,ag,iK]) (by kernel_rfl) (fun _=>by kernel_rfl) (fun v σ' z p Q hl hp q=>?_) ?_⟩
    ·refine md hl (by decide) (fun Q q=>?_) (jC hl hp q)
     walk_at "go"
     exact lx (.fr _) (by decide) rfl (show 2 < 2 ^ 25 by decide) q
    walk_at "go"
    refine nT (xs:=(trn y T).map fun c=>[c]) (by simpa [Function.comp_def] using LV.fr _) (by rw [ke,ag,iK];exact aa hy (by decide)) ?_
    rw [ke,gX]
    refine ⟨show 1 < 2 ^ 24 by decide,jF La Lb σ l₁ n₁ l₂ n₂ [] [],?_,h.fresh2 hE,.inr (.inr ⟨by trivial,by trivial,by trivial⟩)⟩
    rw [← hσe]
    exact (jf (h.lb _ _) hE).trans (by rw [h.ub])
   ·cases er
  ·intro acc σ₂ hJ
   rcases hJ with ⟨er,_,_⟩ | ⟨er,_,_⟩ | ⟨_,ea,es⟩
   ·cases er
   ·cases er
   ·subst ea es
    rw [h.same]
    walk_at "go"
    exact q
 have hT0:0 < m→0 < T:=fun h0=>hend.elim (fun e=>e ▸ h0) fun e=>e.1
 refine kG ?_
 walk_at "go"
 refine ⟨_,ja m (ae hm (by decide)),fun j ρ' σ'=>σ'=S j j∧j≤T∧(j < m→j < T)∧Has ρ' [("told", .val (.loc D)),("lexers", .val (.lst [.loc La.x,.loc Lb.x])),("words", .val (.tup [.str x,.str y]))],⟨rfl,ba _,hT0,by walk_at "has"⟩,fun j v ρ₁ σ₂ hv hJ=>?_,fun ρ₁ σ₂ hJ=>?_⟩
 ·walk_at "u"; obtain ⟨eσ,hjT,hjm,hhas⟩:=hJ;walk_at "v"
  subst eσ
  have hj:j < m:=by
   have:=(bG.mp hv).1
   rw [ag,aH] at this;exact this
  refine AsP.sub ?_ hhas
  walk_at "go"
  obtain ⟨hx0,hy0⟩:=hpos (ci hj)
  obtain ⟨tx,ex1,ex2⟩:=uX hx0 j
  obtain ⟨ty,ey1,ey2⟩:=uX hy0 j
  have htx:(tx.map fun c=>[c]).length < 2 ^ 20:=by
   have:=congrArg dA ex2
   rw [iK,af] at this
   rw [ag]
   exact ae (aM _ 1) (ae (cA this.symm) (ae hx (by decide)))
  have hty:(ty.map fun c=>[c]).length < 2 ^ 20:=by
   have:=congrArg dA ey2
   rw [iK,af] at this
   rw [ag]
   exact ae (aM _ 1) (ae (cA this.symm) (ae hy (by decide)))
  have hfr:∀ a b,jF La Lb σ l₁ n₁ l₂ n₂ ((trn x a).map fun c=>[c]) ((trn y b).map fun c=>[c]) D=none:=fun a b=>h.fresh _ _ hD
  refine kG ?_
  walk_at "go"
  refine ⟨[.int 0,.int 1],.tup _,fun k ρ' σ'=>σ'=S (if 0 < k then j + 1 else j) (if 1 < k then j + 1 else j)∧Has ρ' [("told", .val (.loc D)),("lexers", .val (.lst [.loc La.x,.loc Lb.x])),("words", .val (.tup [.str x,.str y]))],⟨rfl,by walk_at "has"⟩,fun k v ρ₁ σ₂ hv hJ=>?_,fun ρ₁ σ₂ hJ=>?_⟩
  ·walk_at "u"; obtain ⟨eσ,hhas⟩:=hJ;walk_at "v"
   subst eσ
   have hpl:∀ w:List Nat,(pre w j).length + 1≤2 ^ 24:=fun w=>by rw [jE];exact aa (bp (aa (aF hj) hm) 1) (by decide)
   have hk:FE La Lb D k v (S (if 0 < k then j + 1 else j) (if 1 < k then j + 1 else j)) (S (if 0 < k + 1 then j + 1 else j) (if 1 < k + 1 then j + 1 else j)):=by
    rcases k with _ | _ | k
    ·rw [if_neg (by decide),if_neg (by decide),if_pos (by decide),if_neg (by decide),hS' j j,hS' (j + 1) j]
     have h1:=(h.la ((trn x j).map fun c=>[c]) ((trn y j).map fun c=>[c])).mono (Sub.refl.upd (o:=some (.list [.str (pre x j),.str (pre y j)])) (hfr j j))
     have h2:(trn x j).map (fun c=>[c])=[om x j] :: tx.map fun c=>[c]:=by rw [ex1];rfl
     refine ⟨La,l₁,n₁,om x j,_,_,pre x j,pre y j,pre x j,(aq hv).symm,by decide,rfl,h2 ▸ h1,htx,(jf (h.la _ _) (hfr j j)).trans (by rw [h.ua]),rfl,hpl x,?_⟩
     rw [kZ,ex2,aU];rfl
    ·rw [if_pos (by decide),if_neg (by decide),if_pos (by decide),if_pos (by decide),hS' (j + 1) j,hS' (j + 1) (j + 1)]
     have h1:=(h.lb ((trn x (j + 1)).map fun c=>[c]) ((trn y j).map fun c=>[c])).mono (Sub.refl.upd (o:=some (.list [.str (pre x (j + 1)),.str (pre y j)])) (hfr (j + 1) j))
     have h2:(trn y j).map (fun c=>[c])=[om y j] :: ty.map fun c=>[c]:=by rw [ey1];rfl
     refine ⟨Lb,l₂,n₂,om y j,_,_,pre x (j + 1),pre y j,pre y j,(aq hv).symm,by decide,rfl,h2 ▸ h1,hty,(jf (h.lb _ _) (hfr (j + 1) j)).trans (by rw [h.ub]),rfl,hpl y,?_⟩
     rw [kZ y,ey2,aU];rfl
    ·cases hv
   generalize S (if 0 < k then j + 1 else j) (if 1 < k then j + 1 else j)=S₁ at hk ⊢
   walk_at "u"; obtain ⟨A,l,n,c,p,T₂,a,b,u,e0,hk2,e1,hl,hp,e2,e3,hu,e4⟩:=hk;walk_at "v"
   subst e0
   refine AsP.sub ?_ hhas
   walk_at "go"
   refine md hl (by decide) (fun Q q=>?_) (jC hl hp ?_)
   ·walk_at "go"
    exact iV (.fr _) e1 (show 2 < 2 ^ 25 by decide) q
   walk_at "go"
   refine mz hl.set hp (by decide) (fun Q q=>?_) (fun Q q=>ev_name (by walk_at "mem") q) ?_
   ·walk_at "go"
    exact iV (.fr _) e1 (show 2 < 2 ^ 25 by decide) q
   rw [hl.twice,e2]
   walk_at "go"
   refine v8 ?_
   walk_at "go"
   refine iV (.ow i8) e3 (show 2 < 2 ^ 25 by decide) ?_
   walk_at "go"
   ·refine ⟨D,_,k,rfl,rfl,i8,aB k,hk2,show 2 < 2 ^ 25 by decide,?_⟩
    walk_at "go"
    exact ⟨kf.trans e4.symm,by walk_at "has"⟩
   ·exact hu
  ·walk_at "u"; obtain ⟨eσ,hhas⟩:=hJ;walk_at "v"
   subst eσ
   rw [if_pos (show 0 < [V.int 0,V.int 1].length by decide),if_pos (show 1 < [V.int 0,V.int 1].length by decide)]
   have hs:S (j + 1) (j + 1) D=some (.list [.str (pre x (j + 1)),.str (pre y (j + 1))]):=by rw [hS'];exact i8
   have hpl:∀ w:List Nat,(pre w j).length < 2 ^ 24:=fun w=>by rw [jE];exact ae (aa (aF hj) hm) (by decide)
   refine cont_next ?_
   refine cont_next (ExP.has ?_ hhas)
   walk_at "go"
   refine lx (.ow hs) (by decide) rfl (show 2 < 2 ^ 25 by decide) ?_
   walk_at "go"
   refine ⟨_,_,_,.int _,.none,.none,sub_str,?_⟩
   rw [kZ x]
   refine uy (hpl x) ?_
   walk_at "go"
   refine lx (.ow hs) (by decide) rfl (show 2 < 2 ^ 25 by decide) ?_
   walk_at "go"
   refine ⟨_,_,_,.int _,.none,.none,sub_str,?_⟩
   rw [kZ y]
   refine uy (hpl y) ?_
   walk_at "go"
   refine jA (fun hne=>?_) (fun heq=>?_)
   ·have hT1:T=j + 1:=by
     rcases aZ (j + 1) T with h1 | h1
     ·rw [hag j h1] at hne;simp at hne
     ·exact bM h1 (hjm hj)
    walk_at "go"
    rw [← hT1]
    exact tail _ (by walk_at "has")
   ·have heq:om x j=om y j:=by simpa using heq
    walk_at "go"
    refine ⟨rfl,hjm hj,fun h1=>?_,by walk_at "has"⟩
    rcases aZ (j + 1) T with h2 | h2
    ·exact h2
    ·have hT1:T=j + 1:=bM h2 (hjm hj)
     rcases hend with e | e
     ·exact absurd (hT1.symm.trans e) (ce h1)
     ·rw [hT1] at e;exact absurd heq e.2
 ·walk_at "u"; obtain ⟨eσ,hjT,hjm,hhas⟩:=hJ;walk_at "v"
  subst eσ
  rw [ag,aH] at hjT ⊢
  rw [bM hjT hT]
  exact tail _ hhas
end
inductive Sp (P:Nat→Prop):List Nat→List Nat→Prop
 | nil:Sp P [] []
 | chr {c:Nat} {r r':List Nat} (h:P c) (t:Sp P r r'):Sp P (c :: r) (c :: r')
 | esc (c:Nat) {r r':List Nat} (t:Sp P r r'):Sp P (92 :: c :: r) (c :: r')
noncomputable def PQ (c:Nat):Prop:=c≠34∧c≠92
noncomputable def PB (c:Nat):Prop:=ws c=false∧c≠92
theorem Sp.snoc {P:Nat→Prop} {a u b v:List Nat} (h:Sp P a u) (k:Sp P b v):Sp P (a++b) (u++v):=by
 induction h with
 | nil=>exact k
 | chr h t ih=>exact .chr h ih
 | esc c t ih=>exact .esc c ih
theorem yB {a u:List Nat} (h:Sp PQ a u):∀ (acc r:List Nat),mU acc (a++34 :: r)=(acc++u,r):=by
 induction h with
 | nil=>intro acc r;rw [aw,jH,if_pos rfl,aE]
 | chr h t ih=>intro acc r;rw [ar,jH,if_neg h.1,if_neg h.2,ih,ay];rfl
 | @esc c _ _ t ih=>intro acc r;rw [ar,jH,if_neg (by decide),if_pos rfl];show mU (acc++[c]) (_++34 :: r)=_;rw [ih,ay];rfl
theorem wa {a u:List Nat} (h:Sp PQ a u):∀ (acc:List Nat),mU acc a=(acc++u,[]):=by
 induction h with
 | nil=>intro acc;rw [aE];rfl
 | chr h t ih=>intro acc;rw [jH,if_neg h.1,if_neg h.2,ih,ay];rfl
 | @esc c r _ t ih=>intro acc;rw [jH,if_neg (by decide),if_pos rfl];show mU (acc++[c]) r=_;rw [ih,ay];rfl
theorem Bt {a u:List Nat} (h:Sp PB a u):∀ (acc:List Nat) (s:Nat) (r:List Nat),ws s=true→lT acc (a++s :: r)=(acc++u,r):=by
 induction h with
 | nil=>intro acc s r hs;rw [aw,jh,if_pos hs,aE]
 | chr h t ih=>intro acc s r hs;rw [ar,jh,if_neg (by rw [h.1];decide),if_neg h.2,ih _ _ _ hs,ay];rfl
 | @esc c _ _ t ih=>intro acc s r hs;rw [ar,jh,if_neg (by rw [Bf];decide),if_pos rfl];show lT (acc++[c]) (_++s :: r)=_;rw [ih _ _ _ hs,ay];rfl
theorem zn {a u:List Nat} (h:Sp PB a u):∀ (acc:List Nat),lT acc (a++[92])=(acc++u,[]):=by
 induction h with
 | nil=>intro acc;rw [aw,jh,if_neg (by rw [Bf];decide),if_pos rfl];rfl
 | chr h t ih=>intro acc;rw [ar,jh,if_neg (by rw [h.1];decide),if_neg h.2,ih,ay];rfl
 | @esc c r _ t ih=>intro acc;rw [ar,jh,if_neg (by rw [Bf];decide),if_pos rfl];show lT (acc++[c]) (r++[92])=_;rw [ih,ay];rfl
noncomputable def q7 (q f:Bool):List Nat:=if q then [34,92] else if f then [92,10,9,13,32,34] else [92,10,9,13,32]
noncomputable def spl (q e f:Bool) (c:Nat):List Nat:=if e || (q7 q f).contains c then [92,c] else [c]
noncomputable def ln (q e:Bool) (w:List Nat):Nat→List Nat
 | 0=>[]
 | k + 1=>ln q e w k++spl q e (k == 0) (w.getD k 0)
theorem ta {x:List Nat} (hx:∀ d∈x,Txt.contains ⟨x.toArray⟩ ⟨#[d]⟩=true) (c:Nat):Txt.contains ⟨x.toArray⟩ ⟨#[c]⟩=x.contains c:=by
 by_cases h:c∈x
 ·rw [hx c h,a8.mpr h]
 ·rw [gy.mpr fun e=>h (a8.mp e)]
  unfold Txt.contains
  refine (congrArg (fun l:List Nat=>!l.isEmpty) (occ_nil_of_no _ _ 1 fun i hi=>?_)).trans rfl
  refine gy.mpr fun e=>h ?_
  have hi:i < x.length:=hi
  unfold Builtin.Str.subAt at e
  have e:x.toArray.extract i (i + 1)=#[c]:=beq_iff_eq.mp e
  rw [fR,ft,bB,bI hi] at e
  have e:[x[i]]=[c]:=Array.mk.inj e
  rw [← List.head_eq_of_cons_eq e]
  exact bq hi
theorem DE:∀ d∈wsL,Txt.contains ⟨wsL.toArray⟩ ⟨#[d]⟩=true:=by decide +kernel
theorem y7 (c:Nat) (h:ws c=true):[92,10,9,13,32].contains c=true:=by
 have hm:c∈wsL:=a8.mp ((ta DE c).symm.trans h)
 rw [a8]
 unfold wsL at hm
 simp only [am,bj,or_false] at hm ⊢
 lia
theorem zm (q e f:Bool) (c:Nat):Sp (if q then PQ else PB) (spl q e f c) [c]:=by
 unfold spl
 by_cases h:(e || (q7 q f).contains c)=true
 ·rw [if_pos h];exact .esc c .nil
 ·rw [if_neg h]
  rw [de,not_or] at h
  refine .chr ?_ .nil
  cases q
  ·have h2:¬ [92,10,9,13,32].contains c=true:=fun x=>h.2 (by
    unfold q7
    cases f
    ·exact x
    ·simp only [fS,am,decide_eq_true_eq] at x
     simp only [bJ,if_false,if_true,fS,am,decide_eq_true_eq]
     lia)
   show PB c
   refine ⟨?_,fun x=>h2 (by rw [x];decide)⟩
   cases hw:ws c
   ·rfl
   ·exact absurd (y7 c hw) h2
  ·have h2:¬ [34,92].contains c=true:=h.2
   exact ⟨fun x=>h2 (by rw [x];decide),fun x=>h2 (by rw [x];decide)⟩
theorem Br (q e:Bool) (w:List Nat):∀ k,k≤w.length→Sp (if q then PQ else PB) (ln q e w k) (w.take k):=by
 intro lr
 induction lr with
 | zero=>
  intro _
  exact .nil
 | succ k ihr=>
  intro h
  rw [aY (by lia)]
  have:=zm q e (k == 0) (w.getD k 0)
  rw [aj,ak (by lia)] at this
  refine (ihr (by lia)).snoc ?_
  rw [aj,ak (by lia)]
  exact this
theorem sR:∀ (g t:List Nat),(∀ c∈g,ws c=true)→tok (g++t)=tok t:=by
 intro lr
 induction lr with
 | nil=>
  intro t _
  exact rfl
 | cons c g ihr=>
  intro t h
  rw [ar,j4,if_pos (h c ao)]
  exact ihr t fun x hx=>h x (ai _ hx)
theorem sS (r:List Nat):tok (34 :: r)=mU [] r:=by
 rw [j4,if_neg (by rw [show ws 34=false by decide +kernel];decide),if_pos rfl]
structure EJ (q o:Bool) (cl:List Nat):Prop where
 shut:o=false→(q=true→∃ g,cl=34 :: g∧∀ c∈g,ws c=true)∧(q=false→cl≠[]∧∀ c∈cl,ws c=true)
 open_:o=true→cl=if q then [] else [92]
set_option tactic.hygienic true in
theorem uY {q e o:Bool} {w cl:List Nat} (hw:w≠[]) (h:EJ q o cl) (T:List Nat) (hT:o=true→T=[]):
  tok ((if q then [34] else [])++ln q e w w.length++cl++T)=(w,cl.drop 1++T)∧∀ c∈cl.drop 1,ws c=true:=by
 have hs:=Br q e w w.length (av _)
 rw [cC] at hs
 cases q
 ·obtain ⟨k,hk⟩:∃ k,w.length=k + 1:=⟨w.length - 1,by have:=List.length_pos_iff.mpr hw;lia⟩
  have hw1:w=w.getD 0 0 :: w.drop 1:=by
   cases w with
   | nil=>exact absurd rfl hw
   | cons c w=>rfl
  -- the first sign apart
  have key:∀ k,k + 1≤w.length→∃ b,ln false e w (k + 1)=spl false e true (w.getD 0 0)++b∧Sp PB b ((w.drop 1).take k):=by
   intro k
   induction k with
   | zero=>intro _;exact ⟨[],by simp [ln],.nil⟩
   | succ k ih=>
    intro hk
    obtain ⟨b,hb,hS⟩:=ih (by lia)
    refine ⟨b++spl false e false (w.getD (k + 1) 0),by rw [ln,hb,ay];rfl,?_⟩
    rw [aY (by simp;lia)]
    refine hS.snoc ?_
    have:=zm false e false (w.getD (k + 1) 0)
    rw [aj,ak (by lia)] at this ⊢
    rw [List.getElem_drop]
    simpa [aQ] using this
  obtain ⟨b,hb,hS⟩:=key k (by lia)
  rw [aG (by simp;lia)] at hS
  have first:∀ R,tok (spl false e true (w.getD 0 0)++R)=lT [w.getD 0 0] R:=by
   intro R
   unfold spl
   split
   ·show tok (92 :: w.getD 0 0 :: R)=_
    rw [j4,if_neg (by rw [Bf];decide),if_neg (by decide),if_pos rfl];rfl
   ·rename_i hn
    rw [de,not_or] at hn
    have hn2:¬ [92,10,9,13,32,34].contains (w.getD 0 0)=true:=hn.2
    have h1:ws (w.getD 0 0)=false:=by
     cases hws:ws (w.getD 0 0)
     ·rfl
     ·have:=y7 _ hws
      rw [a8] at this hn2
      exact absurd (by simp only [am] at this ⊢;lia) hn2
    show tok (w.getD 0 0 :: R)=_
    rw [j4,if_neg (by rw [h1];decide),if_neg (fun x=>hn2 (by rw [x];decide)),if_neg (fun x=>hn2 (by rw [x];decide))]
  rw [hk,hb]
  simp only [bJ,if_false,aw,ay]
  rw [first]
  cases o
  ·obtain ⟨hne,hws⟩:=(h.shut rfl).2 rfl
   cases cl with
   | nil=>exact absurd rfl hne
   | cons s g=>
    rw [ar,Bt hS _ _ _ (hws s ao)]
    refine ⟨?_,fun c hc=>hws c (ai _ hc)⟩
    conv=>rhs;rw [hw1]
    rfl
  ·rw [hT rfl,h.open_ rfl]
   simp only [bJ,if_false,aE]
   rw [zn hS]
   refine ⟨?_,by intro c hc;cases hc⟩
   conv=>rhs;rw [hw1]
   rfl
 ·simp only [if_true,ay,ar,aw]
  rw [sS]
  cases o
  ·obtain ⟨g,rfl,hg⟩:=(h.shut rfl).1 rfl
   rw [ar,yB hs]
   exact ⟨rfl,hg⟩
  ·rw [hT rfl,h.open_ rfl]
   simp only [if_true,aE]
   rw [wa hs]
   exact ⟨rfl,by intro c hc;cases hc⟩
noncomputable def rdN (l:List Nat):Nat→List (List Nat×Nat)×List Nat
 | 0=>([],l)
 | k + 1=>((rdN l k).1++[((tok (rdN l k).2).1,(tok (rdN l k).2).2.length)],(tok (rdN l k).2).2)
structure vU (o:Bool) (t:List Nat) (es:List (List Nat×Nat)) (g:List Nat):Prop where
 read:∀ T,(o=true→T=[])→rdN (t++T) es.length=(es.map fun x=>(x.1,t.length + T.length - x.2),g++T)
 white:∀ c∈g,ws c=true
 ends:∀ x∈es,x.2≤t.length
theorem vU.nil:vU false [] [] []:=⟨fun T _=>rfl,by simp,by simp⟩
theorem vU.add {t:List Nat} {es:List (List Nat×Nat)} {g:List Nat} (h:vU false t es g) {o:Bool} {p w g':List Nat} (hp:∀ T,(o=true→T=[])→tok (p++T)=(w,g'++T)) (hg:∀ c∈g',ws c=true) (hl:g'.length≤p.length) {n:Nat} (hn:n + g'.length=(t++p).length):
  vU o (t++p) (es++[(w,n)]) g':=by
 refine ⟨fun T hT=>?_,hg,fun x hx=>?_⟩
 ·have h1:=h.read (p++T) (fun e=>absurd e (by decide))
  rw [af,List.length_singleton,rdN,ay,h1]
  show (_++[((tok (g++(p++T))).1,(tok (g++(p++T))).2.length)],(tok (g++(p++T))).2)=_
  rw [sR _ _ h.white,hp T hT,aU]
  refine Prod.ext ?_ rfl
  have e1:(es.map fun x=>(x.1,t.length + (p++T).length - x.2))=es.map fun x=>(x.1,(t++p).length + T.length - x.2):=b8 fun x _=>by rw [af,af,bN]
  have e2:(g'++T).length=(t++p).length + T.length - n:=by rw [af,← hn,bN,bB]
  show _++[(w,(g'++T).length)]=_
  rw [e1,e2];rfl
 ·rcases bb.mp hx with hx | hx
  ·have:=h.ends x hx;simp;lia
  ·obtain rfl:=br.mp hx
   show n≤_
   lia
theorem nv (l:List Nat):∀ k,(rdN l k).1.length=k:=by
 intro lr
 induction lr with
 | zero=>
  exact rfl
 | succ k ihr=>
  rw [rdN,af,ihr];rfl
theorem vU.all {o:Bool} {t:List Nat} {es:List (List Nat×Nat)} {g:List Nat} (h:vU o t es g):rdN t (es.length + 2)=((es.map fun x=>(x.1,t.length - x.2))++[([],0),([],0)],[]):=by
 have h1:=h.read [] (fun _=>rfl)
 rw [aE,aE] at h1
 have t1:tok g=([],[]):=by have:=sR g [] h.white;rw [aE] at this;rw [this];rfl
 have t2:tok []=([],[]):=rfl
 rw [rdN,rdN,h1]
 simp only [t1,t2]
 simp
noncomputable def wb:List (List Nat×List Nat):=[([102],[70,8497]),([105],[73,8464]),([115],[83,383]),([116],[84,119827]),([104],[72,8459]),([112],[80,8473]),([953],[921,8126]),([102,102,105],[64259]),([102,102],[64256]),([102,105],[64257]),([115,115],[223]),([115,116],[64261,64262]),([104,112],[13259]),([112,104],[13271]),([32,953],[890])]
theorem Bu:wb.all (fun x=>x.2.all (fun s=>lM s == x.1 && decide (s < 0x110000)) && decide (0 < x.1.length) && decide (x.1.length≤3))=true:=by decide +kernel
theorem Co:iN.all (fun c=>lM c == [c] && decide (c < 0x110000))=true:=by decide +kernel
theorem Cz:nI.all (fun c=>lM c == [] && decide (c < 0x110000) && !ws c && c != 34 && c != 92)=true:=by decide +kernel
structure Fit (ms:List Nat) (s:Nat):Prop where
 prep:lM s=ms
 chr:s < 0x110000
 pos:0 < ms.length
 le:ms.length≤3
theorem x9 {x:List Nat×List Nat} (hx:x∈wb) {s:Nat} (hs:s∈x.2):Fit x.1 s:=by
 have h:=a9.mp Bu _ hx
 simp only [aV,decide_eq_true_eq] at h
 have h2:=a9.mp h.1.1 s hs
 simp only [aV,beq_iff_eq,decide_eq_true_eq] at h2
 exact ⟨h2.1,h2.2,h.1.2,h.2⟩
theorem ya {c:Nat} (h:c∈iN):Fit [c] c:=by
 have h:=a9.mp Co _ h
 simp only [aV,beq_iff_eq,decide_eq_true_eq] at h
 exact ⟨h.1,h.2,dT,show 1≤3 by decide⟩
noncomputable def vw (r:List Nat) (p:Nat):List (List Nat×Nat):=wb.flatMap fun x=>(x.2.filter fun _=>decide ((r.drop p).take x.1.length=x.1)).map fun c=>(x.1,c)
theorem Ar {r:List Nat} {p:Nat} {y:List Nat×Nat} (h:y∈vw r p):(r.drop p).take y.1.length=y.1∧Fit y.1 y.2:=by
 obtain ⟨x,hx,hy⟩:=gB.mp h
 obtain ⟨c,hc,rfl⟩:=aA.mp hy
 obtain ⟨h1,h2⟩:=dE.mp hc
 exact ⟨of_decide_eq_true h2,x9 hx h1⟩
theorem vt {α β:Type} (f:α→List β) (g:α→Nat):∀ l:List α,(∀ x∈l,(f x).length≤g x)→(l.flatMap f).length≤(l.map g).sum:=by
 intro lr
 induction lr with
 | nil=>
  intro _
  exact av _
 | cons x l ihr=>
  intro h
  rw [ch,af,be,dW]
  exact aX (h x ao) (ihr fun y hy=>h y (ai _ hy))
theorem As (r:List Nat) (p:Nat):(vw r p).length≤23:=by
 refine aa (vt _ (fun x=>x.2.length) wb fun x _=>?_) (show _≤23 by decide)
 rw [ag]
 exact bW _ _
structure Wd (w ms:List Nat):Prop where
 ne:w≠[]
 len:w.length≤2
 chr:∀ c∈w,c < 0x110000
 prep:jJ w=ms
noncomputable def kh (s h:Nat):List (List Nat):=[[s],[h,s],[s,h],[s],[s]]
theorem iE (w:List Nat):jJ w=w.flatMap lM:=by unfold jJ;rw [fe]
theorem wr {h:Nat} (hh:h∈nI):lM h=[]∧h < 0x110000∧ws h=false∧h≠34∧h≠92:=by
 have h:=a9.mp Cz _ hh
 simp only [aV,beq_iff_eq,decide_eq_true_eq,cR,bne_iff_ne] at h
 exact ⟨h.1.1.1.1,h.1.1.1.2,h.1.1.2,h.1.2,h.2⟩
theorem ER {ms:List Nat} {s h k:Nat} (F:Fit ms s) (hh:h∈nI) (hk:k < 5):Wd ((kh s h).getD k []) ms:=by
 obtain ⟨h1,h2,_⟩:=wr hh
 have s1:=F.prep
 have s2:=F.chr
 rcases (show k=0∨k=1∨k=2∨k=3∨k=4 by lia) with rfl | rfl | rfl | rfl | rfl
 ·exact ⟨by simp [kh],by simp [kh],by simpa [kh] using s2,by rw [iE];simp [kh,s1]⟩
 ·exact ⟨by simp [kh],by simp [kh],by simpa [kh] using ⟨h2,s2⟩,by rw [iE];simp [kh,s1,h1]⟩
 ·exact ⟨by simp [kh],by simp [kh],by simpa [kh] using ⟨s2,h2⟩,by rw [iE];simp [kh,s1,h1]⟩
 ·exact ⟨by simp [kh],by simp [kh],by simpa [kh] using s2,by rw [iE];simp [kh,s1]⟩
 ·exact ⟨by simp [kh],by simp [kh],by simpa [kh] using s2,by rw [iE];simp [kh,s1]⟩
noncomputable def tl (es:List (List Nat×Nat×Nat)) (k:Nat):List Nat:=jJ ((es.take k).flatMap (·.1))
structure FI (ls:List Nat) (p:Nat) (o:Bool) (t:List Nat) (es:List (List Nat×Nat×Nat)) (g:List Nat):Prop where
 good:vU o t (es.map fun x=>(x.1,x.2.2)) g
 cnt:∀ k x,es[k]?=some x→tl es (k + 1)=ls.take x.2.1∧x.2.1≤ls.length
 mean:jJ (es.flatMap (·.1))=ls.take p
 le:p≤ls.length
 ok:∀ c∈t,c < 0x110000
 wok:∀ x∈es,x.1.length≤2∧∀ c∈x.1,c < 0x110000
theorem FI.nil (ls:List Nat):FI ls 0 false [] [] []:=⟨.nil,by simp,rfl,ba _,by simp,by simp⟩
theorem FI.add {ls:List Nat} {p:Nat} {t:List Nat} {es:List (List Nat×Nat×Nat)} {g:List Nat} (h:FI ls p false t es g) {o:Bool} {u w ms g':List Nat} {n:Nat} (hm:jJ w=ms) (hl:(ls.drop p).take ms.length=ms)
  (hp:∀ T,(o=true→T=[])→tok (u++T)=(w,g'++T)) (hg:∀ c∈g',ws c=true) (hgl:g'.length≤u.length) (hn:n + g'.length=(t++u).length) (hu:∀ c∈u,c < 0x110000) (hw:w.length≤2∧∀ c∈w,c < 0x110000):
  FI ls (p + ms.length) o (t++u) (es++[(w,p + ms.length,n)]) g':=by
 have hle:p + ms.length≤ls.length:=by
  have h1:=congrArg dA hl
  rw [aP,bk] at h1
  have h2:ms.length≤ls.length - p:=h1 ▸ bZ _ _
  rw [aQ]
  exact Nat.add_le_of_le_sub h.le h2
 have hmean:jJ ((es++[(w,p + ms.length,n)]).flatMap (·.1))=ls.take (p + ms.length):=by
  rw [bP,iE,bP,← iE,← iE,h.mean,gU,hl]
  congr 1
  rw [← hm];simp
 refine ⟨?_,fun k x hx=>?_,hmean,hle,fun c hc=>(bb.mp hc).elim (h.ok c) (hu c),fun x hx=>?_⟩
 ·rw [aU]
  exact h.good.add hp hg hgl hn
 ·rcases aZ k es.length with hk | hk
  ·rw [bH hk] at hx
   unfold tl
   rw [cO hk]
   exact h.cnt k x hx
  ·rw [bf hk] at hx
   obtain ⟨j,rfl⟩:∃ j,k=es.length + j:=⟨k - es.length,(bn hk).symm⟩
   rw [bB] at hx
   rcases j with _ | j
   ·obtain rfl:=aq hx
    unfold tl
    rw [aG (by rw [af];exact av _)]
    exact ⟨hmean,hle⟩
   ·cases hx
 ·rcases bb.mp hx with hx | hx
  ·exact h.wok x hx
  ·obtain rfl:=br.mp hx;exact hw
theorem w7 (q e f:Bool) (c:Nat):(spl q e f c).length≤2:=by unfold spl;split<;>simp
theorem u0 (q e:Bool) (w:List Nat):∀ k,(ln q e w k).length≤2 * k:=by
 intro lr
 induction lr with
 | zero=>
  simp [ln]
 | succ k ihr=>
  have:=ihr
  have:=w7 q e (k == 0) (w.getD k 0)
  simp only [ln,af];lia
theorem Bq {w:List Nat} (h:∀ c∈w,c < 0x110000) (q e:Bool):∀ k,∀ c∈ln q e w k,c < 0x110000:=by
 intro lr
 induction lr with
 | zero=>
  simp [ln]
 | succ k ihr=>
  have ih:=ihr
  have hg:w.getD k 0 < 0x110000:=by
   rw [aj]
   cases hk:w[k]? with
   | none=>decide
   | some c=>exact h c (ez hk)
  intro c hc
  rcases bb.mp hc with hc | hc
  ·exact ih c hc
  ·unfold spl at hc
   split at hc
   ·simp only [am,bj,or_false] at hc
    rcases hc with rfl | rfl
    ·decide
    ·exact hg
   ·obtain rfl:=br.mp hc
    exact hg
noncomputable def tD (k h:Nat):List Nat:=if k=3 then [h,32] else if k=4 then [34,34] else []
noncomputable def ve (k h p n:Nat):List (List Nat×Nat×Nat):=if k=3 then [([h],p,n)] else if k=4 then [([],p,n)] else []
theorem xe (k h:Nat):(tD k h).length≤2:=by
 unfold tD
 split
 ·exact av _
 ·split
  ·exact av _
  ·exact ba _
theorem BA (k h p n:Nat):(ve k h p n).length≤1:=by
 unfold ve
 split
 ·exact av _
 ·split
  ·exact av _
  ·exact ba _
theorem FI.pre {ls:List Nat} {p:Nat} {t:List Nat} {es:List (List Nat×Nat×Nat)} {g:List Nat} (H:FI ls p false t es g) {h:Nat} (hh:h∈nI) (k:Nat):∃ g',FI ls p false (t++tD k h) (es++ve k h p (t++tD k h).length) g':=by
 obtain ⟨h1,h2,h3,h4,h5⟩:=wr hh
 unfold tD ve
 by_cases k3:k=3
 ·rw [if_pos k3,if_pos k3]
  refine ⟨[],H.add (o:=false) (u:=[h,32]) (w:=[h]) (ms:=[]) (g':=[]) (by rw [iE];simp [h1]) (by simp) (fun T _=>?_) (by simp) (by simp) (by simp) (by simpa using h2) (by simpa using h2)⟩
  show tok (h :: 32 :: T)=([h],T)
  rw [j4,if_neg (by rw [h3];decide),if_neg h4,if_neg h5,jh,if_pos (by decide +kernel)]
 ·rw [if_neg k3,if_neg k3]
  by_cases k4:k=4
  ·rw [if_pos k4,if_pos k4]
   refine ⟨[],H.add (o:=false) (u:=[34,34]) (w:=[]) (ms:=[]) (g':=[]) rfl (by simp) (fun T _=>?_) (by simp) (by simp) (by simp) (by simp) (by simp)⟩
   show tok (34 :: 34 :: T)=_
   rw [sS,jH,if_pos rfl];rfl
  ·rw [if_neg k4,if_neg k4,aE,aE]
   exact ⟨g,H⟩
theorem FI.step {ls:List Nat} {p:Nat} {t:List Nat} {es:List (List Nat×Nat×Nat)} {g:List Nat} (H:FI ls p false t es g) {ms w cl:List Nat} {q e o:Bool} (hl:(ls.drop p).take ms.length=ms) (hw:Wd w ms) (hs:EJ q o cl) (hco:∀ c∈cl,c < 0x110000)
  {n:Nat} (hn:n=(t++(if q then [34] else [])++ln q e w w.length).length + (cl.take 1).length):
  FI ls (p + ms.length) o (t++(if q then [34] else [])++ln q e w w.length++cl) (es++[(w,p + ms.length,n)]) (cl.drop 1):=by
 have hct:(cl.take 1).length + (cl.drop 1).length=cl.length:=by rw [← af,dw]
 have:=H.add (o:=o) (u:=(if q then [34] else [])++ln q e w w.length++cl) (g':=cl.drop 1) (n:=n) hw.prep hl (fun T hT=>(uY hw.ne hs T hT).1) (uY (e:=e) hw.ne hs [] (fun _=>rfl)).2 (by simp;lia) (by rw [hn];simp only [af];lia) (fun c hc=>?_) ⟨hw.len,hw.chr⟩
 ·simpa only [ay] using this
 ·rcases bb.mp hc with hc | hc
  ·rcases bb.mp hc with hc | hc
   ·cases q
    ·cases hc
    ·obtain rfl:=br.mp hc;decide
   ·exact Bq hw.chr q e _ c hc
  ·exact hco c hc
structure w3 (p:Nat) (t:List Nat) (es:List (List Nat×Nat×Nat)):Prop where
 t:t.length≤10 * p
 e:es.length≤2 * p
theorem uQ:iH mh ["letters", "cells"]:=by walk_at "binds"
theorem uL:fnC mh ["letters", "cells"] ["place"]=true:=by decide +kernel
noncomputable abbrev DT:List V:=wb.map fun x=>V.tup [.str x.1,.str x.2]
noncomputable abbrev l9 (es:List (List Nat×Nat×Nat)):List V:=es.map fun x=>.tup [.str x.1,.int ((x.2.1:Nat):Int),.int ((x.2.2:Nat):Int)]
noncomputable abbrev El (y:List Nat×Nat):V:=.tup [.str y.1,.str [y.2]]
noncomputable def wy:List (List Nat):=[[],[32],[10],[9,13]]
theorem CC (i:Nat):(wy.getD i []).length≤2∧∀ c∈wy.getD i [],ws c=true∧c < 0x110000:=by
 have:∀ g∈wy,g.length≤2∧∀ c∈g,ws c=true∧c < 0x110000:=by decide +kernel
 rw [aj]
 cases h:wy[i]? with
 | none=>simp
 | some g=>exact this g (ez h)
noncomputable abbrev At (ls cs:List Nat) (E:Addr) (p dn:Nat) (t:List Nat):Fm:=[("place", .val (.int (p:Nat))),("drawn", .val (.int (dn:Nat))),("entries", .val (.loc E)),("text", .val (.str t)),("hidden", .val (.lst (iS nI))),("shapes", .val (.lst DT)),("letters", .val (.str ls)),("cells", .val (.lst (iS cs)))]
inductive FO (ls cs:List Nat) (E:Addr) (σ:ij) (n:Nat) (ρ₁:Fm) (σ₁:ij):Prop
 | mk (p dn:Nat) (o:Bool) (t:List Nat) (es:List (List Nat×Nat×Nat)) (g:List Nat) (hF:FI ls p o t es g) (ho:o=true→p=ls.length) (hS:w3 p t es) (hd:dn≤p) (hh:Has ρ₁ (At ls cs E p dn t)) (e1:σ₁=upd σ E (some (.list (l9 es)))) (e2:n=ls.length - p)
theorem zT:∀ q f,∀ d∈q7 q f,Txt.contains ⟨(q7 q f).toArray⟩ ⟨#[d]⟩=true:=by decide +kernel
noncomputable abbrev EQ (ls cs:List Nat) (E:Addr) (p dn dr:Nat) (qu:Bool) (w cl t:List Nat):Fm:=[("text", .val (.str t)),("closing", .val (.str cl)),("quoted", .val (.bool qu)),("drawn", .val (.int (dn:Nat))),("place", .val (.int (p:Nat))),("word", .val (.str w)),("draw", .val (.int (dr:Nat))),("entries", .val (.loc E)),("hidden", .val (.lst (iS nI))),("shapes", .val (.lst DT)),("letters", .val (.str ls)),("cells", .val (.lst (iS cs)))]
section
variable {K:Kx} {ρ:Fm} {σ:ij} {d:Nat} {Q:V→ij→Prop}
theorem EG {x:Str} {v v':V} {Q:Fl→Fm→ij→Prop} (e:v=v') (h:uU ρ x Q v' σ):uU ρ x Q v σ:=e ▸ h
set_option tactic.hygienic true in
theorem uF (hd:30≤d) {ls:List Nat} (hin:InL ls) (hl:ls.length≤70) {cs:List Nat} (hcs:cs.length=8) (hc:∀ k,k < 8→cs.getD k 0 < 2 ^ 64) (q:∀ t es o g,FI ls ls.length o t es g→w3 ls.length t es→Q (.tup [.str t,.lst (l9 es)]) σ):
  CallV d (.raw (.ref ph)) [.str ls,.lst (iS cs)] σ Q:=by
 refine CallV.le (d:=30) (CallV.of ?_) hd
 refine kJ (d:=29) B.ok2 B.f__law_file uQ uL rfl rfl rfl ?_
 walk_at "start"
 walk_at "go"
 refine ⟨by decide,EG (v':=.lst DT) (by kernel_rfl) ?_⟩
 walk_at "go"
 refine ⟨by decide,?_⟩
 walk_at "go"
 refine vP (n:=16) (by decide) (by decide) (by decide) ?_
 walk_at "go"
 refine nS (zs:=iS nI) (.fr _) (.fr _) (by decide) (by rfl) ?_
 walk_at "go"
 refine oI fun E hE=>?_
 walk_at "go"
 generalize hK:Cont _ _ _=KK
 refine p6 (FO ls cs E σ) ls.length (.mk 0 0 false [] [] [] (.nil ls) (fun e=>absurd e (by decide)) ⟨ba _,ba _⟩ (av _) (by show Has _ [("place", .val (.int 0)),("drawn", .val (.int 0)),_,_,_,_,_,_];walk_at "has") rfl rfl) ?_
 intro n ρ₁ σ₁ hJ3
 walk_at "u"; obtain ⟨p,dn,o,t,es,g,hF,ho,hS,hdn,hhas,e1,e2⟩:=hJ3;walk_at "v"
 subst e1 e2
 refine TsP.sub ?_ hhas
 have hpl:=hF.le
 have hEs:(upd σ E (some (PObj.list (l9 es)))) E=_:=ik ..
 walk_at "go"
 rotate_left;· exact ae hl (by decide)
 refine jQ (fun h=>?_) (fun h=>?_)
 ·have h:p < ls.length:=by simpa using h
  have ho:o=false:=by
   cases o
   ·rfl
   ·exact absurd (ho rfl) (ce h)
  subst ho
  refine ExP.has ?_ hhas
  have hE4:∀ k,k < 2→25920 ^ k≠0∧25920 ^ k < 2 ^ 64:=by decide
  obtain ⟨e1,e2⟩:=hE4 (dn / 5 % 2) (bg _ (by decide))
  have h5:3 + dn % 5 < 8:=c7 (bg dn (show 5 > 0 by decide)) 3
  walk_at "go"
  refine jB (k:=3 + dn % 5) (by simp) hcs h5 ?_
  walk_at "go"
  rotate_left
  ·exact aa (cV (show iD 25920≤15 by decide) (aF (bg _ (by decide)))) (by decide)
  ·exact e1
  ·exact jK e1 e2
  have hdr:cs.getD (3 + dn % 5) 0 / 25920 ^ (dn / 5 % 2) < 2 ^ 64:=ae (em _ _) (hc _ h5)
  generalize cs.getD (3 + dn % 5) 0 / 25920 ^ (dn / 5 % 2)=dr at *
  clear e1 e2 hE4
  refine og [("place", .val (.int (p:Nat))),("letters", .val (.str ls))] (iQ (by kernel_rfl) (by walk_at "has") (by rfl)) (by decide +kernel) (fun x:List Nat×List Nat=>V.tup [.str x.1,.str x.2]) (fun x=>[("means", .val (.str x.1)),("row", .val (.str x.2))]) (fun x=>x.2) (fun c:Nat=>.str [c]) (fun c=>[("sign", .val (.str [c]))]) (fun x _=>decide ((ls.drop p).take x.1.length=x.1)) (fun x c=>.tup [.str x.1,.str [c]]) ?_
  walk_at "go"
  refine ⟨wb,iM.lst _,by decide,fun x hx=>⟨FY (by kernel_rfl) (by kernel_rfl) (by decide),by kernel_rfl,fun D acc hD=>?_,fun c hcx=>⟨iJ (by kernel_rfl),by kernel_rfl,fun D acc hD=>?_⟩⟩,?_⟩
  ·simp only [ar,aw]
   walk_at "go"
   exact ⟨rfl,iM.str _⟩
  ·simp only [ar,aw]
   have hx3:=(x9 hx hcx).le
   walk_at "go"
   rotate_left
   ·exact ae hx3 (by decide)
   refine ⟨_,_,_,.int _,.int _,.none,sub_str,Ak (aa hl (by decide)) ?_⟩
   rw [bB]
   walk_at "go"
   rw [Bool.beq_eq_decide_eq]
   by_cases hq:(ls.drop p).take x.1.length=x.1
   ·rw [decide_eq_true hq]
    refine ite_true' ⟨rfl,rfl,fun _=>?_⟩
    walk_at "go"
    exact ⟨rfl,rfl⟩
   ·rw [decide_eq_false hq]
    exact ite_false' ⟨rfl,rfl,fun e=>absurd e (by decide)⟩
  show uU _ _ _ (.lst _) _
  rw [show (wb.flatMap fun x=>(x.2.filter fun _=>decide ((ls.drop p).take x.1.length=x.1)).map fun c=>V.tup [.str x.1,.str [c]])=(vw ls p).map El by unfold vw;rw [List.map_flatMap];simp only [b0];rfl]
  walk_at "go"
  have hfl:=As ls p
  obtain ⟨c,hcp⟩:∃ c,ls[p]=c:=⟨_,rfl⟩
  have hcl:c∈iN:=hcp ▸ hin _ (bq h)
  have hcg:ls[p]?=some c:=by rw [ak h,hcp]
  have hl24:ls.length < 2 ^ 25:=ae hl (by decide)
  obtain ⟨fs,hfs⟩:∃ fs,vw ls p++[([c],c)]=fs:=⟨_,rfl⟩
  have hfs2:fs.length=(vw ls p).length + 1:=by rw [← hfs,af];rfl
  have hfits:∀ y∈fs,(ls.drop p).take y.1.length=y.1∧Fit y.1 y.2:=fun y hy=>by
   rw [← hfs] at hy
   rcases bb.mp hy with hy | hy
   ·exact Ar hy
   ·obtain rfl:=br.mp hy
    exact ⟨by rw [bI h,hcp];rfl,ya hcl⟩
  have hml:((vw ls p).map El).length=(vw ls p).length:=ag _
  refine m0 hcg hl24 ?_
  walk_at "go"
  refine m0 hcg hl24 ?_
  walk_at "go"
  refine nS (zs:=fs.map El) (.fr _) (.fr _) (by rw [hml];exact aa (bp hfl 1) (by decide)) (by rw [← hfs,aU];rfl) ?_
  walk_at "go"
  rotate_left
  ·rw [hml];exact ae hfl (by decide)
  ·rw [hml];exact fg _
  ·rw [hml];exact jK (fg _) (ae (bp hfl 1) (by decide))
  rw [hml,← hfs2]
  have hix:=bg (dr % 12) (show 0 < fs.length from hfs2 ▸ dK _)
  generalize dr % 12 % fs.length=ix at *
  refine iV (.fr _) (x:=.tup [.str fs[ix].1,.str [fs[ix].2]]) (by rw [aN,ak hix];rfl) (by rw [ag,hfs2];exact ae (bp hfl 1) (by decide)) ?_
  obtain ⟨f1,f2⟩:=hfits _ (bq hix)
  generalize fs[ix].1=ms at *
  generalize fs[ix].2=sn at *
  clear hfits hfs hfs2 hix
  have hj:dr / 60 % 27 < nI.length:=bg (dr / 60) (show 27 > 0 by decide)
  have hH:nI.getD (dr / 60 % 27) 0∈nI:=by rw [aj,ak hj];exact bq _
  have hk5:=bg (dr / 12) (show 5 > 0 by decide)
  have hHx:=(wr hH).2.1
  walk_at "go"
  refine st_assign_swap (names:=["kind", "nothing"]) ?_ (by intro env h1 h2;obtain ⟨⟨_,_,_,_⟩,_,_,_,_,_,_,_,_⟩:=env;dsimp only at h1 h2;subst h1 h2;kernel_rfl) (by intro _;rfl)
  walk_at "go"
  refine iV (.fr _) (nD hj) (by decide) ?_
  walk_at "go"
  rotate_left
  ·exact cI hHx
  generalize nI.getD (dr / 60 % 27) 0=hi at *
  generalize dr / 12 % 5=ki at *
  refine ⟨_,rfl,rfl,?_⟩
  show lS _ _ _ [_,_] [_,_]
  walk_at "swp"
  walk_at "go"
  generalize hK1:Cont _ _ _=K1
  obtain ⟨T1,hT1⟩:∃ T1,t++tD ki hi=T1:=⟨_,rfl⟩
  obtain ⟨E1,hE1⟩:∃ E1,es++ve ki hi p T1.length=E1:=⟨_,rfl⟩
  have tl10:=hS.t
  have el2:=hS.e
  have hT1l:T1.length≤10 * p + 2:=by rw [← hT1,af];exact aX tl10 (xe _ _)
  have hE1l:E1.length≤2 * p + 1:=by rw [← hE1,af];exact aX el2 (BA _ _ _ _)
  have hF1:∃ g',FI ls p false T1 E1 g':=by
   have:=hF.pre hH ki
   rw [hT1,hE1] at this;exact this
  have tail1:∀ ρ',Has ρ' (("kind", .val (.int (ki:Nat))) :: ("nothing", .val (.str [hi])) :: ("sign", .val (.str [sn])) :: ("means", .val (.str ms)) :: ("draw", .val (.int (dr:Nat))) :: At ls cs E p dn T1)→K1 .next ρ' (upd σ E (some (PObj.list (l9 E1)))):=by
   intro ρ' hhas1
   subst hK1
   dsimp only [At] at hhas1
   refine cont_next (ExP.has ?_ hhas1)
   have hWd:=ER f2 hH hk5
   walk_at "go"
   rotate_left
   ·show 2≤2 ^ 24
    decide
   ·show 2≤2 ^ 24
    decide
   refine iV (vs:=j8 (kh sn hi)) (.fr _) (nm hk5) (show 5 < 2 ^ 25 by decide) ?_
   generalize (kh sn hi).getD ki []=w at *
   walk_at "go"
   refine lm ?_ (by intro _;rfl) (by intro _;rfl) (by intro env h1 h2;obtain ⟨⟨_,_,_,_⟩,_,_,_,_,_,_,_,_⟩:=env;dsimp only at h1 h2;subst h1 h2;kernel_rfl)
   walk_at "go"
   rotate_left
   ·exact ae f2.le (by decide)
   refine as_nameP (by kernel_rfl!) (by walk_at "mem") (by intro c e;cases e) (upd_mk ?h5 ?h4) ?_
   rotate_left
   walk_at "rest"
   walk_at "go"
   refine st_assign_swap (names:=["quoted", "gap"]) ?_ (by intro env h1 h2;obtain ⟨⟨_,_,_,_⟩,_,_,_,_,_,_,_,_⟩:=env;dsimp only at h1 h2;subst h1 h2;kernel_rfl) (by intro _;rfl)
   walk_at "go"
   refine iV (.fr _) (x:=.str (wy.getD (dr / 6480 % 4) [])) ((congrArg (fun l:List V=>l[dr / 6480 % 4]?) (?_:_=j8 wy)).trans (nm (bg _ (by decide)))) (by decide) ?_
   ·kernel_rfl
   obtain ⟨g1,g2⟩:=CC (dr / 6480 % 4)
   generalize wy.getD (dr / 6480 % 4) []=gp at *
   generalize (dr / 1620 % 2 == 1)=qu at *
   walk_at "go"
   refine ⟨_,rfl,rfl,?_⟩
   show lS _ _ _ [_,_] [_,_]
   walk_at "swp"
   walk_at "go"
   obtain ⟨cl0,hcl0⟩:∃ cl0,cl0=if qu then 34 :: gp else if gp=[] then [32] else gp:=⟨_,rfl⟩
   refine i7 (.str cl0) (fun h=>?_) (fun h=>?_) ?_
   ·subst h
    rw [hcl0,if_pos rfl]
    walk_at "go"
    ·exact ⟨rfl,rfl⟩
    ·exact aa (bF g1 _) (show 3≤2 ^ 24 by decide)
   ·subst h
    rw [hcl0,if_neg (by decide)]
    walk_at "go"
    cases gp with
    | nil=>
     rw [if_pos rfl]
     walk_at "go"
     refine ifn (by decide) ?_
     walk_at "go"
     exact ⟨rfl,rfl⟩
    | cons c gp=>
     rw [if_neg (gE c gp)]
     walk_at "go"
     rw [if_pos (show (c :: gp != [])=true from rfl)]
     walk_at "go"
     exact ⟨rfl,rfl⟩
   iterate 4 walk_at "s"
   obtain ⟨op,hop⟩:∃ op:Bool,op=!(decide (p + ms.length < ls.length) || (cs.getD 2 0 / 192 % 2 == 0)):=⟨_,rfl⟩
   obtain ⟨cl,hcl2⟩:∃ cl,cl=if op then (if qu then [] else [92]) else cl0:=⟨_,rfl⟩
   refine oJ (!op) (.str cl) ?_ (fun h=>?_) (fun h=>?_) ?_
   ·walk_at "go"
    rotate_left
    ·exact hl24
    refine jQ (fun h=>?_) (fun h=>?_)
    ·exact ⟨by rw [hop,decide_eq_true h];rfl,rfl⟩
    ·walk_at "go"
     refine jB (k:=2) rfl hcs (by decide) ?_
     walk_at "go"
     refine jb (fun h2=>?_) (fun h2=>?_)
     ·exact ⟨by rw [hop,decide_eq_false h,h2];rfl,rfl⟩
     ·walk_at "go"
      exact ⟨by rw [hop,decide_eq_false h,show (cs.getD 2 0 / 192 % 2 == 0)=false by simpa using h2];rfl,rfl⟩
   ·rw [cR] at h
    subst h
    rw [hcl2,if_neg (by decide)]
    walk_at "go"
    exact ⟨rfl,rfl⟩
   ·rw [Bool.not_eq_false'] at h
    subst h
    rw [hcl2,if_pos rfl]
    walk_at "go"
    refine i7 (.str (if qu then [] else [92])) (fun h=>?_) (fun h=>?_) ⟨rfl,rfl⟩
    ·rw [h]
     walk_at "go"
     exact ⟨rfl,rfl⟩
    ·rw [h]
     walk_at "go"
     exact ⟨rfl,rfl⟩
   walk_at "go"
   obtain ⟨qs,hqs⟩:∃ qs:List Nat,qs=if qu then [34] else []:=⟨_,rfl⟩
   have hqs1:qs.length≤1:=by rw [hqs];split<;>simp
   refine i7 (.str qs) (fun h=>?_) (fun h=>?_) ?_
   ·rw [hqs,h]
    walk_at "go"
    exact ⟨rfl,rfl⟩
   ·rw [hqs,h]
    walk_at "go"
    exact ⟨rfl,rfl⟩
   have hT2:T1.length≤702:=aa hT1l (bp (aO 10 (aa hpl hl)) 2)
   walk_at "go"
   rotate_left
   ·exact aa (aX hT2 hqs1) (by decide)
   have hSh:EJ qu op cl:=by
    refine ⟨fun h=>⟨fun h2=>⟨gp,?_,fun c hc=>(g2 c hc).1⟩,fun h2=>?_⟩,fun h=>?_⟩
    ·rw [hcl2,h,hcl0,h2];rfl
    ·rw [hcl2,h,hcl0,h2]
     simp only [bJ,if_false]
     split
     ·exact ⟨by simp,fun c hc=>by obtain rfl:=br.mp hc;decide +kernel⟩
     ·rename_i hne;exact ⟨hne,fun c hc=>(g2 c hc).1⟩
    ·rw [hcl2,h];rfl
   have hcl3:cl.length≤3∧∀ c∈cl,c < 0x110000:=by
    rw [hcl2]
    split
    ·split
     ·simp
     ·exact ⟨by simp,fun c hc=>by obtain rfl:=br.mp hc;decide⟩
    ·rw [hcl0]
     split
     ·refine ⟨dZ g1,fun c hc=>?_⟩
      rcases am.mp hc with rfl | hc
      ·decide
      ·exact (g2 c hc).2
     ·split
      ·exact ⟨by simp,fun c hc=>by obtain rfl:=br.mp hc;decide⟩
      ·exact ⟨aa g1 (by decide),fun c hc=>(g2 c hc).2⟩
   obtain ⟨es2,he2⟩:∃ e:Bool,e=(dr / 3240 % 2 == 1):=⟨_,rfl⟩
   refine kG ?_
   have hw2:=hWd.len
   walk_at "go"
   rotate_left
   ·exact ae hw2 (by decide)
   refine ⟨_,ja w.length (ae hw2 (by decide)),fun k ρ' σ'=>σ'=upd σ E (some (PObj.list (l9 E1)))∧Has ρ' (EQ ls cs E (p + ms.length) (dn + 1) dr qu w cl (T1++qs++ln qu es2 w k)),⟨rfl,by rw [ln,aE];walk_at "has"⟩,?_,?_⟩
   ·intro k x ρ₂ σ₂ hx hJ5
    walk_at "u"; obtain ⟨eσ,hhas2⟩:=hJ5;walk_at "v"
    subst eσ
    have hk:k < w.length:=by
     have:=(bG.mp hx).1
     rw [ag,aH] at this;exact this
    have hx':x=.int ((k:Nat):Int):=by
     rw [aN,bO hk] at hx;exact (aq hx).symm
    subst hx'
    refine AsP.sub ?_ hhas2
    walk_at "go"
    refine i7 (.str (q7 qu (k == 0))) (fun h=>?_) (fun h=>?_) ?_
    ·subst h
     walk_at "go"
     exact ⟨by rw [show (Str.ofString "\"\\").cps.toList=[34,92] by decide +kernel];rfl,rfl⟩
    ·subst h
     walk_at "go"
     refine jQ (fun h=>?_) (fun h=>?_)
     ·rw [show (k == 0)=false by simp;lia]
      walk_at "go"
      exact ⟨by rw [show (Str.ofString "\\\n\t\r ").cps.toList=[92,10,9,13,32] by decide +kernel];rfl,rfl⟩
     ·rw [show (k == 0)=true by simp;lia]
      walk_at "go"
      exact ⟨by rw [show (Str.ofString "\\\n\t\r \"").cps.toList=[92,10,9,13,32,34] by decide +kernel];rfl,rfl⟩
    iterate 4 walk_at "s"
    have hwk:w[k]?=some (w.getD k 0):=by rw [aj,ak hk];rfl
    have hsl2:=w7 qu es2 (k == 0) (w.getD k 0)
    have hkl:=u0 qu es2 w k
    have hwl:w.length < 2 ^ 25:=ae hw2 (by decide)
    refine oJ (es2 || (q7 qu (k == 0)).contains (w.getD k 0)) (.str (spl qu es2 (k == 0) (w.getD k 0))) ?_ (fun h=>?_) (fun h=>?_) ?_
    ·walk_at "go"
     rw [← he2]
     cases es2
     ·refine ifn (by decide) ?_
      walk_at "go"
      refine m0 hwk hwl ?_
      walk_at "go"
      refine pZ ?_
      walk_at "go"
      rw [ta (zT _ _)]
      refine jA (fun h=>?_) (fun h=>?_)
      ·exact ⟨by rw [h];rfl,rfl⟩
      ·walk_at "go"
       exact ⟨by rw [h];rfl,rfl⟩
     ·exact ite_true' ⟨rfl,rfl⟩
    ·unfold spl
     rw [if_pos h]
     walk_at "go"
     refine m0 hwk hwl ?_
     walk_at "go"
     ·exact ⟨rfl,rfl⟩
     ·show 2≤2 ^ 24
      decide
    ·unfold spl
     rw [if_neg (by rw [h];decide)]
     walk_at "go"
     refine m0 hwk hwl ?_
     exact ⟨rfl,rfl⟩
    walk_at "go"
    rotate_left
    ·simp only [af];lia
    exact ⟨rfl,by rw [ln,← ay];walk_at "has"⟩
   ·intro ρ₂ σ₂ hJ2
    walk_at "u"; obtain ⟨eσ,hhas2⟩:=hJ2;walk_at "v"
    subst eσ
    rw [ag,aH] at *
    have hkl:=u0 qu es2 w w.length
    have hEs1:(upd σ E (some (PObj.list (l9 E1)))) E=_:=ik ..
    have htxl:(T1++qs++ln qu es2 w w.length).length≤10 * p + 2 + 1 + 4:=by simp only [af];lia
    refine cont_next (ExP.has ?_ hhas2)
    walk_at "go"
    rotate_left
    ·exact ae htxl (by lia)
    refine ⟨_,_,_,.none,.int _,.none,sub_str,nJ (m:=1) (aa hcl3.1 (by decide)) ?_⟩
    walk_at "go"
    rotate_left
    ·simp;lia
    ·rw [ag];lia
    ·lia
    rw [jk]
    obtain ⟨g',hF1⟩:=hF1
    have step:=hF1.step (q:=qu) (e:=es2) f1 hWd hSh hcl3.2 (n:=(T1++qs++ln qu es2 w w.length).length + (cl.take 1).length) (by rw [hqs])
    rw [← hqs] at step
    have e:∀ n:Nat,l9 E1++[V.tup [V.str w,V.int ((p + ms.length:Nat):Int),V.int (n:Int)]]=l9 (E1++[(w,p + ms.length,n)]):=fun n=>by simp [l9]
    rw [e]
    have hms:=f2.pos
    refine iY (m:=ls.length - (p + ms.length)) (gg h (fA hms)) (.mk _ (dn + 1) op _ _ _ step (fun e=>?_) ⟨?_,?_⟩ ?_ (by walk_at "has") rfl rfl)
    ·rw [hop,cR,fT,decide_eq_false_iff_not] at e
     have:=e.1
     have:=step.le
     lia
    ·rw [af];lia
    ·rw [af]
     show E1.length + 1≤_
     lia
    ·lia
  refine jQ (fun h2=>?_) (fun h2=>?_)
  ·walk_at "go"
   refine i7 (.str (tD ki hi)) (fun h3=>?_) (fun h3=>?_) ?_
   ·have h3:ki=3:=by simpa using h3
    subst h3
    walk_at "go"
    ·exact ⟨rfl,rfl⟩
    ·show 2≤2 ^ 24
     decide
   ·have h3:¬ ki=3:=by simpa using h3
    have h4:ki=4:=by have:2 < ki:=(by simpa using h2);lia
    subst h4
    walk_at "go"
    exact ⟨rfl,rfl⟩
   walk_at "go"
   rotate_left
   ·exact aa (aX tl10 (xe _ _)) (aa (bp (aO 10 (aa hpl hl)) 2) (by decide))
   rw [hT1]
   refine i7 (.str (if ki=3 then [hi] else [])) (fun h3=>?_) (fun h3=>?_) ?_
   ·rw [if_pos (by simpa using h3)]
    walk_at "go"
    exact ⟨rfl,rfl⟩
   ·rw [if_neg (by simpa using h3)]
    walk_at "go"
    exact ⟨rfl,rfl⟩
   walk_at "go"
   rotate_left
   ·exact ae hT1l (ae (bp (aO 10 (aa hpl hl)) 2) (by decide))
   ·unfold l9;rw [ag];exact ae (aa el2 (aO 2 (aa hpl hl))) (by decide)
   rw [jk]
   have e:l9 es++[V.tup [V.str (if ki=3 then [hi] else []),V.int ((p:Nat):Int),V.int ((T1.length:Nat):Int)]]=l9 E1:=by
    rw [← hE1]
    unfold l9 ve
    rw [aU]
    by_cases h3:ki=3
    ·rw [if_pos h3,if_pos h3];rfl
    ·have h4:ki=4:=by have:2 < ki:=(by simpa using h2);lia
     rw [if_neg h3,if_neg h3,if_pos h4];rfl
   rw [e]
   exact tail1 _ (by walk_at "has")
  ·have h2:ki≤2:=by simpa using h2
   have e0:tD ki hi=[]∧ve ki hi p T1.length=[]:=by
    unfold tD ve
    rw [if_neg (fun e=>absurd (e ▸ h2) (by decide)),if_neg (fun e=>absurd (e ▸ h2) (by decide)),if_neg (fun e=>absurd (e ▸ h2) (by decide)),if_neg (fun e=>absurd (e ▸ h2) (by decide))]
    exact ⟨rfl,rfl⟩
   rw [e0.1,aE] at hT1
   rw [e0.2,aE] at hE1
   subst hT1 hE1
   walk_at "go"
   exact tail1 _ (by walk_at "has")
 ·subst hK
  refine cont_next (ExP.has ?_ hhas)
  refine jO (x := "entries") (r':=?_) (ik ..) ?_ ?_ ?_;rotate_left
  ·walk_at "mem"
  ·walk_at "rest"
  walk_at "go"
  rw [jk,i0 hE]
  have hp:p=ls.length:=bM hpl (by simpa using h)
  rw [hp] at hF hS
  exact q t es o g hF hS
end
theorem p5:∀ (n:Nat) (l acc:List Nat),l.length≤n→(mU acc l).2 <:+ l
 | _,[],acc,_=>dY _
 | 0,_ :: _,_,h=>by simp at h
 | n + 1,c :: r,acc,h=>by
  have hr:r.length≤n:=by simpa using h
  rw [jH]
  split
  ·exact bX ..
  ·split
   ·exact (p5 n (r.drop 1) _ (by simp;lia)).trans ((ff 1 r).trans (bX ..))
   ·exact (p5 n r _ hr).trans (bX ..)
theorem nk:∀ (n:Nat) (l acc:List Nat),l.length≤n→(lT acc l).2 <:+ l
 | _,[],acc,_=>dY _
 | 0,_ :: _,_,h=>by simp at h
 | n + 1,c :: r,acc,h=>by
  have hr:r.length≤n:=by simpa using h
  rw [jh]
  split
  ·exact bX ..
  ·split
   ·exact (nk n (r.drop 1) _ (by simp;lia)).trans ((ff 1 r).trans (bX ..))
   ·exact (nk n r _ hr).trans (bX ..)
theorem w4:∀ l:List Nat,(tok l).2 <:+ l
 | []=>dY _
 | c :: r=>by
  rw [j4]
  split
  ·exact (w4 r).trans (bX ..)
  ·split
   ·exact (p5 _ r _ (av _)).trans (bX ..)
   ·split
    ·exact (nk _ (r.drop 1) _ (av _)).trans ((ff 1 r).trans (bX ..))
    ·exact (nk _ r _ (av _)).trans (bX ..)
theorem xb (l:List Nat):∀ k,(rdN l k).2 <:+ l:=by
 intro lr
 induction lr with
 | zero=>
  exact dY _
 | succ k ihr=>
  exact (w4 _).trans (ihr)
theorem OkL.suf {l l':List Nat} (h:OkL l) (s:l' <:+ l):OkL l':=⟨ae s.length_le h.1,fun c hc=>h.2 c (s.subset hc)⟩
theorem Ez (c:Nat):∀ l:List Nat,cnt c l=((l.count c:Nat):Int):=by
 intro lr
 induction lr with
 | nil=>
  exact rfl
 | cons x l ihr=>
  have ih:=ihr
  rw [cnt_cons,ih,fh]
  by_cases h:x=c
  ·subst h;simp;lia
  ·have h2:¬ c=x:=fun e=>h e.symm
   simp [h,h2]
theorem AP (l:List Nat):Txt.count ⟨l.toArray⟩ ⟨[10].toArray⟩=((iZ l:Nat):Int):=by
 rw [show (⟨[10].toArray⟩:Str)=⟨#[10]⟩ from rfl,count_cnt,Ez];rfl
theorem C1 {R:FnRec} {x y z t u v w:Str} (h:∀ fd a b c e f g i,bindArgs (fdP fd R) ⟨[a,b,c,e,f,g,i],[]⟩=pure [(x,a),(y,b),(z,c),(t,e),(u,f),(v,g),(w,i)]):iH R [x,y,z,t,u,v,w]:=by
 intro fd h1 h2 h3 vs hl
 rw [m6 h1 h2 h3]
 obtain ⟨a,l,rfl⟩:=au hl
 obtain ⟨b,l,rfl⟩:=au (az hl)
 obtain ⟨c,l,rfl⟩:=au (az (az hl))
 obtain ⟨e,l,rfl⟩:=au (az (az (az hl)))
 obtain ⟨f,l,rfl⟩:=au (az (az (az (az hl))))
 obtain ⟨g,l,rfl⟩:=au (az (az (az (az (az hl)))))
 obtain ⟨i,rfl⟩:=cq.1 (az (az (az (az (az (az hl))))))
 exact h fd a b c e f g i
theorem uP:iH mf ["lexer", "left", "ahead", "mark", "sizes", "turns", "most"]:=C1 (by intros;kernel_rfl)
theorem uK:fnC mf ["lexer", "left", "ahead", "mark", "sizes", "turns", "most"] []=true:=by decide +kernel
section
variable {K:Kx} {ρ:Fm} {σ:ij} {d:Nat} {Q:V→ij→Prop}
theorem x5 {pv x:V} {vs:List V} (h:LV σ pv (vs++[x])) (q:Q x σ):M2 d getItem pv (.int (-1)) σ Q:=fun A s a b ha hi ra rb QM hq=>by
 refine bc fun hbc=>?_
 obtain ⟨l,items,n,e0,ho,rs⟩:=h.at hi ra
 obtain ⟨t,e1⟩:=Rel.inv rb
 have hx:(vs++[x])[vs.length]?=some x:=by rw [bf (av _),cw];rfl
 obtain ⟨v,gv,rv⟩:=rs.get hx
 refine hbc ?_
 clear hbc
 subst e0 e1
 have hsz:(items.size:Int)=(vs.length:Int) + 1:=by rw [← Array.length_toList,rs.length,af];rfl
 refine wpAny_getItem_list_neg ⟨_,ho,rfl,_,rfl⟩ (by decide) (by rw [hsz];omega) (by decide) ?_ (hq _ _ _ _ q hi .refl rv)
 rw [← Array.getElem?_toList,hsz,show ((-1:Int) + ((vs.length:Int) + 1)).toNat=vs.length by omega]
 exact gv
end
noncomputable def tk (t:List Nat) (k:Nat):List Nat:=jJ ((rdN t k).1.flatMap (·.1))
theorem w5 (t:List Nat) (k:Nat):tk t (k + 1)=tk t k++jJ (tok (rdN t k).2).1:=by
 unfold tk
 rw [rdN,bP,iE,bP,← iE,← iE]
 congr 2
 exact aE _
theorem DL (t:List Nat) (k:Nat):∀ i,∃ r,tk t (k + i)=tk t k++r:=by
 intro lr
 induction lr with
 | zero=>
  exact ⟨[],(aE _).symm⟩
 | succ i ihr=>
  obtain ⟨r,h⟩:=ihr
  exact ⟨r++jJ (tok (rdN t (k + i)).2).1,by rw [← bN,w5,h,ay]⟩
theorem De (t:List Nat) {k m:Nat} (h:k≤m):∃ r,tk t m=tk t k++r:=by
 obtain ⟨r,e⟩:=DL t k (m - k)
 rw [bn h] at e
 exact ⟨r,e⟩
noncomputable abbrev wrd (t:List Nat) (k:Nat):List (List Nat):=(rdN t k).1.map (·.1)
theorem y8 (t:List Nat) (k:Nat):wrd t (k + 1)=wrd t k++[(tok (rdN t k).2).1]:=by unfold wrd;rw [rdN,aU];rfl
theorem Bg (t:List Nat) (k:Nat):(wrd t k).length=k:=by unfold wrd;rw [ag,nv]
noncomputable abbrev lkV (L:List (Nat×Nat)):List V:=L.map fun x=>.tup [.int ((x.1:Nat):Int),.int ((x.2:Nat):Int)]
noncomputable def y3 (t:List Nat) (N P s:Nat) (x:Nat×Nat):Prop:=∃ k,k≤N∧(∀ i,i < k→(tk t i).length < P)∧P≤(tk t k).length∧x=(s,(rdN t k).2.length)
noncomputable def rdG (A:iL) (σ:ij) (R G:Addr) (l:List Nat) (n:Nat) (ws:List (List Nat)) (L:List (Nat×Nat)):ij:=upd (upd (iG A σ l n []) R (some (.list (j8 ws)))) G (some (.list (lkV L)))
structure RdH (A:iL) (σ:ij) (R G:Addr) (t:List Nat):Prop where
 lex:Lex A σ t 1 []
 r:σ R=none
 g:σ G=none
 ne:G≠R
section
variable {A:iL} {σ:ij} {R G:Addr} {t:List Nat} (H:RdH A σ R G t) (l:List Nat) (n:Nat) (ws:List (List Nat)) (L:List (Nat×Nat))
include H
theorem RdH.zero:upd (upd σ R (some (.list []))) G (some (.list []))=rdG A σ R G t 1 [] []:=by unfold rdG;rw [H.lex.same];rfl
theorem RdH.at:Lex A (rdG A σ R G l n ws L) l n []:=by
 have h1:Lex A (iG A σ l n []) l n []:=H.lex.set
 exact (h1.mono (Sub.refl.upd (H.lex.fresh H.r))).mono (Sub.refl.upd ((ir _ _ H.ne).trans (H.lex.fresh H.g)))
theorem RdH.tok {l':List Nat} {n':Nat}:iG A (rdG A σ R G l n ws L) l' n' []=rdG A σ R G l' n' ws L:=by
 have h1:Lex A (iG A σ l n []) l n []:=H.lex.set
 have h2:=h1.mono (Sub.refl.upd (o:=some (.list (j8 ws))) (H.lex.fresh H.r))
 unfold rdG
 rw [jf h2 ((ir _ _ H.ne).trans (H.lex.fresh H.g)),jf h1 (H.lex.fresh H.r),H.lex.twice]
theorem RdH.hr:rdG A σ R G l n ws L R=some (.list (j8 ws)):=(ir _ _ (Ne.symm H.ne)).trans (ik ..)
omit H in
theorem zC:rdG A σ R G l n ws L G=some (.list (lkV L)):=ik ..
theorem RdH.setR (w:List Nat):upd (rdG A σ R G l n ws L) R (some (.list (j8 ws++[.str w])))=rdG A σ R G l n (ws++[w]) L:=by
 unfold rdG
 rw [jl _ _ _ H.ne,jk,show j8 ws++[V.str w]=j8 (ws++[w]) by unfold j8;rw [aU];rfl]
omit H in
theorem zB (x:Nat×Nat):upd (rdG A σ R G l n ws L) G (some (.list (lkV L++[.tup [.int ((x.1:Nat):Int),.int ((x.2:Nat):Int)]])))=rdG A σ R G l n ws (L++[x]):=by
 unfold rdG
 rw [jk,show lkV L++[V.tup [.int ((x.1:Nat):Int),.int ((x.2:Nat):Int)]]=lkV (L++[x]) by unfold lkV;rw [aU];rfl]
end
noncomputable abbrev rdT (A:iL) (R G:Addr) (ah:Int) (mks:List Nat) (s0 s1 turns N pl:Nat) (told:List Nat):Fm:=[("lexer", .val (.loc A.x)),("left", .val (.loc A.lf)),("ahead", .val (.int ah)),("mark", .val (.str mks)),("sizes", .val (.lst [.int (s0:Nat),.int (s1:Nat)])),("turns", .val (.int (turns:Nat))),("most", .val (.int (N:Nat))),("read", .val (.loc R)),("told", .val (.str told)),("looks", .val (.loc G)),("place", .val (.int (pl:Nat)))]
noncomputable abbrev rdF (A:iL) (R G:Addr) (t:List Nat) (ah:Int) (mks:List Nat) (s0 s1 turns N pl k:Nat):Fm:=rdT A R G ah mks s0 s1 turns N pl (tk t k)
inductive RdW (A:iL) (σ:ij) (R G:Addr) (t:List Nat) (N:Nat) (L:List (Nat×Nat)) (F:Nat→Fm) (lim:Nat→Prop) (m:Nat) (ρ':Fm) (σ':ij):Prop
 | mk (k n:Nat) (hk:k≤N) (hlow:∀ i,i < k→lim i) (hn:n + iZ (rdN t k).2=1 + iZ t) (hh:Has ρ' (F k)) (e:σ'=rdG A σ R G (rdN t k).2 n (wrd t k) L) (hm:m=N - k)
inductive RdJ (A:iL) (σ:ij) (R G:Addr) (t:List Nat) (N turns p:Nat) (F:Nat→Nat→Fm) (pl sd:Nat→Nat) (j:Nat) (ρ':Fm) (σ':ij):Prop
 | mk (L:List (Nat×Nat)) (m:Nat) (hW:RdW A σ R G t N L (F (pl j)) (fun i=>(tk t i).length < pl j + p + 1) m ρ' σ') (hj:j≤turns) (hL:L.length=j) (hLk:∀ i x,L[i]?=some x→y3 t N (pl i + p + 1) (sd i) x)
 | fin (L:List (Nat×Nat)) (m:Nat) (hW:RdW A σ R G t N L (F (pl turns)) (fun _=>True) 0 ρ' σ') (hj:j=turns + 1) (hL:L.length=turns) (hLk:∀ i x,L[i]?=some x→y3 t N (pl i + p + 1) (sd i) x)
section
variable {K:Kx} {ρ:Fm} {σ:ij} {d:Nat} {Q:V→ij→Prop}
theorem uE (hd:30≤d) {A:iL} {t ls mks:List Nat} {ah:Int} {s0 s1 N turns p mk:Nat} {pl sd:Nat→Nat} (h:Lex A σ t 1 []) (hok:OkL t) (htl:t.length≤1000) (hN:N≤200) (hT:turns≤4) (hls:tk t N=ls) (hl:ls.length≤70) (hend:(rdN t N).2=[])
  (hah:0 < turns→ah=(p:Nat)) (hmk:0 < turns→mks=[mk]) (hpl0:pl 0=0) (hpl:∀ j,j < turns→sd j≤1∧pl (j + 1)=pl j + (if sd j=0 then s0 else s1)) (hin:∀ j,j < turns→pl j + p < ls.length∧(if ls.getD (pl j + p) 0=mk then 0 else 1)=sd j)
  (q:∀ n L,n=1 + iZ t→L.length=turns→(∀ i x,L[i]?=some x→y3 t N (pl i + p + 1) (sd i) x)→Q (.tup [.lst (j8 (wrd t N)),.str ls,.lst (lkV L)]) (iG A σ [] n [])):
  CallV d (.raw (.ref pg)) [.loc A.x,.loc A.lf,.int ah,.str mks,.lst [.int (s0:Nat),.int (s1:Nat)],.int (turns:Nat),.int (N:Nat)] σ Q:=by
 refine CallV.le (d:=30) (CallV.of ?_) hd
 refine kJ (d:=29) B.ok2 B.f__law_read uP uK rfl rfl rfl ?_
 have htk:∀ k,k≤N→(tk t k).length≤70:=fun k hk=>by
  obtain ⟨r,e⟩:=De t hk
  rw [hls] at e
  rw [e,af] at hl
  exact aa (aM _ _) hl
 walk_at "start"
 walk_at "go"
 refine oI fun R hR=>?_
 walk_at "go"
 refine oI fun G hG=>?_
 obtain ⟨hGR,hG⟩:=iC hG
 have H:RdH A σ R G t:=⟨h,hR,hG,hGR⟩
 rw [H.zero]
 walk_at "go"
 refine kG ?_
 walk_at "go"
 have hF:∀ ρ',Has ρ' (rdF A R G t ah mks s0 s1 turns N (pl 0) 0)→RdJ A σ R G t N turns p (rdF A R G t ah mks s0 s1 turns N) pl sd 0 ρ' (rdG A σ R G t 1 [] []):=fun ρ' hh=>.mk [] N (.mk 0 1 (ba _) (fun i hi=>absurd hi (gN i)) rfl hh rfl rfl) (ba _) rfl (fun i x hx=>by cases hx)
 rw [hpl0] at hF
 refine ⟨_,ja (turns + 1) (ae (dZ hT) (by decide)),RdJ A σ R G t N turns p (rdF A R G t ah mks s0 s1 turns N) pl sd,hF _ (by show Has _ [_,_,_,_,_,_,_,_,("told", .val (.str [])),_,("place", .val (.int 0))];walk_at "has"),fun j v ρ₁ σ₂ hv hJ=>?_,fun ρ₁ σ₂ hJ=>?_⟩
 ·refine bc fun hbc=>?_
  have hj:=(bG.mp hv).1
  rw [ag,aH] at hj
  have hx':v=.int ((j:Nat):Int):=by
   rw [aN,bO hj] at hv;exact (aq hv).symm
  rcases hJ with ⟨L,m,hW,hjt,hL,hLk⟩ | ⟨_,_,_,e,_⟩
  ·refine hbc ?_
   clear hbc
   subst hx'
   obtain ⟨k0,n0,hk0,hlow0,hn0,hh,e0,hm0⟩:=hW
   refine AsP.sub ?_ hh
   walk_at "go"
   generalize hK:Cont _ _ _=KK
   refine p6 (RdW A σ R G t N L (fun k=>("turn", .val (.int (j:Nat))) :: rdF A R G t ah mks s0 s1 turns N (pl j) k) (fun i=>j < turns→(tk t i).length < pl j + p + 1)) m ?_ ?_
   ·exact .mk _ _ hk0 (fun i hi _=>hlow0 i hi) hn0 (by walk_at "has") e0 hm0
   intro m ρ₂ σ₃ hJ2
   walk_at "u"; obtain ⟨k,n,hk,hlow,hn,hh2,e,hm⟩:=hJ2;walk_at "v"
   subst e hm
   refine TsP.sub ?_ hh2
   have hRl:=H.hr (rdN t k).2 n (wrd t k) L
   have hwl:(j8 (wrd t k)).length=k:=by rw [ag,Bg]
   have htl2:=htk k hk
   refine TsP.mono (Q:=fun c σ'=>c=(decide (k < N) && (decide (j=turns) || decide ((tk t k).length≤pl j + p)))∧σ'=rdG A σ R G (rdN t k).2 n (wrd t k) L) ?_ ?_
   ·walk_at "go"
    rotate_left
    ·rw [hwl];exact ae (aa hk hN) (by decide)
    rw [hwl]
    refine jQ (fun h1=>?_) (fun h1=>?_)
    ·rw [decide_eq_true h1]
     walk_at "go"
     refine jb (fun h2=>?_) (fun h2=>?_)
     ·walk_at "go"
      exact ⟨by rw [decide_eq_true h2];rfl,rfl⟩
     ·have h3:j < turns:=gw hjt h2
      rw [hah (ci h3)]
      walk_at "go"
      rotate_left
      ·exact ae htl2 (by decide)
      refine jQ (fun h4=>?_) (fun h4=>?_)
      ·walk_at "go"
       exact ⟨by rw [decide_eq_true h4,Bool.or_true];rfl,rfl⟩
      ·walk_at "go"
       exact ⟨by rw [decide_eq_false h2,decide_eq_false h4];rfl,rfl⟩
    ·exact ⟨by rw [decide_eq_false h1];rfl,rfl⟩
   ·intro c σ' hc
    walk_at "u"; obtain ⟨ec,eσ⟩:=hc;walk_at "v"
    subst eσ
    cases c with
    | true=>
     refine ifp rfl ?_
     refine ExP.has ?_ hh2
     have hkN:k < N:=of_decide_eq_true (dC.mp ec.symm).1
     have hlim:j < turns→(tk t k).length < pl j + p + 1:=fun h3=>by
      have:=(dC.mp ec.symm).2
      rw [decide_eq_false (ce h3),gV] at this
      exact Nat.lt_succ_of_le (of_decide_eq_true this)
     clear ec
     have hlx:=H.at (rdN t k).2 n (wrd t k) L
     have hokk:=hok.suf (xb t k)
     walk_at "go"
     refine md hlx (by decide) (fun Q q=>ev_name (by walk_at "mem") q) (uD hlx hokk fun n2 hn2=>?_)
     rw [H.tok]
     have hRl2:=H.hr (tok (rdN t k).2).2 n2 (wrd t k) L
     have hks:=w5 t k
     have hws:=y8 t k
     have htl3:=htk (k + 1) hkN
     obtain ⟨w,hw⟩:∃ w,(tok (rdN t k).2).1=w:=⟨_,rfl⟩
     rw [hw] at hks hws ⊢
     walk_at "go"
     rotate_left
     ·rw [hwl];exact ae (aa hk hN) (by decide)
     rw [H.setR,← hws]
     have hRl3:=H.hr (tok (rdN t k).2).2 n2 (wrd t (k + 1)) L
     refine kG ?_
     walk_at "go"
     refine x5 (vs:=j8 (wrd t k)) (x:=.str w) (.ow ?_) ?_
     ·rw [hRl3,hws];unfold j8;rw [aU];rfl
     refine ⟨_,iM.str w,fun i ρ' σ'=>σ'=rdG A σ R G (tok (rdN t k).2).2 n2 (wrd t (k + 1)) L∧Has ρ' (("turn", .val (.int (j:Nat))) :: rdT A R G ah mks s0 s1 turns N (pl j) (tk t k++jJ (w.take i))),⟨rfl,?_⟩,fun i v ρ₃ σ₄ hv2 hJ3=>?_,fun ρ₃ σ₄ hJ3=>?_⟩
     ·rw [show jJ (w.take 0)=[] from rfl,aE]
      walk_at "has"
     ·refine bc fun hbc=>?_
      obtain ⟨eσ,hh3⟩:=hJ3
      have hi:=(bG.mp hv2).1
      rw [ag] at hi
      rw [aN,ak hi] at hv2
      refine hbc ?_
      clear hbc
      subst eσ
      obtain rfl:=aq hv2
      have hpw:jJ (w.take (i + 1))=jJ (w.take i)++lM w[i]:=by rw [aY hi,iE,bP,← iE];congr 1;exact aE _
      have hle:(tk t k++jJ (w.take i)++lM w[i]).length≤70:=by
       have e:jJ w=jJ (w.take (i + 1))++jJ (w.drop (i + 1)):=by rw [iE,iE,iE,← bP,dw]
       rw [hks,e,← ay,hpw,← ay,af] at htl3
       exact aa (aM _ _) htl3
      refine AsP.sub ?_ hh3
      walk_at "go"
      refine rE (by decide) ?_
      walk_at "go"
      refine i7 (.str (lM w[i])) (fun hb=>?_) (fun hb=>?_) ?_
      ·have hb:b1 w[i]=true:=beq_iff_eq.mp hb
       walk_at "go"
       exact ⟨by unfold lM;rw [if_pos hb],rfl⟩
      ·have hb:b1 w[i]=false:=by simpa using hb
       walk_at "go"
       rw [hb]
       refine ifp rfl ?_
       walk_at "go"
       refine pA (by decide) ?_
       walk_at "go"
       exact ⟨by unfold lM;rw [if_neg (by rw [hb];decide)],rfl⟩
      walk_at "go"
      rotate_left
      ·rw [← af];exact aa hle (by decide)
      refine ⟨rfl,?_⟩
      rw [hpw,← ay]
      walk_at "has"
     ·walk_at "u"; obtain ⟨eσ,hh3⟩:=hJ3;walk_at "v"
      rw [ag,cC,← hks] at hh3
      refine cont_next (ex_nil (iY (m:=N - (k + 1)) (gg hkN (bv k)) (.mk (k + 1) n2 hkN (fun i hi hjt2=>?_) ?_ hh3 eσ rfl)))
      ·rcases aZ i k with h5 | h5
       ·exact hlow i h5 hjt2
       ·rw [bM (cI hi) h5];exact hlim hjt2
      ·rw [← hn,← hn2];rfl
    | false=>
     refine ifn (by decide) ?_
     subst hK
     refine cont_next (ExP.has ?_ hh2)
     have hGl:=zC (A:=A) (σ:=σ) (R:=R) (G:=G) (rdN t k).2 n (wrd t k) L
     have hLf:=(H.at (rdN t k).2 n (wrd t k) L).hlf
     walk_at "go"
     rcases aZ j turns with h3 | h3
     ·obtain ⟨hi1,hi2⟩:=hin j h3
      obtain ⟨hp1,hp2⟩:=hpl j h3
      have hP:pl j + p < (tk t k).length:=by
       rcases aZ k N with h4 | h4
       ·have:=ec
        rw [decide_eq_true h4,decide_eq_false (ce h3),dX,gV] at this
        exact d4 (of_decide_eq_false this.symm)
       ·rw [bM hk h4,hls];exact hi1
      obtain ⟨c,hc⟩:∃ c,(tk t k).getD (pl j + p) 0=c:=⟨_,rfl⟩
      have hcs:((tk t k).drop (pl j + p)).take (pl j + p + 1 - (pl j + p))=[c]:=by
       rw [bB,bI hP,← hc,aj,ak hP];rfl
      have hsd:(if c=mk then 0 else 1)=sd j:=by
       rw [← hi2,← hc]
       obtain ⟨r,e⟩:=De t hk
       rw [hls] at e
       rw [e,aj,aj,bH hP]
      have hmk2:=hmk (ci h3)
      have hah2:=hah (ci h3)
      subst hmk2 hah2
      refine ifp (decide_eq_true h3) ?_
      walk_at "go"
      refine ⟨_,_,_,.int _,.int _,.none,sub_str,Ak (aa htl2 (by decide)) ?_⟩
      rw [hcs]
      walk_at "go"
      refine i7 (.int ((sd j:Nat):Int)) (fun h4=>?_) (fun h4=>?_) ?_
      ·rw [← hsd,if_pos (by simpa using h4)]
       walk_at "go"
       exact ⟨rfl,rfl⟩
      ·rw [← hsd,if_neg (by simpa using h4)]
       walk_at "go"
       exact ⟨rfl,rfl⟩
      have hcl2:(vH (rdN t k).2).length=(rdN t k).2.length:=ag _
      have hrl:(rdN t k).2.length≤1000:=aa (xb t k).length_le htl
      have hLl:(lkV L).length=j:=(ag _).trans hL
      walk_at "go"
      rotate_left
      ·rw [hcl2];exact ae hrl (by decide)
      ·rw [hLl];exact ae (aa hjt hT) (by decide)
      rw [hcl2,zB (rdN t k).2 n (wrd t k) L (sd j,(rdN t k).2.length)]
      have hGl2:=zC (A:=A) (σ:=σ) (R:=R) (G:=G) (rdN t k).2 n (wrd t k) (L++[(sd j,(rdN t k).2.length)])
      walk_at "go"
      refine x5 (vs:=lkV L) (x:=.tup [.int ((sd j:Nat):Int),.int (((rdN t k).2.length:Nat):Int)]) (.ow ?_) ?_
      ·rw [hGl2];unfold lkV;rw [aU];rfl
      walk_at "go"
      refine jT (by decide) rfl (show 2 < 2 ^ 25 by decide) ?_
      walk_at "go"
      refine iV (i:=sd j) (x:=.int ((if sd j=0 then s0 else s1:Nat):Int)) (.fr _) ?_ (show 2 < 2 ^ 25 by decide) ?_
      ·rcases cH.mp hp1 with e | e
       ·rw [e];rfl
       ·rw [e];rfl
      walk_at "go"
      rw [← hp2]
      refine .mk (L++[(sd j,(rdN t k).2.length)]) (N - k) (.mk k n hk (fun i hi=>?_) hn (by walk_at "has") rfl rfl) h3 (by rw [af,hL];rfl) (fun i x hx=>?_)
      ·exact an (hlow i hi h3) (bp (bp (hp2 ▸ aM _ _) _) _)
      ·rcases aZ i j with h5 | h5
       ·rw [bH (by rw [hL];exact h5)] at hx
        exact hLk i x hx
       ·rw [bf (by rw [hL];exact h5)] at hx
        have hi0:i=j:=by
         have:=(bG.mp hx).1
         rw [hL] at this
         exact bM (dy (Nat.lt_one_iff.mp this)) h5
        subst hi0
        rw [hL,cw] at hx
        exact ⟨k,hk,fun i hi=>hlow i hi h3,hP,(aq hx).symm⟩
     ·have hjT:j=turns:=bM hjt h3
      refine ifn (fun e=>absurd (of_decide_eq_true e) (b7.mpr h3)) ?_
      have hkN:k=N:=by
       rcases aZ k N with h4 | h4
       ·rw [decide_eq_true h4,decide_eq_true hjT] at ec;cases ec
       ·exact bM hk h4
      walk_at "go"
      subst hjT hkN
      exact .fin L 0 (.mk k n (av _) (fun _ _=>trivial) hn (by walk_at "has") rfl (cw _).symm) rfl hL hLk
  ·rw [e] at hj;exact absurd hj (cB _)
 ·rcases hJ with ⟨_,_,_,hjt,_⟩ | ⟨L,_,⟨k,n,hk,_,hn,hh,e,hm⟩,_,hL,hLk⟩
  ·rw [ag,aH] at hjt
   exact absurd hjt (Nat.not_succ_le_self _)
  ·have hkN:k=N:=bM hk (dy hm.symm)
   subst e hkN
   have hRl:=H.hr (rdN t k).2 n (wrd t k) L
   have hGl:=zC (A:=A) (σ:=σ) (R:=R) (G:=G) (rdN t k).2 n (wrd t k) L
   refine cont_next (ExP.has ?_ hh)
   refine jO (x := "read") (r':=?_) hRl ?_ ?_ ?_;rotate_left
   ·walk_at "mem"
   ·walk_at "rest"
   refine jO (x := "looks") (r':=?_) ((ir _ _ H.ne).trans hGl) ?_ ?_ ?_;rotate_left
   ·walk_at "mem"
   ·walk_at "rest"
   walk_at "go"
   rw [hls,hend]
   have e2:upd (upd (rdG A σ R G [] n (wrd t k) L) R none) G none=iG A σ [] n []:=by
    unfold rdG
    rw [jl _ _ _ H.ne,jk,jk,i0 (H.lex.fresh H.r),i0 (H.lex.fresh H.g)]
   rw [e2]
   rw [hend] at hn
   exact q n L hn hL hLk
end
noncomputable def shK (a b:Nat):List Nat:=((aT (a + b)).filter fun i=>decide (a % (1 + i)=0) && decide (b % (1 + i)=0)).map fun i=>1 + i
noncomputable def shN (a b:Nat):Nat:=(shK a b).foldr max 0
theorem tz {a b k:Nat}:k∈shK a b↔1≤k∧k≤a + b∧a % k=0∧b % k=0:=by
 unfold shK
 rw [aA]
 constructor
 ·rintro ⟨i,hi,rfl⟩
  obtain ⟨h1,h2⟩:=dE.mp hi
  rw [aV,decide_eq_true_eq,decide_eq_true_eq] at h2
  exact ⟨aM 1 i,by rw [aQ];exact bR.mp h1,h2⟩
 ·rintro ⟨h1,h2,h3,h4⟩
  refine ⟨k - 1,dE.mpr ⟨bR.mpr (an (gu h1 dT) h2),?_⟩,bn h1⟩
  rw [bn h1,decide_eq_true h3,decide_eq_true h4];rfl
theorem wc (a b:Nat):shN a b≤a + b:=by
 rcases am.mp (kM (shK a b)) with e | h
 ·unfold shN;rw [e];exact ba _
 ·exact (tz.mp h).2.1
theorem Bv {a b:Nat} (ha:0 < a):shN a b≤eE a b:=by
 rcases am.mp (kM (shK a b)) with e | h
 ·unfold shN;rw [e];exact ba _
 ·obtain ⟨_,_,h3,h4⟩:=tz.mp h
  exact Nat.le_of_dvd (Nat.gcd_pos_of_pos_left _ ha) (Nat.dvd_gcd (d8 h3) (d8 h4))
theorem u6 {a b:Nat} (h:a=0∨b=0):shN a b=a + b:=by
 refine bM (wc a b) ?_
 rcases bL (a + b) with e | hp
 ·rw [e];exact ba _
 ·refine lz _ _ (tz.mpr ⟨hp,av _,?_⟩)
  rcases h with rfl | rfl
  ·rw [dq];exact ⟨fD _,gZ _⟩
  ·rw [cJ];exact ⟨gZ _,fD _⟩
noncomputable def apL (x y:List Nat):List Nat:=(aT (x++y).length).filter fun k=>decide ((x++y).getD k 0≠(y++x).getD k 0)
noncomputable def tkN (x y:List Nat):Nat:=match apL x y with
 | []=>(x++y).length - shN x.length y.length
 | p :: _=>p + 1
theorem C8 {x y:List Nat} (h:apL x y=[]):x++y=y++x:=by
 refine Aw (by rw [af,af,aQ]) fun i hi=>?_
 have:=d7.mp h i (bR.mpr hi)
 exact bc fun e=>this (decide_eq_true e)
theorem r6 {x y r:List Nat} {p:Nat} (h:apL x y=p :: r):p < (x++y).length∧(x++y).getD p 0≠(y++x).getD p 0∧∀ i,i < p→(x++y).getD i 0=(y++x).getD i 0:=by
 have hm:p∈apL x y:=by rw [h];exact ao
 obtain ⟨h1,h2⟩:=dE.mp hm
 have h1:=bR.mp h1
 refine ⟨h1,of_decide_eq_true h2,fun i hi=>bc fun e=>?_⟩
 have hi2:i∈apL x y:=dE.mpr ⟨bR.mpr (cz hi h1),decide_eq_true e⟩
 have hp:(apL x y).Pairwise (· < ·):=List.Pairwise.filter _ List.pairwise_lt_range
 rw [h] at hi2 hp
 rcases am.mp hi2 with e | hr
 ·exact absurd e (ce hi)
 ·exact absurd ((gj.mp hp).1 i hr) (Nat.lt_asymm hi)
theorem yk {x y r:List Nat} {p:Nat} (h:apL x y=p :: r):0 < x.length∧0 < y.length:=by
 obtain ⟨_,h2,_⟩:=r6 h
 refine ⟨dh fun e=>h2 ?_,dh fun e=>h2 ?_⟩
 ·rw [bA e,aw,aE]
 ·rw [bA e,aw,aE]
structure FD (x y:List Nat) (m T:Nat):Prop where
 pos:0 < m→0 < x.length∧0 < y.length
 le:T≤m
 agree:∀ i,i + 1 < T→om x i=om y i
 fin:T=m∨(0 < T∧om x (T - 1)≠om y (T - 1))
 front:pre x T=(x++y).take T∧pre y T=(y++x).take T
theorem ny {x y:List Nat} {T p:Nat} (hx:0 < x.length) (h:∀ i,i < p→(x++y).getD i 0=(y++x).getD i 0) (hT:T≤p + 1) (hl:T≤(x++y).length):pre x T=(x++y).take T:=by
 have e:(pre x T).length=T:=by unfold pre;rw [ag,aH]
 refine Aw (by rw [e,aP,bl hl]) fun i hi=>?_
 rw [e] at hi
 have hc:=ck hx h i (cI (an hi hT)) (by rw [← af];exact an hi hl)
 rw [aj,aj,cP,if_pos hi,← aj (l:=x++y),← hc]
 unfold pre
 rw [aN,bO hi];rfl
theorem ticks (x y:List Nat):FD x y ((x++y).length - shN x.length y.length) (tkN x y):=by
 have hlen:(y++x).length=(x++y).length:=by rw [af,af,aQ]
 have hpos:0 < (x++y).length - shN x.length y.length→0 < x.length∧0 < y.length:=fun h=>by
  refine ⟨dh fun e=>?_,dh fun e=>?_⟩
  ·rw [u6 (.inl e),af,cw] at h;cases h
  ·rw [u6 (.inr e),af,cw] at h;cases h
 cases ha:apL x y with
 | nil=>
  have hT:tkN x y=(x++y).length - shN x.length y.length:=by unfold tkN;rw [ha]
  have heq:=C8 ha
  rw [hT]
  have hsub:(x++y).length - shN x.length y.length≤(x++y).length:=bK _ _
  rcases bL ((x++y).length - shN x.length y.length) with e | hp
  ·rw [e]
   exact ⟨fun h=>absurd h (cB 0),av _,fun i hi=>absurd hi (gN _),.inl rfl,rfl,rfl⟩
  ·obtain ⟨hx,hy⟩:=hpos hp
   refine ⟨hpos,av _,fun i hi=>?_,.inl rfl,ny (p:=(x++y).length) hx (fun i _=>by rw [heq]) (cF hsub) hsub,ny (p:=(x++y).length) hy (fun i _=>by rw [heq]) (cF hsub) (by rw [hlen];exact hsub)⟩
   have hi2:i < (x++y).length:=an (cz (bv i) hi) hsub
   rw [ck hx (p:=(x++y).length) (y:=y) (fun i _=>by rw [heq]) i (aF hi2) (by rw [← af];exact hi2),ck hy (p:=(x++y).length) (y:=x) (fun i _=>by rw [heq]) i (aF hi2) (by rw [← af,hlen];exact hi2),heq]
 | cons p r=>
  have hT:tkN x y=p + 1:=by unfold tkN;rw [ha]
  obtain ⟨h1,h2,h3⟩:=r6 ha
  obtain ⟨hx,hy⟩:=yk ha
  rw [hT]
  have cx:∀ i,i≤p→om x i=(x++y).getD i 0:=fun i hi=>ck hx h3 i hi (by rw [← af];exact ae hi h1)
  have cy:∀ i,i≤p→om y i=(y++x).getD i 0:=fun i hi=>ck hy (fun i hi=>(h3 i hi).symm) i hi (by rw [← af,hlen];exact ae hi h1)
  refine ⟨hpos,?_,fun i hi=>?_,.inr ⟨dK _,?_⟩,ny hx h3 (av _) h1,ny hy (fun i hi=>(h3 i hi).symm) (av _) (by rw [hlen];exact h1)⟩
  ·refine bc fun hn=>h2 ?_
   have hg:=Bv (b:=y.length) hx
   rw [af] at hn
   have hn2:x.length + y.length - eE x.length y.length≤p:=aa (Nat.sub_le_sub_left hg _) (cI (d4 hn))
   rw [fw _ x y (av _) fun i hi=>h3 i (an hi hn2)]
  ·have hi:=fG hi
   rw [cx i (aF hi),cy i (aF hi),h3 i hi]
  ·rw [cb,cx p (av _),cy p (av _)];exact h2
theorem Bi {w:List Nat} (hw:0 < w.length) (t:Nat):trn w t=w.drop (t % w.length)++w.take (t % w.length):=by
 have hr:=bg t hw
 obtain ⟨r,hr0⟩:∃ r,t % w.length=r:=⟨_,rfl⟩
 rw [hr0] at hr ⊢
 have hlt:(w.drop r).length=w.length - r:=bk
 refine Aw (by rw [iK,af,hlt,aP,bl (aF hr),bx (aF hr)]) fun i hi=>?_
 rw [iK] at hi
 have e:(trn w t).getD i 0=om w (t + i):=by unfold trn;rw [aj,aN,bO hi];rfl
 rw [e]
 unfold om
 rw [ic,hr0,bY hi]
 rcases aZ i (w.length - r) with h | h
 ·have h5:r + i < w.length:=by rw [aQ];exact Nat.add_lt_of_lt_sub h
  rw [jN (by rw [hlt];exact h),bY h5,aj,aj,gm]
 ·obtain ⟨j,rfl⟩:∃ j,i=(w.drop r).length + j:=⟨i - (w.length - r),by rw [hlt,bn h]⟩
  rw [jV]
  rw [hlt] at hi ⊢
  have h6:w.length - r + j < w.length - r + r:=by rw [bx (aF hr)];exact hi
  have hj:j < r:=cZ h6
  rw [← bN,bn (aF hr),gG,bY (cz hj hr),aj,aj,cP,if_pos hj]
noncomputable def mB (x y:List Nat) (p:Nat) (S:List Nat):List Nat:=(S.flatMap fun s=>if s=0 then x else y)++(x++y).take p
theorem sU (x y:List Nat) (p s:Nat) (S:List Nat):mB x y p (s :: S)=(if s=0 then x else y)++mB x y p S:=by unfold mB;rw [ch,ay]
theorem Bw {x y:List Nat} {p:Nat} (hx:0 < x.length) (hy:0 < y.length) (hp:p < (x++y).length) (h:∀ i,i < p→(x++y).getD i 0=(y++x).getD i 0):∀ (i s:Nat) (S:List Nat),i≤p→
  i < (mB x y p (s :: S)).length∧(mB x y p (s :: S)).getD i 0=(if s=0 then x++y else y++x).getD i 0:=by
 intro i
 induction i using fj with
 | ind i ih=>
  intro s S hi
  have key:∀ (a b:List Nat),0 < a.length→(a++b).length=(x++y).length→(∀ j,j < p→(x++y).getD j 0=(b++a).getD j 0)→i < (a++mB x y p S).length∧(a++mB x y p S).getD i 0=(a++b).getD i 0:=fun a b ha hl hb=>by
   rcases aZ i a.length with h1 | h1
   ·rw [jN h1,jN h1,af]
    exact ⟨an h1 (aM _ _),rfl⟩
   ·obtain ⟨j,e⟩:∃ j,i=a.length + j:=⟨i - a.length,(bn h1).symm⟩
    have hj:j < i:=by rw [e];exact fH ha
    have hjp:j < p:=an hj hi
    have hjb:j < b.length:=by
     have:i < (a++b).length:=by rw [hl];exact ae hi hp
     rw [af,e] at this
     exact cZ this
    have hr:j < (mB x y p S).length∧(mB x y p S).getD j 0=(x++y).getD j 0:=by
     cases S with
     | nil=>
      unfold mB
      rw [fb,aw,aP,bl (aF hp),aj,cP,if_pos hjp,← aj]
      exact ⟨hjp,rfl⟩
     | cons s' S'=>
      obtain ⟨q1,q2⟩:=ih j hj s' S' (aF hjp)
      refine ⟨q1,q2.trans ?_⟩
      split
      ·rfl
      ·exact (h j hjp).symm
    rw [e,af,jV,jV,hr.2,hb j hjp,jN hjb]
    exact ⟨c7 hr.1 _,rfl⟩
  rw [sU]
  by_cases hs:s=0
  ·rw [if_pos hs,if_pos hs]
   exact key x y hx rfl h
  ·rw [if_neg hs,if_neg hs]
   exact key y x hy (by rw [af,af,aQ]) fun j _=>rfl
noncomputable def plN (x y:List Nat) (S:List Nat) (j:Nat):Nat:=((S.take j).map fun s=>if s=0 then x.length else y.length).sum
theorem zI (x y S:List Nat):plN x y S 0=0:=rfl
theorem zJ {x y S:List Nat} {j:Nat} (h:j < S.length):plN x y S (j + 1)=plN x y S j + (if S.getD j 0=0 then x.length else y.length):=by
 unfold plN
 rw [aY h,aU,List.sum_append,aj,ak h,be,gW,dW,List.sum_nil,cJ];rfl
theorem sT (x y:List Nat) (p:Nat):∀ (j:Nat) (S:List Nat),j≤S.length→∃ a,mB x y p S=a++mB x y p (S.drop j)∧a.length=plN x y S j
 | 0,S,_=>⟨[],rfl,rfl⟩
 | j + 1,s :: S,h=>by
  obtain ⟨a,h1,h2⟩:=sT x y p j S (fJ h)
  refine ⟨(if s=0 then x else y)++a,by rw [sU,h1,ay];rfl,?_⟩
  unfold plN at h2 ⊢
  rw [af,h2,cL,be,dW]
  congr 1
  split<;>rfl
theorem va {x y S r:List Nat} {p:Nat} (h:apL x y=p :: r) {j:Nat} (hj:j < S.length) (hS:S.getD j 0≤1):
  plN x y S j + p < (mB x y p S).length∧(if (mB x y p S).getD (plN x y S j + p) 0=(x++y).getD p 0 then 0 else 1)=S.getD j 0:=by
 obtain ⟨h1,h2,h3⟩:=r6 h
 obtain ⟨hx,hy⟩:=yk h
 obtain ⟨a,e1,e2⟩:=sT x y p j S (aF hj)
 have ed:S.drop j=S.getD j 0 :: S.drop (j + 1):=by rw [bI hj,aj,ak hj];rfl
 obtain ⟨q1,q2⟩:=Bw hx hy h1 h3 p (S.getD j 0) (S.drop (j + 1)) (av p)
 rw [← ed] at q1 q2
 rw [e1,af,← e2,jV,q2]
 refine ⟨c7 q1 _,?_⟩
 rcases cH.mp hS with e | e
 ·rw [e,if_pos rfl,if_pos rfl]
 ·rw [e,if_neg (show ¬ (1:Nat)=0 by decide),if_neg (Ne.symm h2)]
theorem zA (t:List Nat) (k:Nat):∀ i,(rdN t k).1=(rdN t (k + i)).1.take k:=by
 intro lr
 induction lr with
 | zero=>
  rw [cJ,aG (cA (nv t k))]
 | succ i ihr=>
  rw [← bN,rdN,cO (by rw [nv];exact aM _ _),← ihr]
theorem FI.words {ls t g:List Nat} {es:List (List Nat×Nat×Nat)} {o:Bool} {p:Nat} (F:FI ls p o t es g):wrd t (es.length + 2)=es.map (·.1)++[[],[]]:=by
 have h:=F.good.all
 rw [ag] at h
 unfold wrd
 rw [h,aU,b0,b0];rfl
theorem FI.tkN {ls t g:List Nat} {es:List (List Nat×Nat×Nat)} {o:Bool} {p:Nat} (F:FI ls p o t es g):tk t (es.length + 2)=ls.take p∧(rdN t (es.length + 2)).2=[]:=by
 have h:=F.good.all
 rw [ag] at h
 unfold tk
 rw [h]
 refine ⟨?_,rfl⟩
 rw [bP,b0,fc,iE,bP,← iE,← iE]
 show jJ (es.flatMap (·.1))++jJ []=_
 rw [F.mean];exact aE _
theorem FI.at {ls t g:List Nat} {es:List (List Nat×Nat×Nat)} {o:Bool} {p:Nat} (F:FI ls p o t es g) {i:Nat} {x:List Nat×Nat×Nat} (hx:es[i]?=some x):(tk t (i + 1)).length=x.2.1∧(rdN t (i + 1)).2.length=t.length - x.2.2:=by
 have h:=F.good.all
 rw [ag] at h
 have hi:=(bG.mp hx).1
 obtain ⟨c1,c2⟩:=F.cnt i x hx
 have ht:=zA t (i + 1) (es.length + 2 - (i + 1))
 rw [bn (aa hi (aM _ _)),h] at ht
 have ht2:(rdN t (i + 1)).1=((es.map fun x=>(x.1,x.2.2)).map fun x=>(x.1,t.length - x.2)).take (i + 1):=by
  rw [ht]
  exact cO (by rw [ag,ag];exact hi)
 constructor
 ·unfold tk
  rw [ht2,← eG,← eG,fc,fc]
  have e:(tl es (i + 1)).length=x.2.1:=by rw [c1,aP,bl c2]
  exact e
 ·have e1:(rdN t (i + 1)).1[i]?=some ((tok (rdN t i).2).1,(rdN t (i + 1)).2.length):=by
   show ((rdN t i).1++[_])[i]?=_
   rw [bf (by rw [nv];exact av _),nv,cw];rfl
  rw [ht2,cP,if_pos (bv i),aN,aN,hx] at e1
  exact (congrArg Prod.snd (aq e1)).symm
theorem FI.look {ls t g:List Nat} {es:List (List Nat×Nat×Nat)} {o:Bool} (F:FI ls ls.length o t es g) {P:Nat} (h0:0 < P) (hP:P≤ls.length):
  ∃ e0 r,(es.filter fun x=>decide (P≤x.2.1)).map (·.2.2)=e0 :: r∧e0≤t.length∧∀ s x,y3 t (es.length + 2) P s x→x=(s,t.length - e0):=by
 have hne:∃ x∈es,P≤x.2.1:=by
  cases hes:es.getLast? with
  | none=>
   have:=F.mean
   rw [List.getLast?_eq_none_iff.mp hes,cC] at this
   have e:ls=[]:=this.symm
   rw [e] at hP
   exact absurd h0 (b7.mpr hP)
  | some x=>
   obtain ⟨a,ea⟩:=List.getLast?_eq_some_iff.mp hes
   refine ⟨x,by rw [ea];simp,?_⟩
   have hx:es[a.length]?=some x:=by rw [ea,bf (av _),cw];rfl
   obtain ⟨c1,c2⟩:=F.cnt _ x hx
   have e:tl es (a.length + 1)=ls:=by
    unfold tl
    rw [aG (by rw [ea,af];exact av _),F.mean,cC]
   rw [e] at c1
   have:=congrArg dA c1
   rw [aP,bl c2] at this
   rw [← this];exact hP
 cases hf:es.find? fun x=>decide (P≤x.2.1) with
 | none=>
  obtain ⟨x,hx,hxP⟩:=hne
  have:=List.find?_eq_none.mp hf x hx
  rw [decide_eq_true hxP] at this
  exact absurd rfl this
 | some x0=>
  obtain ⟨h1,as,bs,e,h2⟩:=List.find?_eq_some_iff_append.mp hf
  have h1:P≤x0.2.1:=of_decide_eq_true h1
  have hx0:es[as.length]?=some x0:=by rw [e,bf (av _),cw];rfl
  obtain ⟨q1,q2⟩:=F.at hx0
  have hfe:es.filter (fun x=>decide (P≤x.2.1))=x0 :: bs.filter fun x=>decide (P≤x.2.1):=by
   rw [e,gn,d7.mpr (fun a ha h=>by (have:=h2 a ha;rw [h] at this;cases this)),aw,gC,if_pos (decide_eq_true h1)]
  refine ⟨x0.2.2,_,by rw [hfe];rfl,F.good.ends _ (aA.mpr ⟨x0,by rw [e];simp,rfl⟩),fun s x ⟨k,hk,hl,hg,hx⟩=>?_⟩
  have hk2:k=as.length + 1:=by
   refine bM ?_ ?_
   ·refine bc fun hn=>?_
    have:=hl (as.length + 1) (d4 hn)
    rw [q1] at this
    exact absurd h1 (eO.mpr this)
   ·refine bc fun hn=>?_
    have hn:=d4 hn
    rcases k with _ | i
    ·exact absurd h0 (b7.mpr hg)
    ·have hi:i < as.length:=fG hn
     have hxi:es[i]?=some as[i]:=by rw [e,bH hi,ak hi]
     rw [(F.at hxi).1] at hg
     have:=h2 _ (bq hi)
     rw [decide_eq_true hg] at this
     cases this
  rw [hx,hk2,q2]
noncomputable abbrev uA:Obj:={ cls:=.none,dict:=none,data:=.freed }
theorem get?_freed (h:Heap) (L:Addr):(h.update L fun _=>uA).get? L=none:=by
 cases e:(h.update L fun _=>uA).get? L with
 | none=>rfl
 | some o=>
  obtain ⟨e1,e2⟩:=Heap.get?_some_iff.mp e
  obtain ⟨objs,l⟩:=h
  simp only [Heap.update,Array.getElem?_modify,if_true] at e1
  obtain ⟨o',_,rfl⟩:=di.mp e1
  cases e2
noncomputable def lE (h:Heap) (L₀ L₁:Addr):Heap:=(h.update L₀ fun _=>uA).update L₁ fun _=>uA
theorem yh {h:Heap} {L₀ L₁ b:Addr} (h0:b≠L₀) (h1:b≠L₁):(lE h L₀ L₁).get? b=h.get? b:=by
 unfold lE
 rw [Heap.get?_update_other _ _ (Ne.symm h1),Heap.get?_update_other _ _ (Ne.symm h0)]
theorem A4 (h:Heap) (L₀ L₁:Addr):(lE h L₀ L₁).get? L₁=none:=get?_freed _ _
theorem A5 (h:Heap) (L₀ L₁:Addr):(lE h L₀ L₁).get? L₀=none:=by
 by_cases e:L₀=L₁
 ·rw [e];exact get?_freed _ _
 ·unfold lE
  rw [Heap.get?_update_other _ _ (Ne.symm e)];exact get?_freed _ _
theorem wV (h:Heap) (L₀ L₁:Addr):(lE h L₀ L₁).StaysIn h:=fun b o e=>by
 have h0:b≠L₀:=fun q=>by rw [q,A5] at e;cases e
 have h1:b≠L₁:=fun q=>by rw [q,A4] at e;cases e
 rwa [yh h0 h1] at e
theorem uS {prog:Program} {w:World} {A:Around} {E:Value→Shared→Prop} {s:Shared} {env:Env} {X N I:String} {x:Str} {np pos:Pos} {Q:Flow→Shared→Prop} (hh:A.handled=none) (hc:ExcClass X N I) (hf:ExcCallFacts X N I)
  (hself:isSubtype (.type X) (.type X)=pure true)
  (hx:wpAny (model prog w) A (eval (.Name x np) env) (fun v s₁=>v=.type X∧s₁=s) E s)
  (h:∀ h' e,Heap.MadeExc s.heap h' e X []→E (.ref e) { s with heap:=h' }):
  wpAny (model prog w) A (exec (.Raise (some (.Name x np)) none pos) env) Q E s:=by
 show wpAny (model prog w) A (do standAt pos;raiseStmt env (some (do let v ← eval (.Name x np) env;standAt pos;pure v)) none) Q E s
 refine wpAny_bind (wpAny_standAt ?_)
 unfold raiseStmt
 dsimp only
 refine wpAny_bind (wpAny_bind (wpAny_mono hx (fun v s₁ h₁=>wpAny_bind (wpAny_standAt (wpAny_pure ?_))) fun _ _ e=>e))
 obtain ⟨rfl,hs₁⟩:=h₁
 subst s₁
 refine wpAny_bind (wpAny_pure ?_)
 dsimp only
 refine wpAny_bind (wpAny_holding ?_)
 unfold excFromValue isExcClass
 refine wpAny_bind (wpAny_bind (wpAny_pure ?_))
 simp only [if_true]
 rw [hc.base]
 refine wpAny_pure ?_
 simp only [if_true]
 refine wpAny_bind (wpAny_call_exc hf fun h' e hm=>?_)
 obtain ⟨t,he,_⟩:=hm.there
 have hT:({ s with heap:=h' }:Shared).TypeIs (.ref e) X:=⟨_,he,rfl⟩
 refine wpAny_bind (wpAny_isInstance hT hc.base ?_)
 simp only [Bool.not_true,bJ,if_false]
 refine wpAny_pure ?_
 refine wpAny_bind (m:=isType (.type X)) (wpAny_pure ?_)
 rw [if_pos rfl]
 refine wpAny_bind (wpAny_holding ?_)
 unfold raisedFor
 refine wpAny_bind (wpAny_typeOf hT ?_)
 refine wpAny_bind (call_issubclass (issubclass_self hc hself) ?_)
 refine wpAny_bind (wpAny_truthy_bool ?_)
 dsimp only
 rw [if_pos rfl]
 refine wpAny_pure ?_
 unfold setFlight raiseNew
 refine wpAny_bind (wpAny_bind (wpAny_field (i:=1) (x:=Value.none) he rfl rfl ?_))
 rw [if_neg (by decide)]
 refine wpAny_pure (wpAny_bind (wpAny_handled ?_))
 rw [hh]
 exact wpAny_bind (wpAny_pure (wpAny_throw (h h' e hm)))
structure nW (env:Env) (L:Addr) (σ:ij) (h:Heap) (σ':ij) (h':Heap):Prop where
 keep:∀ a o,h.get? a=some o→σ a=none→a∉C.tabs→¬ lh env a→a≠L→h'.get? a=some o
 free:∀ a o,h.get? a=some o→σ a=none→a∉C.tabs→¬ lh env a→a≠L→σ' a=none
 cell:∀ c v,σ c=some (.cell v)→∃ v',σ' c=some (.cell v')
 ns:∀ m,h.Ns L m→h'.Ns L m
 n0:σ' L=none
structure nX (env:Env) (L:Addr) (σ:ij) (h:Heap):Prop where
 ns:∃ m,h.Ns L m
 n0:σ L=none
 nt:L∉C.tabs
 lo:C.h1.objs.size≤L
 ne:L≠env.locals
 nc:∀ x c,env.cells.lookup x=some c→c≠L
section
variable {K:Kx} {ρ:Fm} {σ:ij} {env:Env} {L:Addr}
theorem nX.foot {h:Heap} (a:nX env L σ h):¬ lh env L:=fun q=>q.elim a.ne fun ⟨x,_,q⟩=>a.nc x L q rfl
theorem nW.of {σ':ij} {h h':Heap} (a:nX env L σ h) (x:jz env σ h σ' h'):nW env L σ h σ' h':=
 ⟨fun b o e hs ht hf _=>x.keep b o e hs ht hf,fun b o e hs ht hf _=>x.free b o e hs ht hf,x.cell,fun m y=>nC y fun o e=>x.keep L o e a.n0 a.nt a.foot,a.ns.elim fun _ y=>y.elim fun o z=>z.elim fun _ z=>z.elim fun _ z=>x.free L o z.1 a.n0 a.nt a.foot⟩
theorem nW.trans {σ₁ σ₂:ij} {h h₁ h₂:Heap} (x:nW env L σ h σ₁ h₁) (y:nW env L σ₁ h₁ σ₂ h₂):nW env L σ h σ₂ h₂:=
 ⟨fun b o e hs ht hf hl=>y.keep b o (x.keep b o e hs ht hf hl) (x.free b o e hs ht hf hl) ht hf hl,fun b o e hs ht hf hl=>y.free b o (x.keep b o e hs ht hf hl) (x.free b o e hs ht hf hl) ht hf hl,
  fun c v e=>(x.cell c v e).elim fun _ e'=>y.cell c _ e',fun m z=>y.ns m (x.ns m z),y.n0⟩
theorem nX.next {σ':ij} {h h':Heap} (a:nX env L σ h) (x:nW env L σ h σ' h'):nX env L σ' h':=⟨a.ns.elim fun m y=>⟨m,x.ns m y⟩,x.n0,a.nt,a.lo,a.ne,a.nc⟩
theorem Ci {h:Heap} {a:Addr} {m m':Str→Option Value} (h1:h.Ns a m) (h2:h.Ns a m') (x:Str):m x=m' x:=by
 refine bc fun hbc=>?_
 obtain ⟨o,es,ep,e,d,_,f⟩:=h1
 obtain ⟨o',es',ep',e',d',_,f'⟩:=h2
 refine hbc ?_
 clear hbc
 obtain rfl:=aq (e.symm.trans e')
 rw [d] at d';cases d'
 rw [← f x,← f' x]
theorem back {s s':Shared} (a:nX env L σ s.heap) (hr:Rep K env ρ σ s.heap) (hi:Inv σ s) (hst:(lE s.heap L env.locals).StaysIn s'.heap) (hu:s.heap.UpToSlots s'.heap) (hg:s'.gens=s.gens) (ho:s'.os=s.os):
  Rep K env ρ σ s'.heap∧Inv σ s'∧nW env L σ s.heap σ s'.heap:=by
 refine bc fun hbc=>?_
 obtain ⟨m,hm⟩:=a.ns
 obtain ⟨o,es,ep,e1,e2,e3⟩:=id hm
 obtain ⟨sl,e4⟩:=hu L o e1 fun vs q=>(jW (e2.symm.trans q) rfl).elim
 refine hbc ?_
 clear hbc
 have k:∀ b o,b≠L→b≠env.locals→s.heap.get? b=some o→s'.heap.get? b=some o:=fun b o h0 h1 e=>hst b o ((yh h0 h1).trans e)
 obtain ⟨hm2,ehm⟩:∃ hm2,s.heap.update L (fun _=>{ o with slots:=sl })=hm2:=⟨_,rfl⟩
 have g0:hm2.get? L=some { o with slots:=sl }:=by rw [← ehm];exact Heap.get?_update_self _ e1 (Obj.isFreed_of_dict e2)
 have g1:∀ b,b≠L→hm2.get? b=s.heap.get? b:=fun b hb=>by rw [← ehm];exact Heap.get?_update_other _ _ (Ne.symm hb)
 have P0:ji σ L s.heap hm2:=ji.ofNs (env:={ env with locals:=L }) hm a.n0 a.lo fun b o hb e=>(g1 b hb).trans e
 have hl:∃ m,hm2.Ns env.locals m:=hr.loc.elim fun m y=>⟨m,nC y fun o e=>(g1 _ (Ne.symm a.ne)).trans e⟩
 have P1:ji σ env.locals hm2 s'.heap:=hl.elim fun m' y=>ji.ofNs y hr.locF.1 hr.locF.2.2 fun b o hb e=>by
  by_cases h:b=L
  ·subst h
   rw [g0] at e
   rw [← aq e];exact e4
  ·exact k b o h hb ((g1 b h).symm.trans e)
 refine ⟨(hr.pokeNe P0 (Ne.symm a.ne) a.nc).pokeNs P1 (fun m' y=>⟨m',hu.ns (nC y fun o e=>(g1 _ (Ne.symm a.ne)).symm.trans e),fun _ _=>rfl⟩) fun x c hc q=>(hr.cells x c hc).ne q.symm,
  (hi.poke (s':={ s with heap:=hm2 }) P0 rfl rfl).poke P1 hg ho,⟨fun b o e _ _ hf hl=>k b o hl (fun q=>hf (.inl q)) e,fun _ _ _ hs _ _ _=>hs,fun c v e=>⟨v,e⟩,fun m' y=>hu.ns y,a.n0⟩⟩
theorem yG {A:Around} {n:Str} {pos:Pos} {s:Shared} (hk:K.names.lookup n=some .local) (hr:Rep K env ρ σ s.heap) (hi:Inv σ s) (hf:∀ p∈ρ,p.1≠n) {QM:Unit→Shared→Prop} (hq:∀ s',Rep K env ρ σ s'.heap→Inv σ s'→jz env σ s.heap σ s'.heap→QM () s'):
  wpAny (model C.prog C.w) A (do bindName env n .none;unbindBehindTheSuite env n pos) QM Bot s:=by
 obtain ⟨m,hm⟩:=hr.loc
 refine wpAny_nameGoes_keeps ((congrArg (·.lookup n) hr.names).trans hk) hm (by rw [hr.kind];rfl) fun h' v hn sb=>?_
 have P:=ji.ofNs hm hr.locF.1 hr.locF.2.2 sb.extBut
 refine hq { s with heap:=h',toks:=s.toks + 1 } (hr.pokeNs P (fun m' y=>⟨_,hn,fun p hp=>?_⟩) fun x c hc q=>(hr.cells x c hc).ne q.symm) (hi.poke (s':={ s with heap:=h',toks:=s.toks + 1 }) P rfl rfl) ⟨fun b o e _ _ hf=>P.keep b o (fun q=>hf (.inl q)) e,fun _ _ _ hs _ _=>hs,fun c v e=>⟨v,e⟩⟩
 rw [if_neg (hf p hp)]
 exact Ci hm y p.1
end
section
variable {K:Kx} {ρ:Fm} {σ:ij} {d:Nat}
theorem vL {f:Addr} {R:FnRec} {code:Value} {body:List Stmt} {names:List Str} {args:List V} (hf:FnB f R code) (hbind:iH R names) (hck:fnB R names=true) (hb:R.body=.stmts body) (hρ:pslots names args=ρ) (hlen:args.length=names.length)
  {A:Around} {s:Shared} {vs:List Value} (ha:AOk (d + 1) A) (hi:Inv σ s) (hr:iF σ s.heap vs args) {RR:Result→Shared→Prop} (k:∀ env s',y4 (kE R code d) ρ σ s env s'→r7 A env body RR s'):codeAny (model C.prog C.w) A (.call (.ref f) ⟨vs,[]⟩) RR s:=by
 walk_at "u"; obtain ⟨h1,h2,h3,h4,h5,h6⟩:=fnB.use hck;walk_at "v"
 subst hρ
 exact o6 B.ok2 (caps:=[]) (cap:=[]) hb hbind h4 hlen h5 h6 (fun x c e=>by simp at e) (fun x y c e=>by simp at e) (fun p hp=>by cases hp) h1 h2 h3 ha hi hr (hf.at hi) (by simpa using k)
theorem An {base:Heap} {l:List Env} {env:Env} {s s':Shared} (hkb:base.StaysIn s.heap) (hl:s.heap.FunFrames base l) (x:y4 K ρ σ s env s'):s'.heap.FunFrames base (env :: l):=by
 walk_at "u"; obtain ⟨m,o,es,ep,ho,hd,_⟩:=x.rep.loc;walk_at "v"
 refine ⟨by rw [x.rep.kind];decide,⟨env.locals,o,x.frame,?_,ho,fun vs q=>(jW (hd.symm.trans q) rfl).elim⟩,hl.of_keeps fun b o e _=>⟨o,x.keep b o e,rfl⟩⟩
 cases q:base.get? env.locals with
 | none=>rfl
 | some o'=>exact absurd (x.new.symm.trans (hkb _ _ q)) (al _).symm
noncomputable abbrev ZD:String := "ZeroDivisionError"
theorem wK {A:Around} {s:Shared} {base:Heap} {l:List Env} {a:Int} (ha:AOk (d + 1) A) (hi:Inv σ s) (hfr:A.frames=some l) (hkb:base.StaysIn s.heap) (hl:s.heap.FunFrames base l) {vs:List Value} (hr:iF σ s.heap vs [.int a,.int 0]) {E:Value→Shared→Prop}
  (hE:∀ s' e t,Heap.FlyingW base l e (.type ZD) (.ref t) s'.heap→s'.heap.TupAt t []→s.heap.UpToSlots s'.heap→s'.gens=s.gens→s'.os=s.os→E (.ref e) s'):
  codeAny (model C.prog C.w) A (.call (.ref ju) ⟨vs,[]⟩) (fun r s'=>match r with | .error e=>E e s' | .ok _=>False) s:=by
 refine vL B.f_int_divmod j2 j0 rfl rfl rfl ha hi hr fun env s' x=>?_
 have hF:=An hkb hl x
 have hkb':base.StaysIn s'.heap:=fun b o e=>x.keep b o (hkb b o e)
 unfold r7
 conv=>arg 3;arg 1;whnf
 have hrep:Rep (kE kd mL d) env [("a", .val (.int a)),("b", .val (.int 0))] σ s'.heap:=x.rep
 refine wpAny_execs_cons (wpAny_If (lD (wpAny_isTrue_Compare1 (wpAny_Name (jL (x := "b") (pv:=.int 0) (by walk_at "mem") hrep fun v hv=>?_)))))
 obtain ⟨t,e0⟩:=Rel.inv hv
 subst e0
 refine wpAny_Constant_int (P.eq_int (wpAny_truthy_bool (ifp rfl ?_)))
 have hi2:Inv σ { s' with toks:=s'.toks + 1 }:=x.inv.toks
 have hg:=B.ok2
 refine wpAny_execs_cons (uS ha.1 excClass_ZeroDivisionError F.excCall_ZeroDivisionError (isSubtype_of_subB (by decide +kernel)) (Name_function_global hrep.kind ((congrArg (·.lookup ("ZeroDivisionError" : Str)) hrep.names).trans (by kernel_rfl)) (loadGlobal_builtin (hrep.glob ▸ hi2.ns hg.g hg.gt) B.n_ZeroDivisionError (hrep.blt ▸ hi2.ns hg.b hg.bt) B.b_ZeroDivisionError ⟨rfl,rfl⟩)) fun h' e hm=>?_)
 refine wpAny_leaves_madeW (base:=base) (h:=s'.heap) (outer:=l) (by show A.frames.map _=_;rw [hfr];rfl) x.frame hkb' hF ⟨hm.keeps,hm.new,hm.there⟩ fun h₂ t' hfl ht _ hu=>?_
 exact hE _ e t' hfl ht (((Heap.UpToSlots.of_keeps x.keep).trans (.of_keeps hm.keeps)).trans hu) (x.inv.gens.trans hi.gens.symm) (x.inv.os.trans hi.os.symm)
end
noncomputable def CP (k:Nat):List Stmt:=match iT.body with | .stmts b=>b.drop k | _=>[]
noncomputable abbrev AI (d:Nat):Kx:=kE iT lQ d
theorem ni {α:Type} {M:Model} {A:Around} {m:Sem α} {Q:α→Shared→Prop} {E:Value→Shared→Prop} {s:Shared} (h:wpAny M A m (fun _ _=>False) E s):wpAny M A m Q E s:=wpAny_mono h (fun _ _ x=>x.elim) fun _ _ x=>x
inductive DB (base:Heap) (l:List Env) (s:Shared) (v:Value) (s':Shared):Prop
 | mk (e t:Addr) (hv:v=.ref e) (hfl:Heap.FlyingW base l e (.type ZD) (.ref t) s'.heap) (ht:s'.heap.TupAt t []) (hu:s.heap.UpToSlots s'.heap) (hg:s'.gens=s.gens) (ho:s'.os=s.os)
theorem y9 {α:Type} {M:Model} {A:Around} {m:Sem α} {E E':Value→Shared→Prop} {Q:α→Shared→Prop} {s:Shared} (h:wpAny M A m (fun _ _=>False) E' s) (k:∀ e s',E' e s'→E e s'):wpAny M A m Q E s:=wpAny_mono h (fun _ _ x=>x.elim) k
section
variable {ρ:Fm} {σ:ij} {d:Nat}
theorem CM {D:Addr} (hD:σ D=some (.list [.bool true,.bool true,.bool true])):ExP (AI d) [("good", .val (.loc D))] σ (CP 4) (fun fl _ σ'=>fl=.ret (.bool true)∧σ'=upd σ D none):=by
 conv=>arg 4;whnf
 refine jO (x := "good") (r':=?_) hD ?_ ?_ ?_;rotate_left
 ·walk_at "mem"
 ·walk_at "rest"
 walk_at "go"
 show M2 _ _ _ _ _ _
 refine oQ (.bool _) (.lst (ds:=(aC 3 true).map PyData.bool) (oO (f:=fun b=>b) (aC 3 true))) rfl (lq _) (by decide) ?_
 walk_at "go"
 exact ⟨rfl,rfl⟩
theorem CO {A:Around} {env envL:Env} {s:Shared} {D L:Addr} {a:Int} (ha:AOk (d + 1) A) (hr:Rep (AI (d + 1)) env [("good", .val (.loc D)),("above", .val (.int a)),("below", .val (.int 0)),("word", .val (.str []))] σ s.heap) (hi:Inv σ s)
  (hD:σ D=some (.list [.bool true,.bool true])) (as:nX env L σ s.heap) (hfr:A.frames=some [env,envL]) (hf:env.frame=some env.locals) (hkL:envL.scope.kind=.function) (hfL:envL.frame=some L) {QM:Flow→Shared→Prop}
  (hq:∀ s',Inv (upd σ D none) s'→nW env L σ s.heap (upd σ D none) s'.heap→QM (.ret (.bool true)) s'):wpAny (model C.prog C.w) A (execs (CP 3) env) QM Bot s:=by
 conv=>arg 3;arg 1;whnf
 have hg:=B.ok2
 have hst:=wV s.heap L env.locals
 have hFF:s.heap.FunFrames (lE s.heap L env.locals) [env,envL]:=by
  refine bc fun hbc=>?_
  obtain ⟨_,o,_,_,e,hd,_⟩:=hr.loc
  obtain ⟨_,o',_,_,e',hd',_⟩:=as.ns
  refine hbc ?_
  clear hbc
  exact ⟨by rw [hr.kind];decide,⟨_,o,hf,A4 _ _ _,e,fun vs q=>(jW (hd.symm.trans q) rfl).elim⟩,by rw [hkL];decide,⟨_,o',hfL,A5 _ _ _,e',fun vs q=>(jW (hd'.symm.trans q) rfl).elim⟩,trivial⟩
 refine wpAny_execs_cons (wpAny_Try_except (y9 (E':=DB (lE s.heap L env.locals) [env,envL] s) (wpAny_execs_cons (ni (wpAny_Expr_any ?_ (by unfold interactive;rw [hr.kind];rfl) rfl))) fun v s₁ hfl=>?_))
 ·refine wpAny_Call_method rfl (by rfl) rfl meth_append.pa meth_append.slot meth_append.ty (wpAny_Name (lD (jL (x := "good") (pv:=.loc D) (by walk_at "mem") hr fun v hv=>?_)))
  walk_at "u"; obtain ⟨items,n,hl,_⟩:=(hi.own D _ hD).2;walk_at "v"
  obtain rfl:=Rel.inv hv
  refine ⟨⟨_,hl,rfl⟩,fun b e=>by cases e;exact ⟨_,hl,rfl⟩,jt (ni ?_)⟩
  refine js rfl (Calls.spliced_cons (ni (wpAny_Compare1 (ni (wpAny_Call_NameR (Name_function_global hr.kind ((congrArg (·.lookup ("int_divmod" : Str)) hr.names).trans (by kernel_rfl)) (loadGlobal_global (hr.glob ▸ hi.ns hg.g hg.gt) B.g_int_divmod (jt ?_))))))))
  refine js rfl (Calls.spliced_cons (wpAny_Name (lD (jL (x := "above") (pv:=.int a) (by walk_at "mem") hr fun v1 hv1=>Calls.spliced_cons (wpAny_Name (lD (jL (x := "below") (pv:=.int 0) (by walk_at "mem") hr fun v2 hv2=>Calls.spliced_nil ⟨fun E Q hk=>B.f_int_divmod.keep s _ hi (.raw _) _ _ E Q hk,?_⟩)))))))
  exact wpAny_call (codeAny_mono (wK ha hi hfr hst hFF (.cons hv1 (.cons hv2 .nil)) fun s' e t h1 h2 h3 h4 h5=>DB.mk e t rfl h1 h2 h3 h4 h5) fun r s' h=>by
   cases r with
   | ok f=>exact h.elim
   | error e=>exact h)
 ·walk_at "u"; obtain ⟨e,t,e0,hfl,ht,hu,hg1,ho1⟩:=hfl;walk_at "v"
  subst e0
  refine wpAny_looks_onW hfr hf hfl fun h₂ hh hu2=>wpAny_landsW hh fun h₃ hfl3 hu3=>?_
  have hu3':s.heap.UpToSlots h₃:=(hu.trans hu2).trans hu3
  obtain ⟨hr3,hi3,ey3⟩:=back (s':={ s₁ with heap:=h₃ }) as hr hi hfl3.1 hu3' hg1 ho1
  refine wpAny_handleBy_builtin_as (X:=ZD) (T:=ZD) (b:=true) (isSubtype_of_subB (by decide +kernel)) (isSubtype_of_subB (by decide +kernel)) (isSubtype_of_subB (by decide +kernel)) ?_
  refine Name_function_global hr3.kind ((congrArg (·.lookup ("ZeroDivisionError" : Str)) hr3.names).trans (by kernel_rfl)) (loadGlobal_builtin (hr3.glob ▸ hi3.ns hg.g hg.gt) B.n_ZeroDivisionError (hr3.blt ▸ hi3.ns hg.b hg.bt) B.b_ZeroDivisionError ⟨rfl,hfl3.there,?_⟩)
  rw [if_pos rfl]
  refine wpAny_setFlight_noneW hfl3.1 hfl3.2.2.1 hfl3.2.2.2.at fun h₄ k1 k2 k3 k4=>?_
  have hu4:s.heap.UpToSlots h₄:=hu3'.trans fun b o e hn=>⟨o.slots,k4 b o e hn⟩
  obtain ⟨hr4,hi4,ey4⟩:=back (s':={ s₁ with heap:=h₄ }) as hr hi k1 hu4 hg1 ho1
  refine lD (j5 (x := "error") (v:=.ref e) (pv:=.raw (.ref e)) (by kernel_rfl) hr4 hi4 (.raw _) (upd_mkN (by kernel_rfl)) fun s₅ hr5 hi5 eL=>?_)
  refine lD ?_
  have hne:∀ b o,(∀ es ep,o.data≠.dict es ep)→h₄.get? b=some o→b≠env.locals:=fun b o hd e q=>by
   walk_at "u"; obtain ⟨_,o',es,ep,e',hd',_⟩:=hr4.loc;walk_at "v"
   subst q
   obtain rfl:=aq (e.symm.trans e')
   exact hd es ep hd'
  have hX:s₅.heap.ExcAt e ZD (.ref t):=by
   walk_at "u"; obtain ⟨oe,vs,_,_,_,he,⟨hc,h0⟩,hd,_⟩:=k3;walk_at "v"
   exact ⟨oe,vs,eL.keep e oe (hne e oe (fun es ep q=>(jW (hd.symm.trans q) rfl).elim) he) he,hc,hd,h0⟩
  have hT:s₅.heap.TupAt t []:=by
   walk_at "u"; obtain ⟨o,n,e1,hc,hd⟩:=Heap.TupAt.of_slots ht (hu2.trans hu3);walk_at "v"
   have e4:=k4 t o e1 fun vs q=>(jW (hd.symm.trans q) rfl).elim
   exact ⟨o,n,eL.keep t o (hne t o (fun es ep q=>(jW (hd.symm.trans q) rfl).elim) e4) e4,hc,hd⟩
  have hui:=ha.2.2
  obtain ⟨items,n,hl,hrs⟩:∃ items n,s₅.heap.get? D=some (lstO items n)∧iF σ s₅.heap items.toList [.bool true,.bool true]:=(hi5.own D _ hD).2
  have key:∀ (hpos:Pos) (s₈:Shared),s₈.heap=s₅.heap→s₈.gens=s₅.gens→s₈.os=s₅.os→wpAny (model C.prog C.w) (A.mark (some (.ref e))) (PySem.call (.builtin "list.append") [.ref D,.bool true])
    (fun _ s'=>wpAny (model C.prog C.w) A (do bindName env "error" .none;unbindBehindTheSuite env "error" hpos) (fun _ s'=>wpAny (model C.prog C.w) A (execs (CP 4) env) QM Bot s') Bot s') Bot s₈:=fun hpos s₈ h8 hg8 ho8=>by
   obtain ⟨h9,g9,d9,t9,o9⟩:=s₈
   dsimp only at h8 hg8 ho8
   subst h8 hg8 ho8
   refine append_at hl (fun h' sb ho'=>?_) (by rw [← Array.length_toList,hrs.length];decide)
   walk_at "u"; obtain ⟨i9,e9⟩:=lU (tk:=t9) (s:={ s₅ with drawn:=d9,toks:=t9 }) ⟨hi5.base,hi5.top,hi5.own,hi5.tabLt,hi5.tabs,hi5.gens,hi5.os⟩ hD sb.extBut ho' (vs':=[.bool true,.bool true,.bool true]) (by simpa using hrs.append (.cons (.bool true) .nil));walk_at "v"
   have as4:=as.next ey4
   have ey5:=ey4.trans (nW.of as4 (σ':=σ) (h':=s₅.heap) ⟨fun b o e _ _ hf=>eL.keep b o (fun q=>hf (.inl q)) e,fun _ _ _ hs _ _=>hs,fun c v e=>⟨v,e⟩⟩)
   have ey9:=ey5.trans (nW.of (as.next ey5) e9.toF)
   refine yG (K:=AI (d + 1)) (ρ:=[("good", .val (.loc D)),("above", .val (.int a)),("below", .val (.int 0)),("word", .val (.str []))]) (by kernel_rfl) ((hr5.mono e9).sub fun p hp=>ai _ hp) i9 (fun p hp=>?_) fun s₁₀ hr10 hi10 e10=>?_
   ·simp only [am,bj,or_false] at hp
    rcases hp with rfl | rfl | rfl | rfl
    ·exact (by decide:("good" : Str) ≠ "error")
    ·exact (by decide:("above" : Str) ≠ "error")
    ·exact (by decide:("below" : Str) ≠ "error")
    ·exact (by decide:("word" : Str) ≠ "error")
   have ey10:=ey9.trans (nW.of (as.next ey9) e10)
   refine CM (d:=d + 1) (D:=D) (ik ..) A env s₁₀ ha (hr10.sub fun p hp=>by obtain rfl:=br.mp hp;exact ao) hi10 _ fun f fl ρ' σ' s' q rf _ i' e'=>?_
   obtain ⟨e0,e1⟩:=q
   subst e0 e1
   have ey11:=ey10.trans (nW.of (as.next ey10) e')
   rw [jk] at i' ey11
   cases f with
   | ret v=>
    obtain rfl:=Rel.inv rf
    exact hq s' i' ey11
   | _=>exact rf.elim
  refine wpAny_execs_cons (wpAny_Expr_any (wpAny_Call_method rfl (by rfl) rfl meth_append.pa meth_append.slot meth_append.ty (wpAny_Name (jL (x := "good") (pv:=.loc D) (by walk_at "mem") hr5 fun v hv=>?_))) (by unfold interactive;rw [hr5.kind];rfl) rfl)
  obtain rfl:=Rel.inv hv
  refine ⟨⟨_,hl,rfl⟩,fun b e=>by cases e;exact ⟨_,hl,rfl⟩,jt ?_⟩
  refine js rfl (Calls.spliced_cons (BoolOp_and (wpAny_Compare1 (wpAny_Name (jL (x := "word") (pv:=.str []) (by walk_at "mem") hr5 fun v1 hv1=>?_)))))
  obtain ⟨t1,e1⟩:=Rel.inv hv1
  subst e1
  obtain ⟨s₆,e6⟩:∃ s₆:Shared,{ s₅ with toks:=s₅.toks + 1 }=s₆:=⟨_,rfl⟩
  have hi6:Inv σ s₆:=by rw [← e6];exact hi5.toks
  have hr6:=hr5
  rw [show s₅.heap=s₆.heap by rw [← e6]] at hr6 hX hT
  refine wpAny_Constant_str (P.eq_str (wpAny_truthy_bool (ifp (by decide +kernel) (BoolOp_one (wpAny_Compare1 (wpAny_Call_NameR (e6 ▸ Name_function_global hr6.kind ((congrArg (·.lookup ("str" : Str)) hr6.names).trans (by kernel_rfl)) (loadGlobal_builtin (hr6.glob ▸ hi6.ns hg.g hg.gt) B.n_str (hr6.blt ▸ hi6.ns hg.b hg.bt) B.b_str (jt ?_)))))))))
  refine js rfl (Calls.spliced_cons (wpAny_Name (jL (x := "error") (pv:=.raw (.ref e)) (by walk_at "mem") hr6 fun v2 hv2=>Calls.spliced_nil ⟨fun E Q hk=>keep_type (σ:=σ) _ _ hi6 (.raw _) _ _ E Q hk,?_⟩)))
  obtain rfl:=Rel.inv hv2
  refine P.str_of_exc_none F.excStr_ZeroDivisionError (by show A.units + 2 < 9900;omega) hX hT (wpAny_Constant_str (P.eq_str ?_))
  refine Calls.spliced_nil ⟨fun E Q hk=>keep_builtin (σ:=σ) _ _ hi6.toks.toks (.raw _) _ _ E Q hk,?_⟩
  refine wpAny_mono (key _ _ (by rw [← e6]) (by rw [← e6]) (by rw [← e6])) (fun _ s' h=>wpAny_execs_nil h) fun _ _ x=>x
end
theorem yQ (l₁ l₂:List Stmt) (env:Env):execs (l₁++l₂) env=(do match ← execs l₁ env with | .next=>execs l₂ env | f=>pure f):=by
 induction l₁ with
 | nil=>rw [aw,show execs [] env=pure .next from rfl,pure_bind]
 | cons st l ih=>
  rw [ar,execs_cons,execs_cons,bind_assoc]
  congr 1
  funext f
  cases f
  ·exact ih
  all_goals rfl
theorem za {M:Model} {A:Around} {l₁ l₂:List Stmt} {env:Env} {Q:Flow→Shared→Prop} {E:Value→Shared→Prop} {s:Shared} (h:wpAny M A (execs l₁ env) (fun f s'=>match f with | .next=>wpAny M A (execs l₂ env) Q E s' | f=>Q f s') E s):wpAny M A (execs (l₁++l₂) env) Q E s:=by
 rw [yQ]
 refine wpAny_bind (wpAny_mono h (fun f s' h=>?_) fun _ _ x=>x)
 cases f
 ·exact h
 all_goals exact wpAny_pure h
theorem Ax {K:Kx} {ρ:Fm} {σ:ij} {A:Around} {env:Env} {s:Shared} {l₁ l₂:List Stmt} {P:Fm→ij→Prop} (ha:AOk K.d A) (hr:Rep K env ρ σ s.heap) (hi:Inv σ s) (h:ExP K ρ σ l₁ (fun fl ρ' σ'=>fl=.next∧P ρ' σ')) {QM:Flow→Shared→Prop}
  (k:∀ ρ' σ' s',P ρ' σ'→Rep K env ρ' σ' s'.heap→Inv σ' s'→jz env σ s.heap σ' s'.heap→wpAny (model C.prog C.w) A (execs l₂ env) QM Bot s'):wpAny (model C.prog C.w) A (execs (l₁++l₂) env) QM Bot s:=
 za (h A env s ha hr hi _ fun f fl ρ' σ' s' q rf hr' hi' e'=>by
  obtain ⟨e0,q⟩:=q
  subst e0
  cases f with
  | next=>exact k ρ' σ' s' q hr' hi' e'
  | _=>exact rf.elim)
noncomputable def Ft:List Stmt:=match iT.body with | .stmts b=>b.take 3 | _=>[]
section
variable {σ:ij} {d:Nat}
theorem CN (hd:95≤d) {W:Nat} (hW:5≤W) (hW2:W≤1200):ExP (AI d) [("word", .val (.str [])),("told", .val (.str [])),("stands", .val (.str [])),("width", .val (.int (W:Nat)))] σ Ft
  (fun fl ρ' σ'=>fl=.next∧∃ D,σ D=none∧σ'=upd σ D (some (.list [.bool true,.bool true]))∧Has ρ' [("good", .val (.loc D)),("above", .val (.int 0)),("below", .val (.int 0)),("word", .val (.str []))]):=by
 conv=>arg 4;whnf
 simp only [cL,dj]
 have h5:1≤W:=aa (by decide) hW
 have hW11:W≤2 ^ 11:=aa hW2 (by decide)
 have hnil:InL []:=fun c hc=>by cases hc
 walk_at "go"
 refine iU (caps:=[]) (iQ (by kernel_rfl) (by walk_at "has") (by rfl)) (fun c:Nat=>V.str [c]) (fun c=>[("sign", .val (.str [c]))]) (fun c=>V.int ((c:Nat):Int)) ?_
 walk_at "go"
 refine ⟨_,_,_,.none,.none,.int _,sub_str,ux (ba _) ?_⟩
 refine ⟨[],iM.str [],by decide,(fun c hc=>nomatch hc),?_⟩
 rw [show dl (fun c:Nat=>V.int ((c:Nat):Int)) []=iS [] from rfl]
 walk_at "go"
 refine CallV.le (d:=40) (ky (av _) h5 (ds:=[]) (fun x hx=>nomatch hx) (ba _) ?_) (aa (by decide) hd)
 show uU _ _ _ (.int ((0:Nat):Int)) σ
 iterate 4 walk_at "s"
 refine lc ?_
 walk_at "go"
 refine jc (aa (by decide) hd) hnil (ba _) hW11 ?_
 walk_at "go"
 refine jc (aa (by decide) hd) hnil (ba _) hW11 ?_
 walk_at "go"
 rw [show vn W []=0 from rfl]
 refine CallV.le (d:=40) (kx (av _) h5 (aa hW2 (by decide)) (ib Nat.two_pos) ?_) (aa (by decide) hd)
 rw [show i2d W (jm W 0) 0=[] from yb W h5 [] fun x hx=>nomatch hx]
 walk_at "go"
 refine iU (caps:=[]) (iQ (by kernel_rfl) (by walk_at "has") (by rfl)) (fun c:Nat=>V.str [c]) (fun c=>[("sign", .val (.str [c]))]) (fun c=>V.int ((c:Nat):Int)) ?_
 walk_at "go"
 refine rW (ba _) ?_
 walk_at "go"
 refine ⟨_,_,_,.none,.none,.int _,sub_str,ux (ba _) ?_⟩
 refine ⟨[],iM.str [],by decide,(fun c hc=>nomatch hc),?_⟩
 rw [show dl (fun c:Nat=>V.int ((c:Nat):Int)) []=iS [] from rfl]
 show M2 _ _ _ _ _ _
 refine nN rfl (.lst (rB [])) (nr _) ?_
 walk_at "go"
 intro D hD
 walk_at "go"
 refine st_assign_swap (names:=["above", "below"]) ?_ (by intro env h1 h2;obtain ⟨⟨_,_,_,_⟩,_,_,_,_,_,_,_,_⟩:=env;dsimp only at h1 h2;subst h1 h2;kernel_rfl) (by intro _;rfl)
 walk_at "go"
 rotate_left
 ·decide
 ·exact jn (.inl (ae hW2 (by decide)))
 ·exact ba _
 ·decide
 ·exact jn (.inl (ae hW2 (by decide)))
 ·exact (show 1≤2 ^ 27 by decide)
 rw [Nat.zero_mul,show ((1 * 2 ^ (W * ([]:List Nat).length):Nat):Int) - 1=0 from rfl]
 refine ⟨_,rfl,rfl,?_⟩
 show lS _ _ _ [_,_] [_,_]
 walk_at "swp"
 walk_at "go"
 refine ⟨rfl,D,hD,rfl,?_⟩
 show Has [("above", .val (.int 0)),("below", .val (.int 0)),_,_,_,_,_,_] _
 walk_at "has"
end
theorem AH:(match iT.body with | .stmts b=>b | _=>[])=Ft++CP 3:=by kernel_rfl
section
variable {σ:ij} {d:Nat}
theorem yT (hd:95≤d) {A:Around} {envL:Env} {s:Shared} {vs:List Value} {W:Nat} {L:Addr} (hW:5≤W) (hW2:W≤1200) (ha:AOk (d + 2) A) (hi:Inv σ s) (hr:iF σ s.heap vs [.str [],.str [],.str [],.int (W:Nat)])
  (hL:∃ m,s.heap.Ns L m) (hs:σ L=none) (ht:L∉C.tabs) (hlo:C.h1.objs.size≤L) (hfr:A.frames=some [envL]) (hkL:envL.scope.kind=.function) (hfL:envL.frame=some L) {QM:Value→Shared→Prop}
  (hq:∀ s',Inv σ s'→j6 L σ s.heap σ s'.heap→(∀ m,s.heap.Ns L m→s'.heap.Ns L m)→QM (.bool true) s'):wpAny (model C.prog C.w) A (PySem.call (.ref jq) vs) QM Bot s:=by
 refine wpAny_call (codeAny_mono (vL (d:=d + 1) B.f__law_divided lR lP rfl rfl rfl ha hi hr (RR:=y6 QM Bot) fun env s' x=>?_) fun r s' h=>by
  cases r with
  | ok f=>cases f<;>exact h
  | error e=>exact h)
 unfold r7
 show wpAny _ _ (execs (match iT.body with | .stmts b=>b | _=>[]) env) _ _ _
 rw [AH]
 have nsk:∀ m,s.heap.Ns L m→s'.heap.Ns L m:=fun m y=>nC y fun o e=>x.keep L o e
 have as0:nX env L σ s'.heap:=by
  walk_at "u"; obtain ⟨m,o,es,ep,e,hd,hm⟩:=hL;walk_at "v"
  refine ⟨⟨m,o,es,ep,x.keep L o e,hd,hm⟩,hs,ht,hlo,fun q=>?_,fun y c hc q=>?_⟩
  ·have:=x.new
   rw [← q,e] at this;cases this
  ·subst q
   walk_at "u"; obtain ⟨v,o',e',hd'⟩:=(x.rep.cells y c hc).ex hs;walk_at "v"
   obtain rfl:=aq ((x.keep c o e).symm.trans e')
   exact (jW (hd.symm.trans hd') rfl).elim
 refine lD (Ax (K:=AI (d + 1)) ha.call x.rep x.inv (CN (cF hd) hW hW2) fun ρ' σ' s₂ hP hr2 hi2 e2=>?_)
 walk_at "u"; obtain ⟨D,hD,e0,hh⟩:=hP;walk_at "v"
 subst e0
 have ey2:=nW.of as0 e2
 refine CO (d:=d) ha.call (hr2.sub hh) hi2 (ik ..) (as0.next ey2) (by show A.frames.map _=_;rw [hfr];rfl) x.frame hkL hfL fun s₃ hi3 ey3=>?_
 have eyT:=ey2.trans ey3
 rw [jk,i0 hD] at hi3 eyT
 exact hq s₃ hi3 ⟨fun b o n e hs ht=>eyT.keep b o (x.keep b o e) hs ht (x.foot b o e) n,fun b o n e hs ht=>eyT.free b o (x.keep b o e) hs ht (x.foot b o e) n,eyT.cell⟩ fun m y=>eyT.ns m (nsk m y)
end
section
variable {K:Kx} {ρ:Fm} {σ:ij} {L:Addr}
structure jY (L:Addr) (σ:ij) (h:Heap) (σ':ij) (h':Heap):Prop where
 x:j6 L σ h σ' h'
 ns:∀ m,h.Ns L m→h'.Ns L m
 n0:σ' L=none
structure LOk (L:Addr) (σ:ij) (h:Heap):Prop where
 ns:∃ m,h.Ns L m
 n0:σ L=none
 lo:C.h1.objs.size≤L
 nt:L∉C.tabs
theorem LOk.next {σ':ij} {h h':Heap} (a:LOk L σ h) (x:jY L σ h σ' h'):LOk L σ' h':=⟨a.ns.elim fun m y=>⟨m,x.ns m y⟩,x.n0,a.lo,a.nt⟩
theorem jY.of {σ':ij} {h h':Heap} (a:LOk L σ h) (x:Ext σ h σ' h'):jY L σ h σ' h':=
 ⟨.of x,fun m y=>nC y fun o e=>x.keep L o e a.n0 a.nt,a.ns.elim fun _ y=>y.elim fun o z=>z.elim fun _ z=>z.elim fun _ z=>x.free L o z.1 a.n0 a.nt⟩
theorem jY.trans {σ₁ σ₂:ij} {h h₁ h₂:Heap} (x:jY L σ h σ₁ h₁) (y:jY L σ₁ h₁ σ₂ h₂):jY L σ h σ₂ h₂:=⟨x.x.trans y.x,fun m z=>y.ns m (x.ns m z),y.n0⟩
theorem jY.but {σ':ij} {h h₁ h₂:Heap} {a:Addr} (e:jY L σ h σ' h₁) (k:∀ b o,b≠a→h₁.get? b=some o→h₂.get? b=some o) (hn:h.get? a=none) (ha:L≠a):jY L σ h σ' h₂:=⟨e.x.but k hn,fun m z=>nC (e.ns m z) fun o q=>k L o ha q,e.n0⟩
theorem jY.split {σ':ij} {h h':Heap} (a:LOk L σ h) (x:jY L σ h σ' h'):∃ hm,Ext σ h σ' hm∧ji σ' L hm h'∧hm.get? L=h.get? L∧∀ b,b≠L→hm.get? b=h'.get? b:=by
 refine bc fun hbc=>?_
 obtain ⟨m,hm⟩:=a.ns
 obtain ⟨o,es,ep,e1,e2,e3⟩:=id hm
 obtain ⟨o',_,_,e1',_⟩:=x.ns m hm
 refine hbc ?_
 clear hbc
 have g0:(h'.update L fun _=>o).get? L=some o:=Heap.get?_update_self _ e1' (Obj.isFreed_of_dict e2)
 have g1:∀ b,b≠L→(h'.update L fun _=>o).get? b=h'.get? b:=fun b hb=>Heap.get?_update_other _ _ (Ne.symm hb)
 refine ⟨_,⟨fun b o2 e hs ht=>?_,fun b o2 e hs ht=>?_,x.x.cell⟩,ji.ofNs (env:={ (default:Env) with locals:=L }) (m:=m) ⟨o,es,ep,g0,e2,e3⟩ x.n0 a.lo fun b o2 hb e=>(g1 b hb).symm.trans e,g0.trans e1.symm,g1⟩
 ·by_cases hb:b=L
  ·subst hb
   rw [← aq (e1.symm.trans e)];exact g0
  ·exact (g1 b hb).trans (x.x.keep b o2 hb e hs ht)
 ·by_cases hb:b=L
  ·rw [hb];exact x.n0
  ·exact x.x.free b o2 hb e hs ht
theorem jY.seq {σ':ij} {h h':Heap} (a:LOk L σ h) (x:jY L σ h σ' h'):iW σ h σ' h':=by
 walk_at "u"; obtain ⟨hm,E,P,_,_⟩:=x.split a;walk_at "v"
 exact ⟨fun b o e hf hs ht=>P.seq.keep b o (E.seq.keep b o e hf hs ht) hf (E.seq.free b o e hf hs ht) ht,fun b o e hf hs ht=>E.seq.free b o e hf hs ht⟩
theorem jY.rep {env:Env} {σ':ij} {h h':Heap} (a:LOk L σ h) (x:jY L σ h σ' h') (r:Rep K env ρ σ h) (hc:∀ y c,env.cells.lookup y=some c→c≠L):Rep K env ρ σ' h':=by
 walk_at "u"; obtain ⟨hm,E,P,g0,g1⟩:=x.split a;walk_at "v"
 refine (r.mono E).pokeNs P (fun m y=>⟨m,?_,fun _ _=>rfl⟩) hc
 by_cases hb:env.locals=L
 ·rw [hb] at y ⊢
  exact x.ns m (nC y fun o e=>g0.symm.trans e)
 ·exact nC y fun o e=>(g1 _ hb).symm.trans e
theorem C9 {σ₁ σ₂ σ₅:ij} {h₁ h' h'':Heap} {D:Addr} {acc acc':List V} (E:jY L σ₁ h₁ σ₂ h') (F:jY L (io σ₂ D acc) h' (io σ₅ D acc') h'') (hD:h₁.get? D=none) (hL:L≠D) (h2:σ₂ D=none) (h5:σ₅ D=none):jY L σ₁ h₁ σ₅ h'':=by
 have ne:∀ a o,h₁.get? a=some o→a≠D:=fun a o e q=>by rw [q,hD] at e;cases e
 refine ⟨⟨fun a o n e hs ht=>F.x.keep a o n (E.x.keep a o n e hs ht) ((iO (ne a o e)).trans (E.x.free a o n e hs ht)) ht,fun a o n e hs ht=>?_,fun c v e=>?_⟩,fun m z=>F.ns m (E.ns m z),?_⟩
 ·have:=F.x.free a o n (E.x.keep a o n e hs ht) ((iO (ne a o e)).trans (E.x.free a o n e hs ht)) ht
  rwa [iO (ne a o e)] at this
 ·refine bc fun hbc=>?_
  obtain ⟨v',e'⟩:=E.x.cell c v e
  have hc:c≠D:=fun q=>by rw [q,h2] at e';cases e'
  obtain ⟨v'',e''⟩:=F.x.cell c v' ((iO hc).trans e')
  refine hbc ?_
  clear hbc
  exact ⟨v'',by rwa [iO hc] at e''⟩
 ·have:=F.n0
  rwa [iO hL] at this
theorem LOk.cell {env:Env} {h:Heap} (a:LOk L σ h) (r:Rep K env ρ σ h) (y:Str) (c:Addr) (hc:env.cells.lookup y=some c):c≠L:=fun q=>by
 refine bc fun hbc=>?_
 obtain ⟨m,o,es,ep,e,hd,_⟩:=a.ns
 obtain ⟨v,o',e',hd'⟩:=(r.cells y c hc).ex (q ▸ a.n0)
 refine hbc ?_
 clear hbc
 subst q
 obtain rfl:=aq (e.symm.trans e')
 exact (jW (hd.symm.trans hd') rfl).elim
noncomputable def FB (A:Around) (K:Kx) (env:Env) (scope:Scope) (caps:Fm) (target elt:Expr) (J:List V→List V→ij→Prop):Prop:=
 ∀ x r acc σ₂,J (x :: r) acc σ₂→∃ fr,kN (KxC K scope) target x fr∧(∀ p∈caps,∀ q∈fr,p.1≠q.1)∧∀ D Lc s',σ₂ D=none→Rep (KxC K scope) (jw env scope Lc) (fr++caps) (io σ₂ D acc) s'.heap→Inv (io σ₂ D acc) s'→LOk env.locals (io σ₂ D acc) s'.heap→
  ∀ QM:Value→Shared→Prop,(∀ v pv σ₅ s₄,acc.length < 2 ^ 24→σ₅ D=none→J r (acc++[pv]) σ₅→Inv (io σ₅ D acc) s₄→jY env.locals (io σ₂ D acc) s'.heap (io σ₅ D acc) s₄.heap→Rel (io σ₅ D acc) s₄.heap v pv→QM v s₄)→
   wpAny (model C.prog C.w) A (eval elt (jw env scope Lc)) QM Bot s'
inductive EM (K:Kx) (L:Addr) (env:Env) (caps:Fm) (J:List V→List V→ij→Prop) (D it:Addr) (σ:ij) (h₁:Heap) (n:Nat) (s':Shared):Prop
 | mk (r acc:List V) (σ₂:ij) (e:n=r.length) (hJ:J r acc σ₂) (hd:σ₂ D=none) (hI:Itr (io σ₂ D acc) s'.heap it r) (hr:Rep K env caps (io σ₂ D acc) s'.heap) (hi:Inv (io σ₂ D acc) s') (E:jY L σ h₁ σ₂ s'.heap)
theorem pk {y:Str} {elt target iter:Expr} {scope:Scope} {pos py spos:Pos} (caps:Fm) (ok:jp K ρ scope caps) (hy:K.names.lookup y=some .local) (hfr:wz ρ y=true) {A:Around} {env:Env} {s:Shared} (ha:AOk K.d A) (hr:Rep K env ρ σ s.heap) (hi:Inv σ s)
  {items:List V} {pv:V} (hit:iM pv items) (h:EvP K ρ σ iter (fun v σ₁=>v=pv∧σ₁=σ)) (J:List V→List V→ij→Prop) (hJ:J items [] σ) (turn:FB A K env scope caps target elt J) {QM:Flow→Shared→Prop}
  (hq:∀ D acc σ₂ s',J [] acc σ₂→σ₂ D=none→Rep K env ((y,.val (.loc D)) :: ρ) (io σ₂ D acc) s'.heap→Inv (io σ₂ D acc) s'→jz env σ s.heap (io σ₂ D acc) s'.heap→QM .next s')
  (hline:autoParam ((py.line == pos.line)=true) aR) (hnot:autoParam ((scope.names.any fun (n,k)=>n == y && (k == .local || k == .cell))=false) aK)
  (hs:autoParam (∀ env x,foldedSetIterable iter env x=pure x) aI):wpAny (model C.prog C.w) A (exec (.Assign [.Name y py] (.ListComp elt [⟨target,iter,[],0⟩] scope pos) spos) env) QM Bot s:=by
 have hsw:swapsWith (.ListComp elt [⟨target,iter,[],0⟩] scope pos) (some (.Name y py)) spos.line env=pure true:=by
  have hk:env.kindOf y=some .local:=(congrArg (·.lookup y) hr.names).trans hy
  have hb:env.blockKind=.function:=by unfold Env.blockKind;rw [hr.kind];rfl
  have hl:(py.line == (Expr.ListComp elt [⟨target,iter,[],0⟩] scope pos).pos.line)=true:=hline
  show (pure (env.blockKind == .function && env.kindOf y == some .local && py.line == (Expr.ListComp elt [⟨target,iter,[],0⟩] scope pos).pos.line && !(scope.names.any fun (n,k)=>n == y && (k == .local || k == .cell))):Sem Bool)=_
  rw [hk,hb,hl,hnot];rfl
 rw [exec_Assign_Name_used _ _ _ _ hsw]
 refine wpAny_bind (wpAny_standAt (wpAny_bind ?_))
 show wpAny _ A (do let _ ← comprehension (.ListComp elt [⟨target,iter,[],0⟩] scope pos) scope env _ (newList []) false (eval iter env) (some (assign (.Name y py) env))) _ _ s
 have hclos:closureFor scope env=pure (closL env.cells scope.names []):=jZ scope fun x hx hf=>(ok.free x hx hf).cell hr
 refine wpAny_bind (wpAny_mono (wpAny_comprehension_free (g:=⟨target,iter,[],0⟩) (gs:=[]) (use:=some (assign (.Name y py) env)) (Q:=fun _ s'=>QM .next s') rfl (hs env) hclos ok.kind ok.names ?_) (fun _ s' hq=>wpAny_pure (wpAny_pure hq)) fun _ _ e=>e)
 refine h A env s ha hr hi _ fun v pv σ₁ s₁ h₁ i₁ e₁ r₁=>?_
 obtain ⟨eq0,eq1⟩:=h₁
 subst eq0 eq1
 have hr₁:=hr.mono e₁
 refine rG caps ok ha hr₁ i₁ hit r₁ fun D Lc it s' S=>?_
 have hcne:∀ x c,env.cells.lookup x=some c→c≠env.locals:=fun x c hc q=>(hr₁.cells x c hc).ne q.symm
 have lo1:LOk env.locals σ₁ s₁.heap:=⟨hr₁.loc,hr₁.locF.1,hr₁.locF.2.2,hr₁.locF.2.1⟩
 have nof:∀ {a},s₁.heap.get? a=none→env.locals≠a:=fun hn q=>by obtain ⟨_,_,_,_,e,_⟩:=hr₁.loc;rw [q,hn] at e;cases e
 refine lC (EM (KxC K scope) env.locals (jw env scope Lc) caps J D it σ₁ s₁.heap) ?_ items.length ⟨items,[],σ₁,rfl,hJ,S.sD,S.itr,S.rep,S.inv,.of lo1 S.ext⟩
 have n1:=S.gD
 have n2:=S.gL
 have fr₂:=S.gI
 have hitC:=S.nIL
 have hDC:=S.nDL
 have hDlo:=S.lo
 clear S
 intro n s' hJ2
 walk_at "u"; obtain ⟨r,acc,σ₂,eq0,hJ,hd,hI,hrc,hi',hE⟩:=hJ2;walk_at "v"
 subst eq0
 refine k8 hI ha (fun e h'' k=>?_) (fun x r' e v h'' tk k rv hI'=>?_)
 ·subst e
  have nd:=hI.nd
  have hi2:=hi'.poke (s':={ s' with heap:=h'' }) k rfl rfl
  have hrc2:=hrc.poke k nd
  have hE2:=hE.but k.keep fr₂ (nof fr₂)
  have hEF:jY env.locals σ₁ s₁.heap (io σ₂ D acc) h'':=⟨⟨hE2.x.keep,fun a o n e hs ht=>(iO (fun q=>by rw [q,n1] at e;cases e)).trans (hE2.x.free a o n e hs ht),fun c v e=>(hE2.x.cell c v e).elim fun v' e'=>⟨v',(iO (fun q=>by rw [q,hd] at e';cases e')).trans e'⟩⟩,hE2.ns,(iO (nof n1)).trans hE2.n0⟩
  have nL:env.locals≠Lc:=nof n2
  have nc:∀ x c,env.cells.lookup x=some c→c≠Lc:=fun x c hc q=>hr₁.cellEx i₁ hc (q ▸ n2)
  walk_at "u"; obtain ⟨m,hm⟩:=hrc2.loc;walk_at "v"
  show wpAny _ A (assign (.Name y py) env (.ref D)) _ _ _
  refine wpAny_assign_Name (j5 (s:={ s' with heap:=h'' }) hy (hEF.rep lo1 hr₁ hcne) hi2 (.loc D) (upd_mkN hfr) fun s₂ hr₂ hi₂ eL=>?_)
  have hm2:s₂.heap.Ns Lc m:=nC hm fun o e=>eL.keep Lc o (Ne.symm nL) e
  refine ⟨m,hm2,fun h3 sb=>?_⟩
  have k2:=ji.ofNs (σ:=io σ₂ D acc) (env:=jw env scope Lc) hm2 hrc2.locF.1 hrc2.locF.2.2 sb.extBut
  have E1:jz env σ₁ s₁.heap (io σ₂ D acc) s₂.heap:=⟨fun a o e hs ht hf=>eL.keep a o (fun q=>hf (.inl q)) (hEF.x.keep a o (fun q=>hf (.inl q)) e hs ht),fun a o e hs ht hf=>hEF.x.free a o (fun q=>hf (.inl q)) e hs ht,hEF.x.cell⟩
  exact hq D acc σ₂ { s₂ with heap:=h3 } hJ hd (hr₂.pokeNe k2 nL nc) (hi₂.poke (s':={ s₂ with heap:=h3 }) k2 rfl rfl) (e₁.toF.trans (E1.poke k2 n2))
 ·subst e
  have nd:=hI.nd
  have hrc':=hrc.poke k nd
  have hi'':=hi'.poke (s':={ s' with heap:=h'',toks:=tk }) k rfl rfl
  have hE':=hE.but k.keep fr₂ (nof fr₂)
  walk_at "u"; obtain ⟨fr,ht,hdis,body⟩:=turn x r' acc σ₂ hJ;walk_at "v"
  refine oi (s:={ s' with heap:=h'',toks:=tk }) hI'.st ?_
  refine nU (s:={ s' with heap:=h'',toks:=tk }) (d:=K.d) ht ha hdis hrc' hi'' rv fun s₂ hrc₂ hi₂ eL=>?_
  have hE₂:jY env.locals σ₁ s₁.heap σ₂ s₂.heap:=hE'.but eL.keep n2 (nof n2)
  have lo2:LOk env.locals (io σ₂ D acc) s₂.heap:=⟨(lo1.next hE₂).ns,(iO (nof n1)).trans hE₂.n0,lo1.lo,lo1.nt⟩
  have hI₂:Itr (io σ₂ D acc) s₂.heap it r':=⟨hI'.st.mono (fun o e=>eL.keep it o hitC e) (eL.seq hrc'),hI'.un,hI'.lo,hI'.nt⟩
  refine Ah (K:=KxC K scope) (ifs:=[]) ha (ifs_nil' (Q:=fun ok σ₃=>ok=true∧σ₃=io σ₂ D acc) ⟨rfl,rfl⟩) hrc₂ hi₂ fun ok σ₃ s₃ q₃ i₃ e₃=>?_
  obtain ⟨eq2,eq3⟩:=q₃
  subst eq2 eq3
  have eN:=jY.of lo2 e₃
  refine body D Lc s₃ hd (hrc₂.mono e₃) i₃ (lo2.next eN) _ fun v pv σ₅ s₄ hlen h5 hJ' i₄ e₄ r₄=>?_
  refine bi_append (d:=K.d) (Q:=fun v σ'=>σ'=io σ₅ D (acc++[pv])) i8 hlen kf A s₄ _ _ ha i₄ (.raw _) (.cons (.loc D) (.cons r₄ .nil)) _ fun v' pv' σ₆ s₆ q₆ i₆ e₆ r₆=>?_
  subst q₆
  have eM:=eN.trans e₄
  have EE:=eM.trans (jY.of (lo2.next eM) e₆)
  exact ⟨r'.length,by simp,r',acc++[pv],σ₅,rfl,hJ',h5,hI₂.keepX (Ne.symm (nof fr₂)) EE.x (EE.seq lo2),(EE.rep lo2 hrc₂ (lo2.cell hrc₂)).sub (fun p hp=>bz _ hp),i₆,C9 hE₂ EE n1 (nof n1) hd h5⟩
end
theorem EF:iH te ["script"]:=by walk_at "binds"
theorem EB:fnC te ["script"] ["own", "cells", "words", "both", "other", "sizes", "apart", "ticks", "sides", "text", "entries", "reader", "front", "turned", "width", "places"]=true:=by decide +kernel
noncomputable def zL:List Nat:=[0,2001,192,1622,16754,6531,21097,1587]
noncomputable def u8 (xs:List Int) (k:Nat):List Int:=(iX (some (k:Int)) none (some 8) (xs.take 60).length).filterMap ((xs.take 60)[·]?)
noncomputable def wn (x:Int):Nat:=(x.fmod (10 ^ 12)).toNat
noncomputable def vI (xs:List Int) (k:Nat):Nat:=zL.getD k 0 + ((u8 xs k).map wn).sum
theorem xJ (x:Int):x.fmod (10 ^ 12)=((wn x:Nat):Int)∧wn x < 10 ^ 12:=by
 have h1:=ei x (show (0:Int) < 10 ^ 12 by decide)
 have h2:=eQ x (show (0:Int) < 10 ^ 12 by decide)
 unfold wn
 exact ⟨(gq h1).symm,by lia⟩
theorem xa (xs:List Int) (k:Nat):(u8 xs k).length≤60:=by
 have hl:(xs.take 60).length≤60:=by simp;lia
 unfold u8
 refine aa (List.length_filterMap_le _ _) ?_
 generalize (xs.take 60).length=n at hl
 unfold iX sliceBounds sliceRange
 simp only [ag,aH,dS,show ¬ ((k:Int) < 0) from Int.not_lt.mpr (aB k),if_false,show ((8:Int) > 0) from by decide,if_true,q9]
 split
 ·refine aa (Int.toNat_le.mpr (Int.ediv_le_of_le_mul (by decide) ?_)) hl
  have:=ba (min k n)
  lia
 ·exact ba _
theorem Bl:∀ l:List Int,(l.map wn).sum≤10 ^ 12 * l.length:=by
 intro lr
 induction lr with
 | nil=>
  simp
 | cons x l ihr=>
  have h1:=ihr
  have h2:=(xJ x).2
  simp only [be,dW,ax,bV,bU];lia
theorem C0 (xs:List Int) (k:Nat):vI xs k < 2 ^ 60:=by
 have h1:=Bl (u8 xs k)
 have h2:=xa xs k
 have h3:zL.getD k 0≤21097:=by
  rw [aj]
  rcases aZ k zL.length with h | h
  ·rw [ak h]
   exact (by decide:∀ x∈zL,x≤21097) _ (bq h)
  ·rw [bd h];decide
 have h4:10 ^ 12 * (u8 xs k).length≤10 ^ 12 * 60:=aO _ h2
 unfold vI;lia
noncomputable abbrev pt (l:List Int):List V:=l.map V.int
noncomputable def rN (xs:List Int):List Nat:=(aT 8).map (vI xs)
theorem yY (xs:List Int):(rN xs).length=8:=by simp [rN]
theorem AW (xs:List Int):∀ k,k < 8→(rN xs).getD k 0 < 2 ^ 64:=fun k hk=>by
 unfold rN
 rw [aj,aN,bO hk]
 exact an (C0 xs k) (bh (by decide) (by decide))
noncomputable def yN:List Stmt:=match te.body with | .stmts b=>b | _=>[]
noncomputable def Fj:{ f:Nat→List Stmt // ∀ k,f k=(yN.take 17).drop k }:=Classical.choice ⟨⟨_,fun _=>rfl⟩⟩
noncomputable def uv (k:Nat):List Stmt:=Fj.1 k
theorem pT (k:Nat):uv k=(yN.take 17).drop k:=Fj.2 k
noncomputable abbrev l5:Kx:=kE te AX 119
noncomputable abbrev Ad (xs:List Int):Fm:=[("script", .val (.lst (pt xs))),("own", .emp),("cells", .emp),("words", .emp),("both", .emp),("other", .emp),("sizes", .emp),("apart", .emp),("ticks", .emp),("sides", .emp),("text", .emp),("entries", .emp),("reader", .emp),("front", .emp),("turned", .emp),("width", .emp),("places", .emp)]
noncomputable def jg (x y S:List Nat):List Nat:=(S.flatMap fun s=>if s=0 then x else y)++(if apL x y=[] then [] else (x++y).take (tkN x y - 1))
noncomputable abbrev Dt (cs x y:List Nat):Fm:=[("apart", .val (.lst (iS (apL x y)))),("shared", .val (.int (shN x.length y.length:Nat))),("sizes", .val (.lst [.int (x.length:Nat),.int (y.length:Nat)])),("both", .val (.str (x++y))),("other", .val (.str (y++x))),("words", .val (.tup [.str x,.str y])),("cells", .val (.lst (iS cs))),("ticks", .emp),("sides", .emp),("text", .emp),("entries", .emp),("reader", .emp),("front", .emp),("turned", .emp),("width", .emp),("places", .emp)]
noncomputable abbrev Dv (cs x y S:List Nat):Fm:=[("letters", .val (.str (jg x y S))),("sides", .val (.lst (iS S))),("ticks", .val (.int (tkN x y:Nat))),("apart", .val (.lst (iS (apL x y)))),("shared", .val (.int (shN x.length y.length:Nat))),("sizes", .val (.lst [.int (x.length:Nat),.int (y.length:Nat)])),("both", .val (.str (x++y))),("other", .val (.str (y++x))),("words", .val (.tup [.str x,.str y])),("cells", .val (.lst (iS cs))),("text", .emp),("entries", .emp),("reader", .emp),("front", .emp),("turned", .emp),("width", .emp),("places", .emp)]
section
variable {K:Kx} {ρ:Fm} {σ:ij} {d:Nat}
theorem CB {α β:Type} (f:α→β) (l:List α) (P:List Nat):P.filterMap ((l.map f)[·]?)=(P.filterMap (l[·]?)).map f:=by
 rw [List.map_filterMap]
 congr 1
 funext i
 rw [aN]
theorem EC {Q:V→ij→Prop} {a:V} {xs:List Nat} (h:LV σ a (iS (0 :: xs))) (q:Q (.int ((xs.foldr max 0:Nat):Int)) σ):CallV d (.raw (.builtin "max")) [a] σ Q:=by
 refine ED (xs:=(0 :: xs).map fun x:Nat=>(x:Int)) (by unfold iS at h;rw [b0];exact h) (aA.mpr ⟨_,kM xs,rfl⟩) (fun y hy=>?_) q
 obtain ⟨n,hn,rfl⟩:=aA.mp hy
 rcases am.mp hn with rfl | hn
 ·exact aB _
 ·exact dM.mpr (lz xs n hn)
open PySem.Spec PySem.SeqAt in
theorem up {Q:V→ij→Prop} {l:List Nat} (q:Q (.bool (decide (l≠[]))) σ):M2 d (compareOp .NotEq) (.lst (iS l)) (.lst []) σ Q:=by
 refine wO (.lst (rB l)) (.lst .nil) (nr l) (nr []) ?_ ?_
 ·cases l<;>rfl
 ·cases l with
  | nil=>exact q
  | cons x l=>rw [decide_eq_true (gE x l)] at q;exact q
theorem Fi {xs:List Int} (hx:xs.length≤63) {Q:Fl→Fm→ij→Prop} (q:∀ cs x y:List Nat,cs.length=8→(∀ k,k < 8→cs.getD k 0 < 2 ^ 64)→InL x→InL y→x.length + y.length≤14→ExP l5 (Dt cs x y) σ (uv 6) Q):
  ExP l5 (Ad xs) σ (uv 0) Q:=by
 rw [pT] at q ⊢
 conv=>arg 4;whnf
 simp only [cL,dj,ar,aw]
 walk_at "go"
 refine jI (by kernel_rfl) (by walk_at "mem") (by intro c e;cases e) ?_
 refine iU (caps:=[("own", .val (.lst [V.int 0,V.int 2001,V.int 192,V.int 1622,V.int 16754,V.int 6531,V.int 21097,V.int 1587])),("script", .val (.lst (pt xs)))]) (iQ (by kernel_rfl) (by walk_at "has") (by rfl)) (fun k:Nat=>V.int k) (fun k=>[("k", .val (.int k))]) (fun k=>V.int ((vI xs k:Nat):Int)) ?_
 walk_at "go"
 refine ⟨aT 8,ja 8 (by decide),by decide,fun k hk=>⟨iJ (by kernel_rfl),by kernel_rfl,fun D acc hD=>?_⟩,?_⟩
 ·have hk:k < 8:=bR.mp hk
  simp only [ar,aw]
  walk_at "go"
  refine iV (vs:=iS zL) (.fr _) (nD hk) (by decide) ?_
  walk_at "go"
  refine iU (caps:=[]) (iQ (by kernel_rfl) (by walk_at "has") (by rfl)) V.int (fun x=>[("number", .val (.int x))]) (fun x=>V.int ((wn x:Nat):Int)) ?_
  walk_at "go"
  refine ⟨_,_,_,.none,.int _,.none,sub_lst (.fr _),ku (.fr _) (by simp) (by simp [pt];lia) ?_⟩
  rw [show (iX none (some (60:Int)) none (pt xs).length).filterMap ((pt xs)[·]?)=pt (xs.take 60) from (mV (pt xs) 60).trans (eG ..).symm]
  walk_at "go"
  refine ⟨_,_,_,.int _,.none,.int _,sub_lst (.fr _),ku (.fr _) (by simp) (by simp [pt];lia) ?_⟩
  rw [CB,show (pt (xs.take 60)).length=(xs.take 60).length from ag _,show (iX (some (k:Int)) none (some 8) (xs.take 60).length).filterMap ((xs.take 60)[·]?)=u8 xs k from rfl]
  have hsl:=xa xs k
  refine ⟨u8 xs k,.lst _,by lia,fun x hx=>⟨iJ (by kernel_rfl),by kernel_rfl,fun D acc hD=>?_⟩,?_⟩
  ·simp only [ar,aw]
   walk_at "go"
   ·exact ⟨congrArg V.int (xJ x).1,rfl⟩
   ·decide
   ·decide
   ·decide
   ·decide +kernel
  walk_at "go"
  refine wS (xs:=(u8 xs k).map wn) (by simpa [iS,Function.comp_def] using LV.fr _) ?_
  walk_at "go"
  exact ⟨rfl,rfl⟩
 rw [show (aT 8).map (fun k=>V.int ((vI xs k:Nat):Int))=iS (rN xs) by simp [iS,rN,Function.comp_def]]
 have hcl:=yY xs
 have hclt:=AW xs
 generalize rN xs=cs at hcl hclt ⊢
 walk_at "go"
 refine sv (by decide) hcl hclt fun x y ix iy hxy=>?_
 clear hx
 have hxl:x.length≤14:=aa (aM _ _) hxy
 have hyl:y.length≤14:=aa (cm _ _) hxy
 have w2:(2:Nat) < 2 ^ 25:=by decide
 walk_at "go"
 refine lm ?_ (by intro _;rfl) (by intro _;rfl) (by intro env h1 h2;obtain ⟨⟨_,_,_,_⟩,_,_,_,_,_,_,_,_⟩:=env;dsimp only at h1 h2;subst h1 h2;kernel_rfl)
 walk_at "go"
 refine jT (by decide) rfl w2 ?_
 walk_at "go"
 refine jT (by decide) rfl w2 ?_
 walk_at "go"
 rotate_left
 ·exact aa hxy (by decide)
 refine jT (by decide) rfl w2 ?_
 walk_at "go"
 refine jT (by decide) rfl w2 ?_
 walk_at "go"
 rotate_left
 ·exact aa (aQ y.length _ ▸ hxy) (by decide)
 refine iU (caps:=[]) (iQ (by kernel_rfl) (by walk_at "has") (by rfl)) (fun w:List Nat=>V.str w) (fun w=>[("word", .val (.str w))]) (fun w=>V.int ((w.length:Nat):Int)) ?_
 walk_at "go"
 refine ⟨[x,y],.tup _,an (bv 2) (by decide),fun w hw=>⟨iJ (by kernel_rfl),by kernel_rfl,fun D acc hD=>?_⟩,?_⟩
 ·simp only [ar,aw]
  walk_at "go"
  ·exact ⟨rfl,rfl⟩
  ·rcases am.mp hw with rfl | hw
   ·exact ae hxl (by decide)
   ·obtain rfl:=br.mp hw;exact ae hyl (by decide)
 rw [show dl (fun w:List Nat=>V.int ((w.length:Nat):Int)) [x,y]=[.int (x.length:Nat),.int (y.length:Nat)] from rfl]
 have hbl:(x++y).length≤14:=by rw [af];exact hxy
 have hol:(y++x).length=(x++y).length:=by rw [af,af,aQ]
 walk_at "go"
 refine ld (caps:=[("sizes", .val (.lst [.int (x.length:Nat),.int (y.length:Nat)]))]) (iQ (by kernel_rfl) (by walk_at "has") (by rfl)) (fun i:Nat=>V.int ((1 + i:Nat):Int)) (fun i=>[("k", .val (.int ((1 + i:Nat):Int)))]) (fun i=>decide (x.length % (1 + i)=0) && decide (y.length % (1 + i)=0)) (fun i=>V.int ((1 + i:Nat):Int)) ?_
 walk_at "go"
 rotate_left
 ·exact ae hbl (by decide)
 refine ⟨_,s5 1 ((x++y).length + 1) (ae (dZ hbl) (by decide)) (by decide),by rw [aH];exact ae hbl (by decide),fun i hi=>⟨iJ (by kernel_rfl),by kernel_rfl,fun D acc hD=>?_⟩,?_⟩
 ·simp only [ar,aw]
  walk_at "go"
  refine iV (i:=0) (x:=.int (x.length:Nat)) (.fr _) rfl w2 ?_
  walk_at "go"
  rotate_left
  ·exact bE (an dT (aM 1 i))
  ·exact jK (bE (an dT (aM 1 i))) (ae (bF (aF (bR.mp hi)) 1) (ae (bF hbl 1) (by decide)))
  refine jb (fun h1=>?_) (fun h1=>?_)
  ·walk_at "go"
   refine iV (i:=1) (x:=.int (y.length:Nat)) (.fr _) rfl w2 ?_
   walk_at "go"
   rotate_left
   ·exact bE (an dT (aM 1 i))
   ·exact jK (bE (an dT (aM 1 i))) (ae (bF (aF (bR.mp hi)) 1) (ae (bF hbl 1) (by decide)))
   refine jb (fun h2=>?_) (fun h2=>?_)
   ·walk_at "go"
    refine ⟨rfl,by rw [decide_eq_true h1,decide_eq_true h2];rfl,fun _=>?_⟩
    walk_at "go"
    exact ⟨rfl,rfl⟩
   ·walk_at "go"
    exact ⟨rfl,by rw [decide_eq_false h2,eB],fun e=>by rw [decide_eq_false h2,eB] at e;cases e⟩
  ·exact ⟨rfl,by rw [decide_eq_false h1,dm],fun e=>by rw [decide_eq_false h1,dm] at e;cases e⟩
 have hshl:(shK x.length y.length).length≤14:=by
  unfold shK
  rw [ag]
  exact aa (bW _ _) (by rw [aH];exact hxy)
 refine nS (zs:=iS (0 :: shK x.length y.length)) (.fr _) (.fr _) ?_ ?_ ?_
 ·rw [ag]
  exact aa (bF (aa (bW _ _) (by rw [aH];exact hbl)) 1) (by decide)
 ·unfold iS shK
  rw [cb,af,be,b0];rfl
 walk_at "go"
 refine EC (.fr _) ?_
 rw [show (shK x.length y.length).foldr max 0=shN x.length y.length from rfl]
 walk_at "go"
 refine jI (by kernel_rfl) (by walk_at "mem") (by intro c e;cases e) ?_
 refine ld (caps:=[("both", .val (.str (x++y))),("other", .val (.str (y++x)))]) (iQ (by kernel_rfl) (by walk_at "has") (by rfl)) (fun k:Nat=>V.int ((k:Nat):Int)) (fun k=>[("k", .val (.int ((k:Nat):Int)))]) (fun k=>decide ((x++y).getD k 0≠(y++x).getD k 0)) (fun k=>V.int ((k:Nat):Int)) ?_
 walk_at "go"
 rotate_left
 ·exact ae hbl (by decide)
 refine ⟨_,ja (x++y).length (ae hbl (by decide)),by rw [aH];exact ae hbl (by decide),fun k hk=>⟨iJ (by kernel_rfl),by kernel_rfl,fun D acc hD=>?_⟩,?_⟩
 ·have hk:=bR.mp hk
  simp only [ar,aw]
  walk_at "go"
  refine m0 (c:=(x++y).getD k 0) (by rw [aj,ak hk];rfl) (ae hbl (by decide)) ?_
  walk_at "go"
  refine m0 (c:=(y++x).getD k 0) (by rw [aj,ak (hol ▸ hk)];rfl) (ae (aa (cA hol) hbl) (by decide)) ?_
  walk_at "go"
  rw [show ([(x++y).getD k 0] != [(y++x).getD k 0])=decide ((x++y).getD k 0≠(y++x).getD k 0) by rw [gK,bne_iff_ne,decide_eq_true_eq];simp]
  refine jA (fun h=>?_) (fun h=>?_)
  ·refine ⟨rfl,h.symm,fun _=>?_⟩
   walk_at "go"
   exact ⟨rfl,rfl⟩
  ·exact ⟨rfl,h.symm,fun e=>absurd (h.symm.trans e) (by decide)⟩
 rw [show ((aT (x++y).length).filter fun k=>decide ((x++y).getD k 0≠(y++x).getD k 0)).map (fun k:Nat=>V.int (k:Int))=iS (apL x y) from rfl]
 generalize hK:Cont _ _ _=KK
 walk_at "go"
 subst hK
 exact cont_next (ExP.has (q cs x y hcl hclt ix iy hxy) (by walk_at "has"))
end
section
variable {K:Kx} {ρ:Fm} {σ:ij} {d:Nat}
theorem Fh {cs x y:List Nat} (hcl:cs.length=8) (hclt:∀ k,k < 8→cs.getD k 0 < 2 ^ 64) (hxy:x.length + y.length≤14) {Q:Fl→Fm→ij→Prop} (q:∀ S:List Nat,S.length≤4→(∀ s∈S,s≤1)→(jg x y S).length≤70→ExP l5 (Dv cs x y S) σ (uv 9) Q):ExP l5 (Dt cs x y) σ (uv 6) Q:=by
 rw [pT] at q ⊢
 conv=>arg 4;whnf
 simp only [cL,dj,dJ,eA]
 have w2:(2:Nat) < 2 ^ 25:=by decide
 have hbl:(x++y).length≤14:=by rw [af];exact hxy
 have hTk:=ticks x y
 walk_at "go"
 refine nM ?_
 show M2 _ _ _ _ _ _
 refine up ?_
 walk_at "go"
 have hshn:shN x.length y.length≤(x++y).length:=by rw [af];exact wc _ _
 refine i7 (.int ((tkN x y:Nat):Int)) (fun h=>?_) (fun h=>?_) ?_
 ·have h:=of_decide_eq_true h
  obtain ⟨p,r,hp⟩:=fq h
  have ht:tkN x y=p + 1:=by unfold tkN;rw [hp]
  have hl14:(iS (apL x y)).length < 2 ^ 25:=by
   unfold iS apL
   rw [ag]
   exact ae (aa (bW _ _) (by rw [aH];exact hbl)) (by decide)
  walk_at "go"
  refine iV (i:=0) (x:=.int (p:Nat)) (.fr _) (by rw [hp];rfl) hl14 ?_
  walk_at "go"
  exact ⟨by rw [ht],rfl⟩
 ·have h:=of_decide_eq_false h
  have hn:apL x y=[]:=bc h
  have ht:tkN x y=(x++y).length - shN x.length y.length:=by unfold tkN;rw [hn]
  walk_at "go"
  ·exact ⟨by rw [ht],rfl⟩
  ·exact ae hbl (by decide)
 walk_at "go"
 have c1:=hclt 1 (by decide)
 obtain ⟨b,hb⟩:∃ b,cs.getD 1 0=b:=⟨_,rfl⟩
 rw [hb] at c1
 refine jI (by kernel_rfl) (by walk_at "mem") (by intro c e;cases e) ?_
 refine iU (caps:=[("cells", .val (.lst (iS cs)))]) (iQ (by kernel_rfl) (by walk_at "has") (by rfl)) (fun k:Nat=>V.int ((k:Nat):Int)) (fun k=>[("k", .val (.int ((k:Nat):Int)))]) (fun k=>V.int ((b / 375 / 2 ^ k % 2:Nat):Int)) ?_
 walk_at "go"
 refine jB (k:=1) rfl hcl (by decide) ?_
 rw [hb]
 walk_at "go"
 have hn5:2 + b / 125 % 3≤4:=bF (cI (bg _ (by decide))) 2
 generalize 2 + b / 125 % 3=n at *
 refine ⟨_,ja n (ae hn5 (by decide)),by rw [aH];exact ae hn5 (by decide),fun k hk=>⟨iJ (by kernel_rfl),by kernel_rfl,fun D acc hD=>?_⟩,?_⟩
 ·have hk:=bR.mp hk
  simp only [ar,aw]
  walk_at "go"
  refine jB (k:=1) rfl hcl (by decide) ?_
  rw [hb]
  have h2:0 < 2 ^ k:=aJ k
  walk_at "go"
  rotate_left
  ·exact aa (cV (show iD 2≤2 by decide) (aa (aF hk) hn5)) (by decide)
  ·exact bE h2
  ·exact jK (bE h2) (ae (bh (by decide) (aa (aF hk) hn5)) (by decide))
  exact ⟨rfl,rfl⟩
 obtain ⟨S,hS⟩:∃ S,(aT n).map (fun k=>b / 375 / 2 ^ k % 2)=S:=⟨_,rfl⟩
 have hSl:S.length≤4:=by rw [← hS,ag,aH];exact hn5
 have hS1:∀ s∈S,s≤1:=fun s hs=>by
  rw [← hS] at hs
  obtain ⟨k,_,rfl⟩:=aA.mp hs
  exact cI (bg _ (by decide))
 rw [show (aT n).map (fun k:Nat=>V.int ((b / 375 / 2 ^ k % 2:Nat):Int))=iS S by rw [← hS];unfold iS;rw [b0];rfl]
 clear hS
 walk_at "go"
 refine iU (caps:=[("words", .val (.tup [.str x,.str y]))]) (iQ (by kernel_rfl) (by walk_at "has") (by rfl)) (fun s:Nat=>V.int ((s:Nat):Int)) (fun s=>[("side", .val (.int ((s:Nat):Int)))]) (fun s=>V.str (if s=0 then x else y)) ?_
 walk_at "go"
 refine ⟨S,.lst _,ae hSl (by decide),fun s hs=>⟨iJ (by kernel_rfl),by kernel_rfl,fun D acc hD=>?_⟩,?_⟩
 ·simp only [ar,aw]
  walk_at "go"
  refine jT (x:=.str (if s=0 then x else y)) (aB s) ?_ w2 ⟨rfl,rfl⟩
  rcases cH.mp (hS1 s hs) with rfl | rfl
  ·rfl
  ·rfl
 have hfl:(S.map fun s=>if s=0 then x else y).flatten.length≤56:=by
  rw [← fe]
  refine aa (vt _ (fun _=>14) S fun s _=>?_) ?_
  ·split
   ·exact aa (aM _ _) hxy
   ·exact aa (cm _ _) hxy
  ·rw [List.map_const',List.sum_replicate_nat]
   exact cg 14 hSl
 walk_at "go"
 refine nT (xs:=S.map fun s=>if s=0 then x else y) (by simpa [Function.comp_def] using LV.fr _) (aa hfl (by decide)) ?_
 rw [← fe] at hfl ⊢
 walk_at "go"
 refine nM ?_
 show M2 _ _ _ _ _ _
 refine up ?_
 walk_at "go"
 have hcl14:(if apL x y=[] then [] else (x++y).take (tkN x y - 1)).length≤14:=by
  split
  ·exact ba _
  ·rw [aP];exact aa (bZ _ _) hbl
 refine i7 (.str (if apL x y=[] then [] else (x++y).take (tkN x y - 1))) (fun h=>?_) (fun h=>?_) ?_
 ·have h:=of_decide_eq_true h
  have ht:1≤tkN x y:=by
   obtain ⟨p,r,hp⟩:=fq h
   unfold tkN;rw [hp];exact cm 1 p
  walk_at "go"
  refine ⟨_,_,_,.none,.int _,.none,sub_str,nJ (aa hbl (by decide)) ?_⟩
  exact ⟨by rw [if_neg h],rfl⟩
 ·have h:=of_decide_eq_false h
  walk_at "go"
  exact ⟨by rw [if_pos (bc h)],rfl⟩
 generalize hK:Cont _ _ _=KK
 walk_at "go"
 rotate_left
 ·exact aa (aX hfl hcl14) (by decide)
 subst hK
 have hL:(jg x y S).length≤70:=by
  unfold jg
  rw [af]
  exact aX hfl hcl14
 rw [show (S.flatMap (fun s=>if s=0 then x else y)++if apL x y=[] then [] else (x++y).take (tkN x y - 1))=jg x y S from rfl]
 exact cont_next (ExP.has (q S hSl hS1 hL) (by walk_at "has"))
end
theorem wk {x:List Nat} (h:∀ c∈x,c < 0x110000):OkS x:=by
 unfold OkS PySem.PyData.strOk
 simpa using h
theorem nA {x:List Nat} (h:InL x):OkS x:=wk fun c hc=>(ya (h c hc)).chr
open PySem.Spec PySem.SeqAt in
theorem u4 {a b c e:List Nat} (ha:OkS a) (hb:OkS b) (hc:OkS c) (he:OkS e) (i j k l:Int):shaped (.tuple [.tuple [.list [.str ⟨a.toArray⟩,.str ⟨b.toArray⟩],.list [.str ⟨c.toArray⟩,.str ⟨e.toArray⟩]],.int i,.int j,.int k,.int l])=true:=by
 have ha:PySem.PyData.strOk ⟨a.toArray⟩=true:=ha
 have hb:PySem.PyData.strOk ⟨b.toArray⟩=true:=hb
 have hc:PySem.PyData.strOk ⟨c.toArray⟩=true:=hc
 have he:PySem.PyData.strOk ⟨e.toArray⟩=true:=he
 simp [shaped,PySem.PyData.canLay0,PySem.PyData.canLayAll0,PySem.PyData.depth,PySem.PyData.depthAll,ha,hb,hc,he]
theorem xX {w:List Nat} (h:InL w) {T:Nat} (hT:0 < T→0 < w.length):InL (pre w T):=by
 rcases bL T with rfl | h0
 ·intro c hc;cases hc
 ·exact xc (hT h0) h T
theorem xV {w:List Nat} (h:InL w) (T:Nat):InL (trn w T):=by
 rcases bL w.length with e | h0
 ·rw [bA e];intro c hc;cases hc
 ·exact tp h0 h T
theorem xQ {x y S:List Nat} (ix:InL x) (iy:InL y):InL (jg x y S):=fun c hc=>by
 unfold jg at hc
 rcases bb.mp hc with hc | hc
 ·obtain ⟨s,_,hc⟩:=gB.mp hc
  split at hc
  ·exact ix c hc
  ·exact iy c hc
 ·split at hc
  ·cases hc
  ·exact (ix.app iy) c (ey hc)
noncomputable abbrev vp (A:iL) (t:List Nat) (es:List (List Nat×Nat×Nat)) (W:Nat) (x y S:List Nat):Fm:=[("width", .val (.int (W:Nat))),("turned", .val (.lst [.str (trn x (tkN x y)),.str (trn y (tkN x y))])),("front", .val (.lst [.str (pre x (tkN x y)),.str (pre y (tkN x y))])),("reader", .val (.loc A.x)),("unread", .val (.loc A.lf)),("text", .val (.str t)),("entries", .val (.lst (l9 es))),
 ("letters", .val (.str (jg x y S))),("sides", .val (.lst (iS S))),("ticks", .val (.int (tkN x y:Nat))),("apart", .val (.lst (iS (apL x y)))),("sizes", .val (.lst [.int (x.length:Nat),.int (y.length:Nat)])),("words", .val (.tup [.str x,.str y])),("places", .emp)]
section
variable {K:Kx} {ρ:Fm} {σ:ij} {d:Nat}
theorem Fg {cs x y S:List Nat} (hcl:cs.length=8) (hclt:∀ k,k < 8→cs.getD k 0 < 2 ^ 64) (ix:InL x) (iy:InL y) (hxy:x.length + y.length≤14) (hS:S.length≤4) (hS1:∀ s∈S,s≤1) (hL:(jg x y S).length≤70) {Q:Fl→Fm→ij→Prop}
  (q:∀ A t es o g W σ' ρ',FI (jg x y S) (jg x y S).length o t es g→w3 (jg x y S).length t es→Lex A σ' t 1 []→Sub σ σ'→5≤W→W≤1200→Has ρ' (vp A t es W x y S)→Q .next ρ' σ'):ExP l5 (Dv cs x y S) σ (uv 9) Q:=by
 rw [pT]
 conv=>arg 4;whnf
 simp only [cL,dj,dJ,eA]
 have w2:(2:Nat) < 2 ^ 25:=by decide
 have hxl:x.length≤14:=aa (aM _ _) hxy
 have hyl:y.length≤14:=aa (cm _ _) hxy
 have hbl:(x++y).length≤14:=by rw [af];exact hxy
 have hol:(y++x).length≤14:=by rw [af,aQ];exact hxy
 have hTk:=ticks x y
 have hshn:shN x.length y.length≤(x++y).length:=by rw [af];exact wc _ _
 have hin:=xQ (S:=S) ix iy
 walk_at "go"
 refine uF (by decide) hin hL hcl hclt fun t es o g hF hFt=>?_
 have ht7:t.length≤700:=aa hFt.t (aO 10 hL)
 have hok:OkL t:=⟨ae ht7 (by decide),hF.ok⟩
 have hct:(vH t).length=t.length:=ag _
 walk_at "go"
 refine mK (by decide) hok fun A σ1 hA1 hs1 hn1=>?_
 walk_at "go"
 refine mK (by decide) hok fun Z σ2 hZ hs2 hn2=>?_
 have hA:=hA1.mono hs2
 have hB2:r8 A Z σ2 t 1 t 1:=by
  refine ⟨hA,hZ,?_,?_,?_,?_,?_⟩
  ·exact fun e=>absurd (hA1.hd.symm.trans (e ▸ hn2.2.1)) (al _)
  ·exact fun e=>absurd (hA1.hlf.symm.trans (e ▸ hn2.1)) (al _)
  ·exact fun e=>absurd (hA1.hlf.symm.trans (e ▸ hn2.2.2)) (al _)
  ·exact fun e=>absurd (hA1.hpb.symm.trans (e ▸ hn2.1)) (al _)
  ·exact fun e=>absurd (hA1.hpb.symm.trans (e ▸ hn2.2.2)) (al _)
 have hsub:Sub σ σ2:=fun a o e=>hs2 a o (hs1 a o e)
 walk_at "go"
 refine ⟨_,_,_,.none,.int _,.none,sub_str,nJ (aa hbl (by decide)) ?_⟩
 rw [← hTk.front.1]
 walk_at "go"
 refine ⟨_,_,_,.none,.int _,.none,sub_str,nJ (aa hol (by decide)) ?_⟩
 rw [← hTk.front.2]
 walk_at "go"
 refine jI (by kernel_rfl) (by walk_at "mem") (by intro c e;cases e) ?_
 refine iU (caps:=[("ticks", .val (.int (tkN x y:Nat)))]) (iQ (by kernel_rfl) (by walk_at "has") (by rfl)) (fun w:List Nat=>V.str w) (fun w=>[("word", .val (.str w))]) (fun w=>V.str (trn w (tkN x y))) ?_
 walk_at "go"
 refine ⟨[x,y],.tup _,an (bv 2) (by decide),fun w hw=>⟨iJ (by kernel_rfl),by kernel_rfl,fun D acc hD=>?_⟩,?_⟩
 ·have hwl:w.length≤14:=by
   rcases am.mp hw with rfl | hw
   ·exact hxl
   ·obtain rfl:=br.mp hw;exact hyl
  simp only [ar,aw]
  walk_at "go"
  rw [show (w != [])=decide (0 < w.length) by cases w<;>simp]
  refine jQ (fun h=>?_) (fun h=>?_)
  ·have hr:=bg (tkN x y) h
   walk_at "go"
   rotate_left
   ·exact ae hwl (by decide)
   ·exact bE h
   ·exact jK (bE h) (ae hwl (by decide))
   refine ⟨_,_,_,.int _,.none,.none,sub_str,CA (aa hwl (by decide)) ?_⟩
   walk_at "go"
   rotate_left
   ·exact ae hwl (by decide)
   ·exact bE h
   ·exact jK (bE h) (ae hwl (by decide))
   refine ⟨_,_,_,.none,.int _,.none,sub_str,nJ (aa hwl (by decide)) ?_⟩
   walk_at "go"
   ·exact ⟨by rw [Bi h],rfl⟩
   ·rw [bk,aP]
    exact aa (aX (aa (bK _ _) hwl) (aa (bZ _ _) hwl)) (by decide)
  ·walk_at "go"
   have e:w=[]:=bA (fK h)
   exact ⟨by rw [e];rfl,rfl⟩
 rw [show dl (fun w=>V.str (trn w (tkN x y))) [x,y]=[.str (trn x (tkN x y)),.str (trn y (tkN x y))] from rfl]
 have hA5:=hA.hlf
 have hZ5:=hZ.hlf
 walk_at "go"
 rotate_left
 ·exact ae hbl (by decide)
 refine sx (by decide) hB2 hxl hyl (aa (bK _ _) (aa hbl (by decide))) hTk.pos hTk.le hTk.agree hTk.fin ?_
 walk_at "go"
 rotate_left
 ·rw [hct];exact ae ht7 (by decide)
 ·rw [hct];exact ae ht7 (by decide)
 ·exact ae ht7 (by decide)
 ·exact ae ht7 (by decide)
 have hTp:0 < tkN x y→0 < x.length∧0 < y.length:=fun h=>hTk.pos (an h hTk.le)
 rw [hct]
 show M2 _ _ _ _ _ _
 refine zS rfl (.tup (.cons (.tup (.cons (.lst (.cons (.str _) (.cons (.str _) .nil))) (.cons (.lst (.cons (.str _) (.cons (.str _) .nil))) .nil))) (.cons (.int _) (.cons (.int _) (.cons (.int _) (.cons (.int _) .nil)))))) (u4 (nA (xX ix fun h=>(hTp h).1)) (nA (xX iy fun h=>(hTp h).2)) (nA (xV ix _)) (nA (xV iy _)) _ _ _ _) ?_
 walk_at "go"
 refine jB (k:=2) rfl hcl (by decide) ?_
 obtain ⟨b,hb⟩:∃ b,cs.getD 2 0=b:=⟨_,rfl⟩
 rw [hb]
 walk_at "go"
 refine jB (k:=2) rfl hcl (by decide) ?_
 rw [hb]
 walk_at "go"
 refine i7 (.int ((if b / 24 % 8=7 then 1100 else 0:Nat):Int)) (fun h=>?_) (fun h=>?_) ?_
 ·rw [if_pos (by simpa using h)]
  walk_at "go"
  exact ⟨rfl,rfl⟩
 ·rw [if_neg (by simpa using h)]
  walk_at "go"
  exact ⟨rfl,rfl⟩
 have hx6:(if b / 24 % 8=7 then 1100 else 0)≤1100:=by split<;>decide
 have h24:=bg b (show 24 > 0 by decide)
 generalize (if b / 24 % 8=7 then 1100 else 0)=x6 at *
 generalize b % 24=x24 at *
 walk_at "go"
 exact q A t es o g (5 + x24 + x6) σ2 _ hF hFt hA hsub (by lia) (by lia) (by walk_at "has")
end
noncomputable def Cr:{ p:List Stmt×List Stmt // p=((yN.drop 17).take 1,yN.drop 18) }:=Classical.choice ⟨⟨_,rfl⟩⟩
noncomputable def Cs:List Stmt:=Cr.1.1
noncomputable def rj:List Stmt:=Cr.1.2
theorem xR:Cs=(yN.drop 17).take 1:=congrArg Prod.fst Cr.2
theorem pS:rj=yN.drop 18:=congrArg Prod.snd Cr.2
theorem yM:te.body=.stmts (uv 0++(Cs++rj)):=by
 rw [pT,xR,pS];kernel_rfl
section
variable {K:Kx} {ρ:Fm} {σ:ij}
theorem AD {x:Str} {np pos:Pos} {args:List Expr} {F:V} {PL:List V} {A:Around} {env:Env} {s:Shared} (ha:AOk K.d A) (hr:Rep K env ρ σ s.heap) (hi:Inv σ s)
  (h:EvP K ρ σ (.Name x np) (fun fv σ₁=>EvsP K ρ args σ₁ (fun pl σ₂=>KeepOk σ₂ fv∧fv=F∧pl=PL∧σ₂=σ))) {QM:Value→Shared→Prop}
  (k:∀ s₁ f vs,Inv σ s₁→Ext σ s.heap σ s₁.heap→Rel σ s₁.heap f F→iF σ s₁.heap vs PL→wpAny (model C.prog C.w) A (PySem.call f vs) QM Bot s₁)
  (hse:autoParam (∀ env,backTo pos (starEach args env)=args.map fun e=>(false,eval e env)) aI):wpAny (model C.prog C.w) A (eval (.Call (.Name x np) args [] pos) env) QM Bot s:=by
 refine wpAny_Call_NameR (h A env s ha hr hi _ fun f fv σ₁ s₁ h₁ i₁ e₁ r₁=>?_)
 rw [hse]
 refine jt (js (by simp) (jP ha h₁ (hr.mono e₁) i₁ fun vs pl σ₂ s₂ q i₂ e₂ r₂=>⟨fun E Q hk=>q.1 s₂ f i₂ (r₁.mono e₂.seq) _ A E Q hk,?_⟩))
 obtain ⟨_,q1,q2,q3⟩:=q
 subst q1 q2 q3
 exact k s₂ f vs i₂ (e₁.trans e₂) (r₁.mono e₂.seq) r₂
end
inductive GJ (σ:ij) (r acc:List V) (σ':ij):Prop
 | mk (k:Nat) (hk:k≤2) (e0:σ'=σ) (e1:r=[V.int (0:Nat),V.int (1:Nat)].drop k) (e2:acc=aC k (.bool true))
inductive GT (x y:List Nat) (T:Nat) (v:V) (r acc:List V):Prop
 | mk (k:Nat) (w:List Nat) (e0:v=.int (k:Nat)) (hw:w∈[x,y]) (h1:[V.str x,.str y][k]?=some (.str w)) (h2:[V.str (pre x T),.str (pre y T)][k]?=some (.str (pre w T))) (h3:[V.str (trn x T),.str (trn y T)][k]?=some (.str (trn w T)))
  (hn:∀ σ,GJ σ r (acc++[.bool true]) σ) (hl:acc.length < 2 ^ 24)
theorem GJ.turn {σ σ':ij} {v:V} {r acc:List V} (h:GJ σ (v :: r) acc σ') (x y:List Nat) (T:Nat):σ'=σ∧GT x y T v r acc:=by
 obtain ⟨k,hk,e0,e1,e2⟩:=h
 refine ⟨e0,?_⟩
 subst e2
 rcases k with _ | _ | _ | k
 ·injection e1 with a b
  exact ⟨0,x,a,ao,rfl,rfl,rfl,fun σ=>⟨1,by decide,rfl,b,rfl⟩,by decide⟩
 ·injection e1 with a b
  exact ⟨1,y,a,ai _ ao,rfl,rfl,rfl,fun σ=>⟨2,by decide,rfl,b,rfl⟩,by decide⟩
 ·injection e1
 ·lia
theorem GJ.done {σ σ':ij} {acc:List V} (h:GJ σ [] acc σ'):σ'=σ∧acc=[.bool true,.bool true]:=by
 obtain ⟨k,hk,e0,e1,e2⟩:=h
 refine ⟨e0,?_⟩
 subst e2
 rcases k with _ | _ | _ | k
 ·injection e1
 ·injection e1
 ·rfl
 ·lia
theorem Ab {σ:ij} {A:Around} {env:Env} {s:Shared} {LA:iL} {t:List Nat} {es:List (List Nat×Nat×Nat)} {W:Nat} {x y S:List Nat} (ix:InL x) (iy:InL y) (hxy:x.length + y.length≤14) (hW:5≤W) (hW2:W≤1200)
  (ha:AOk 119 A) (hfr:A.frames=some [env]) (hkL:env.scope.kind=.function) (hfL:env.frame=some env.locals) (hr:Rep l5 env (vp LA t es W x y S) σ s.heap) (hi:Inv σ s) {QM:Flow→Shared→Prop}
  (hq:∀ D s',σ D=none→Rep l5 env (("good", .val (.loc D)) :: vp LA t es W x y S) (io σ D [.bool true,.bool true]) s'.heap→Inv (io σ D [.bool true,.bool true]) s'→jz env σ s.heap (io σ D [.bool true,.bool true]) s'.heap→wpAny (model C.prog C.w) A (execs rj env) QM Bot s'):
  wpAny (model C.prog C.w) A (execs (Cs++rj) env) QM Bot s:=by
 have w2:(2:Nat) < 2 ^ 25:=by decide
 have hTk:=ticks x y
 have hbl:(x++y).length≤14:=by rw [af];exact hxy
 have hT14:tkN x y≤14:=aa hTk.le (aa (bK _ _) hbl)
 have hwl:∀ w∈[x,y],InL w∧w.length≤14∧(w=[]→tkN x y=0):=fun w hw=>by
  have h0:∀ (n:Nat),(x.length=0∨y.length=0)→tkN x y=0:=fun _ h=>fK fun hp=>by
   have:=hTk.pos (an hp hTk.le)
   lia
  rcases am.mp hw with rfl | hw
  ·exact ⟨ix,aa (aM _ _) hxy,fun e=>h0 0 (.inl (by rw [e];rfl))⟩
  ·obtain rfl:=br.mp hw
   exact ⟨iy,aa (cm _ _) hxy,fun e=>h0 0 (.inr (by rw [e];rfl))⟩
 rw [xR]
 conv=>arg 3;arg 1;arg 1;whnf
 simp only [cL,dj,dJ,eA]
 refine za ?_
 refine wpAny_execs_cons ?_
 refine pk (K:=l5) (caps:=[("words", .val (.tup [.str x,.str y])),("front", .val (.lst [.str (pre x (tkN x y)),.str (pre y (tkN x y))])),("turned", .val (.lst [.str (trn x (tkN x y)),.str (trn y (tkN x y))])),("width", .val (.int (W:Nat)))]) (iQ (by kernel_rfl) (by walk_at "has") (by rfl)) (by kernel_rfl) (by kernel_rfl) ha hr hi (items:=[V.int (0:Nat),V.int (1:Nat)]) (pv:=.tup [V.int (0:Nat),V.int (1:Nat)]) (.tup _) ?_ (GJ σ) ⟨0,by decide,rfl,rfl,rfl⟩ ?_ ?_
 ·walk_at "go"
  exact ⟨rfl,rfl⟩
 ·intro v r acc σ₂ hJ
  refine bc fun hbc=>?_
  obtain ⟨e0,k,w,e1,hw,h1,h2,h3,hn,hl⟩:=hJ.turn x y (tkN x y)
  obtain ⟨iw,wl,w0⟩:=hwl w hw
  refine hbc ?_
  clear hbc hJ
  subst e0 e1
  refine ⟨[("k", .val (.int (k:Nat)))],iJ (by kernel_rfl),oM (by kernel_rfl),fun D Lc s' hD hr' hi' lo QM' hq'=>?_⟩
  simp only [ar,aw] at hr'
  refine AD (F:=.raw (.ref jq)) (PL:=[.str w,.str (pre w (tkN x y)),.str (trn w (tkN x y)),.int (W:Nat)]) ha hr' hi' ?_ fun s₁ f vs i₁ x₁ rf rv=>?_
  ·walk_at "go"
   refine Ej h1 w2 ?_
   walk_at "go"
   refine iV (.fr _) h2 w2 ?_
   walk_at "go"
   refine iV (.fr _) h3 w2 ?_
   walk_at "go"
   exact ⟨rfl,rfl,rfl⟩
  ·have x1:=jY.of lo x₁
   have lo1:=lo.next x1
   rcases bL w.length with hz | hz
   ·have ew:w=[]:=bA hz
    subst ew
    rw [w0 rfl,show pre [] 0=[] from rfl,show trn [] 0=[] from rfl] at rv
    obtain ⟨_,rfl⟩:=Rel.inv rf
    refine yT (d:=117) (by decide) (envL:=env) (L:=env.locals) hW hW2 ha i₁ rv lo1.ns lo1.n0 lo1.nt lo1.lo hfr hkL hfL fun s₂ i₂ x₂ n₂=>?_
    exact hq' _ _ _ _ hl hD (hn _) i₂ (x1.trans ⟨x₂,n₂,lo1.n0⟩) (.bool true)
   ·have hc:CallV 119 (.raw (.ref jq)) [.str w,.str (pre w (tkN x y)),.str (trn w (tkN x y)),.int (W:Nat)] (io σ₂ D acc) (fun v σ'=>v=.bool true∧σ'=io σ₂ D acc):=
     CallV.pure (pB (by decide) hz iw wl hT14 hW hW2 fun σ' sb=>⟨sb,_,.same _ (by intro a e;cases e),rfl,rfl⟩)
    refine hc A s₁ f vs ha i₁ rf rv _ fun v pv σ' s₂ q i₂ x₂ r₂=>?_
    obtain ⟨e0,e1⟩:=q
    subst e0
    rw [e1] at i₂ x₂
    exact hq' _ _ _ _ hl hD (hn _) i₂ (x1.trans (jY.of lo1 x₂)) (Rel.inv r₂ ▸ .bool true)
 ·intro D acc σ₂ s' hJ hD hr2 hi2 x2
  obtain ⟨e0,e1⟩:=hJ.done
  subst e0 e1
  exact wpAny_execs_nil (hq D s' hD hr2 hi2 x2)
theorem ET {K:Kx} {x y z:Str} {p1 p2 p3 pos:Pos} {k:Nat} {v w u:V} (h1:K.names.lookup x=some .local) (h2:K.names.lookup y=some .local) (h3:K.names.lookup z=some .local) (hn:[x,y,z].Nodup):kN K (.Tuple [.Name x p1,.Name y p2,.Name z p3] k pos) (.tup [v,w,u]) [(x,.val v),(y,.val w),(z,.val u)]:=by
 have:=kN.tup (K:=K) [(x,p1),(y,p2),(z,p3)] k pos [v,w,u] rfl (fun q hq=>(am.mp hq).elim (fun e=>e ▸ h1) fun hq=>(am.mp hq).elim (fun e=>e ▸ h2) fun hq=>(am.mp hq).elim (fun e=>e ▸ h3) fun hq=>nomatch hq) (by simpa using hn)
 simpa [pslots] using this
noncomputable def nL (x y S:List Nat):Nat:=if apL x y=[] then 0 else S.length
noncomputable def eN (es:List (List Nat×Nat×Nat)) (P:Nat):Nat:=((es.filter fun x=>decide (P≤x.2.1)).map (·.2.2)).headD 0
noncomputable def lkN (x y S t:List Nat) (es:List (List Nat×Nat×Nat)):List (Nat×Nat):=(aT (nL x y S)).map fun k=>(S.getD k 0,t.length - eN es (tkN x y + plN x y S k))
noncomputable abbrev Du (A:iL) (D:Addr) (t:List Nat) (es:List (List Nat×Nat×Nat)) (W:Nat) (x y S:List Nat):Fm:=("good", .val (.loc D)) :: vp A t es W x y S
noncomputable abbrev vo (A:iL) (D:Addr) (t:List Nat) (es:List (List Nat×Nat×Nat)) (x y S:List Nat):Fm:=[("looks", .val (.lst (lkV (lkN x y S t es)))),("good", .val (.loc D)),("front", .val (.lst [.str (pre x (tkN x y)),.str (pre y (tkN x y))])),("reader", .val (.loc A.x)),("unread", .val (.loc A.lf)),("text", .val (.str t)),("entries", .val (.lst (l9 es))),
 ("letters", .val (.str (jg x y S))),("ticks", .val (.int (tkN x y:Nat))),("sizes", .val (.lst [.int (x.length:Nat),.int (y.length:Nat)]))]
theorem zo (x y:List Nat) {s:Nat} (hs:s≤1):[V.int (x.length:Nat),.int (y.length:Nat)][s]?=some (.int ((if s=0 then x.length else y.length:Nat):Int)):=by
 rcases cH.mp hs with rfl | rfl<;>rfl
section
variable {K:Kx} {ρ:Fm} {σ:ij} {d:Nat}
theorem Ff {A:iL} {D:Addr} {t:List Nat} {es:List (List Nat×Nat×Nat)} {W:Nat} {x y S:List Nat} (hxy:x.length + y.length≤14) (hS:S.length≤4) (hS1:∀ s∈S,s≤1) (ht:t.length≤700) (he:es.length≤140)
  (hlk:∀ k,k < nL x y S→∃ e0 r,(es.filter fun z=>decide (tkN x y + plN x y S k≤z.2.1)).map (·.2.2)=e0 :: r∧e0≤t.length) {Q:Fl→Fm→ij→Prop}
  (q:ExP l5 (vo A D t es x y S) σ (rj.drop 2) Q):ExP l5 (Du A D t es W x y S) σ rj Q:=by
 rw [pS] at q ⊢
 generalize hq:ExP l5 (vo A D t es x y S) σ _ Q=QQ at q
 conv=>arg 4;whnf
 conv at hq=>lhs;arg 4;whnf
 have w2:(2:Nat) < 2 ^ 25:=by decide
 have hap:(apL x y).length≤14:=aa (bW _ _) (by rw [aH,af];exact hxy)
 walk_at "go"
 refine jI (by kernel_rfl) (by walk_at "mem") (by intro c e;cases e) ?_
 refine ld (caps:=[("ticks", .val (.int (tkN x y:Nat))),("sizes", .val (.lst [.int (x.length:Nat),.int (y.length:Nat)])),("sides", .val (.lst (iS S))),("apart", .val (.lst (iS (apL x y))))]) (iQ (by kernel_rfl) (by walk_at "has") (by rfl)) (fun k:Nat=>V.int ((k:Nat):Int)) (fun k=>[("k", .val (.int ((k:Nat):Int)))]) (fun _=>decide (apL x y≠[])) (fun k=>V.int ((tkN x y + plN x y S k:Nat):Int)) ?_
 walk_at "go"
 rotate_left
 ·rw [ag];exact ae hS (by decide)
 rw [show (iS S).length=S.length from ag _]
 refine ⟨_,ja S.length (ae hS (by decide)),by rw [aH];exact ae hS (by decide),fun k hk=>⟨iJ (by kernel_rfl),by kernel_rfl,fun E acc hE=>?_⟩,?_⟩
 ·have hk:=bR.mp hk
  simp only [ar,aw]
  walk_at "go"
  refine nM ?_
  walk_at "go"
  show M2 _ _ _ _ _ _
  refine up ?_
  walk_at "go"
  refine jA (fun h=>?_) (fun h=>?_)
  ·refine ⟨rfl,h.symm,fun _=>?_⟩
   walk_at "go"
   refine iU (caps:=[("sizes", .val (.lst [.int (x.length:Nat),.int (y.length:Nat)]))]) (iQ (by kernel_rfl) (by walk_at "has") (by rfl)) (fun s:Nat=>V.int ((s:Nat):Int)) (fun s=>[("side", .val (.int ((s:Nat):Int)))]) (fun s=>V.int ((if s=0 then x.length else y.length:Nat):Int)) ?_
   walk_at "go"
   refine ⟨_,_,_,.none,.int _,.none,sub_lst (.fr _),ku (.fr _) (by simp) (by rw [ag];exact aa hS (by decide)) ?_⟩
   rw [mV,← eG]
   refine ⟨S.take k,.lst _,by rw [aP];exact ae (bZ _ _) (ae hS (by decide)),fun s hs=>⟨iJ (by kernel_rfl),by kernel_rfl,fun F acc hF=>?_⟩,?_⟩
   ·have hs1:=hS1 s (ey hs)
    simp only [ar,aw]
    walk_at "go"
    refine iV (.fr _) (zo x y hs1) w2 ?_
    exact ⟨rfl,rfl⟩
   walk_at "go"
   refine wS (xs:=(S.take k).map fun s=>if s=0 then x.length else y.length) (by simpa [iS,Function.comp_def] using LV.fr _) ?_
   walk_at "go"
   exact ⟨rfl,rfl⟩
  ·exact ⟨rfl,h.symm,fun e=>absurd (h.symm.trans e) (by decide)⟩
 have eP:((aT S.length).filter fun _=>decide (apL x y≠[])).map (fun k:Nat=>V.int ((tkN x y + plN x y S k:Nat):Int))=iS ((aT (nL x y S)).map fun k=>tkN x y + plN x y S k):=by
  unfold nL
  by_cases h:apL x y=[]
  ·rw [if_pos h,decide_eq_false (Classical.not_not.mpr h)];simp
  ·rw [if_neg h,decide_eq_true h,c6.mpr fun _ _=>rfl];simp [iS,Function.comp_def]
 rw [eP]
 have hnS:nL x y S≤S.length:=by unfold nL;split<;>simp
 have hnL:nL x y S≤4:=aa hnS hS
 generalize hK:Cont _ _ _=KK
 walk_at "go"
 subst hK
 walk_at "go"
 refine od (caps:=[("places", .val (.lst (iS ((aT (nL x y S)).map fun k=>tkN x y + plN x y S k)))),("sides", .val (.lst (iS S))),("text", .val (.str t)),("entries", .val (.lst (l9 es)))]) (yf (by kernel_rfl) (by walk_at "has") (by rfl) (fun _ _=>rfl) (fun _=>rfl)) (by kernel_rfl!) (fun k:Nat=>V.int ((k:Nat):Int)) (fun _=>true) (fun k=>V.tup [.int (S.getD k 0:Nat),.int ((t.length - eN es (tkN x y + plN x y S k):Nat):Int)]) ?_
 have hPl:(iS ((aT (nL x y S)).map fun k=>tkN x y + plN x y S k)).length=nL x y S:=by rw [ag,ag,aH]
 walk_at "go"
 rotate_left
 ·rw [hPl];exact ae hnL (by decide)
 rw [hPl]
 refine ⟨_,ja (nL x y S) (ae hnL (by decide)),by rw [aH];exact ae hnL (by decide),fun k hk E acc hE=>?_,?_⟩
 ·have hk:=bR.mp hk
  have hks:=an hk hnS
  have hPk:(iS ((aT (nL x y S)).map fun k=>tkN x y + plN x y S k))[k]?=some (.int ((tkN x y + plN x y S k:Nat):Int)):=by
   rw [aN,aN,bO hk];rfl
  refine ifs_nil' ⟨rfl,rfl,fun _=>?_⟩
  walk_at "go"
  refine iV (.fr _) (nD hks) (by rw [ag];exact ae hS (by decide)) ?_
  walk_at "go"
  refine ld (caps:=[("k", .val (.int ((k:Nat):Int))),("places", .val (.lst (iS ((aT (nL x y S)).map fun k=>tkN x y + plN x y S k))))]) (iQ (by kernel_rfl) (by walk_at "has") (by rfl)) (fun z:List Nat×Nat×Nat=>.tup [.str z.1,.int ((z.2.1:Nat):Int),.int ((z.2.2:Nat):Int)]) (fun z=>[("word", .val (.str z.1)),("count", .val (.int ((z.2.1:Nat):Int))),("end", .val (.int ((z.2.2:Nat):Int)))]) (fun z=>decide (tkN x y + plN x y S k≤z.2.1)) (fun z=>V.int ((z.2.2:Nat):Int)) ?_
  walk_at "go"
  refine ⟨es,.lst _,ae he (by decide),fun z hz=>⟨ET (by kernel_rfl) (by kernel_rfl) (by kernel_rfl) (by decide +kernel),by kernel_rfl,fun F acc hF=>?_⟩,?_⟩
  ·simp only [ar,aw]
   walk_at "go"
   refine iV (.fr _) hPk (by rw [hPl];exact ae hnL (by decide)) ?_
   walk_at "go"
   refine jQ (fun h=>?_) (fun h=>?_)
   ·refine ifs_nil' ⟨rfl,(decide_eq_true (dM.mp h)).symm,fun _=>?_⟩
    walk_at "go"
    exact ⟨rfl,rfl⟩
   ·have h2:¬ tkN x y + plN x y S k≤z.2.1:=fun e=>h (dM.mpr e)
    exact ⟨rfl,(decide_eq_false h2).symm,fun e=>absurd (of_decide_eq_true e) h2⟩
  obtain ⟨e0,r,er,el⟩:=hlk k hk
  rw [show ((es.filter fun z=>decide (tkN x y + plN x y S k≤z.2.1)).map fun z=>V.int ((z.2.2:Nat):Int))=iS (e0 :: r) by rw [← er];simp [iS,Function.comp_def]]
  have ee:eN es (tkN x y + plN x y S k)=e0:=by unfold eN;rw [er];rfl
  rw [ee]
  walk_at "go"
  have hel:(e0 :: r).length≤140:=by rw [← er,ag];exact aa (bW _ _) he
  refine lx (.fr _) (by decide) rfl (by rw [ag];exact ae hel (by decide)) ?_
  walk_at "go"
  ·exact ⟨rfl,rfl⟩
  ·exact ae ht (by decide)
 rw [c6.mpr fun _ _=>rfl,show (aT (nL x y S)).map (fun k=>V.tup [.int (S.getD k 0:Nat),.int ((t.length - eN es (tkN x y + plN x y S k):Nat):Int)])=lkV (lkN x y S t es) by simp [lkV,lkN,Function.comp_def]]
 generalize hK:Cont _ _ _=KK
 walk_at "go"
 subst hK
 subst hq
 exact cont_next (ExP.has q (by walk_at "has"))
end
noncomputable abbrev lkD (l:List (Nat×Nat)):List PySem.PyData:=l.map fun x=>PySem.PyData.tuple [.int ((x.1:Nat):Int),.int ((x.2:Nat):Int)]
theorem CQ {σ:ij}:∀ l:List (Nat×Nat),sQ σ (lkV l) (lkD l):=by
 intro lr
 induction lr with
 | nil=>
  exact .nil
 | cons x l ihr=>
  exact .cons (.tup (.cons (.int _) (.cons (.int _) .nil))) (ihr)
open PySem.Spec PySem.SeqAt in
theorem u5 {ws:List (List Nat)} {m:List Nat} {l:List (Nat×Nat)} (h:∀ x∈ws,OkS x) (k:OkS m):shaped (.tuple [.list (ws.map fun x=>PySem.PyData.str ⟨x.toArray⟩),.str ⟨m.toArray⟩,.list (lkD l)])=true:=by
 have k:PySem.PyData.strOk ⟨m.toArray⟩=true:=k
 have key:PySem.PyData.canLayAll0 (lkD l)=true∧PySem.PyData.depthAll (lkD l)≤1:=by
  induction l with
  | nil=>exact ⟨rfl,by simp [PySem.PyData.depthAll]⟩
  | cons x l ih=>
   constructor
   ·show PySem.PyData.canLayAll0 (_ :: lkD l)=true
    simp only [PySem.PyData.canLayAll0,PySem.PyData.canLay0,dX,eH];exact ih.1
   ·show PySem.PyData.depthAll (_ :: lkD l)≤1
    simp only [PySem.PyData.depthAll,PySem.PyData.depth]
    exact Nat.max_le.mpr ⟨by decide,ih.2⟩
 have h3:=vl ws h
 simp only [shaped,PySem.PyData.canLay0,PySem.PyData.canLayAll0,PySem.PyData.depth,PySem.PyData.depthAll,k,key.1,h3.1,h3.2,dX,eH,decide_eq_true_eq]
 have:=key.2
 lia
theorem pP {x y r:List Nat} {p:Nat} (h:apL x y=p :: r):tkN x y=p + 1:=by unfold tkN;rw [h]
theorem xI {x y S:List Nat} (h:0 < nL x y S):nL x y S=S.length∧∃ p r,apL x y=p :: r:=by
 unfold nL at h ⊢
 cases e:apL x y with
 | nil=>rw [if_pos e] at h;exact absurd h (cB 0)
 | cons p r=>exact ⟨if_neg (fun g=>nomatch g),p,r,rfl⟩
theorem vm {x y r S:List Nat} {p:Nat} (h:apL x y=p :: r):jg x y S=mB x y p S:=by
 unfold jg mB
 rw [if_neg (fun g=>by rw [h] at g;cases g),pP h,cb]
theorem vi {x y S t g:List Nat} {es:List (List Nat×Nat×Nat)} {o:Bool} (F:FI (jg x y S) (jg x y S).length o t es g) (hS1:∀ s∈S,s≤1) {k:Nat} (hk:k < nL x y S):
  ∃ e0 r,(es.filter fun z=>decide (tkN x y + plN x y S k≤z.2.1)).map (·.2.2)=e0 :: r∧e0≤t.length∧∀ s z,y3 t (es.length + 2) (tkN x y + plN x y S k) s z→z=(s,t.length - e0):=by
 obtain ⟨h1,p,r,h2⟩:=xI (ci hk)
 rw [h1] at hk
 have hs:S.getD k 0≤1:=by rw [aj,ak hk];exact hS1 _ (bq hk)
 have hr:=(va h2 hk hs).1
 rw [← vm h2] at hr
 refine F.look (P:=tkN x y + plN x y S k) (by rw [pP h2];exact an (dK p) (aM _ _)) (by rw [pP h2,aQ];exact hr)
theorem zW {x y S t g:List Nat} {es:List (List Nat×Nat×Nat)} {o:Bool} (F:FI (jg x y S) (jg x y S).length o t es g) (hS1:∀ s∈S,s≤1) {p:Nat} (hp:0 < nL x y S→tkN x y=p + 1) {L:List (Nat×Nat)} (hL:L.length=nL x y S)
  (h:∀ i z,L[i]?=some z→y3 t (es.length + 2) (plN x y S i + p + 1) (S.getD i 0) z):L=lkN x y S t es:=by
 have hlen:(lkN x y S t es).length=nL x y S:=by unfold lkN;rw [ag,aH]
 refine List.ext_getElem? fun i=>?_
 rcases aZ i L.length with h1 | h1
 ·have hi:i < nL x y S:=hL ▸ h1
  obtain ⟨e0,r,er,el,hz⟩:=vi F hS1 hi
  have:=h i _ (ak h1)
  rw [show plN x y S i + p + 1=tkN x y + plN x y S i by rw [hp (ci hi)];lia] at this
  have e1:eN es (tkN x y + plN x y S i)=e0:=by unfold eN;rw [er];rfl
  rw [ak h1,hz _ _ this]
  unfold lkN
  rw [aN,bO hi,eY,e1]
 ·rw [bd h1,bd (by rw [hlen,← hL];exact h1)]
noncomputable def tS (A:iL) (σ:ij) (D:Addr) (n:Nat) (p:List (List Nat)) (g:List V):ij:=io (iG A σ [] n p) D g
section
variable {A:iL} {σ:ij} {D:Addr} {t:List Nat} {n₀:Nat} {p₀:List (List Nat)} (h:Lex A σ t n₀ p₀) (hD:σ D=none) (n:Nat) (p p':List (List Nat)) (g g':List V)
include h hD
theorem tq:Lex A (tS A σ D n p g) [] n p:=(h.set (l':=[]) (n':=n) (p':=p)).mono (Sub.refl.upd (h.fresh hD))
theorem vW:iG A (tS A σ D n p g) [] n p'=tS A σ D n p' g:=by
 have h1:Lex A (iG A σ [] n p) [] n p:=h.set
 unfold tS
 rw [jf h1 (h.fresh hD),h.twice]
theorem EU:iG A (io σ D g) [] n p=tS A σ D n p g:=jf h hD
omit h hD
theorem Bk:tS A σ D n p g D=some (.list g):=i8
theorem zg:upd (tS A σ D n p g) D (some (.list g'))=tS A σ D n p g':=kf
end
section
variable {K:Kx} {ρ:Fm} {σ:ij} {d:Nat}
theorem Al {Q:V→ij→Prop} (q:Q (.str []) σ):M2 d getItem (.str []) (.slc (some (-1)) none none) σ Q:=
 jU rfl (by decide) (fun _ _=>rfl) (by decide) q
theorem Fe {A:iL} {D:Addr} {t g:List Nat} {es:List (List Nat×Nat×Nat)} {o:Bool} {x y S:List Nat} (ix:InL x) (iy:InL y) (hxy:x.length + y.length≤14) (hS:S.length≤4) (hS1:∀ s∈S,s≤1) (hL:(jg x y S).length≤70)
  (F:FI (jg x y S) (jg x y S).length o t es g) (hF:w3 (jg x y S).length t es) (hA:Lex A σ t 1 []) (hD:σ D=none) {Q:Fl→Fm→ij→Prop}
  (q:∀ n,n=1 + iZ t→ExP l5 (("back", .val (.tup [.lst (j8 (es.map (·.1)++[[],[]])),.str (jg x y S),.lst (lkV (lkN x y S t es))])) :: vo A D t es x y S) (tS A σ D n [] [.bool true,.bool true]) (rj.drop 3) Q):ExP l5 (vo A D t es x y S) (io σ D [.bool true,.bool true]) (rj.drop 2) Q:=by
 rw [pS] at q ⊢
 generalize hq:fy 3 _=QQ at q
 conv=>arg 4;whnf
 conv at hq=>lhs;whnf
 have w2:(2:Nat) < 2 ^ 25:=by decide
 have hbl:(x++y).length≤14:=by rw [af];exact hxy
 have hTk:=ticks x y
 have hT14:tkN x y≤14:=aa hTk.le (aa (bK _ _) hbl)
 have hes:es.length≤140:=aa hF.e (aO 2 hL)
 have ht:t.length≤700:=aa hF.t (aO 10 hL)
 have hnS:nL x y S≤S.length:=by unfold nL;split<;>simp
 have hnL:nL x y S≤4:=aa hnS hS
 have hlkl:(lkV (lkN x y S t es)).length=nL x y S:=by unfold lkN;rw [ag,ag,aH]
 have hell:(l9 es).length=es.length:=ag ..
 obtain ⟨p,hp⟩:∃ p,0 < nL x y S→∃ r,apL x y=p :: r:=by
  rcases bL (nL x y S) with h | h
  ·exact ⟨0,fun h2=>by lia⟩
  ·obtain ⟨_,p,r,e⟩:=xI h
   exact ⟨p,fun _=>⟨r,e⟩⟩
 have hp1:0 < nL x y S→tkN x y=p + 1:=fun h=>(hp h).elim fun r e=>pP e
 obtain ⟨mks,hmk,hmq⟩:∃ mks,(0 < nL x y S→mks=[(x++y).getD p 0])∧∀ {σ':ij} {d:Nat} {Q:V→ij→Prop},Q (.str mks) σ'→M2 d getItem (.str (pre x (tkN x y))) (.slc (some (-1)) none none) σ' Q:=by
  rcases e:tkN x y with _ | T
  ·exact ⟨[],fun h=>by have:=hp1 h;lia,fun q=>Al q⟩
  ·refine ⟨[om x T],fun h=>?_,fun {σ' d Q} q=>?_⟩
   ·have e2:=hp1 h
    obtain ⟨r,e3⟩:=hp h
    have hfr:=hTk.front.1
    rw [e,kZ] at hfr
    have e4:T=p:=by lia
    subst e4
    have e5:=congrArg (fun l=>l[T]?) hfr
    simp only [bf (cA (jE x T)),jE,cw,cP,bv,if_true] at e5
    rw [aj,← e5];rfl
   ·rw [kZ]
    exact uy (by rw [jE];exact an (bv T) (aa (show T + 1≤14 from e ▸ hT14) (by decide))) q
 have hAg:Lex A (io σ D [.bool true,.bool true]) t 1 []:=hA.mono (Sub.refl.upd hD)
 walk_at "go"
 refine lx (.fr _) (by decide) rfl w2 ?_
 walk_at "go"
 refine ⟨_,_,_,.int _,.none,.none,sub_str,hmq ?_⟩
 walk_at "go"
 rotate_left
 ·rw [hlkl];exact ae hnL (by decide)
 ·rw [hell];exact ae hes (by decide)
 rw [hell,hlkl]
 refine uE (p:=p) (mk:=(x++y).getD p 0) (pl:=plN x y S) (sd:=fun j=>S.getD j 0) (by decide) hAg ⟨ae ht (by decide),F.ok⟩ (aa ht (by decide)) (aa (bp hes 2) (by decide)) hnL (F.tkN.1.trans (cC ..)) hL F.tkN.2 (fun h=>by rw [hp1 h];lia) hmk (zI x y S) (fun j hj=>?_) (fun j hj=>?_) fun n L hn hLl hLk=>?_
 ·have hj:=an hj hnS
  exact ⟨by rw [aj,ak hj];exact hS1 _ (bq hj),zJ hj⟩
 ·obtain ⟨r,e⟩:=hp (ci hj)
  have hj:=an hj hnS
  rw [vm e]
  exact va e hj (by rw [aj,ak hj];exact hS1 _ (bq hj))
 rw [zW F hS1 hp1 hLl hLk,F.words,EU hA hD]
 generalize hK:Cont _ _ _=KK
 walk_at "go"
 subst hK
 subst hq
 exact cont_next (ExP.has (q n hn) (by walk_at "has"))
end
section
variable {K:Kx} {ρ:Fm} {σ:ij} {d:Nat}
theorem Fd {A:iL} {D:Addr} {t g:List Nat} {es:List (List Nat×Nat×Nat)} {o:Bool} {x y S:List Nat} (ix:InL x) (iy:InL y) (hL:(jg x y S).length≤70) (hLi:InL (jg x y S))
  (F:FI (jg x y S) (jg x y S).length o t es g) (hF:w3 (jg x y S).length t es) (hA:Lex A σ t 1 []) (hD:σ D=none) {n:Nat} (hn:n=1 + iZ t) {Q:Fl→Fm→ij→Prop} (q:∀ ρ' σ',Q (.ret (.bool true)) ρ' σ'):
  ExP l5 (("back", .val (.tup [.lst (j8 (es.map (·.1)++[[],[]])),.str (jg x y S),.lst (lkV (lkN x y S t es))])) :: vo A D t es x y S) (tS A σ D n [] [.bool true,.bool true]) (rj.drop 3) Q:=by
 rw [pS]
 conv=>arg 4;whnf
 have w2:(2:Nat) < 2 ^ 25:=by decide
 have hes:es.length≤140:=aa hF.e (aO 2 hL)
 have ht:t.length≤700:=aa hF.t (aO 10 hL)
 have hwl:(es.map (fun z:List Nat×Nat×Nat=>z.1)++[[],[]]).length=es.length + 2:=by rw [af,ag];rfl
 have hw2:es.length + 2≤142:=bp hes 2
 have hok:∀ w∈es.map (fun z:List Nat×Nat×Nat=>z.1)++[[],[]],OkS w:=fun w hw=>by
  rcases bb.mp hw with h | h
  ·obtain ⟨z,hz,rfl⟩:=aA.mp h
   exact wk (F.wok z hz).2
  ·simp only [am,bj,or_false,or_self] at h
   subst h;exact wk fun c hc=>nomatch hc
 have hAg:=tq hA hD n [] [.bool true,.bool true]
 have hDg:=Bk (A:=A) (σ:=σ) (D:=D) n [] [.bool true,.bool true]
 walk_at "go"
 refine iU (caps:=[]) (iQ (by kernel_rfl) (by walk_at "has") (by rfl)) (fun z:List Nat×Nat×Nat=>.tup [.str z.1,.int ((z.2.1:Nat):Int),.int ((z.2.2:Nat):Int)]) (fun z=>[("word", .val (.str z.1)),("count", .val (.int ((z.2.1:Nat):Int))),("end", .val (.int ((z.2.2:Nat):Int)))]) (fun z=>V.str z.1) ?_
 walk_at "go"
 refine ⟨es,.lst _,ae hes (by decide),fun z hz=>⟨ET (by kernel_rfl) (by kernel_rfl) (by kernel_rfl) (by decide +kernel),by kernel_rfl,fun E acc hE=>?_⟩,?_⟩
 ·simp only [ar,aw]
  walk_at "go"
  exact ⟨rfl,rfl⟩
 walk_at "go"
 refine nS (zs:=j8 (es.map (·.1)++[[],[]])) (.fr _) (.fr _) (by rw [ag];exact aa hw2 (by decide)) (by simp [j8,Function.comp_def]) ?_
 walk_at "go"
 show M2 _ _ _ _ _ _
 refine nN rfl (.tup (.cons (.lst (oN _)) (.cons (.str _) (.cons (.lst (CQ _)) .nil)))) (u5 hok (nA hLi)) ?_
 generalize es.map (fun z:List Nat×Nat×Nat=>z.1)++[[],[]]=ws at hwl hok ⊢
 walk_at "go"
 rotate_left
 ·decide
 have hRl:ws.reverse.length=es.length + 2:=by rw [dH,hwl]
 have hRok:∀ w∈ws.reverse,OkS w:=fun w hw=>hok w (dz.mp hw)
 have eR:(iX none none (some (-1)) (j8 ws).length).filterMap ((j8 ws)[·]?)=j8 ws.reverse:=by rw [sV];exact eZ.symm
 have hsl:(j8 ws).length≤2 ^ 24:=by rw [ag,hwl];exact aa hw2 (by decide)
 generalize ws.reverse=R at hRl hRok eR
 rw [zg]
 generalize hg3:[V.bool true,V.bool true]++[V.bool true]=g3
 have hstep:∀ {E:Addr} {p p':List (List Nat)} {acc:List V},tS A σ D n p g3 E=none→Lex A (io (tS A σ D n p g3) E acc) [] n p∧iG A (io (tS A σ D n p g3) E acc) [] n p'=io (tS A σ D n p' g3) E acc∧tS A σ D n p' g3 E=none:=fun {E p p' acc} hE=>by
  have h1:=tq hA hD n p g3
  refine ⟨h1.mono (Sub.refl.upd hE),?_,?_⟩
  ·rw [jf h1 hE,vW hA hD]
  ·rw [← vW hA hD n p p' g3];exact h1.fresh hE
 refine p7 (caps:=[("reader", .val (.loc A.x))]) (iQ (by kernel_rfl) (by walk_at "has") (by rfl)) (by kernel_rfl!) ?_
 walk_at "go"
 refine jT (by decide) rfl (show 3 < 2 ^ 25 by decide) ?_
 walk_at "go"
 refine ⟨_,_,_,.none,.none,.int _,sub_lst (.fr _),ku (.fr _) (by simp) hsl ?_⟩
 rw [eR]
 refine ⟨_,.lst _,fun r acc σ'=>∃ i,i≤R.length∧r=(j8 R).drop i∧acc=aC i V.none∧σ'=tS A σ D n (R.take i) g3,⟨0,ba _,rfl,rfl,rfl⟩,?_,?_⟩
 ·intro v r acc σ₂ E hJ hE
  walk_at "u"; obtain ⟨i,hi,er,ea,es⟩:=hJ;walk_at "v"
  subst es ea
  have hlt:i < R.length:=by
   rcases aZ i R.length with q | q
   ·exact q
   ·rw [cu (by rw [ag];exact q)] at er;cases er
  have er2:r=(j8 R).drop (i + 1):=by rw [← dk,← er];rfl
  have ev:v=.str R[i]:=by
   rw [bI (by rw [ag];exact hlt)] at er
   injection er with e1 e2
   rw [e1,e8]
  subst ev
  refine ⟨[("word", .val (.str R[i]))],iJ (by kernel_rfl),oM (by kernel_rfl),ifs_nil' (ifp rfl ?_)⟩
  simp only [ar,aw]
  have hpl:(R.take i).length < 2 ^ 20:=by rw [aP,hRl];exact ae (aa (bZ _ _) hw2) (by decide)
  refine mz (hstep (p':=[]) hE).1 hpl (by decide) (fun Q q=>ev_name (by walk_at "mem") q) (fun Q q=>ev_name (by walk_at "mem") q) ?_
  refine ⟨by rw [eo];exact ae hi (by rw [hRl];exact ae hw2 (by decide)),tS A σ D n (R.take (i + 1)) g3,?_,(hstep (acc:=[]) hE).2.2,i + 1,hlt,er2,?_,rfl⟩
  ·rw [aY hlt];exact (hstep hE).2.1
  ·exact fO.symm
 intro acc σ₂ hJ
 walk_at "u"; obtain ⟨i,hi,er,ea,eS⟩:=hJ;walk_at "v"
 have hi2:i=R.length:=by
  have:=congrArg dA er
  rw [bk,ag] at this
  exact bM hi (dy this.symm)
 subst eS ea
 rw [hi2,cC]
 clear er hi hi2 i
 generalize hK:Cont _ _ _=KK
 walk_at "go"
 subst hK
 have hD3:=Bk (A:=A) (σ:=σ) (D:=D) n R g3
 walk_at "go"
 refine pX (caps:=[("reader", .val (.loc A.x))]) (iQ (by kernel_rfl) (by walk_at "has") (by rfl)) ?_
 walk_at "go"
 refine ⟨_,.lst _,n9 (R:=R) (tq hA hD n R g3) (by rw [hRl];exact ae hw2 (by decide)) eo (by kernel_rfl) (fun _=>by kernel_rfl) (fun v σ' z p Q hl hp q=>md hl (by decide) (fun Q q=>ev_name (by walk_at "mem") q) (jC hl hp q)) ?_⟩
 rw [vW hA hD]
 have hA4:=tq hA hD n [] g3
 have hD4:=Bk (A:=A) (σ:=σ) (D:=D) n [] g3
 walk_at "go"
 refine jT (by decide) rfl (show 3 < 2 ^ 25 by decide) ?_
 walk_at "go"
 refine ⟨_,_,_,.none,.none,.int _,sub_lst (.fr _),ku (.fr _) (by simp) hsl ?_⟩
 rw [eR]
 walk_at "go"
 show M2 _ _ _ _ _ _
 refine nN rfl (.lst (oN R)) (oZ R hRok) ?_
 generalize hK:Cont _ _ _=KK
 walk_at "go"
 rotate_left
 ·rw [← hg3];decide
 subst hK
 rw [zg,← hg3]
 refine cont_next (jO (x := "good") (r':=?_) (Bk ..) ?_ ?_ ?_);rotate_left
 ·walk_at "mem"
 ·walk_at "rest"
 have eF:upd (tS A σ D n [] ([V.bool true,V.bool true]++[V.bool true]++[V.bool true])) D none=iG A σ [] n []:=(jk _ _ _ _).trans (i0 (hA.fresh hD))
 rw [eF]
 have hA5:Lex A (iG A σ [] n []) [] n []:=hA.set
 have hd5:=hA5.hd
 have hx5:=hA5.hx
 walk_at "go"
 refine AE ?_
 walk_at "go"
 show M2 _ _ _ _ _ _
 refine oQ (.bool _) (.lst (ds:=(aC 4 true).map PyData.bool) (oO (f:=fun b=>b) (aC 4 true))) rfl (lq _) (by decide) ?_
 walk_at "go"
 refine ⟨rfl,?_⟩
 rw [if_pos (by decide)]
 refine lA ?_
 walk_at "go"
 rw [show Txt.count ⟨t.toArray⟩ ⟨#[10]⟩=((iZ t:Nat):Int) from AP t,show ((n:Nat):Int)=1 + ((iZ t:Nat):Int) by rw [hn];exact et 1 _,beq_self_eq_true]
 exact q _ _
end
inductive Gj (ρ':Fm) (σ':ij):Prop
 | mk (A:iL) (t:List Nat) (es:List (List Nat×Nat×Nat)) (o:Bool) (g:List Nat) (W:Nat) (x y S:List Nat) (ix:InL x) (iy:InL y) (hxy:x.length + y.length≤14) (hS:S.length≤4) (hS1:∀ s∈S,s≤1) (hL:(jg x y S).length≤70)
  (F:FI (jg x y S) (jg x y S).length o t es g) (hF:w3 (jg x y S).length t es) (hA:Lex A σ' t 1 []) (hW:5≤W) (hW2:W≤1200) (hh:Has ρ' (vp A t es W x y S))
section
variable {σ:ij}
theorem Cp {xs:List Int} (hx:xs.length≤63):ExP l5 (Ad xs) σ (uv 0) (fun fl ρ' σ'=>fl=.next∧Gj ρ' σ'):=
 Fi hx fun cs x y hcl hclt ix iy hxy=>Fh hcl hclt hxy fun S hS hS1 hL=>Fg hcl hclt ix iy hxy hS hS1 hL fun A t es o g W σ' ρ' F hF hA _ hW hW2 hh=>⟨rfl,.mk A t es o g W x y S ix iy hxy hS hS1 hL F hF hA hW hW2 hh⟩
theorem Aa {A:iL} {D:Addr} {t g:List Nat} {es:List (List Nat×Nat×Nat)} {o:Bool} {W:Nat} {x y S:List Nat} (ix:InL x) (iy:InL y) (hxy:x.length + y.length≤14) (hS:S.length≤4) (hS1:∀ s∈S,s≤1) (hL:(jg x y S).length≤70)
  (F:FI (jg x y S) (jg x y S).length o t es g) (hF:w3 (jg x y S).length t es) (hA:Lex A σ t 1 []) (hD:σ D=none):ExP l5 (Du A D t es W x y S) (io σ D [.bool true,.bool true]) rj (fun fl _ _=>fl=.ret (.bool true)):=
 Ff hxy hS hS1 (aa hF.t (aO 10 hL)) (aa hF.e (aO 2 hL)) (fun k hk=>(vi F hS1 hk).elim fun e0 h=>h.elim fun r h=>⟨e0,r,h.1,h.2.1⟩)
  (Fe ix iy hxy hS hS1 hL F hF hA hD fun n hn=>Fd ix iy hL (xQ ix iy) F hF hA hD hn fun _ _=>rfl)
theorem yZ {f:Addr} {R:FnRec} {code:Value} {body:List Stmt} {names emps:List Str} {args:List V} {ρ:Fm} {d:Nat} (hf:FnB f R code) (hbind:iH R names) (hck:fnC R names emps=true) (hb:R.body=.stmts body) (hρ:(pslots names args++emps.map fun x=>(x,.emp))=ρ) (hlen:args.length=names.length)
  {A:Around} {s:Shared} {vs:List Value} (ha:AOk (d + 1) A) (hi:Inv σ s) (hr:iF σ s.heap vs args) {RR:Result→Shared→Prop} (k:∀ env s',y4 (kE R code d) ρ σ s env s'→r7 A env body RR s'):codeAny (model C.prog C.w) A (.call (.ref f) ⟨vs,[]⟩) RR s:=by
 unfold fnC at hck
 simp only [aV,beq_iff_eq,cR,decide_eq_true_eq,a9,de] at hck
 walk_at "u"; obtain ⟨⟨⟨⟨⟨h1,h2⟩,h3⟩,h4⟩,h5⟩,h6⟩:=hck;walk_at "v"
 subst hρ
 exact o7 B.ok2 hb hbind h4 hlen (fun x hx=>(h5 x hx).imp id fun q=>⟨q,fun n=>j1 (.inl q)⟩)
  (fun x hx=>⟨fun q=>(by have:=(h6 x hx).1;rw [a8.mpr q] at this;cases this),(h6 x hx).2,fun n=>j1 (.inl (h6 x hx).2)⟩) h1 h2 h3 ha hi hr (hf.at hi) k
theorem Ac {xs:List Int} (hx:xs.length≤63) {A:Around} {s:Shared} {vs:List Value} (ha:AOk 120 A) (hfr:A.frames=some []) (hi:Inv σ s) (hr:iF σ s.heap vs [.lst (pt xs)]) {QM:Value→Shared→Prop}
  (hq:∀ σ' s',Inv σ' s'→Ext σ s.heap σ' s'.heap→QM (.bool true) s'):wpAny (model C.prog C.w) A (PySem.call (.ref yv) vs) QM Bot s:=by
 refine wpAny_call (codeAny_mono (yZ (d:=119) B.f_law EF EB yM (ρ:=Ad xs) rfl rfl ha hi hr (RR:=y6 QM Bot) fun env s' z=>?_) fun r s' h=>by
   cases r with
   | ok f=>cases f<;>exact h
   | error e=>exact h)
 have hac:AOk 119 (A.deeper env):=ha.call
 refine lD (Ax (K:=l5) (l₁:=uv 0) (l₂:=Cs++rj) hac z.rep z.inv (Cp hx) fun ρ' σ' s₂ hP hr2 hi2 e2=>?_)
 walk_at "u"; obtain ⟨LA,t,es,o,g,W,x,y,S,ix,iy,hxy,hS,hS1,hL,F,hF,hA,hW,hW2,hh⟩:=hP;walk_at "v"
 refine Ab ix iy hxy hW hW2 hac (by show A.frames.map _=_;rw [hfr];rfl) z.rep.kind z.frame (hr2.sub hh) hi2 fun D s₃ hD hr3 hi3 e3=>?_
 refine Aa ix iy hxy hS hS1 hL F hF hA hD (A.deeper env) env s₃ hac hr3 hi3 _ fun f fl ρ' σ' s₄ q rf _ hi4 e4=>?_
 subst q
 cases f with
 | ret v=>
  obtain rfl:=Rel.inv rf
  exact hq σ' s₄ hi4 (s7 z.keep z.foot ((e2.trans e3).trans e4))
 | _=>exact rf.elim
end
end Internal
section
open PySem PySem.W PyProof.Rows
namespace Internal
noncomputable section
noncomputable abbrev Fk:Nat:=24
noncomputable def qV:Program:={ PR with main:={ PR.main with body:=[stm Fk] } }
noncomputable def re:List Str:=PR.boundNames.filter (· != ("law" : Str))
noncomputable def xtV (s:Shared):Bool:=xlAt qV [] s && recOk [] s
theorem BC:opening PR=plainProg PR.main.scope.names:=by kernel_rfl
theorem Au (s:Shared):fenceModules? PR s=some s:=by kernel_rfl
theorem yJ:∀ w:World,((boot_heap w.params).isNs mainGlobals && (⟨[]⟩:Array GenState).size == 0,(boot_heap w.params).objs.size,(boot_heap w.params).nsMap mainGlobals "__annotations__")=(true,11,kY):=by intro w;kernel_rfl
theorem D8:∀ w:World,(fun os:OsState=>(staticsOk (importedModules PR.main.body) (boot_heap w.params) (iB w.params) && namesBound PR (iB w.params) && gensDone ⟨iB w.params,⟨[]⟩,{},2430,os⟩ && laidKept (boot_heap w.params) (iB w.params)))=fun _=>true:=by intro w;kernel_rfl
theorem D7:∀ w:World,(fun os:OsState=>openSeen qV re (importedModules PR.main.body) xtV true ⟨iB w.params,⟨[]⟩,{},2430,os⟩)=fun _=>openGood qV re:=by
 rw [show @openSeen=@PySem.W.Fast.tw4187177175401517315 from PySem.W.Fast.te4187177175401517315]
 intro w;kernel_rfl

theorem zZ:LeftO PR qV re xtV (fun s=>s.heap) (fun w=>iB w.params) 72017:=by
 have hM:iB=fun P=>absHeap (T_6 P) 214 {}:=rfl
 refine LeftO.of_pieces (H₀:=boot_heap) (H₁:=iB) (gs₀:=⟨[]⟩) (gs₁:=⟨[]⟩) (d₀:=boot_drawn) (d₁:={}) (k₀:=boot_toks) (k₁:=2430) (m₀:=11) (ann:=kY) (M:=72017)
  (boot_open BC rfl Au) yJ (fun w os=>yw w os) rfl (fun w=>funext fun os=>?_)
 exact Prod.ext (congrFun (D8 w) os) (Prod.ext (congrFun (D7 w) os) rfl)
theorem zq:OpenLaw.wellSaid PySem.Challenge.rw_rw0121_01=true:=by
 rw [show @OpenLaw.wellSaid=@PySem.W.Fast.tw9446332074065402090 from PySem.W.Fast.te9446332074065402090]
 kernel_rfl
set_option maxHeartbeats 4000000 in
theorem Ai (d:DefRec) (kwd:List (Str×Expr)) (hd:defOf qV PySem.Challenge.rw_rw0121_01.row.name=some (d,kwd))
  (hp:PR.theDef PySem.Challenge.rw_rw0121_01.row.name=some (d.params,d.body,d.scope)) (hk:kwWritten? d.params.kwonlyargs d.params.kw_defaults=some kwd)
  (call:WalkX qV re (XL qV []) (fun s=>s.heap) (fun w=>iB w.params) PySem.Challenge.rw_rw0121_01.row.toRowW d kwd fun f vs=>PySem.call f vs):PySem.Challenge.rw_rw0121_01.Holds:=by
 refine holds_law zq fun said=>?_
 refine holds_openX (q:=qV) (loose:=re) (Xt:=xtV) (XP:=XL qV []) (Yf:=fun s=>s.heap) (Ya:=fun w=>iB w.params) (d:=d) (kwd:=kwd) (N:=72017) zZ (fun s e=>xl_of s (dC.mp e).1) XL.keeps hd hp hk (fun s e=>recFacts_of (dC.mp e).2) (by rfl) (by assumption) (by decide +kernel) ⟨rfl,rfl,rfl,rfl,rfl,by decide +kernel⟩ ?hw call
 case hw=>w_witness2
end
end Internal
end
namespace Internal
noncomputable section
noncomputable def dkV:DefRec×List (Str×Expr):=match defOf qV PySem.Challenge.rw_rw0121_01.row.name with | some x=>x | none=>⟨⟨"", default,[],default,default⟩,[]⟩
theorem Fs:defOf qV PySem.Challenge.rw_rw0121_01.row.name=some (dkV.1,dkV.2):=by kernel_rfl
theorem Et:PR.theDef PySem.Challenge.rw_rw0121_01.row.name=some (dkV.1.params,dkV.1.body,dkV.1.scope):=by kernel_rfl
theorem Fr:kwWritten? dkV.1.params.kwonlyargs dkV.1.params.kw_defaults=some dkV.2:=by kernel_rfl
theorem CL:dkV.1.name=("law" : Str):=by kernel_rfl
theorem tw:∀ P:Params,((iB P).objs.size,((iB P).get? (vr - 1)).isSome)=(vr,true):=by intro P;kernel_rfl
theorem Bj:∀ P:Params,(pj.map fun t=>(iB P).get? t)=pj.map fun _=>some (tabObj #[]):=by intro P;kernel_rfl
theorem zf (P:Params) {t:Addr} (h:t∈pj):(iB P).get? t=some (tabObj #[]):=by
 have e:=Bj P
 rw [List.map_inj_left] at e
 exact e t h
theorem Ei:∀ P:Params,(iB P).nsMap mainGlobals "law" = some (.ref yv):=by intro P;kernel_rfl
theorem Ch {h:Heap} {a:Addr} {m m':Str→Option Value} (h1:h.Ns a m) (h2:h.Ns a m') (x:Str):m x=m' x:=by
 obtain ⟨o,es,ep,e,d,_,f⟩:=h1
 obtain ⟨o',es',ep',e',d',_,f'⟩:=h2
 (first | obtain rfl:=aq (e.symm.trans e') | exact absurd (e.symm.trans e') (al _) | exact absurd (e.symm.trans e').symm (al _) | exact (jW (e.symm.trans e') rfl).elim | (rw [e] at e';cases e'))
 (first | obtain rfl:=aq (d.symm.trans d') | exact absurd (d.symm.trans d') (al _) | exact absurd (d.symm.trans d').symm (al _) | exact (jW (d.symm.trans d') rfl).elim | (rw [d] at d';cases d'))
 rw [← f x,← f' x]
noncomputable def Do:ij:=fun _=>none
theorem F8 {s₁:Shared} (k:∀ b o,C.h1.get? b=some o→s₁.heap.get? b=some o) (hg:s₁.gens=#[]) (ho:s₁.os=C.os):Inv Do s₁ where
 base:=fun a o e _=>k a o e
 top:=by
  have e:=tw C.w.params
  obtain ⟨e1,e2⟩:=Prod.mk.inj e
  obtain ⟨o,ho⟩:=dQ.mp e2
  rw [B.h1,e1]
  exact ⟨o,ho,B.nt,by decide⟩
 own:=fun a o e=>by cases e
 tabLt:=fun n hn=>by
  rw [B.h1,(Prod.mk.inj (tw C.w.params)).1]
  have:n.table∈pj:=aA.mpr ⟨n,B.nest ▸ hn,rfl⟩
  exact (by decide:∀ t∈pj,t < vr) _ this
 tabs:=fun n hn=>by
  have:n.table∈pj:=aA.mpr ⟨n,B.nest ▸ hn,rfl⟩
  refine ⟨#[],k _ _ (B.at (zf _ this)),?_,fun d hd cv hc=>?_⟩
  ·trivial
  ·cases hc
 gens:=hg.trans B.gens.symm
 os:=ho
theorem yE {σ:ij} {h:Heap} {vs:List Value} {ns:List Int} (r:IntsAre vs ns):iF σ h vs (pt ns):=by
 induction r with
 | nil=>exact .nil
 | cons n t _ ih=>exact .cons (.int n t) ih
theorem D9:vS C:=by
 refine ⟨fun n hn=>(B.ok3.heads n hn).1,fun s a n its ns ho hg hk hobj hI hat hc=>?_⟩
 have I:=F8 hk hg ho
 have hra:Rel Do s.heap (.ref a) (.lst (pt ns)):=by
  refine .lst (items:=its) hobj rfl (fun hm=>?_) (yE hI)
  have h1:=(by decide:∀ t∈pj,t < vr) a (by rw [← B.tabs];exact hm)
  exact absurd h1 (b7.mpr hat)
 rw [← B.prog]
 refine Ac (xs:=ns) (by omega) ⟨rfl,by decide,by decide⟩ rfl I (.cons hra .nil) fun σ' s' i' e'=>?_
 refine ⟨rfl,i'.os,i'.gens.trans B.gens,fun b o hb ht=>e'.keep b o hb rfl ht,fun n hn=>?_⟩
 obtain ⟨ps,hps,_⟩:=i'.tabs n hn
 exact ⟨ps,hps⟩
set_option tactic.hygienic true in
theorem claim_proved:PySem.Challenge.rw_rw0121_01.Holds:=by
 refine Ai dkV.1 dkV.2 Fs Et Fr ?_
 intro w s₀ s₁ mg mb G Y fa o pm cd doc dV kV ho hd hcd hD hmg hg args vals as hL hpre hlay hrd hwl hlo
 rw [CL] at hmg
 have Y:s₀.heap=iB w.params:=Y
 refine bc fun hbc=>?_
 wrow_args hpre hlay hrd hwl hlo
 rename_i ns hs hlay0 hLb hrb hl2 as4 as3 a its as0 hIs ra w1 r0 hI hr hc63 hcT
 refine hbc ?_
 clear hbc
 have k:∀ b o,(iB w.params).get? b=some o→s₁.heap.get? b=some o:=fun b o e=>hL.keeps b o (by rw [Y];exact e)
 have hfa:fa=yv:=by
  have h1:s₁.heap.Ns mainGlobals ((iB w.params).nsMap mainGlobals):=(by obtain ⟨o,es,ep,ho,q⟩:=Heap.Ns.of_isNs (Prod.mk.inj (Dn w.params)).1;exact ⟨o,es,ep,k _ _ ho,q⟩)
  have h2:=Ch G.T.g h1 "law"
  rw [hmg,Ei] at h2
  injection h2 with h2
  injection h2
 have hobj:=X.script_obj hL hIs
 have hat:=(X.script_at hL).1
 obtain ⟨hH,W⟩:=Cq D9 (c:=yi w s₁.os) ⟨rfl,rfl,rfl,rfl,rfl,rfl⟩
 rw [hfa]
 refine wpAny_mono (W s₁ a _ its ns rfl hg k hobj hI (by rw [hat,Y,(Prod.mk.inj (tw w.params)).1];exact av _) (by omega)) ?_ fun _ _ x=>x.elim
 rintro v s' ⟨rfl,hos,hge,hkeep,htab⟩
 refine ⟨.inl ⟨.bool true,.bool true,[],rfl,fun cls=>?_,.bool true,?_,fun _=>⟨.nil,fun a h=>by cases h⟩⟩,?_,hos,?_⟩
 ·rfl
 ·wrow_post
 ·refine ⟨fun b o hb=>?_,fun b o hb=>?_⟩
  ·by_cases ht:b∈(yi w s₁.os).tabs
   ·obtain ⟨n,hn,rfl⟩:=aA.mp ht
    have hT:n.table∈pj:=aA.mpr ⟨n,hn,rfl⟩
    obtain ⟨ps,hps⟩:=htab n hn
    have h0:=k _ _ (zf w.params hT)
    rw [hb] at h0
    cases h0
    obtain ⟨oc,vs,_,_,_,_,_,_,_,c1,c2,c3,c4,_⟩:=hH n hn
    refine .inr (.inl ⟨⟨n.code,oc,vs,k _ _ c1,c2,c3,c4⟩,rfl,#[],ps,rfl,?_⟩)
    rw [hps];simp
   ·exact .inl (hkeep b o hb ht)
  ·by_cases ht:b∈(yi w s₁.os).tabs
   ·obtain ⟨n,hn,rfl⟩:=aA.mp ht
    obtain ⟨ps,hps⟩:=htab n hn
    exact ⟨_,hps⟩
   ·exact ⟨o,hkeep b o hb ht⟩
 ·exact .of_eq hge
end

end Internal
end
theorem PySem.Challenge.cw_rw0121_01_holds : PySem.Challenge.rw_rw0121_01.Holds := by
 exact Internal.claim_proved
